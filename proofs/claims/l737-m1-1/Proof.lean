import JvmDerived
import JvmDerived.Pilot.@@N@@Statement
import JvmDerived.Pilot.@@N@@Code
set_option linter.unusedVariables false
set_option linter.unusedSimpArgs false
namespace Jvm.RoadKit
open Sem ClassFile Op Lib Jvm.Stand Jvm.Free Jvm.LawKit
section New
variable {p : Program} {l : Launch} {e : Env} {R : Room} {s : State} {m : MethodId} {args : Array Value} {below : List Frame} {meth : Method} {c : Code} {T : State} {locs : List Loc} {cells slots : Nat}
theorem retI (X : Stand p l e R s m args below meth c T locs cells slots) (hx : p.tables.exec = Jvm.exec) {pc : Nat} {Ls : Array Slot} {z : Int32} {rest : List Value} (hret : meth.sig.returnType = some .int) (hd : decode c.code pc = .ok (.ireturn, 1)) {fs : List Frame}
    (hl : ∀ (f : JFrame) (acts : List Action), f.method = m → f.locked = none → f.entered = [] → (doReturn e (T.setTop f) acts (some (.int z))).1 = T.setFrames fs) : Steps p.tables e below (T.setTop (mkF m pc Ls (.int z :: rest))) (T.setFrames fs) := by
  have hm' : T.vm.method? m = some meth := X.method'
  have hn : narrow .int (.int z) = .int z := rfl
  show Steps p.tables e below (T.setTop { method := m, pc := pc, locals := Ls, stack := _ :: rest, locked := none }) _
  jvm_step X.here [X.here.top, hx, hd, hm', hret, hn]
  first | (intro acts; rw [hl _ acts rfl rfl rfl]) | rw [hl _ _ rfl rfl rfl]
  exact Steps.refl _
end New
end Jvm.RoadKit
namespace Jvm.Pilot.@@N@@
open Jvm Jvm.ClassFile Sem Op Lib Jvm.Free Jvm.Stand Jvm.LawKit Jvm.RoadKit Bundle Jvm.Pilot.@@N@@.Jvm.D

theorem own_exa {args a0 : Array Value} {s : State} {C n d K : String} (wi : (Jvm.Cond.initialized C).before args s = true) (wl : (Jvm.Cond.laysStatic C n d).before args s = true) (h : (Jvm.Cond.exactly (Jvm.Term.static C n d) K).value args s none s [] = some true) : ∃ a, Sta s s.heap C n d (.ref a) ∧ Exa s s.heap a K ∧ (Jvm.Term.static C n d).eval args s none [] s = some (.ref a) := by
  obtain ⟨a, ev⟩ := exa_v h
  exact ⟨a, Sta.start ev (Or.inr ⟨wi, wl⟩), Exa.start ev h, ev⟩
theorem own_fldI {args : Array Value} {s : State} {a : Addr} {t : Jvm.Term} {C n d : String} {k : Int32} (ev : t.eval args s none [] s = some (.ref a)) (h : (Jvm.Cond.eq (Jvm.Term.field t C n d) (Jvm.Term.int k)).value args s none s [] = some true) : Fld s s.heap a C n d (.int k) := by
  obtain ⟨x, y, ex, ey, -, ky⟩ := cmp_v (Or.inl h)
  obtain rfl : Value.int k = y := Option.some.inj ey
  obtain ⟨z, rfl⟩ := ky
  have hz : z = k := by simpa [Cond.value, ex, ey] using h
  subst hz
  exact Fld.start ((fld_at ev).symm.trans ex)

def own_pick (m i : Int32) (v : Int64) : Int64 := if (((m.toUInt32 >>> (i &&& 31).toUInt32).toInt32) &&& (1 : Int32)) = (0 : Int32) then (0 : Int64) else v
def own_sum (a b c d e f g h : Int64) : Int64 := (((((((((0 : Int64) ||| a) ||| b) ||| c) ||| d) ||| e) ||| f) ||| g) ||| h)
def own_z (a b c d e f g h : Int64) : Int32 := if own_sum a b c d e f g h = (0 : Int64) then 1 else 0
theorem own_or0 {a b : Int64} (h : (a ||| b) = (0 : Int64)) : a = 0 ∧ b = 0 := by
  have h' : a.toBitVec ||| b.toBitVec = 0#64 := by rw [← Int64.toBitVec_or, h]; rfl
  obtain ⟨h1, h2⟩ := BitVec.or_eq_zero_iff.mp h'
  exact ⟨Int64.toBitVec_inj.mp h1, Int64.toBitVec_inj.mp h2⟩
theorem own_z_yes {a b c d e f g h : Int64} (h0 : a = 0) (h1 : b = 0) (h2 : c = 0) (h3 : d = 0) (h4 : e = 0) (h5 : f = 0) (h6 : g = 0) (h7 : h = 0) : own_z a b c d e f g h = (1 : Int32) := by
  subst h0 h1 h2 h3 h4 h5 h6 h7; rfl
theorem own_z_all {a b c d e f g h : Int64} (q : own_sum a b c d e f g h = 0) : a = 0 ∧ b = 0 ∧ c = 0 ∧ d = 0 ∧ e = 0 ∧ f = 0 ∧ g = 0 ∧ h = 0 := by
  obtain ⟨q, h7⟩ := own_or0 q
  obtain ⟨q, h6⟩ := own_or0 q
  obtain ⟨q, h5⟩ := own_or0 q
  obtain ⟨q, h4⟩ := own_or0 q
  obtain ⟨q, h3⟩ := own_or0 q
  obtain ⟨q, h2⟩ := own_or0 q
  obtain ⟨q, h1⟩ := own_or0 q
  obtain ⟨q, h0⟩ := own_or0 q
  exact ⟨h0, h1, h2, h3, h4, h5, h6, h7⟩
theorem own_z_no {a b c d e f g h : Int64} (n : ¬ (a = 0 ∧ b = 0 ∧ c = 0 ∧ d = 0 ∧ e = 0 ∧ f = 0 ∧ g = 0 ∧ h = 0)) : own_z a b c d e f g h = (0 : Int32) := if_neg fun q => n (own_z_all q)
theorem d1_0 : decode method_2_code 0 = .ok (.iload_n 0, 1) := by decide +kernel
theorem d1_1 : decode method_2_code 1 = .ok (.iload_n 1, 1) := by decide +kernel
theorem d1_2 : decode method_2_code 2 = .ok (.iushr, 1) := by decide +kernel
theorem d1_3 : decode method_2_code 3 = .ok (.iconst 1, 1) := by decide +kernel
theorem d1_4 : decode method_2_code 4 = .ok (.iand, 1) := by decide +kernel
theorem d1_5 : decode method_2_code 5 = .ok (.ifCond .eq 7, 3) := by decide +kernel
theorem d1_12 : decode method_2_code 12 = .ok (.lconst 0, 1) := by decide +kernel
theorem d1_13 : decode method_2_code 13 = .ok (.lreturn, 1) := by decide +kernel
theorem d1_8 : decode method_2_code 8 = .ok (.lload_n 2, 1) := by decide +kernel
theorem d1_9 : decode method_2_code 9 = .ok (.goto 4, 3) := by decide +kernel
theorem ef_rm1 (m : MethodId) (x0 : Int32) (x1 : Int32) (x2 : Int64) : entryFrame m #[(.int x0), (.int x1), (.long x2)] 4 = mkF m 0 #[.val (.int x0), .val (.int x1), .val (.long x2), .second] [] := by first | (simp [entryFrame, mkF, argsToLocals, Value.category]; done) | rfl
theorem pn_0 : plainName "com/example/serialroute/serialroute/core/P256FieldIsZeroPinLaw" = true := by first | (simp [plainName, overriddenIn]; done) | decide +kernel
def Q1 (Z : State) (p0 : Int32) (p1 : Int32) (q2 : Int64) (h0 : Heap) (n0 : Nat) (v : Option Value) (h : Heap) (L : List Loc) : Prop := v = some (.long (own_pick p0 p1 q2)) ∧ Fr n0 L ∧ h = h0
set_option maxRecDepth 65536 in
set_option maxHeartbeats 40000000 in
theorem rm1 (l : Launch) (Z : State) (aw : Array Value) (hw : ∀ d ∈ tables_1, d.before aw Z = true) (ws : List Jvm.Cond) (p0 : Int32) (p1 : Int32) (q2 : Int64) (h0 : Heap) (n0 : Nat) (Z0 : n0 ≤ h0.size) :
    MetFree l (⟨"com/example/serialroute/serialroute/core/P256FieldIsZeroPinLaw", "pick", "(IIJ)J"⟩ : MethodName) (head1 (Jvm.Cond.code (⟨"com/example/serialroute/serialroute/core/P256FieldIsZeroPinLaw", "pick", "(IIJ)J"⟩ : MethodName) method_2_code 4 (some .long) :: ws) ({ frames := 0, cells := 0, slots := 0, locals := 0 } : Room)) (fun a U => a = #[(.int p0), (.int p1), (.long q2)] ∧ Z.Warmed39 U.vm ∧ U.heap = h0) (fun _ _ _ _ _ => True) (fun _ U oc U' => ∃ v L, oc = .returned v ∧ Q1 Z p0 p1 q2 h0 n0 v U'.heap L ∧ FrameEnd U oc U' L ({ frames := 0, cells := 0, slots := 0, locals := 0 } : Room).cells ({ frames := 0, cells := 0, slots := 0, locals := 0 } : Room).slots) := by
  refine MetFree.of_bodySF (plainFor_of_name pn_0) hisR ?_
  intro p e s m args below meth c s₁ Bd hml0 hP hK
  obtain ⟨rfl, hZ, hh⟩ := hP
  have hx := Bd.exec
  have hby := Bd.bytes
  have hml : c.maxLocals = 4 := hml0
  have hown : s.vm.findClass "com/example/serialroute/serialroute/core/P256FieldIsZeroPinLaw" = some m.cls := findClass_of_methodNamed Bd.named
  have hnm := (name_of_methodNamed Bd.named Bd.method).1
  have X0 : Stand p l e ({ frames := 0, cells := 0, slots := 0, locals := 0 } : Room) s m #[(.int p0), (.int p1), (.long q2)] below meth c s₁ [] 0 0 := Stand.of_body Bd
  have e0 : s₁.heap = h0 := by rw [← hh, Bd.state]; rfl
  have N0 := Fr.nil n0
  have pre0 : ∀ t, Steps p.tables e below (s₁.setTop (mkF m 0 #[.val (.int p0), .val (.int p1), .val (.long q2), .second] [])) t → Steps p.tables e below (s₁.setTop (entryFrame m #[(.int p0), (.int p1), (.long q2)] 4)) t := fun t k => castTop (ef_rm1 m p0 p1 q2) k
  have pre101 : ∀ t, Steps p.tables e below (s₁.setTop (mkF m 5 #[.val (.int p0), .val (.int p1), .val (.long q2), .second] [(.int (((p0.toUInt32 >>> (p1 &&& 31).toUInt32).toInt32) &&& (1 : Int32)))])) t → Steps p.tables e below (s₁.setTop (entryFrame m #[(.int p0), (.int p1), (.long q2)] 4)) t := fun t k => by
    refine pre0 t ?_
    show Steps p.tables e below (s₁.setTop (mkF m 0 #[.val (.int p0), .val (.int p1), .val (.long q2), .second] [])) _
    refine XS.iloadN X0.here hx rfl (hb hby d1_0) rfl ?_
    show Steps p.tables e below (s₁.setTop (mkF m 1 #[.val (.int p0), .val (.int p1), .val (.long q2), .second] [(.int p0)])) _
    refine XS.iloadN X0.here hx rfl (hb hby d1_1) rfl ?_
    show Steps p.tables e below (s₁.setTop (mkF m 2 #[.val (.int p0), .val (.int p1), .val (.long q2), .second] [(.int p1), (.int p0)])) _
    refine XS.iushr X0.here hx rfl (hb hby d1_2) rfl ?_
    show Steps p.tables e below (s₁.setTop (mkF m 3 #[.val (.int p0), .val (.int p1), .val (.long q2), .second] [(.int ((p0.toUInt32 >>> (p1 &&& 31).toUInt32).toInt32))])) _
    refine XS.iconst X0.here hx rfl (hb hby d1_3) ?_
    show Steps p.tables e below (s₁.setTop (mkF m 4 #[.val (.int p0), .val (.int p1), .val (.long q2), .second] [(.int (1 : Int32)), (.int ((p0.toUInt32 >>> (p1 &&& 31).toUInt32).toInt32))])) _
    refine XS.iand X0.here hx rfl (hb hby d1_4) rfl ?_
    exact k
  by_cases hc102 : (((p0.toUInt32 >>> (p1 &&& 31).toUInt32).toInt32) &&& (1 : Int32)) = (0 : Int32)
  · obtain ⟨fs, hr, hrun, hended, hW, hsame⟩ := X0.leave (v := some (.long (0 : Int64))) (fun h => by rw [Bd.returns] at h; cases h)
    refine ⟨_, _, pre101 _ ?_, hrun, hended, _, _, rfl, ?_, ⟨_, rfl⟩, hW, hsame.mono (by decide) (by decide)⟩
    · show Steps p.tables e below (s₁.setTop (mkF m 5 #[.val (.int p0), .val (.int p1), .val (.long q2), .second] [(.int (((p0.toUInt32 >>> (p1 &&& 31).toUInt32).toInt32) &&& (1 : Int32)))])) _
      refine XS.ifYes X0.here hx rfl (pc0 := 5) (pc' := 12) rfl (hb hby d1_5) rfl ((if0 _ _).trans (teq hc102).1) (by decide) (by decide) ?_
      show Steps p.tables e below (s₁.setTop (mkF m 12 #[.val (.int p0), .val (.int p1), .val (.long q2), .second] [])) _
      refine XS.lconst X0.here hx rfl (hb hby d1_12) ?_
      show Steps p.tables e below (s₁.setTop (mkF m 13 #[.val (.int p0), .val (.int p1), .val (.long q2), .second] [(.long (0 : Int64))])) _
      jvm_step X0.here [X0.here.top, hx, (hb hby d1_13), X0.method', Bd.returns, narrow]
      first | (intro acts; rw [hr _ acts rfl rfl rfl]) | rw [hr _ _ rfl rfl rfl]
      exact Steps.refl _
    · show Q1 Z p0 p1 q2 h0 n0 _ s₁.heap _
      rw [e0]
      exact ⟨by rw [own_pick, if_pos hc102], N0, rfl⟩
  · obtain ⟨fs, hr, hrun, hended, hW, hsame⟩ := X0.leave (v := some (.long q2)) (fun h => by rw [Bd.returns] at h; cases h)
    refine ⟨_, _, pre101 _ ?_, hrun, hended, _, _, rfl, ?_, ⟨_, rfl⟩, hW, hsame.mono (by decide) (by decide)⟩
    · show Steps p.tables e below (s₁.setTop (mkF m 5 #[.val (.int p0), .val (.int p1), .val (.long q2), .second] [(.int (((p0.toUInt32 >>> (p1 &&& 31).toUInt32).toInt32) &&& (1 : Int32)))])) _
      refine XS.ifNo X0.here hx rfl (hb hby d1_5) rfl ((if0 _ _).trans (feq hc102).1) ?_
      show Steps p.tables e below (s₁.setTop (mkF m 8 #[.val (.int p0), .val (.int p1), .val (.long q2), .second] [])) _
      refine XS.lloadN X0.here hx rfl (hb hby d1_8) rfl ?_
      show Steps p.tables e below (s₁.setTop (mkF m 9 #[.val (.int p0), .val (.int p1), .val (.long q2), .second] [(.long q2)])) _
      refine XS.goto X0.here hx rfl (pc0 := 9) (pc' := 13) rfl (hb hby d1_9) (by decide) (by decide) ?_
      show Steps p.tables e below (s₁.setTop (mkF m 13 #[.val (.int p0), .val (.int p1), .val (.long q2), .second] [(.long q2)])) _
      jvm_step X0.here [X0.here.top, hx, (hb hby d1_13), X0.method', Bd.returns, narrow]
      first | (intro acts; rw [hr _ acts rfl rfl rfl]) | rw [hr _ _ rfl rfl rfl]
      exact Steps.refl _
    · show Q1 Z p0 p1 q2 h0 n0 _ s₁.heap _
      rw [e0]
      exact ⟨by rw [own_pick, if_neg hc102], N0, rfl⟩
theorem d2_0 : decode prog_29_method_4_code 0 = .ok (.lconst 0, 1) := by decide +kernel
theorem d2_1 : decode prog_29_method_4_code 1 = .ok (.lstore_n 1, 1) := by decide +kernel
theorem d2_2 : decode prog_29_method_4_code 2 = .ok (.aload_n 0, 1) := by decide +kernel
theorem d2_3 : decode prog_29_method_4_code 3 = .ok (.astore_n 3, 1) := by decide +kernel
theorem d2_4 : decode prog_29_method_4_code 4 = .ok (.aload_n 3, 1) := by decide +kernel
theorem d2_5 : decode prog_29_method_4_code 5 = .ok (.arraylength, 1) := by decide +kernel
theorem d2_6 : decode prog_29_method_4_code 6 = .ok (.istore 4, 2) := by decide +kernel
theorem d2_8 : decode prog_29_method_4_code 8 = .ok (.iconst 0, 1) := by decide +kernel
theorem d2_9 : decode prog_29_method_4_code 9 = .ok (.istore 5, 2) := by decide +kernel
theorem d2_11 : decode prog_29_method_4_code 11 = .ok (.iload 5, 2) := by decide +kernel
theorem d2_13 : decode prog_29_method_4_code 13 = .ok (.iload 4, 2) := by decide +kernel
theorem d2_15 : decode prog_29_method_4_code 15 = .ok (.if_icmp .ge 20, 3) := by decide +kernel
theorem d2_18 : decode prog_29_method_4_code 18 = .ok (.aload_n 3, 1) := by decide +kernel
theorem d2_19 : decode prog_29_method_4_code 19 = .ok (.iload 5, 2) := by decide +kernel
theorem d2_21 : decode prog_29_method_4_code 21 = .ok (.laload, 1) := by decide +kernel
theorem d2_22 : decode prog_29_method_4_code 22 = .ok (.lstore 6, 2) := by decide +kernel
theorem d2_24 : decode prog_29_method_4_code 24 = .ok (.lload_n 1, 1) := by decide +kernel
theorem d2_25 : decode prog_29_method_4_code 25 = .ok (.lload 6, 2) := by decide +kernel
theorem d2_27 : decode prog_29_method_4_code 27 = .ok (.lor, 1) := by decide +kernel
theorem d2_28 : decode prog_29_method_4_code 28 = .ok (.lstore_n 1, 1) := by decide +kernel
theorem d2_29 : decode prog_29_method_4_code 29 = .ok (.iinc 5 1, 3) := by decide +kernel
theorem d2_32 : decode prog_29_method_4_code 32 = .ok (.goto (-21), 3) := by decide +kernel
theorem d2_35 : decode prog_29_method_4_code 35 = .ok (.lload_n 1, 1) := by decide +kernel
theorem d2_36 : decode prog_29_method_4_code 36 = .ok (.lconst 0, 1) := by decide +kernel
theorem d2_37 : decode prog_29_method_4_code 37 = .ok (.lcmp, 1) := by decide +kernel
theorem d2_38 : decode prog_29_method_4_code 38 = .ok (.ifCond .ne 7, 3) := by decide +kernel
theorem d2_41 : decode prog_29_method_4_code 41 = .ok (.iconst 1, 1) := by decide +kernel
theorem d2_42 : decode prog_29_method_4_code 42 = .ok (.goto 4, 3) := by decide +kernel
theorem d2_46 : decode prog_29_method_4_code 46 = .ok (.ireturn, 1) := by decide +kernel
theorem d2_45 : decode prog_29_method_4_code 45 = .ok (.iconst 0, 1) := by decide +kernel
theorem ef_rm2 (m : MethodId) (x0 : Addr) : entryFrame m #[(.ref x0)] 8 = mkF m 0 #[.val (.ref x0), .unset, .unset, .unset, .unset, .unset, .unset, .unset] [] := by first | (simp [entryFrame, mkF, argsToLocals, Value.category]; done) | rfl
theorem pn_1 : plainName "com/example/serialroute/serialroute/core/P256Field" = true := by first | (simp [plainName, overriddenIn]; done) | decide +kernel
def Q2 (Z : State) (a0 : Addr) (kk : ClassId) (j0 : Int64) (j1 : Int64) (j2 : Int64) (j3 : Int64) (j4 : Int64) (j5 : Int64) (j6 : Int64) (j7 : Int64) (h0 : Heap) (n0 : Nat) (v : Option Value) (h : Heap) (L : List Loc) : Prop := v = some (.int (own_z j0 j1 j2 j3 j4 j5 j6 j7)) ∧ Fr n0 L ∧ h = h0
set_option maxRecDepth 65536 in
set_option maxHeartbeats 40000000 in
theorem rm2 (l : Launch) (Z : State) (aw : Array Value) (hw : ∀ d ∈ tables_1, d.before aw Z = true) (ws : List Jvm.Cond) (a0 : Addr) (kk : ClassId) (j0 : Int64) (j1 : Int64) (j2 : Int64) (j3 : Int64) (j4 : Int64) (j5 : Int64) (j6 : Int64) (j7 : Int64) (h0 : Heap) (n0 : Nat) (Z0 : n0 ≤ h0.size) (V0 : Arv Z h0 a0 kk .long (8 : Int32) [(.long j0), (.long j1), (.long j2), (.long j3), (.long j4), (.long j5), (.long j6), (.long j7)] (.long (0 : Int64))) :
    MetFree l (⟨"com/example/serialroute/serialroute/core/P256Field", "isZero", "([J)Z"⟩ : MethodName) (head1 (Jvm.Cond.code (⟨"com/example/serialroute/serialroute/core/P256Field", "isZero", "([J)Z"⟩ : MethodName) prog_29_method_4_code 8 (some .boolean) :: ws) ({ frames := 0, cells := 0, slots := 0, locals := 0 } : Room)) (fun a U => a = #[(.ref a0)] ∧ Z.Warmed39 U.vm ∧ U.heap = h0) (fun _ _ _ _ _ => True) (fun _ U oc U' => ∃ v L, oc = .returned v ∧ Q2 Z a0 kk j0 j1 j2 j3 j4 j5 j6 j7 h0 n0 v U'.heap L ∧ FrameEnd U oc U' L ({ frames := 0, cells := 0, slots := 0, locals := 0 } : Room).cells ({ frames := 0, cells := 0, slots := 0, locals := 0 } : Room).slots) := by
  refine MetFree.of_bodySF (plainFor_of_name pn_1) hisR ?_
  intro p e s m args below meth c s₁ Bd hml0 hP hK
  obtain ⟨rfl, hZ, hh⟩ := hP
  have hx := Bd.exec
  have hby := Bd.bytes
  have hml : c.maxLocals = 8 := hml0
  have hown : s.vm.findClass "com/example/serialroute/serialroute/core/P256Field" = some m.cls := findClass_of_methodNamed Bd.named
  have hnm := (name_of_methodNamed Bd.named Bd.method).1
  have X0 : Stand p l e ({ frames := 0, cells := 0, slots := 0, locals := 0 } : Room) s m #[(.ref a0)] below meth c s₁ [] 0 0 := Stand.of_body Bd
  have e0 : s₁.heap = h0 := by rw [← hh, Bd.state]; rfl
  have N0 := Fr.nil n0
  have pre0 : ∀ t, Steps p.tables e below (s₁.setTop (mkF m 0 #[.val (.ref a0), .unset, .unset, .unset, .unset, .unset, .unset, .unset] [])) t → Steps p.tables e below (s₁.setTop (entryFrame m #[(.ref a0)] 8)) t := fun t k => castTop (ef_rm2 m a0) k
  obtain ⟨cl101, Ar101, q101, S101, M101, H101, G101⟩ := id V0
  obtain ⟨cl102, Ar102, q102, S102, M102, H102, G102⟩ := id V0
  obtain ⟨cl103, Ar103, q103, S103, M103, H103, G103⟩ := id V0
  obtain ⟨cl104, Ar104, q104, S104, M104, H104, G104⟩ := id V0
  obtain ⟨cl105, Ar105, q105, S105, M105, H105, G105⟩ := id V0
  obtain ⟨cl106, Ar106, q106, S106, M106, H106, G106⟩ := id V0
  obtain ⟨cl107, Ar107, q107, S107, M107, H107, G107⟩ := id V0
  obtain ⟨cl108, Ar108, q108, S108, M108, H108, G108⟩ := id V0
  obtain ⟨cl109, Ar109, q109, S109, M109, H109, G109⟩ := id V0
  have pre110 : ∀ t, Steps p.tables e below (s₁.setTop (mkF m 38 #[.val (.ref a0), .val (.long (own_sum j0 j1 j2 j3 j4 j5 j6 j7)), .second, .val (.ref a0), .val (.int (8 : Int32)), .val (.int (8 : Int32)), .val (.long j7), .second] [(.int (lcmpW (own_sum j0 j1 j2 j3 j4 j5 j6 j7) (0 : Int64)))])) t → Steps p.tables e below (s₁.setTop (entryFrame m #[(.ref a0)] 8)) t := fun t k => by
    refine pre0 t ?_
    show Steps p.tables e below (s₁.setTop (mkF m 0 #[.val (.ref a0), .unset, .unset, .unset, .unset, .unset, .unset, .unset] [])) _
    refine XS.lconst X0.here hx rfl (hb hby d2_0) ?_
    show Steps p.tables e below (s₁.setTop (mkF m 1 #[.val (.ref a0), .unset, .unset, .unset, .unset, .unset, .unset, .unset] [(.long (0 : Int64))])) _
    refine XS.lstoreN X0.here hx rfl (hb hby d2_1) rfl (l' := #[.val (.ref a0), .val (.long (0 : Int64)), .second, .unset, .unset, .unset, .unset, .unset]) rfl ?_
    show Steps p.tables e below (s₁.setTop (mkF m 2 #[.val (.ref a0), .val (.long (0 : Int64)), .second, .unset, .unset, .unset, .unset, .unset] [])) _
    refine XS.aloadN X0.here hx rfl (hb hby d2_2) rfl rfl ?_
    show Steps p.tables e below (s₁.setTop (mkF m 3 #[.val (.ref a0), .val (.long (0 : Int64)), .second, .unset, .unset, .unset, .unset, .unset] [(.ref a0)])) _
    refine XS.astoreN X0.here hx rfl (hb hby d2_3) rfl rfl (l' := #[.val (.ref a0), .val (.long (0 : Int64)), .second, .val (.ref a0), .unset, .unset, .unset, .unset]) rfl ?_
    show Steps p.tables e below (s₁.setTop (mkF m 4 #[.val (.ref a0), .val (.long (0 : Int64)), .second, .val (.ref a0), .unset, .unset, .unset, .unset] [])) _
    refine XS.aloadN X0.here hx rfl (hb hby d2_4) rfl rfl ?_
    show Steps p.tables e below (s₁.setTop (mkF m 5 #[.val (.ref a0), .val (.long (0 : Int64)), .second, .val (.ref a0), .unset, .unset, .unset, .unset] [(.ref a0)])) _
    refine X0.arraylength hx (by rw [e0]; exact Ar101.1) (State.isArrayOf_alike hZ.alike Ar101.2.1) (g := (mkF m 5 #[.val (.ref a0), .val (.long (0 : Int64)), .second, .val (.ref a0), .unset, .unset, .unset, .unset] [(.ref a0)])) rfl rfl (hb hby d2_5) _ ?_
    rw [len_of S101 M101]
    show Steps p.tables e below (s₁.setTop (mkF m 6 #[.val (.ref a0), .val (.long (0 : Int64)), .second, .val (.ref a0), .unset, .unset, .unset, .unset] [(.int (8 : Int32))])) _
    refine XS.istore X0.here hx rfl (hb hby d2_6) rfl (l' := #[.val (.ref a0), .val (.long (0 : Int64)), .second, .val (.ref a0), .val (.int (8 : Int32)), .unset, .unset, .unset]) rfl ?_
    show Steps p.tables e below (s₁.setTop (mkF m 8 #[.val (.ref a0), .val (.long (0 : Int64)), .second, .val (.ref a0), .val (.int (8 : Int32)), .unset, .unset, .unset] [])) _
    refine XS.iconst X0.here hx rfl (hb hby d2_8) ?_
    show Steps p.tables e below (s₁.setTop (mkF m 9 #[.val (.ref a0), .val (.long (0 : Int64)), .second, .val (.ref a0), .val (.int (8 : Int32)), .unset, .unset, .unset] [(.int (0 : Int32))])) _
    refine XS.istore X0.here hx rfl (hb hby d2_9) rfl (l' := #[.val (.ref a0), .val (.long (0 : Int64)), .second, .val (.ref a0), .val (.int (8 : Int32)), .val (.int (0 : Int32)), .unset, .unset]) rfl ?_
    show Steps p.tables e below (s₁.setTop (mkF m 11 #[.val (.ref a0), .val (.long (0 : Int64)), .second, .val (.ref a0), .val (.int (8 : Int32)), .val (.int (0 : Int32)), .unset, .unset] [])) _
    refine XS.iload X0.here hx rfl (hb hby d2_11) rfl ?_
    show Steps p.tables e below (s₁.setTop (mkF m 13 #[.val (.ref a0), .val (.long (0 : Int64)), .second, .val (.ref a0), .val (.int (8 : Int32)), .val (.int (0 : Int32)), .unset, .unset] [(.int (0 : Int32))])) _
    refine XS.iload X0.here hx rfl (hb hby d2_13) rfl ?_
    show Steps p.tables e below (s₁.setTop (mkF m 15 #[.val (.ref a0), .val (.long (0 : Int64)), .second, .val (.ref a0), .val (.int (8 : Int32)), .val (.int (0 : Int32)), .unset, .unset] [(.int (8 : Int32)), (.int (0 : Int32))])) _
    refine XS.icmpNo X0.here hx rfl (hb hby d2_15) rfl (tlt (by decide : (0 : Int32) < (8 : Int32))).2.1 ?_
    show Steps p.tables e below (s₁.setTop (mkF m 18 #[.val (.ref a0), .val (.long (0 : Int64)), .second, .val (.ref a0), .val (.int (8 : Int32)), .val (.int (0 : Int32)), .unset, .unset] [])) _
    refine XS.aloadN X0.here hx rfl (hb hby d2_18) rfl rfl ?_
    show Steps p.tables e below (s₁.setTop (mkF m 19 #[.val (.ref a0), .val (.long (0 : Int64)), .second, .val (.ref a0), .val (.int (8 : Int32)), .val (.int (0 : Int32)), .unset, .unset] [(.ref a0)])) _
    refine XS.iload X0.here hx rfl (hb hby d2_19) rfl ?_
    show Steps p.tables e below (s₁.setTop (mkF m 21 #[.val (.ref a0), .val (.long (0 : Int64)), .second, .val (.ref a0), .val (.int (8 : Int32)), .val (.int (0 : Int32)), .unset, .unset] [(.int (0 : Int32)), (.ref a0)])) _
    have hin102 : ¬ ((0 : Int32) < 0 ∨ cl102.slots.size ≤ ((0 : Int32)).toNatClampNeg) := (inb_of S102 ⟨by decide, by decide⟩)
    refine X0.laload hx (j := (0 : Int32)) (v := (.long j0)) (by rw [e0]; exact Ar102.1) (State.isArrayOf_alike hZ.alike Ar102.2.1) Ar102.2.2 hin102 (H102.at hin102 rfl) (g := (mkF m 21 #[.val (.ref a0), .val (.long (0 : Int64)), .second, .val (.ref a0), .val (.int (8 : Int32)), .val (.int (0 : Int32)), .unset, .unset] [(.int (0 : Int32)), (.ref a0)])) rfl rfl (hb hby d2_21) _ ?_
    show Steps p.tables e below (s₁.setTop (mkF m 22 #[.val (.ref a0), .val (.long (0 : Int64)), .second, .val (.ref a0), .val (.int (8 : Int32)), .val (.int (0 : Int32)), .unset, .unset] [(.long j0)])) _
    refine XS.lstore X0.here hx rfl (hb hby d2_22) rfl (l' := #[.val (.ref a0), .val (.long (0 : Int64)), .second, .val (.ref a0), .val (.int (8 : Int32)), .val (.int (0 : Int32)), .val (.long j0), .second]) rfl ?_
    show Steps p.tables e below (s₁.setTop (mkF m 24 #[.val (.ref a0), .val (.long (0 : Int64)), .second, .val (.ref a0), .val (.int (8 : Int32)), .val (.int (0 : Int32)), .val (.long j0), .second] [])) _
    refine XS.lloadN X0.here hx rfl (hb hby d2_24) rfl ?_
    show Steps p.tables e below (s₁.setTop (mkF m 25 #[.val (.ref a0), .val (.long (0 : Int64)), .second, .val (.ref a0), .val (.int (8 : Int32)), .val (.int (0 : Int32)), .val (.long j0), .second] [(.long (0 : Int64))])) _
    refine XS.lload X0.here hx rfl (hb hby d2_25) rfl ?_
    show Steps p.tables e below (s₁.setTop (mkF m 27 #[.val (.ref a0), .val (.long (0 : Int64)), .second, .val (.ref a0), .val (.int (8 : Int32)), .val (.int (0 : Int32)), .val (.long j0), .second] [(.long j0), (.long (0 : Int64))])) _
    refine XS.lor X0.here hx rfl (hb hby d2_27) rfl ?_
    show Steps p.tables e below (s₁.setTop (mkF m 28 #[.val (.ref a0), .val (.long (0 : Int64)), .second, .val (.ref a0), .val (.int (8 : Int32)), .val (.int (0 : Int32)), .val (.long j0), .second] [(.long ((0 : Int64) ||| j0))])) _
    refine XS.lstoreN X0.here hx rfl (hb hby d2_28) rfl (l' := #[.val (.ref a0), .val (.long ((0 : Int64) ||| j0)), .second, .val (.ref a0), .val (.int (8 : Int32)), .val (.int (0 : Int32)), .val (.long j0), .second]) rfl ?_
    show Steps p.tables e below (s₁.setTop (mkF m 29 #[.val (.ref a0), .val (.long ((0 : Int64) ||| j0)), .second, .val (.ref a0), .val (.int (8 : Int32)), .val (.int (0 : Int32)), .val (.long j0), .second] [])) _
    refine XS.iinc X0.here hx rfl (hb hby d2_29) rfl (l' := #[.val (.ref a0), .val (.long ((0 : Int64) ||| j0)), .second, .val (.ref a0), .val (.int (8 : Int32)), .val (.int (1 : Int32)), .val (.long j0), .second]) rfl ?_
    show Steps p.tables e below (s₁.setTop (mkF m 32 #[.val (.ref a0), .val (.long ((0 : Int64) ||| j0)), .second, .val (.ref a0), .val (.int (8 : Int32)), .val (.int (1 : Int32)), .val (.long j0), .second] [])) _
    refine XS.goto X0.here hx rfl (pc0 := 32) (pc' := 11) rfl (hb hby d2_32) (by decide) (by decide) ?_
    show Steps p.tables e below (s₁.setTop (mkF m 11 #[.val (.ref a0), .val (.long ((0 : Int64) ||| j0)), .second, .val (.ref a0), .val (.int (8 : Int32)), .val (.int (1 : Int32)), .val (.long j0), .second] [])) _
    refine XS.iload X0.here hx rfl (hb hby d2_11) rfl ?_
    show Steps p.tables e below (s₁.setTop (mkF m 13 #[.val (.ref a0), .val (.long ((0 : Int64) ||| j0)), .second, .val (.ref a0), .val (.int (8 : Int32)), .val (.int (1 : Int32)), .val (.long j0), .second] [(.int (1 : Int32))])) _
    refine XS.iload X0.here hx rfl (hb hby d2_13) rfl ?_
    show Steps p.tables e below (s₁.setTop (mkF m 15 #[.val (.ref a0), .val (.long ((0 : Int64) ||| j0)), .second, .val (.ref a0), .val (.int (8 : Int32)), .val (.int (1 : Int32)), .val (.long j0), .second] [(.int (8 : Int32)), (.int (1 : Int32))])) _
    refine XS.icmpNo X0.here hx rfl (hb hby d2_15) rfl (tlt (by decide : (1 : Int32) < (8 : Int32))).2.1 ?_
    show Steps p.tables e below (s₁.setTop (mkF m 18 #[.val (.ref a0), .val (.long ((0 : Int64) ||| j0)), .second, .val (.ref a0), .val (.int (8 : Int32)), .val (.int (1 : Int32)), .val (.long j0), .second] [])) _
    refine XS.aloadN X0.here hx rfl (hb hby d2_18) rfl rfl ?_
    show Steps p.tables e below (s₁.setTop (mkF m 19 #[.val (.ref a0), .val (.long ((0 : Int64) ||| j0)), .second, .val (.ref a0), .val (.int (8 : Int32)), .val (.int (1 : Int32)), .val (.long j0), .second] [(.ref a0)])) _
    refine XS.iload X0.here hx rfl (hb hby d2_19) rfl ?_
    show Steps p.tables e below (s₁.setTop (mkF m 21 #[.val (.ref a0), .val (.long ((0 : Int64) ||| j0)), .second, .val (.ref a0), .val (.int (8 : Int32)), .val (.int (1 : Int32)), .val (.long j0), .second] [(.int (1 : Int32)), (.ref a0)])) _
    have hin103 : ¬ ((1 : Int32) < 0 ∨ cl103.slots.size ≤ ((1 : Int32)).toNatClampNeg) := (inb_of S103 ⟨by decide, by decide⟩)
    refine X0.laload hx (j := (1 : Int32)) (v := (.long j1)) (by rw [e0]; exact Ar103.1) (State.isArrayOf_alike hZ.alike Ar103.2.1) Ar103.2.2 hin103 (H103.at hin103 rfl) (g := (mkF m 21 #[.val (.ref a0), .val (.long ((0 : Int64) ||| j0)), .second, .val (.ref a0), .val (.int (8 : Int32)), .val (.int (1 : Int32)), .val (.long j0), .second] [(.int (1 : Int32)), (.ref a0)])) rfl rfl (hb hby d2_21) _ ?_
    show Steps p.tables e below (s₁.setTop (mkF m 22 #[.val (.ref a0), .val (.long ((0 : Int64) ||| j0)), .second, .val (.ref a0), .val (.int (8 : Int32)), .val (.int (1 : Int32)), .val (.long j0), .second] [(.long j1)])) _
    refine XS.lstore X0.here hx rfl (hb hby d2_22) rfl (l' := #[.val (.ref a0), .val (.long ((0 : Int64) ||| j0)), .second, .val (.ref a0), .val (.int (8 : Int32)), .val (.int (1 : Int32)), .val (.long j1), .second]) rfl ?_
    show Steps p.tables e below (s₁.setTop (mkF m 24 #[.val (.ref a0), .val (.long ((0 : Int64) ||| j0)), .second, .val (.ref a0), .val (.int (8 : Int32)), .val (.int (1 : Int32)), .val (.long j1), .second] [])) _
    refine XS.lloadN X0.here hx rfl (hb hby d2_24) rfl ?_
    show Steps p.tables e below (s₁.setTop (mkF m 25 #[.val (.ref a0), .val (.long ((0 : Int64) ||| j0)), .second, .val (.ref a0), .val (.int (8 : Int32)), .val (.int (1 : Int32)), .val (.long j1), .second] [(.long ((0 : Int64) ||| j0))])) _
    refine XS.lload X0.here hx rfl (hb hby d2_25) rfl ?_
    show Steps p.tables e below (s₁.setTop (mkF m 27 #[.val (.ref a0), .val (.long ((0 : Int64) ||| j0)), .second, .val (.ref a0), .val (.int (8 : Int32)), .val (.int (1 : Int32)), .val (.long j1), .second] [(.long j1), (.long ((0 : Int64) ||| j0))])) _
    refine XS.lor X0.here hx rfl (hb hby d2_27) rfl ?_
    show Steps p.tables e below (s₁.setTop (mkF m 28 #[.val (.ref a0), .val (.long ((0 : Int64) ||| j0)), .second, .val (.ref a0), .val (.int (8 : Int32)), .val (.int (1 : Int32)), .val (.long j1), .second] [(.long (((0 : Int64) ||| j0) ||| j1))])) _
    refine XS.lstoreN X0.here hx rfl (hb hby d2_28) rfl (l' := #[.val (.ref a0), .val (.long (((0 : Int64) ||| j0) ||| j1)), .second, .val (.ref a0), .val (.int (8 : Int32)), .val (.int (1 : Int32)), .val (.long j1), .second]) rfl ?_
    show Steps p.tables e below (s₁.setTop (mkF m 29 #[.val (.ref a0), .val (.long (((0 : Int64) ||| j0) ||| j1)), .second, .val (.ref a0), .val (.int (8 : Int32)), .val (.int (1 : Int32)), .val (.long j1), .second] [])) _
    refine XS.iinc X0.here hx rfl (hb hby d2_29) rfl (l' := #[.val (.ref a0), .val (.long (((0 : Int64) ||| j0) ||| j1)), .second, .val (.ref a0), .val (.int (8 : Int32)), .val (.int (2 : Int32)), .val (.long j1), .second]) rfl ?_
    show Steps p.tables e below (s₁.setTop (mkF m 32 #[.val (.ref a0), .val (.long (((0 : Int64) ||| j0) ||| j1)), .second, .val (.ref a0), .val (.int (8 : Int32)), .val (.int (2 : Int32)), .val (.long j1), .second] [])) _
    refine XS.goto X0.here hx rfl (pc0 := 32) (pc' := 11) rfl (hb hby d2_32) (by decide) (by decide) ?_
    show Steps p.tables e below (s₁.setTop (mkF m 11 #[.val (.ref a0), .val (.long (((0 : Int64) ||| j0) ||| j1)), .second, .val (.ref a0), .val (.int (8 : Int32)), .val (.int (2 : Int32)), .val (.long j1), .second] [])) _
    refine XS.iload X0.here hx rfl (hb hby d2_11) rfl ?_
    show Steps p.tables e below (s₁.setTop (mkF m 13 #[.val (.ref a0), .val (.long (((0 : Int64) ||| j0) ||| j1)), .second, .val (.ref a0), .val (.int (8 : Int32)), .val (.int (2 : Int32)), .val (.long j1), .second] [(.int (2 : Int32))])) _
    refine XS.iload X0.here hx rfl (hb hby d2_13) rfl ?_
    show Steps p.tables e below (s₁.setTop (mkF m 15 #[.val (.ref a0), .val (.long (((0 : Int64) ||| j0) ||| j1)), .second, .val (.ref a0), .val (.int (8 : Int32)), .val (.int (2 : Int32)), .val (.long j1), .second] [(.int (8 : Int32)), (.int (2 : Int32))])) _
    refine XS.icmpNo X0.here hx rfl (hb hby d2_15) rfl (tlt (by decide : (2 : Int32) < (8 : Int32))).2.1 ?_
    show Steps p.tables e below (s₁.setTop (mkF m 18 #[.val (.ref a0), .val (.long (((0 : Int64) ||| j0) ||| j1)), .second, .val (.ref a0), .val (.int (8 : Int32)), .val (.int (2 : Int32)), .val (.long j1), .second] [])) _
    refine XS.aloadN X0.here hx rfl (hb hby d2_18) rfl rfl ?_
    show Steps p.tables e below (s₁.setTop (mkF m 19 #[.val (.ref a0), .val (.long (((0 : Int64) ||| j0) ||| j1)), .second, .val (.ref a0), .val (.int (8 : Int32)), .val (.int (2 : Int32)), .val (.long j1), .second] [(.ref a0)])) _
    refine XS.iload X0.here hx rfl (hb hby d2_19) rfl ?_
    show Steps p.tables e below (s₁.setTop (mkF m 21 #[.val (.ref a0), .val (.long (((0 : Int64) ||| j0) ||| j1)), .second, .val (.ref a0), .val (.int (8 : Int32)), .val (.int (2 : Int32)), .val (.long j1), .second] [(.int (2 : Int32)), (.ref a0)])) _
    have hin104 : ¬ ((2 : Int32) < 0 ∨ cl104.slots.size ≤ ((2 : Int32)).toNatClampNeg) := (inb_of S104 ⟨by decide, by decide⟩)
    refine X0.laload hx (j := (2 : Int32)) (v := (.long j2)) (by rw [e0]; exact Ar104.1) (State.isArrayOf_alike hZ.alike Ar104.2.1) Ar104.2.2 hin104 (H104.at hin104 rfl) (g := (mkF m 21 #[.val (.ref a0), .val (.long (((0 : Int64) ||| j0) ||| j1)), .second, .val (.ref a0), .val (.int (8 : Int32)), .val (.int (2 : Int32)), .val (.long j1), .second] [(.int (2 : Int32)), (.ref a0)])) rfl rfl (hb hby d2_21) _ ?_
    show Steps p.tables e below (s₁.setTop (mkF m 22 #[.val (.ref a0), .val (.long (((0 : Int64) ||| j0) ||| j1)), .second, .val (.ref a0), .val (.int (8 : Int32)), .val (.int (2 : Int32)), .val (.long j1), .second] [(.long j2)])) _
    refine XS.lstore X0.here hx rfl (hb hby d2_22) rfl (l' := #[.val (.ref a0), .val (.long (((0 : Int64) ||| j0) ||| j1)), .second, .val (.ref a0), .val (.int (8 : Int32)), .val (.int (2 : Int32)), .val (.long j2), .second]) rfl ?_
    show Steps p.tables e below (s₁.setTop (mkF m 24 #[.val (.ref a0), .val (.long (((0 : Int64) ||| j0) ||| j1)), .second, .val (.ref a0), .val (.int (8 : Int32)), .val (.int (2 : Int32)), .val (.long j2), .second] [])) _
    refine XS.lloadN X0.here hx rfl (hb hby d2_24) rfl ?_
    show Steps p.tables e below (s₁.setTop (mkF m 25 #[.val (.ref a0), .val (.long (((0 : Int64) ||| j0) ||| j1)), .second, .val (.ref a0), .val (.int (8 : Int32)), .val (.int (2 : Int32)), .val (.long j2), .second] [(.long (((0 : Int64) ||| j0) ||| j1))])) _
    refine XS.lload X0.here hx rfl (hb hby d2_25) rfl ?_
    show Steps p.tables e below (s₁.setTop (mkF m 27 #[.val (.ref a0), .val (.long (((0 : Int64) ||| j0) ||| j1)), .second, .val (.ref a0), .val (.int (8 : Int32)), .val (.int (2 : Int32)), .val (.long j2), .second] [(.long j2), (.long (((0 : Int64) ||| j0) ||| j1))])) _
    refine XS.lor X0.here hx rfl (hb hby d2_27) rfl ?_
    show Steps p.tables e below (s₁.setTop (mkF m 28 #[.val (.ref a0), .val (.long (((0 : Int64) ||| j0) ||| j1)), .second, .val (.ref a0), .val (.int (8 : Int32)), .val (.int (2 : Int32)), .val (.long j2), .second] [(.long ((((0 : Int64) ||| j0) ||| j1) ||| j2))])) _
    refine XS.lstoreN X0.here hx rfl (hb hby d2_28) rfl (l' := #[.val (.ref a0), .val (.long ((((0 : Int64) ||| j0) ||| j1) ||| j2)), .second, .val (.ref a0), .val (.int (8 : Int32)), .val (.int (2 : Int32)), .val (.long j2), .second]) rfl ?_
    show Steps p.tables e below (s₁.setTop (mkF m 29 #[.val (.ref a0), .val (.long ((((0 : Int64) ||| j0) ||| j1) ||| j2)), .second, .val (.ref a0), .val (.int (8 : Int32)), .val (.int (2 : Int32)), .val (.long j2), .second] [])) _
    refine XS.iinc X0.here hx rfl (hb hby d2_29) rfl (l' := #[.val (.ref a0), .val (.long ((((0 : Int64) ||| j0) ||| j1) ||| j2)), .second, .val (.ref a0), .val (.int (8 : Int32)), .val (.int (3 : Int32)), .val (.long j2), .second]) rfl ?_
    show Steps p.tables e below (s₁.setTop (mkF m 32 #[.val (.ref a0), .val (.long ((((0 : Int64) ||| j0) ||| j1) ||| j2)), .second, .val (.ref a0), .val (.int (8 : Int32)), .val (.int (3 : Int32)), .val (.long j2), .second] [])) _
    refine XS.goto X0.here hx rfl (pc0 := 32) (pc' := 11) rfl (hb hby d2_32) (by decide) (by decide) ?_
    show Steps p.tables e below (s₁.setTop (mkF m 11 #[.val (.ref a0), .val (.long ((((0 : Int64) ||| j0) ||| j1) ||| j2)), .second, .val (.ref a0), .val (.int (8 : Int32)), .val (.int (3 : Int32)), .val (.long j2), .second] [])) _
    refine XS.iload X0.here hx rfl (hb hby d2_11) rfl ?_
    show Steps p.tables e below (s₁.setTop (mkF m 13 #[.val (.ref a0), .val (.long ((((0 : Int64) ||| j0) ||| j1) ||| j2)), .second, .val (.ref a0), .val (.int (8 : Int32)), .val (.int (3 : Int32)), .val (.long j2), .second] [(.int (3 : Int32))])) _
    refine XS.iload X0.here hx rfl (hb hby d2_13) rfl ?_
    show Steps p.tables e below (s₁.setTop (mkF m 15 #[.val (.ref a0), .val (.long ((((0 : Int64) ||| j0) ||| j1) ||| j2)), .second, .val (.ref a0), .val (.int (8 : Int32)), .val (.int (3 : Int32)), .val (.long j2), .second] [(.int (8 : Int32)), (.int (3 : Int32))])) _
    refine XS.icmpNo X0.here hx rfl (hb hby d2_15) rfl (tlt (by decide : (3 : Int32) < (8 : Int32))).2.1 ?_
    show Steps p.tables e below (s₁.setTop (mkF m 18 #[.val (.ref a0), .val (.long ((((0 : Int64) ||| j0) ||| j1) ||| j2)), .second, .val (.ref a0), .val (.int (8 : Int32)), .val (.int (3 : Int32)), .val (.long j2), .second] [])) _
    refine XS.aloadN X0.here hx rfl (hb hby d2_18) rfl rfl ?_
    show Steps p.tables e below (s₁.setTop (mkF m 19 #[.val (.ref a0), .val (.long ((((0 : Int64) ||| j0) ||| j1) ||| j2)), .second, .val (.ref a0), .val (.int (8 : Int32)), .val (.int (3 : Int32)), .val (.long j2), .second] [(.ref a0)])) _
    refine XS.iload X0.here hx rfl (hb hby d2_19) rfl ?_
    show Steps p.tables e below (s₁.setTop (mkF m 21 #[.val (.ref a0), .val (.long ((((0 : Int64) ||| j0) ||| j1) ||| j2)), .second, .val (.ref a0), .val (.int (8 : Int32)), .val (.int (3 : Int32)), .val (.long j2), .second] [(.int (3 : Int32)), (.ref a0)])) _
    have hin105 : ¬ ((3 : Int32) < 0 ∨ cl105.slots.size ≤ ((3 : Int32)).toNatClampNeg) := (inb_of S105 ⟨by decide, by decide⟩)
    refine X0.laload hx (j := (3 : Int32)) (v := (.long j3)) (by rw [e0]; exact Ar105.1) (State.isArrayOf_alike hZ.alike Ar105.2.1) Ar105.2.2 hin105 (H105.at hin105 rfl) (g := (mkF m 21 #[.val (.ref a0), .val (.long ((((0 : Int64) ||| j0) ||| j1) ||| j2)), .second, .val (.ref a0), .val (.int (8 : Int32)), .val (.int (3 : Int32)), .val (.long j2), .second] [(.int (3 : Int32)), (.ref a0)])) rfl rfl (hb hby d2_21) _ ?_
    show Steps p.tables e below (s₁.setTop (mkF m 22 #[.val (.ref a0), .val (.long ((((0 : Int64) ||| j0) ||| j1) ||| j2)), .second, .val (.ref a0), .val (.int (8 : Int32)), .val (.int (3 : Int32)), .val (.long j2), .second] [(.long j3)])) _
    refine XS.lstore X0.here hx rfl (hb hby d2_22) rfl (l' := #[.val (.ref a0), .val (.long ((((0 : Int64) ||| j0) ||| j1) ||| j2)), .second, .val (.ref a0), .val (.int (8 : Int32)), .val (.int (3 : Int32)), .val (.long j3), .second]) rfl ?_
    show Steps p.tables e below (s₁.setTop (mkF m 24 #[.val (.ref a0), .val (.long ((((0 : Int64) ||| j0) ||| j1) ||| j2)), .second, .val (.ref a0), .val (.int (8 : Int32)), .val (.int (3 : Int32)), .val (.long j3), .second] [])) _
    refine XS.lloadN X0.here hx rfl (hb hby d2_24) rfl ?_
    show Steps p.tables e below (s₁.setTop (mkF m 25 #[.val (.ref a0), .val (.long ((((0 : Int64) ||| j0) ||| j1) ||| j2)), .second, .val (.ref a0), .val (.int (8 : Int32)), .val (.int (3 : Int32)), .val (.long j3), .second] [(.long ((((0 : Int64) ||| j0) ||| j1) ||| j2))])) _
    refine XS.lload X0.here hx rfl (hb hby d2_25) rfl ?_
    show Steps p.tables e below (s₁.setTop (mkF m 27 #[.val (.ref a0), .val (.long ((((0 : Int64) ||| j0) ||| j1) ||| j2)), .second, .val (.ref a0), .val (.int (8 : Int32)), .val (.int (3 : Int32)), .val (.long j3), .second] [(.long j3), (.long ((((0 : Int64) ||| j0) ||| j1) ||| j2))])) _
    refine XS.lor X0.here hx rfl (hb hby d2_27) rfl ?_
    show Steps p.tables e below (s₁.setTop (mkF m 28 #[.val (.ref a0), .val (.long ((((0 : Int64) ||| j0) ||| j1) ||| j2)), .second, .val (.ref a0), .val (.int (8 : Int32)), .val (.int (3 : Int32)), .val (.long j3), .second] [(.long (((((0 : Int64) ||| j0) ||| j1) ||| j2) ||| j3))])) _
    refine XS.lstoreN X0.here hx rfl (hb hby d2_28) rfl (l' := #[.val (.ref a0), .val (.long (((((0 : Int64) ||| j0) ||| j1) ||| j2) ||| j3)), .second, .val (.ref a0), .val (.int (8 : Int32)), .val (.int (3 : Int32)), .val (.long j3), .second]) rfl ?_
    show Steps p.tables e below (s₁.setTop (mkF m 29 #[.val (.ref a0), .val (.long (((((0 : Int64) ||| j0) ||| j1) ||| j2) ||| j3)), .second, .val (.ref a0), .val (.int (8 : Int32)), .val (.int (3 : Int32)), .val (.long j3), .second] [])) _
    refine XS.iinc X0.here hx rfl (hb hby d2_29) rfl (l' := #[.val (.ref a0), .val (.long (((((0 : Int64) ||| j0) ||| j1) ||| j2) ||| j3)), .second, .val (.ref a0), .val (.int (8 : Int32)), .val (.int (4 : Int32)), .val (.long j3), .second]) rfl ?_
    show Steps p.tables e below (s₁.setTop (mkF m 32 #[.val (.ref a0), .val (.long (((((0 : Int64) ||| j0) ||| j1) ||| j2) ||| j3)), .second, .val (.ref a0), .val (.int (8 : Int32)), .val (.int (4 : Int32)), .val (.long j3), .second] [])) _
    refine XS.goto X0.here hx rfl (pc0 := 32) (pc' := 11) rfl (hb hby d2_32) (by decide) (by decide) ?_
    show Steps p.tables e below (s₁.setTop (mkF m 11 #[.val (.ref a0), .val (.long (((((0 : Int64) ||| j0) ||| j1) ||| j2) ||| j3)), .second, .val (.ref a0), .val (.int (8 : Int32)), .val (.int (4 : Int32)), .val (.long j3), .second] [])) _
    refine XS.iload X0.here hx rfl (hb hby d2_11) rfl ?_
    show Steps p.tables e below (s₁.setTop (mkF m 13 #[.val (.ref a0), .val (.long (((((0 : Int64) ||| j0) ||| j1) ||| j2) ||| j3)), .second, .val (.ref a0), .val (.int (8 : Int32)), .val (.int (4 : Int32)), .val (.long j3), .second] [(.int (4 : Int32))])) _
    refine XS.iload X0.here hx rfl (hb hby d2_13) rfl ?_
    show Steps p.tables e below (s₁.setTop (mkF m 15 #[.val (.ref a0), .val (.long (((((0 : Int64) ||| j0) ||| j1) ||| j2) ||| j3)), .second, .val (.ref a0), .val (.int (8 : Int32)), .val (.int (4 : Int32)), .val (.long j3), .second] [(.int (8 : Int32)), (.int (4 : Int32))])) _
    refine XS.icmpNo X0.here hx rfl (hb hby d2_15) rfl (tlt (by decide : (4 : Int32) < (8 : Int32))).2.1 ?_
    show Steps p.tables e below (s₁.setTop (mkF m 18 #[.val (.ref a0), .val (.long (((((0 : Int64) ||| j0) ||| j1) ||| j2) ||| j3)), .second, .val (.ref a0), .val (.int (8 : Int32)), .val (.int (4 : Int32)), .val (.long j3), .second] [])) _
    refine XS.aloadN X0.here hx rfl (hb hby d2_18) rfl rfl ?_
    show Steps p.tables e below (s₁.setTop (mkF m 19 #[.val (.ref a0), .val (.long (((((0 : Int64) ||| j0) ||| j1) ||| j2) ||| j3)), .second, .val (.ref a0), .val (.int (8 : Int32)), .val (.int (4 : Int32)), .val (.long j3), .second] [(.ref a0)])) _
    refine XS.iload X0.here hx rfl (hb hby d2_19) rfl ?_
    show Steps p.tables e below (s₁.setTop (mkF m 21 #[.val (.ref a0), .val (.long (((((0 : Int64) ||| j0) ||| j1) ||| j2) ||| j3)), .second, .val (.ref a0), .val (.int (8 : Int32)), .val (.int (4 : Int32)), .val (.long j3), .second] [(.int (4 : Int32)), (.ref a0)])) _
    have hin106 : ¬ ((4 : Int32) < 0 ∨ cl106.slots.size ≤ ((4 : Int32)).toNatClampNeg) := (inb_of S106 ⟨by decide, by decide⟩)
    refine X0.laload hx (j := (4 : Int32)) (v := (.long j4)) (by rw [e0]; exact Ar106.1) (State.isArrayOf_alike hZ.alike Ar106.2.1) Ar106.2.2 hin106 (H106.at hin106 rfl) (g := (mkF m 21 #[.val (.ref a0), .val (.long (((((0 : Int64) ||| j0) ||| j1) ||| j2) ||| j3)), .second, .val (.ref a0), .val (.int (8 : Int32)), .val (.int (4 : Int32)), .val (.long j3), .second] [(.int (4 : Int32)), (.ref a0)])) rfl rfl (hb hby d2_21) _ ?_
    show Steps p.tables e below (s₁.setTop (mkF m 22 #[.val (.ref a0), .val (.long (((((0 : Int64) ||| j0) ||| j1) ||| j2) ||| j3)), .second, .val (.ref a0), .val (.int (8 : Int32)), .val (.int (4 : Int32)), .val (.long j3), .second] [(.long j4)])) _
    refine XS.lstore X0.here hx rfl (hb hby d2_22) rfl (l' := #[.val (.ref a0), .val (.long (((((0 : Int64) ||| j0) ||| j1) ||| j2) ||| j3)), .second, .val (.ref a0), .val (.int (8 : Int32)), .val (.int (4 : Int32)), .val (.long j4), .second]) rfl ?_
    show Steps p.tables e below (s₁.setTop (mkF m 24 #[.val (.ref a0), .val (.long (((((0 : Int64) ||| j0) ||| j1) ||| j2) ||| j3)), .second, .val (.ref a0), .val (.int (8 : Int32)), .val (.int (4 : Int32)), .val (.long j4), .second] [])) _
    refine XS.lloadN X0.here hx rfl (hb hby d2_24) rfl ?_
    show Steps p.tables e below (s₁.setTop (mkF m 25 #[.val (.ref a0), .val (.long (((((0 : Int64) ||| j0) ||| j1) ||| j2) ||| j3)), .second, .val (.ref a0), .val (.int (8 : Int32)), .val (.int (4 : Int32)), .val (.long j4), .second] [(.long (((((0 : Int64) ||| j0) ||| j1) ||| j2) ||| j3))])) _
    refine XS.lload X0.here hx rfl (hb hby d2_25) rfl ?_
    show Steps p.tables e below (s₁.setTop (mkF m 27 #[.val (.ref a0), .val (.long (((((0 : Int64) ||| j0) ||| j1) ||| j2) ||| j3)), .second, .val (.ref a0), .val (.int (8 : Int32)), .val (.int (4 : Int32)), .val (.long j4), .second] [(.long j4), (.long (((((0 : Int64) ||| j0) ||| j1) ||| j2) ||| j3))])) _
    refine XS.lor X0.here hx rfl (hb hby d2_27) rfl ?_
    show Steps p.tables e below (s₁.setTop (mkF m 28 #[.val (.ref a0), .val (.long (((((0 : Int64) ||| j0) ||| j1) ||| j2) ||| j3)), .second, .val (.ref a0), .val (.int (8 : Int32)), .val (.int (4 : Int32)), .val (.long j4), .second] [(.long ((((((0 : Int64) ||| j0) ||| j1) ||| j2) ||| j3) ||| j4))])) _
    refine XS.lstoreN X0.here hx rfl (hb hby d2_28) rfl (l' := #[.val (.ref a0), .val (.long ((((((0 : Int64) ||| j0) ||| j1) ||| j2) ||| j3) ||| j4)), .second, .val (.ref a0), .val (.int (8 : Int32)), .val (.int (4 : Int32)), .val (.long j4), .second]) rfl ?_
    show Steps p.tables e below (s₁.setTop (mkF m 29 #[.val (.ref a0), .val (.long ((((((0 : Int64) ||| j0) ||| j1) ||| j2) ||| j3) ||| j4)), .second, .val (.ref a0), .val (.int (8 : Int32)), .val (.int (4 : Int32)), .val (.long j4), .second] [])) _
    refine XS.iinc X0.here hx rfl (hb hby d2_29) rfl (l' := #[.val (.ref a0), .val (.long ((((((0 : Int64) ||| j0) ||| j1) ||| j2) ||| j3) ||| j4)), .second, .val (.ref a0), .val (.int (8 : Int32)), .val (.int (5 : Int32)), .val (.long j4), .second]) rfl ?_
    show Steps p.tables e below (s₁.setTop (mkF m 32 #[.val (.ref a0), .val (.long ((((((0 : Int64) ||| j0) ||| j1) ||| j2) ||| j3) ||| j4)), .second, .val (.ref a0), .val (.int (8 : Int32)), .val (.int (5 : Int32)), .val (.long j4), .second] [])) _
    refine XS.goto X0.here hx rfl (pc0 := 32) (pc' := 11) rfl (hb hby d2_32) (by decide) (by decide) ?_
    show Steps p.tables e below (s₁.setTop (mkF m 11 #[.val (.ref a0), .val (.long ((((((0 : Int64) ||| j0) ||| j1) ||| j2) ||| j3) ||| j4)), .second, .val (.ref a0), .val (.int (8 : Int32)), .val (.int (5 : Int32)), .val (.long j4), .second] [])) _
    refine XS.iload X0.here hx rfl (hb hby d2_11) rfl ?_
    show Steps p.tables e below (s₁.setTop (mkF m 13 #[.val (.ref a0), .val (.long ((((((0 : Int64) ||| j0) ||| j1) ||| j2) ||| j3) ||| j4)), .second, .val (.ref a0), .val (.int (8 : Int32)), .val (.int (5 : Int32)), .val (.long j4), .second] [(.int (5 : Int32))])) _
    refine XS.iload X0.here hx rfl (hb hby d2_13) rfl ?_
    show Steps p.tables e below (s₁.setTop (mkF m 15 #[.val (.ref a0), .val (.long ((((((0 : Int64) ||| j0) ||| j1) ||| j2) ||| j3) ||| j4)), .second, .val (.ref a0), .val (.int (8 : Int32)), .val (.int (5 : Int32)), .val (.long j4), .second] [(.int (8 : Int32)), (.int (5 : Int32))])) _
    refine XS.icmpNo X0.here hx rfl (hb hby d2_15) rfl (tlt (by decide : (5 : Int32) < (8 : Int32))).2.1 ?_
    show Steps p.tables e below (s₁.setTop (mkF m 18 #[.val (.ref a0), .val (.long ((((((0 : Int64) ||| j0) ||| j1) ||| j2) ||| j3) ||| j4)), .second, .val (.ref a0), .val (.int (8 : Int32)), .val (.int (5 : Int32)), .val (.long j4), .second] [])) _
    refine XS.aloadN X0.here hx rfl (hb hby d2_18) rfl rfl ?_
    show Steps p.tables e below (s₁.setTop (mkF m 19 #[.val (.ref a0), .val (.long ((((((0 : Int64) ||| j0) ||| j1) ||| j2) ||| j3) ||| j4)), .second, .val (.ref a0), .val (.int (8 : Int32)), .val (.int (5 : Int32)), .val (.long j4), .second] [(.ref a0)])) _
    refine XS.iload X0.here hx rfl (hb hby d2_19) rfl ?_
    show Steps p.tables e below (s₁.setTop (mkF m 21 #[.val (.ref a0), .val (.long ((((((0 : Int64) ||| j0) ||| j1) ||| j2) ||| j3) ||| j4)), .second, .val (.ref a0), .val (.int (8 : Int32)), .val (.int (5 : Int32)), .val (.long j4), .second] [(.int (5 : Int32)), (.ref a0)])) _
    have hin107 : ¬ ((5 : Int32) < 0 ∨ cl107.slots.size ≤ ((5 : Int32)).toNatClampNeg) := (inb_of S107 ⟨by decide, by decide⟩)
    refine X0.laload hx (j := (5 : Int32)) (v := (.long j5)) (by rw [e0]; exact Ar107.1) (State.isArrayOf_alike hZ.alike Ar107.2.1) Ar107.2.2 hin107 (H107.at hin107 rfl) (g := (mkF m 21 #[.val (.ref a0), .val (.long ((((((0 : Int64) ||| j0) ||| j1) ||| j2) ||| j3) ||| j4)), .second, .val (.ref a0), .val (.int (8 : Int32)), .val (.int (5 : Int32)), .val (.long j4), .second] [(.int (5 : Int32)), (.ref a0)])) rfl rfl (hb hby d2_21) _ ?_
    show Steps p.tables e below (s₁.setTop (mkF m 22 #[.val (.ref a0), .val (.long ((((((0 : Int64) ||| j0) ||| j1) ||| j2) ||| j3) ||| j4)), .second, .val (.ref a0), .val (.int (8 : Int32)), .val (.int (5 : Int32)), .val (.long j4), .second] [(.long j5)])) _
    refine XS.lstore X0.here hx rfl (hb hby d2_22) rfl (l' := #[.val (.ref a0), .val (.long ((((((0 : Int64) ||| j0) ||| j1) ||| j2) ||| j3) ||| j4)), .second, .val (.ref a0), .val (.int (8 : Int32)), .val (.int (5 : Int32)), .val (.long j5), .second]) rfl ?_
    show Steps p.tables e below (s₁.setTop (mkF m 24 #[.val (.ref a0), .val (.long ((((((0 : Int64) ||| j0) ||| j1) ||| j2) ||| j3) ||| j4)), .second, .val (.ref a0), .val (.int (8 : Int32)), .val (.int (5 : Int32)), .val (.long j5), .second] [])) _
    refine XS.lloadN X0.here hx rfl (hb hby d2_24) rfl ?_
    show Steps p.tables e below (s₁.setTop (mkF m 25 #[.val (.ref a0), .val (.long ((((((0 : Int64) ||| j0) ||| j1) ||| j2) ||| j3) ||| j4)), .second, .val (.ref a0), .val (.int (8 : Int32)), .val (.int (5 : Int32)), .val (.long j5), .second] [(.long ((((((0 : Int64) ||| j0) ||| j1) ||| j2) ||| j3) ||| j4))])) _
    refine XS.lload X0.here hx rfl (hb hby d2_25) rfl ?_
    show Steps p.tables e below (s₁.setTop (mkF m 27 #[.val (.ref a0), .val (.long ((((((0 : Int64) ||| j0) ||| j1) ||| j2) ||| j3) ||| j4)), .second, .val (.ref a0), .val (.int (8 : Int32)), .val (.int (5 : Int32)), .val (.long j5), .second] [(.long j5), (.long ((((((0 : Int64) ||| j0) ||| j1) ||| j2) ||| j3) ||| j4))])) _
    refine XS.lor X0.here hx rfl (hb hby d2_27) rfl ?_
    show Steps p.tables e below (s₁.setTop (mkF m 28 #[.val (.ref a0), .val (.long ((((((0 : Int64) ||| j0) ||| j1) ||| j2) ||| j3) ||| j4)), .second, .val (.ref a0), .val (.int (8 : Int32)), .val (.int (5 : Int32)), .val (.long j5), .second] [(.long (((((((0 : Int64) ||| j0) ||| j1) ||| j2) ||| j3) ||| j4) ||| j5))])) _
    refine XS.lstoreN X0.here hx rfl (hb hby d2_28) rfl (l' := #[.val (.ref a0), .val (.long (((((((0 : Int64) ||| j0) ||| j1) ||| j2) ||| j3) ||| j4) ||| j5)), .second, .val (.ref a0), .val (.int (8 : Int32)), .val (.int (5 : Int32)), .val (.long j5), .second]) rfl ?_
    show Steps p.tables e below (s₁.setTop (mkF m 29 #[.val (.ref a0), .val (.long (((((((0 : Int64) ||| j0) ||| j1) ||| j2) ||| j3) ||| j4) ||| j5)), .second, .val (.ref a0), .val (.int (8 : Int32)), .val (.int (5 : Int32)), .val (.long j5), .second] [])) _
    refine XS.iinc X0.here hx rfl (hb hby d2_29) rfl (l' := #[.val (.ref a0), .val (.long (((((((0 : Int64) ||| j0) ||| j1) ||| j2) ||| j3) ||| j4) ||| j5)), .second, .val (.ref a0), .val (.int (8 : Int32)), .val (.int (6 : Int32)), .val (.long j5), .second]) rfl ?_
    show Steps p.tables e below (s₁.setTop (mkF m 32 #[.val (.ref a0), .val (.long (((((((0 : Int64) ||| j0) ||| j1) ||| j2) ||| j3) ||| j4) ||| j5)), .second, .val (.ref a0), .val (.int (8 : Int32)), .val (.int (6 : Int32)), .val (.long j5), .second] [])) _
    refine XS.goto X0.here hx rfl (pc0 := 32) (pc' := 11) rfl (hb hby d2_32) (by decide) (by decide) ?_
    show Steps p.tables e below (s₁.setTop (mkF m 11 #[.val (.ref a0), .val (.long (((((((0 : Int64) ||| j0) ||| j1) ||| j2) ||| j3) ||| j4) ||| j5)), .second, .val (.ref a0), .val (.int (8 : Int32)), .val (.int (6 : Int32)), .val (.long j5), .second] [])) _
    refine XS.iload X0.here hx rfl (hb hby d2_11) rfl ?_
    show Steps p.tables e below (s₁.setTop (mkF m 13 #[.val (.ref a0), .val (.long (((((((0 : Int64) ||| j0) ||| j1) ||| j2) ||| j3) ||| j4) ||| j5)), .second, .val (.ref a0), .val (.int (8 : Int32)), .val (.int (6 : Int32)), .val (.long j5), .second] [(.int (6 : Int32))])) _
    refine XS.iload X0.here hx rfl (hb hby d2_13) rfl ?_
    show Steps p.tables e below (s₁.setTop (mkF m 15 #[.val (.ref a0), .val (.long (((((((0 : Int64) ||| j0) ||| j1) ||| j2) ||| j3) ||| j4) ||| j5)), .second, .val (.ref a0), .val (.int (8 : Int32)), .val (.int (6 : Int32)), .val (.long j5), .second] [(.int (8 : Int32)), (.int (6 : Int32))])) _
    refine XS.icmpNo X0.here hx rfl (hb hby d2_15) rfl (tlt (by decide : (6 : Int32) < (8 : Int32))).2.1 ?_
    show Steps p.tables e below (s₁.setTop (mkF m 18 #[.val (.ref a0), .val (.long (((((((0 : Int64) ||| j0) ||| j1) ||| j2) ||| j3) ||| j4) ||| j5)), .second, .val (.ref a0), .val (.int (8 : Int32)), .val (.int (6 : Int32)), .val (.long j5), .second] [])) _
    refine XS.aloadN X0.here hx rfl (hb hby d2_18) rfl rfl ?_
    show Steps p.tables e below (s₁.setTop (mkF m 19 #[.val (.ref a0), .val (.long (((((((0 : Int64) ||| j0) ||| j1) ||| j2) ||| j3) ||| j4) ||| j5)), .second, .val (.ref a0), .val (.int (8 : Int32)), .val (.int (6 : Int32)), .val (.long j5), .second] [(.ref a0)])) _
    refine XS.iload X0.here hx rfl (hb hby d2_19) rfl ?_
    show Steps p.tables e below (s₁.setTop (mkF m 21 #[.val (.ref a0), .val (.long (((((((0 : Int64) ||| j0) ||| j1) ||| j2) ||| j3) ||| j4) ||| j5)), .second, .val (.ref a0), .val (.int (8 : Int32)), .val (.int (6 : Int32)), .val (.long j5), .second] [(.int (6 : Int32)), (.ref a0)])) _
    have hin108 : ¬ ((6 : Int32) < 0 ∨ cl108.slots.size ≤ ((6 : Int32)).toNatClampNeg) := (inb_of S108 ⟨by decide, by decide⟩)
    refine X0.laload hx (j := (6 : Int32)) (v := (.long j6)) (by rw [e0]; exact Ar108.1) (State.isArrayOf_alike hZ.alike Ar108.2.1) Ar108.2.2 hin108 (H108.at hin108 rfl) (g := (mkF m 21 #[.val (.ref a0), .val (.long (((((((0 : Int64) ||| j0) ||| j1) ||| j2) ||| j3) ||| j4) ||| j5)), .second, .val (.ref a0), .val (.int (8 : Int32)), .val (.int (6 : Int32)), .val (.long j5), .second] [(.int (6 : Int32)), (.ref a0)])) rfl rfl (hb hby d2_21) _ ?_
    show Steps p.tables e below (s₁.setTop (mkF m 22 #[.val (.ref a0), .val (.long (((((((0 : Int64) ||| j0) ||| j1) ||| j2) ||| j3) ||| j4) ||| j5)), .second, .val (.ref a0), .val (.int (8 : Int32)), .val (.int (6 : Int32)), .val (.long j5), .second] [(.long j6)])) _
    refine XS.lstore X0.here hx rfl (hb hby d2_22) rfl (l' := #[.val (.ref a0), .val (.long (((((((0 : Int64) ||| j0) ||| j1) ||| j2) ||| j3) ||| j4) ||| j5)), .second, .val (.ref a0), .val (.int (8 : Int32)), .val (.int (6 : Int32)), .val (.long j6), .second]) rfl ?_
    show Steps p.tables e below (s₁.setTop (mkF m 24 #[.val (.ref a0), .val (.long (((((((0 : Int64) ||| j0) ||| j1) ||| j2) ||| j3) ||| j4) ||| j5)), .second, .val (.ref a0), .val (.int (8 : Int32)), .val (.int (6 : Int32)), .val (.long j6), .second] [])) _
    refine XS.lloadN X0.here hx rfl (hb hby d2_24) rfl ?_
    show Steps p.tables e below (s₁.setTop (mkF m 25 #[.val (.ref a0), .val (.long (((((((0 : Int64) ||| j0) ||| j1) ||| j2) ||| j3) ||| j4) ||| j5)), .second, .val (.ref a0), .val (.int (8 : Int32)), .val (.int (6 : Int32)), .val (.long j6), .second] [(.long (((((((0 : Int64) ||| j0) ||| j1) ||| j2) ||| j3) ||| j4) ||| j5))])) _
    refine XS.lload X0.here hx rfl (hb hby d2_25) rfl ?_
    show Steps p.tables e below (s₁.setTop (mkF m 27 #[.val (.ref a0), .val (.long (((((((0 : Int64) ||| j0) ||| j1) ||| j2) ||| j3) ||| j4) ||| j5)), .second, .val (.ref a0), .val (.int (8 : Int32)), .val (.int (6 : Int32)), .val (.long j6), .second] [(.long j6), (.long (((((((0 : Int64) ||| j0) ||| j1) ||| j2) ||| j3) ||| j4) ||| j5))])) _
    refine XS.lor X0.here hx rfl (hb hby d2_27) rfl ?_
    show Steps p.tables e below (s₁.setTop (mkF m 28 #[.val (.ref a0), .val (.long (((((((0 : Int64) ||| j0) ||| j1) ||| j2) ||| j3) ||| j4) ||| j5)), .second, .val (.ref a0), .val (.int (8 : Int32)), .val (.int (6 : Int32)), .val (.long j6), .second] [(.long ((((((((0 : Int64) ||| j0) ||| j1) ||| j2) ||| j3) ||| j4) ||| j5) ||| j6))])) _
    refine XS.lstoreN X0.here hx rfl (hb hby d2_28) rfl (l' := #[.val (.ref a0), .val (.long ((((((((0 : Int64) ||| j0) ||| j1) ||| j2) ||| j3) ||| j4) ||| j5) ||| j6)), .second, .val (.ref a0), .val (.int (8 : Int32)), .val (.int (6 : Int32)), .val (.long j6), .second]) rfl ?_
    show Steps p.tables e below (s₁.setTop (mkF m 29 #[.val (.ref a0), .val (.long ((((((((0 : Int64) ||| j0) ||| j1) ||| j2) ||| j3) ||| j4) ||| j5) ||| j6)), .second, .val (.ref a0), .val (.int (8 : Int32)), .val (.int (6 : Int32)), .val (.long j6), .second] [])) _
    refine XS.iinc X0.here hx rfl (hb hby d2_29) rfl (l' := #[.val (.ref a0), .val (.long ((((((((0 : Int64) ||| j0) ||| j1) ||| j2) ||| j3) ||| j4) ||| j5) ||| j6)), .second, .val (.ref a0), .val (.int (8 : Int32)), .val (.int (7 : Int32)), .val (.long j6), .second]) rfl ?_
    show Steps p.tables e below (s₁.setTop (mkF m 32 #[.val (.ref a0), .val (.long ((((((((0 : Int64) ||| j0) ||| j1) ||| j2) ||| j3) ||| j4) ||| j5) ||| j6)), .second, .val (.ref a0), .val (.int (8 : Int32)), .val (.int (7 : Int32)), .val (.long j6), .second] [])) _
    refine XS.goto X0.here hx rfl (pc0 := 32) (pc' := 11) rfl (hb hby d2_32) (by decide) (by decide) ?_
    show Steps p.tables e below (s₁.setTop (mkF m 11 #[.val (.ref a0), .val (.long ((((((((0 : Int64) ||| j0) ||| j1) ||| j2) ||| j3) ||| j4) ||| j5) ||| j6)), .second, .val (.ref a0), .val (.int (8 : Int32)), .val (.int (7 : Int32)), .val (.long j6), .second] [])) _
    refine XS.iload X0.here hx rfl (hb hby d2_11) rfl ?_
    show Steps p.tables e below (s₁.setTop (mkF m 13 #[.val (.ref a0), .val (.long ((((((((0 : Int64) ||| j0) ||| j1) ||| j2) ||| j3) ||| j4) ||| j5) ||| j6)), .second, .val (.ref a0), .val (.int (8 : Int32)), .val (.int (7 : Int32)), .val (.long j6), .second] [(.int (7 : Int32))])) _
    refine XS.iload X0.here hx rfl (hb hby d2_13) rfl ?_
    show Steps p.tables e below (s₁.setTop (mkF m 15 #[.val (.ref a0), .val (.long ((((((((0 : Int64) ||| j0) ||| j1) ||| j2) ||| j3) ||| j4) ||| j5) ||| j6)), .second, .val (.ref a0), .val (.int (8 : Int32)), .val (.int (7 : Int32)), .val (.long j6), .second] [(.int (8 : Int32)), (.int (7 : Int32))])) _
    refine XS.icmpNo X0.here hx rfl (hb hby d2_15) rfl (tlt (by decide : (7 : Int32) < (8 : Int32))).2.1 ?_
    show Steps p.tables e below (s₁.setTop (mkF m 18 #[.val (.ref a0), .val (.long ((((((((0 : Int64) ||| j0) ||| j1) ||| j2) ||| j3) ||| j4) ||| j5) ||| j6)), .second, .val (.ref a0), .val (.int (8 : Int32)), .val (.int (7 : Int32)), .val (.long j6), .second] [])) _
    refine XS.aloadN X0.here hx rfl (hb hby d2_18) rfl rfl ?_
    show Steps p.tables e below (s₁.setTop (mkF m 19 #[.val (.ref a0), .val (.long ((((((((0 : Int64) ||| j0) ||| j1) ||| j2) ||| j3) ||| j4) ||| j5) ||| j6)), .second, .val (.ref a0), .val (.int (8 : Int32)), .val (.int (7 : Int32)), .val (.long j6), .second] [(.ref a0)])) _
    refine XS.iload X0.here hx rfl (hb hby d2_19) rfl ?_
    show Steps p.tables e below (s₁.setTop (mkF m 21 #[.val (.ref a0), .val (.long ((((((((0 : Int64) ||| j0) ||| j1) ||| j2) ||| j3) ||| j4) ||| j5) ||| j6)), .second, .val (.ref a0), .val (.int (8 : Int32)), .val (.int (7 : Int32)), .val (.long j6), .second] [(.int (7 : Int32)), (.ref a0)])) _
    have hin109 : ¬ ((7 : Int32) < 0 ∨ cl109.slots.size ≤ ((7 : Int32)).toNatClampNeg) := (inb_of S109 ⟨by decide, by decide⟩)
    refine X0.laload hx (j := (7 : Int32)) (v := (.long j7)) (by rw [e0]; exact Ar109.1) (State.isArrayOf_alike hZ.alike Ar109.2.1) Ar109.2.2 hin109 (H109.at hin109 rfl) (g := (mkF m 21 #[.val (.ref a0), .val (.long ((((((((0 : Int64) ||| j0) ||| j1) ||| j2) ||| j3) ||| j4) ||| j5) ||| j6)), .second, .val (.ref a0), .val (.int (8 : Int32)), .val (.int (7 : Int32)), .val (.long j6), .second] [(.int (7 : Int32)), (.ref a0)])) rfl rfl (hb hby d2_21) _ ?_
    show Steps p.tables e below (s₁.setTop (mkF m 22 #[.val (.ref a0), .val (.long ((((((((0 : Int64) ||| j0) ||| j1) ||| j2) ||| j3) ||| j4) ||| j5) ||| j6)), .second, .val (.ref a0), .val (.int (8 : Int32)), .val (.int (7 : Int32)), .val (.long j6), .second] [(.long j7)])) _
    refine XS.lstore X0.here hx rfl (hb hby d2_22) rfl (l' := #[.val (.ref a0), .val (.long ((((((((0 : Int64) ||| j0) ||| j1) ||| j2) ||| j3) ||| j4) ||| j5) ||| j6)), .second, .val (.ref a0), .val (.int (8 : Int32)), .val (.int (7 : Int32)), .val (.long j7), .second]) rfl ?_
    show Steps p.tables e below (s₁.setTop (mkF m 24 #[.val (.ref a0), .val (.long ((((((((0 : Int64) ||| j0) ||| j1) ||| j2) ||| j3) ||| j4) ||| j5) ||| j6)), .second, .val (.ref a0), .val (.int (8 : Int32)), .val (.int (7 : Int32)), .val (.long j7), .second] [])) _
    refine XS.lloadN X0.here hx rfl (hb hby d2_24) rfl ?_
    show Steps p.tables e below (s₁.setTop (mkF m 25 #[.val (.ref a0), .val (.long ((((((((0 : Int64) ||| j0) ||| j1) ||| j2) ||| j3) ||| j4) ||| j5) ||| j6)), .second, .val (.ref a0), .val (.int (8 : Int32)), .val (.int (7 : Int32)), .val (.long j7), .second] [(.long ((((((((0 : Int64) ||| j0) ||| j1) ||| j2) ||| j3) ||| j4) ||| j5) ||| j6))])) _
    refine XS.lload X0.here hx rfl (hb hby d2_25) rfl ?_
    show Steps p.tables e below (s₁.setTop (mkF m 27 #[.val (.ref a0), .val (.long ((((((((0 : Int64) ||| j0) ||| j1) ||| j2) ||| j3) ||| j4) ||| j5) ||| j6)), .second, .val (.ref a0), .val (.int (8 : Int32)), .val (.int (7 : Int32)), .val (.long j7), .second] [(.long j7), (.long ((((((((0 : Int64) ||| j0) ||| j1) ||| j2) ||| j3) ||| j4) ||| j5) ||| j6))])) _
    refine XS.lor X0.here hx rfl (hb hby d2_27) rfl ?_
    show Steps p.tables e below (s₁.setTop (mkF m 28 #[.val (.ref a0), .val (.long ((((((((0 : Int64) ||| j0) ||| j1) ||| j2) ||| j3) ||| j4) ||| j5) ||| j6)), .second, .val (.ref a0), .val (.int (8 : Int32)), .val (.int (7 : Int32)), .val (.long j7), .second] [(.long (((((((((0 : Int64) ||| j0) ||| j1) ||| j2) ||| j3) ||| j4) ||| j5) ||| j6) ||| j7))])) _
    refine XS.lstoreN X0.here hx rfl (hb hby d2_28) rfl (l' := #[.val (.ref a0), .val (.long (((((((((0 : Int64) ||| j0) ||| j1) ||| j2) ||| j3) ||| j4) ||| j5) ||| j6) ||| j7)), .second, .val (.ref a0), .val (.int (8 : Int32)), .val (.int (7 : Int32)), .val (.long j7), .second]) rfl ?_
    show Steps p.tables e below (s₁.setTop (mkF m 29 #[.val (.ref a0), .val (.long (((((((((0 : Int64) ||| j0) ||| j1) ||| j2) ||| j3) ||| j4) ||| j5) ||| j6) ||| j7)), .second, .val (.ref a0), .val (.int (8 : Int32)), .val (.int (7 : Int32)), .val (.long j7), .second] [])) _
    refine XS.iinc X0.here hx rfl (hb hby d2_29) rfl (l' := #[.val (.ref a0), .val (.long (((((((((0 : Int64) ||| j0) ||| j1) ||| j2) ||| j3) ||| j4) ||| j5) ||| j6) ||| j7)), .second, .val (.ref a0), .val (.int (8 : Int32)), .val (.int (8 : Int32)), .val (.long j7), .second]) rfl ?_
    show Steps p.tables e below (s₁.setTop (mkF m 32 #[.val (.ref a0), .val (.long (((((((((0 : Int64) ||| j0) ||| j1) ||| j2) ||| j3) ||| j4) ||| j5) ||| j6) ||| j7)), .second, .val (.ref a0), .val (.int (8 : Int32)), .val (.int (8 : Int32)), .val (.long j7), .second] [])) _
    refine XS.goto X0.here hx rfl (pc0 := 32) (pc' := 11) rfl (hb hby d2_32) (by decide) (by decide) ?_
    show Steps p.tables e below (s₁.setTop (mkF m 11 #[.val (.ref a0), .val (.long (((((((((0 : Int64) ||| j0) ||| j1) ||| j2) ||| j3) ||| j4) ||| j5) ||| j6) ||| j7)), .second, .val (.ref a0), .val (.int (8 : Int32)), .val (.int (8 : Int32)), .val (.long j7), .second] [])) _
    refine XS.iload X0.here hx rfl (hb hby d2_11) rfl ?_
    show Steps p.tables e below (s₁.setTop (mkF m 13 #[.val (.ref a0), .val (.long (((((((((0 : Int64) ||| j0) ||| j1) ||| j2) ||| j3) ||| j4) ||| j5) ||| j6) ||| j7)), .second, .val (.ref a0), .val (.int (8 : Int32)), .val (.int (8 : Int32)), .val (.long j7), .second] [(.int (8 : Int32))])) _
    refine XS.iload X0.here hx rfl (hb hby d2_13) rfl ?_
    show Steps p.tables e below (s₁.setTop (mkF m 15 #[.val (.ref a0), .val (.long (((((((((0 : Int64) ||| j0) ||| j1) ||| j2) ||| j3) ||| j4) ||| j5) ||| j6) ||| j7)), .second, .val (.ref a0), .val (.int (8 : Int32)), .val (.int (8 : Int32)), .val (.long j7), .second] [(.int (8 : Int32)), (.int (8 : Int32))])) _
    refine XS.icmpYes X0.here hx rfl (pc0 := 15) (pc' := 35) rfl (hb hby d2_15) rfl (flt (by decide : ¬ ((8 : Int32) < (8 : Int32)))).2.1 (by decide) (by decide) ?_
    show Steps p.tables e below (s₁.setTop (mkF m 35 #[.val (.ref a0), .val (.long (own_sum j0 j1 j2 j3 j4 j5 j6 j7)), .second, .val (.ref a0), .val (.int (8 : Int32)), .val (.int (8 : Int32)), .val (.long j7), .second] [])) _
    refine XS.lloadN X0.here hx rfl (hb hby d2_35) rfl ?_
    show Steps p.tables e below (s₁.setTop (mkF m 36 #[.val (.ref a0), .val (.long (own_sum j0 j1 j2 j3 j4 j5 j6 j7)), .second, .val (.ref a0), .val (.int (8 : Int32)), .val (.int (8 : Int32)), .val (.long j7), .second] [(.long (own_sum j0 j1 j2 j3 j4 j5 j6 j7))])) _
    refine XS.lconst X0.here hx rfl (hb hby d2_36) ?_
    show Steps p.tables e below (s₁.setTop (mkF m 37 #[.val (.ref a0), .val (.long (own_sum j0 j1 j2 j3 j4 j5 j6 j7)), .second, .val (.ref a0), .val (.int (8 : Int32)), .val (.int (8 : Int32)), .val (.long j7), .second] [(.long (0 : Int64)), (.long (own_sum j0 j1 j2 j3 j4 j5 j6 j7))])) _
    refine XS.lcmp X0.here hx rfl (hb hby d2_37) rfl ?_
    exact k
  by_cases hc111 : (own_sum j0 j1 j2 j3 j4 j5 j6 j7) = (0 : Int64)
  · obtain ⟨fs, hr, hrun, hended, hW, hsame⟩ := X0.leave (v := some (.int (1 : Int32))) (fun h => by rw [Bd.returns] at h; cases h)
    refine ⟨_, _, pre110 _ ?_, hrun, hended, _, _, rfl, ?_, ⟨_, rfl⟩, hW, hsame.mono (by decide) (by decide)⟩
    · show Steps p.tables e below (s₁.setTop (mkF m 38 #[.val (.ref a0), .val (.long (own_sum j0 j1 j2 j3 j4 j5 j6 j7)), .second, .val (.ref a0), .val (.int (8 : Int32)), .val (.int (8 : Int32)), .val (.long j7), .second] [(.int (lcmpW (own_sum j0 j1 j2 j3 j4 j5 j6 j7) (0 : Int64)))])) _
      refine XS.ifNo X0.here hx rfl (hb hby d2_38) rfl ((if0 _ _).trans (teq ((lw_eq (own_sum j0 j1 j2 j3 j4 j5 j6 j7) (0 : Int64)).mpr hc111)).2) ?_
      show Steps p.tables e below (s₁.setTop (mkF m 41 #[.val (.ref a0), .val (.long (own_sum j0 j1 j2 j3 j4 j5 j6 j7)), .second, .val (.ref a0), .val (.int (8 : Int32)), .val (.int (8 : Int32)), .val (.long j7), .second] [])) _
      refine XS.iconst X0.here hx rfl (hb hby d2_41) ?_
      show Steps p.tables e below (s₁.setTop (mkF m 42 #[.val (.ref a0), .val (.long (own_sum j0 j1 j2 j3 j4 j5 j6 j7)), .second, .val (.ref a0), .val (.int (8 : Int32)), .val (.int (8 : Int32)), .val (.long j7), .second] [(.int (1 : Int32))])) _
      refine XS.goto X0.here hx rfl (pc0 := 42) (pc' := 46) rfl (hb hby d2_42) (by decide) (by decide) ?_
      show Steps p.tables e below (s₁.setTop (mkF m 46 #[.val (.ref a0), .val (.long (own_sum j0 j1 j2 j3 j4 j5 j6 j7)), .second, .val (.ref a0), .val (.int (8 : Int32)), .val (.int (8 : Int32)), .val (.long j7), .second] [(.int (1 : Int32))])) _
      exact retN X0 hx (t := .boolean) Bd.returns (by simp) (hb hby d2_46) hr
    · show Q2 Z a0 kk j0 j1 j2 j3 j4 j5 j6 j7 h0 n0 _ s₁.heap _
      rw [e0]
      exact ⟨by rw [own_z, if_pos hc111], N0, rfl⟩
  · obtain ⟨fs, hr, hrun, hended, hW, hsame⟩ := X0.leave (v := some (.int (0 : Int32))) (fun h => by rw [Bd.returns] at h; cases h)
    refine ⟨_, _, pre110 _ ?_, hrun, hended, _, _, rfl, ?_, ⟨_, rfl⟩, hW, hsame.mono (by decide) (by decide)⟩
    · show Steps p.tables e below (s₁.setTop (mkF m 38 #[.val (.ref a0), .val (.long (own_sum j0 j1 j2 j3 j4 j5 j6 j7)), .second, .val (.ref a0), .val (.int (8 : Int32)), .val (.int (8 : Int32)), .val (.long j7), .second] [(.int (lcmpW (own_sum j0 j1 j2 j3 j4 j5 j6 j7) (0 : Int64)))])) _
      refine XS.ifYes X0.here hx rfl (pc0 := 38) (pc' := 45) rfl (hb hby d2_38) rfl ((if0 _ _).trans (feq (fun q => hc111 ((lw_eq (own_sum j0 j1 j2 j3 j4 j5 j6 j7) (0 : Int64)).mp q))).2) (by decide) (by decide) ?_
      show Steps p.tables e below (s₁.setTop (mkF m 45 #[.val (.ref a0), .val (.long (own_sum j0 j1 j2 j3 j4 j5 j6 j7)), .second, .val (.ref a0), .val (.int (8 : Int32)), .val (.int (8 : Int32)), .val (.long j7), .second] [])) _
      refine XS.iconst X0.here hx rfl (hb hby d2_45) ?_
      show Steps p.tables e below (s₁.setTop (mkF m 46 #[.val (.ref a0), .val (.long (own_sum j0 j1 j2 j3 j4 j5 j6 j7)), .second, .val (.ref a0), .val (.int (8 : Int32)), .val (.int (8 : Int32)), .val (.long j7), .second] [(.int (0 : Int32))])) _
      exact retN X0 hx (t := .boolean) Bd.returns (by simp) (hb hby d2_46) hr
    · show Q2 Z a0 kk j0 j1 j2 j3 j4 j5 j6 j7 h0 n0 _ s₁.heap _
      rw [e0]
      exact ⟨by rw [own_z, if_neg hc111], N0, rfl⟩
theorem pd_0 : parseMethodDescriptor "(IIJ)J" = some ⟨[.int, .int, .long], some .long⟩ := by decide +kernel
theorem pd_1 : parseMethodDescriptor "([J)Z" = some ⟨[(.array .long)], some .boolean⟩ := by decide +kernel
theorem ef_rm0 (m : MethodId) (x0 : Int64) (x1 : Int64) (x2 : Int64) (x3 : Int64) (x4 : Int32) (x5 : Int32) : entryFrame m #[(.long x0), (.long x1), (.long x2), (.long x3), (.int x4), (.int x5)] maxLocals = mkF m 0 #[.val (.long x0), .second, .val (.long x1), .second, .val (.long x2), .second, .val (.long x3), .second, .val (.int x4), .val (.int x5), .unset, .unset, .unset] [] := by first | (simp [entryFrame, mkF, argsToLocals, Value.category, maxLocals]; done) | rfl
def Q0 (Z : State) (q0 : Int64) (q1 : Int64) (q2 : Int64) (q3 : Int64) (p4 : Int32) (p5 : Int32) (h0 : Heap) (n0 : Nat) (v : Option Value) (h : Heap) (L : List Loc) : Prop := v = some (.int 1) ∧ Fr n0 L
set_option maxRecDepth 65536 in
set_option maxHeartbeats 40000000 in
theorem rm0 (l : Launch) (Z : State) (aw : Array Value) (hw : ∀ d ∈ tables_1, d.before aw Z = true) (ws : List Jvm.Cond) (q0 : Int64) (q1 : Int64) (q2 : Int64) (q3 : Int64) (p4 : Int32) (p5 : Int32) (h0 : Heap) (n0 : Nat) (Z0 : n0 ≤ h0.size) :
    MetFree l x (head1 (Jvm.Cond.code x code maxLocals ret :: ws) room_1) (fun a U => a = #[(.long q0), (.long q1), (.long q2), (.long q3), (.int p4), (.int p5)] ∧ Z.Warmed39 U.vm ∧ U.heap = h0) (fun _ _ _ _ _ => True) (fun _ U oc U' => ∃ v L, oc = .returned v ∧ Q0 Z q0 q1 q2 q3 p4 p5 h0 n0 v U'.heap L ∧ FrameEnd U oc U' L room_1.cells room_1.slots) := by
  refine MetFree.of_bodySF (plainFor_of_name pn_0) hisR ?_
  intro p e s m args below meth c s₁ Bd hml0 hP hK
  obtain ⟨rfl, hZ, hh⟩ := hP
  have hx := Bd.exec
  have hby := Bd.bytes
  have hml : c.maxLocals = 13 := hml0
  have hown : s.vm.findClass "com/example/serialroute/serialroute/core/P256FieldIsZeroPinLaw" = some m.cls := findClass_of_methodNamed Bd.named
  have hnm := (name_of_methodNamed Bd.named Bd.method).1
  have X0 : Stand p l e room_1 s m #[(.long q0), (.long q1), (.long q2), (.long q3), (.int p4), (.int p5)] below meth c s₁ [] 0 0 := Stand.of_body Bd
  have e0 : s₁.heap = h0 := by rw [← hh, Bd.state]; rfl
  have N0 := Fr.nil n0
  have pre0 : ∀ t, Steps p.tables e below (s₁.setTop (mkF m 0 #[.val (.long q0), .second, .val (.long q1), .second, .val (.long q2), .second, .val (.long q3), .second, .val (.int p4), .val (.int p5), .unset, .unset, .unset] [])) t → Steps p.tables e below (s₁.setTop (entryFrame m #[(.long q0), (.long q1), (.long q2), (.long q3), (.int p4), (.int p5)] maxLocals)) t := fun t k => castTop (ef_rm0 m q0 q1 q2 q3 p4 p5) k
  obtain ⟨T101, h101, k101, X101, e101, E101, A101, st101⟩ := newP X0 hx hZ (hw _ (List.mem_of_getElem? (i := 0) rfl)) e0 (g := (mkF m 2 #[.val (.long q0), .second, .val (.long q1), .second, .val (.long q2), .second, .val (.long q3), .second, .val (.int p4), .val (.int p5), .unset, .unset, .unset] [(.int (8 : Int32))])) rfl (hb hby at_2) rfl (by decide) (cap := 8) (by decide) (by decide) (by decide) (by decide)
  obtain ⟨b101, g101⟩ : ∃ z, z = h0.size := ⟨_, rfl⟩
  rw [← g101] at A101 st101
  have ge101 : n0 ≤ b101 := Nat.le_trans Z0 (Nat.le_of_eq g101.symm)
  have sz101 : h0.size ≤ b101 := Nat.le_of_eq g101.symm
  have Z101 : n0 ≤ h101.size := Nat.le_trans Z0 E101.1
  have K101 : Keep h0 h101 [] := (Keep.refl h0 []).ext E101
  have V101 : Arv Z h101 b101 k101 .long (8 : Int32) [(.long (0 : Int64)), (.long (0 : Int64)), (.long (0 : Int64)), (.long (0 : Int64)), (.long (0 : Int64)), (.long (0 : Int64)), (.long (0 : Int64)), (.long (0 : Int64))] (.long (0 : Int64)) := (Arv.new A101 (by decide)).pad (pad_rep [] (.long (0 : Int64)) 8)
  obtain ⟨_, _, ⟨T102, L102, k102, n102⟩, -, X102, ⟨Lc102, hQ102, l102, y102, z102⟩, st102⟩ := Jvm.LawKit.callS X101 hx (y := (⟨"com/example/serialroute/serialroute/core/P256FieldIsZeroPinLaw", "pick", "(IIJ)J"⟩ : MethodName)) hown (mvT hZ (hw _ (List.mem_of_getElem? (i := 1) rfl))) (mvT hZ (hw _ (List.mem_of_getElem? (i := 2) rfl))) (mvT hZ (hw _ (List.mem_of_getElem? (i := 3) rfl))) (mvT hZ (hw _ (List.mem_of_getElem? (i := 4) rfl))) (by decide) (backOf (W := 2) (rm1 l Z aw hw [] p5 (0 : Int32) q0 h101 n0 Z101 ) hZ (hw _ (List.mem_of_getElem? (i := 4) rfl)) (hw _ (List.mem_of_getElem? (i := 3) rfl)) (by decide) (by decide)) (g := (mkF m 13 #[.val (.long q0), .second, .val (.long q1), .second, .val (.long q2), .second, .val (.long q3), .second, .val (.int p4), .val (.int p5), .val (.ref b101), .unset, .unset] [(.long q0), (.int (0 : Int32)), (.int p5), (.int (0 : Int32)), (.ref b101)])) rfl (by rw [hml]; rfl) (argsL := [(.int p5), (.int (0 : Int32)), (.long q0)]) (rest := [(.int (0 : Int32)), (.ref b101)]) (lenOf pd_0 rfl) rfl (by show 2 * 0 + _ ≤ _; exact Nat.le_of_eq rfl) (hb hby at_13) (fun _ _ => ⟨rfl, e101, (by decide : 1 + 0 ≤ _), (by decide : 8 + 0 ≤ _)⟩)
  dsimp only [Pt.U, Pt.locs, Pt.cells, Pt.slots] at X102 l102 y102 z102 st102 hQ102
  subst l102 y102 z102
  obtain ⟨rfl, N102q, e102⟩ := hQ102
  have N102 := Fr.app N0 N102q
  obtain ⟨cl103, Ar103, q103, S103, M103, H103, G103⟩ := id V101
  obtain ⟨T104, h104, X104, e104, W104, st104⟩ := stJ X102 hx hZ e102 Ar103 (j := (0 : Int32)) (inb_of S103 ⟨by decide, by decide⟩) (g := (mkF m 16 #[.val (.long q0), .second, .val (.long q1), .second, .val (.long q2), .second, .val (.long q3), .second, .val (.int p4), .val (.int p5), .val (.ref b101), .unset, .unset] [(.long (own_pick p5 (0 : Int32) q0)), (.int (0 : Int32)), (.ref b101)])) rfl rfl (hb hby at_16)
  have V104 := Arv.set Ar103 q103 S103 M103 H103 G103 rfl W104 0 rfl (Nat.le_of_ble_eq_true rfl)
  have K104 : Keep h0 h104 [] := K101.wr W104 (Or.inr sz101)
  have N104 := Fr.snoc X104 N102 ge101
  have Z104 : n0 ≤ h104.size := Nat.le_trans Z101 (Keep.of_wr W104).1
  have V104b : Arv Z h104 b101 k101 .long (8 : Int32) [(.long (own_pick p5 (0 : Int32) q0)), (.long (0 : Int64)), (.long (0 : Int64)), (.long (0 : Int64)), (.long (0 : Int64)), (.long (0 : Int64)), (.long (0 : Int64)), (.long (0 : Int64))] (.long (0 : Int64)) := V104
  obtain ⟨_, _, ⟨T105, L105, k105, n105⟩, -, X105, ⟨Lc105, hQ105, l105, y105, z105⟩, st105⟩ := Jvm.LawKit.callS X104 hx (y := (⟨"com/example/serialroute/serialroute/core/P256FieldIsZeroPinLaw", "pick", "(IIJ)J"⟩ : MethodName)) hown (mvT hZ (hw _ (List.mem_of_getElem? (i := 1) rfl))) (mvT hZ (hw _ (List.mem_of_getElem? (i := 2) rfl))) (mvT hZ (hw _ (List.mem_of_getElem? (i := 3) rfl))) (mvT hZ (hw _ (List.mem_of_getElem? (i := 4) rfl))) (by decide) (backOf (W := 2) (rm1 l Z aw hw [] p5 (1 : Int32) q1 h104 n0 Z104 ) hZ (hw _ (List.mem_of_getElem? (i := 4) rfl)) (hw _ (List.mem_of_getElem? (i := 3) rfl)) (by decide) (by decide)) (g := (mkF m 24 #[.val (.long q0), .second, .val (.long q1), .second, .val (.long q2), .second, .val (.long q3), .second, .val (.int p4), .val (.int p5), .val (.ref b101), .unset, .unset] [(.long q1), (.int (1 : Int32)), (.int p5), (.int (1 : Int32)), (.ref b101)])) rfl (by rw [hml]; rfl) (argsL := [(.int p5), (.int (1 : Int32)), (.long q1)]) (rest := [(.int (1 : Int32)), (.ref b101)]) (lenOf pd_0 rfl) rfl (by show 2 * 0 + _ ≤ _; exact Nat.le_of_eq rfl) (hb hby at_24) (fun _ _ => ⟨rfl, e104, (by decide : 1 + 0 ≤ _), (by decide : 8 + 0 ≤ _)⟩)
  dsimp only [Pt.U, Pt.locs, Pt.cells, Pt.slots] at X105 l105 y105 z105 st105 hQ105
  subst l105 y105 z105
  obtain ⟨rfl, N105q, e105⟩ := hQ105
  have N105 := Fr.app N104 N105q
  obtain ⟨cl106, Ar106, q106, S106, M106, H106, G106⟩ := id V104b
  obtain ⟨T107, h107, X107, e107, W107, st107⟩ := stJ X105 hx hZ e105 Ar106 (j := (1 : Int32)) (inb_of S106 ⟨by decide, by decide⟩) (g := (mkF m 27 #[.val (.long q0), .second, .val (.long q1), .second, .val (.long q2), .second, .val (.long q3), .second, .val (.int p4), .val (.int p5), .val (.ref b101), .unset, .unset] [(.long (own_pick p5 (1 : Int32) q1)), (.int (1 : Int32)), (.ref b101)])) rfl rfl (hb hby at_27)
  have V107 := Arv.set Ar106 q106 S106 M106 H106 G106 rfl W107 1 rfl (Nat.le_of_ble_eq_true rfl)
  have K107 : Keep h0 h107 [] := K104.wr W107 (Or.inr sz101)
  have N107 := Fr.snoc X107 N105 ge101
  have Z107 : n0 ≤ h107.size := Nat.le_trans Z104 (Keep.of_wr W107).1
  have V107b : Arv Z h107 b101 k101 .long (8 : Int32) [(.long (own_pick p5 (0 : Int32) q0)), (.long (own_pick p5 (1 : Int32) q1)), (.long (0 : Int64)), (.long (0 : Int64)), (.long (0 : Int64)), (.long (0 : Int64)), (.long (0 : Int64)), (.long (0 : Int64))] (.long (0 : Int64)) := V107
  obtain ⟨_, _, ⟨T108, L108, k108, n108⟩, -, X108, ⟨Lc108, hQ108, l108, y108, z108⟩, st108⟩ := Jvm.LawKit.callS X107 hx (y := (⟨"com/example/serialroute/serialroute/core/P256FieldIsZeroPinLaw", "pick", "(IIJ)J"⟩ : MethodName)) hown (mvT hZ (hw _ (List.mem_of_getElem? (i := 1) rfl))) (mvT hZ (hw _ (List.mem_of_getElem? (i := 2) rfl))) (mvT hZ (hw _ (List.mem_of_getElem? (i := 3) rfl))) (mvT hZ (hw _ (List.mem_of_getElem? (i := 4) rfl))) (by decide) (backOf (W := 2) (rm1 l Z aw hw [] p5 (2 : Int32) q2 h107 n0 Z107 ) hZ (hw _ (List.mem_of_getElem? (i := 4) rfl)) (hw _ (List.mem_of_getElem? (i := 3) rfl)) (by decide) (by decide)) (g := (mkF m 36 #[.val (.long q0), .second, .val (.long q1), .second, .val (.long q2), .second, .val (.long q3), .second, .val (.int p4), .val (.int p5), .val (.ref b101), .unset, .unset] [(.long q2), (.int (2 : Int32)), (.int p5), (.int (2 : Int32)), (.ref b101)])) rfl (by rw [hml]; rfl) (argsL := [(.int p5), (.int (2 : Int32)), (.long q2)]) (rest := [(.int (2 : Int32)), (.ref b101)]) (lenOf pd_0 rfl) rfl (by show 2 * 0 + _ ≤ _; exact Nat.le_of_eq rfl) (hb hby at_36) (fun _ _ => ⟨rfl, e107, (by decide : 1 + 0 ≤ _), (by decide : 8 + 0 ≤ _)⟩)
  dsimp only [Pt.U, Pt.locs, Pt.cells, Pt.slots] at X108 l108 y108 z108 st108 hQ108
  subst l108 y108 z108
  obtain ⟨rfl, N108q, e108⟩ := hQ108
  have N108 := Fr.app N107 N108q
  obtain ⟨cl109, Ar109, q109, S109, M109, H109, G109⟩ := id V107b
  obtain ⟨T110, h110, X110, e110, W110, st110⟩ := stJ X108 hx hZ e108 Ar109 (j := (2 : Int32)) (inb_of S109 ⟨by decide, by decide⟩) (g := (mkF m 39 #[.val (.long q0), .second, .val (.long q1), .second, .val (.long q2), .second, .val (.long q3), .second, .val (.int p4), .val (.int p5), .val (.ref b101), .unset, .unset] [(.long (own_pick p5 (2 : Int32) q2)), (.int (2 : Int32)), (.ref b101)])) rfl rfl (hb hby at_39)
  have V110 := Arv.set Ar109 q109 S109 M109 H109 G109 rfl W110 2 rfl (Nat.le_of_ble_eq_true rfl)
  have K110 : Keep h0 h110 [] := K107.wr W110 (Or.inr sz101)
  have N110 := Fr.snoc X110 N108 ge101
  have Z110 : n0 ≤ h110.size := Nat.le_trans Z107 (Keep.of_wr W110).1
  have V110b : Arv Z h110 b101 k101 .long (8 : Int32) [(.long (own_pick p5 (0 : Int32) q0)), (.long (own_pick p5 (1 : Int32) q1)), (.long (own_pick p5 (2 : Int32) q2)), (.long (0 : Int64)), (.long (0 : Int64)), (.long (0 : Int64)), (.long (0 : Int64)), (.long (0 : Int64))] (.long (0 : Int64)) := V110
  obtain ⟨_, _, ⟨T111, L111, k111, n111⟩, -, X111, ⟨Lc111, hQ111, l111, y111, z111⟩, st111⟩ := Jvm.LawKit.callS X110 hx (y := (⟨"com/example/serialroute/serialroute/core/P256FieldIsZeroPinLaw", "pick", "(IIJ)J"⟩ : MethodName)) hown (mvT hZ (hw _ (List.mem_of_getElem? (i := 1) rfl))) (mvT hZ (hw _ (List.mem_of_getElem? (i := 2) rfl))) (mvT hZ (hw _ (List.mem_of_getElem? (i := 3) rfl))) (mvT hZ (hw _ (List.mem_of_getElem? (i := 4) rfl))) (by decide) (backOf (W := 2) (rm1 l Z aw hw [] p5 (3 : Int32) q3 h110 n0 Z110 ) hZ (hw _ (List.mem_of_getElem? (i := 4) rfl)) (hw _ (List.mem_of_getElem? (i := 3) rfl)) (by decide) (by decide)) (g := (mkF m 48 #[.val (.long q0), .second, .val (.long q1), .second, .val (.long q2), .second, .val (.long q3), .second, .val (.int p4), .val (.int p5), .val (.ref b101), .unset, .unset] [(.long q3), (.int (3 : Int32)), (.int p5), (.int (3 : Int32)), (.ref b101)])) rfl (by rw [hml]; rfl) (argsL := [(.int p5), (.int (3 : Int32)), (.long q3)]) (rest := [(.int (3 : Int32)), (.ref b101)]) (lenOf pd_0 rfl) rfl (by show 2 * 0 + _ ≤ _; exact Nat.le_of_eq rfl) (hb hby at_48) (fun _ _ => ⟨rfl, e110, (by decide : 1 + 0 ≤ _), (by decide : 8 + 0 ≤ _)⟩)
  dsimp only [Pt.U, Pt.locs, Pt.cells, Pt.slots] at X111 l111 y111 z111 st111 hQ111
  subst l111 y111 z111
  obtain ⟨rfl, N111q, e111⟩ := hQ111
  have N111 := Fr.app N110 N111q
  obtain ⟨cl112, Ar112, q112, S112, M112, H112, G112⟩ := id V110b
  obtain ⟨T113, h113, X113, e113, W113, st113⟩ := stJ X111 hx hZ e111 Ar112 (j := (3 : Int32)) (inb_of S112 ⟨by decide, by decide⟩) (g := (mkF m 51 #[.val (.long q0), .second, .val (.long q1), .second, .val (.long q2), .second, .val (.long q3), .second, .val (.int p4), .val (.int p5), .val (.ref b101), .unset, .unset] [(.long (own_pick p5 (3 : Int32) q3)), (.int (3 : Int32)), (.ref b101)])) rfl rfl (hb hby at_51)
  have V113 := Arv.set Ar112 q112 S112 M112 H112 G112 rfl W113 3 rfl (Nat.le_of_ble_eq_true rfl)
  have K113 : Keep h0 h113 [] := K110.wr W113 (Or.inr sz101)
  have N113 := Fr.snoc X113 N111 ge101
  have Z113 : n0 ≤ h113.size := Nat.le_trans Z110 (Keep.of_wr W113).1
  have V113b : Arv Z h113 b101 k101 .long (8 : Int32) [(.long (own_pick p5 (0 : Int32) q0)), (.long (own_pick p5 (1 : Int32) q1)), (.long (own_pick p5 (2 : Int32) q2)), (.long (own_pick p5 (3 : Int32) q3)), (.long (0 : Int64)), (.long (0 : Int64)), (.long (0 : Int64)), (.long (0 : Int64))] (.long (0 : Int64)) := V113
  obtain ⟨_, _, ⟨T114, L114, k114, n114⟩, -, X114, ⟨Lc114, hQ114, l114, y114, z114⟩, st114⟩ := Jvm.LawKit.callS X113 hx (y := (⟨"com/example/serialroute/serialroute/core/P256FieldIsZeroPinLaw", "pick", "(IIJ)J"⟩ : MethodName)) hown (mvT hZ (hw _ (List.mem_of_getElem? (i := 1) rfl))) (mvT hZ (hw _ (List.mem_of_getElem? (i := 2) rfl))) (mvT hZ (hw _ (List.mem_of_getElem? (i := 3) rfl))) (mvT hZ (hw _ (List.mem_of_getElem? (i := 4) rfl))) (by decide) (backOf (W := 2) (rm1 l Z aw hw [] p5 (4 : Int32) (-q0) h113 n0 Z113 ) hZ (hw _ (List.mem_of_getElem? (i := 4) rfl)) (hw _ (List.mem_of_getElem? (i := 3) rfl)) (by decide) (by decide)) (g := (mkF m 60 #[.val (.long q0), .second, .val (.long q1), .second, .val (.long q2), .second, .val (.long q3), .second, .val (.int p4), .val (.int p5), .val (.ref b101), .unset, .unset] [(.long (-q0)), (.int (4 : Int32)), (.int p5), (.int (4 : Int32)), (.ref b101)])) rfl (by rw [hml]; rfl) (argsL := [(.int p5), (.int (4 : Int32)), (.long (-q0))]) (rest := [(.int (4 : Int32)), (.ref b101)]) (lenOf pd_0 rfl) rfl (by show 2 * 0 + _ ≤ _; exact Nat.le_of_eq rfl) (hb hby at_60) (fun _ _ => ⟨rfl, e113, (by decide : 1 + 0 ≤ _), (by decide : 8 + 0 ≤ _)⟩)
  dsimp only [Pt.U, Pt.locs, Pt.cells, Pt.slots] at X114 l114 y114 z114 st114 hQ114
  subst l114 y114 z114
  obtain ⟨rfl, N114q, e114⟩ := hQ114
  have N114 := Fr.app N113 N114q
  obtain ⟨cl115, Ar115, q115, S115, M115, H115, G115⟩ := id V113b
  obtain ⟨T116, h116, X116, e116, W116, st116⟩ := stJ X114 hx hZ e114 Ar115 (j := (4 : Int32)) (inb_of S115 ⟨by decide, by decide⟩) (g := (mkF m 63 #[.val (.long q0), .second, .val (.long q1), .second, .val (.long q2), .second, .val (.long q3), .second, .val (.int p4), .val (.int p5), .val (.ref b101), .unset, .unset] [(.long (own_pick p5 (4 : Int32) (-q0))), (.int (4 : Int32)), (.ref b101)])) rfl rfl (hb hby at_63)
  have V116 := Arv.set Ar115 q115 S115 M115 H115 G115 rfl W116 4 rfl (Nat.le_of_ble_eq_true rfl)
  have K116 : Keep h0 h116 [] := K113.wr W116 (Or.inr sz101)
  have N116 := Fr.snoc X116 N114 ge101
  have Z116 : n0 ≤ h116.size := Nat.le_trans Z113 (Keep.of_wr W116).1
  have V116b : Arv Z h116 b101 k101 .long (8 : Int32) [(.long (own_pick p5 (0 : Int32) q0)), (.long (own_pick p5 (1 : Int32) q1)), (.long (own_pick p5 (2 : Int32) q2)), (.long (own_pick p5 (3 : Int32) q3)), (.long (own_pick p5 (4 : Int32) (-q0))), (.long (0 : Int64)), (.long (0 : Int64)), (.long (0 : Int64))] (.long (0 : Int64)) := V116
  obtain ⟨_, _, ⟨T117, L117, k117, n117⟩, -, X117, ⟨Lc117, hQ117, l117, y117, z117⟩, st117⟩ := Jvm.LawKit.callS X116 hx (y := (⟨"com/example/serialroute/serialroute/core/P256FieldIsZeroPinLaw", "pick", "(IIJ)J"⟩ : MethodName)) hown (mvT hZ (hw _ (List.mem_of_getElem? (i := 1) rfl))) (mvT hZ (hw _ (List.mem_of_getElem? (i := 2) rfl))) (mvT hZ (hw _ (List.mem_of_getElem? (i := 3) rfl))) (mvT hZ (hw _ (List.mem_of_getElem? (i := 4) rfl))) (by decide) (backOf (W := 2) (rm1 l Z aw hw [] p5 (5 : Int32) (-q1) h116 n0 Z116 ) hZ (hw _ (List.mem_of_getElem? (i := 4) rfl)) (hw _ (List.mem_of_getElem? (i := 3) rfl)) (by decide) (by decide)) (g := (mkF m 72 #[.val (.long q0), .second, .val (.long q1), .second, .val (.long q2), .second, .val (.long q3), .second, .val (.int p4), .val (.int p5), .val (.ref b101), .unset, .unset] [(.long (-q1)), (.int (5 : Int32)), (.int p5), (.int (5 : Int32)), (.ref b101)])) rfl (by rw [hml]; rfl) (argsL := [(.int p5), (.int (5 : Int32)), (.long (-q1))]) (rest := [(.int (5 : Int32)), (.ref b101)]) (lenOf pd_0 rfl) rfl (by show 2 * 0 + _ ≤ _; exact Nat.le_of_eq rfl) (hb hby at_72) (fun _ _ => ⟨rfl, e116, (by decide : 1 + 0 ≤ _), (by decide : 8 + 0 ≤ _)⟩)
  dsimp only [Pt.U, Pt.locs, Pt.cells, Pt.slots] at X117 l117 y117 z117 st117 hQ117
  subst l117 y117 z117
  obtain ⟨rfl, N117q, e117⟩ := hQ117
  have N117 := Fr.app N116 N117q
  obtain ⟨cl118, Ar118, q118, S118, M118, H118, G118⟩ := id V116b
  obtain ⟨T119, h119, X119, e119, W119, st119⟩ := stJ X117 hx hZ e117 Ar118 (j := (5 : Int32)) (inb_of S118 ⟨by decide, by decide⟩) (g := (mkF m 75 #[.val (.long q0), .second, .val (.long q1), .second, .val (.long q2), .second, .val (.long q3), .second, .val (.int p4), .val (.int p5), .val (.ref b101), .unset, .unset] [(.long (own_pick p5 (5 : Int32) (-q1))), (.int (5 : Int32)), (.ref b101)])) rfl rfl (hb hby at_75)
  have V119 := Arv.set Ar118 q118 S118 M118 H118 G118 rfl W119 5 rfl (Nat.le_of_ble_eq_true rfl)
  have K119 : Keep h0 h119 [] := K116.wr W119 (Or.inr sz101)
  have N119 := Fr.snoc X119 N117 ge101
  have Z119 : n0 ≤ h119.size := Nat.le_trans Z116 (Keep.of_wr W119).1
  have V119b : Arv Z h119 b101 k101 .long (8 : Int32) [(.long (own_pick p5 (0 : Int32) q0)), (.long (own_pick p5 (1 : Int32) q1)), (.long (own_pick p5 (2 : Int32) q2)), (.long (own_pick p5 (3 : Int32) q3)), (.long (own_pick p5 (4 : Int32) (-q0))), (.long (own_pick p5 (5 : Int32) (-q1))), (.long (0 : Int64)), (.long (0 : Int64))] (.long (0 : Int64)) := V119
  obtain ⟨_, _, ⟨T120, L120, k120, n120⟩, -, X120, ⟨Lc120, hQ120, l120, y120, z120⟩, st120⟩ := Jvm.LawKit.callS X119 hx (y := (⟨"com/example/serialroute/serialroute/core/P256FieldIsZeroPinLaw", "pick", "(IIJ)J"⟩ : MethodName)) hown (mvT hZ (hw _ (List.mem_of_getElem? (i := 1) rfl))) (mvT hZ (hw _ (List.mem_of_getElem? (i := 2) rfl))) (mvT hZ (hw _ (List.mem_of_getElem? (i := 3) rfl))) (mvT hZ (hw _ (List.mem_of_getElem? (i := 4) rfl))) (by decide) (backOf (W := 2) (rm1 l Z aw hw [] p5 (6 : Int32) (p4.toInt64) h119 n0 Z119 ) hZ (hw _ (List.mem_of_getElem? (i := 4) rfl)) (hw _ (List.mem_of_getElem? (i := 3) rfl)) (by decide) (by decide)) (g := (mkF m 87 #[.val (.long q0), .second, .val (.long q1), .second, .val (.long q2), .second, .val (.long q3), .second, .val (.int p4), .val (.int p5), .val (.ref b101), .unset, .unset] [(.long (p4.toInt64)), (.int (6 : Int32)), (.int p5), (.int (6 : Int32)), (.ref b101)])) rfl (by rw [hml]; rfl) (argsL := [(.int p5), (.int (6 : Int32)), (.long (p4.toInt64))]) (rest := [(.int (6 : Int32)), (.ref b101)]) (lenOf pd_0 rfl) rfl (by show 2 * 0 + _ ≤ _; exact Nat.le_of_eq rfl) (hb hby at_87) (fun _ _ => ⟨rfl, e119, (by decide : 1 + 0 ≤ _), (by decide : 8 + 0 ≤ _)⟩)
  dsimp only [Pt.U, Pt.locs, Pt.cells, Pt.slots] at X120 l120 y120 z120 st120 hQ120
  subst l120 y120 z120
  obtain ⟨rfl, N120q, e120⟩ := hQ120
  have N120 := Fr.app N119 N120q
  obtain ⟨cl121, Ar121, q121, S121, M121, H121, G121⟩ := id V119b
  obtain ⟨T122, h122, X122, e122, W122, st122⟩ := stJ X120 hx hZ e120 Ar121 (j := (6 : Int32)) (inb_of S121 ⟨by decide, by decide⟩) (g := (mkF m 90 #[.val (.long q0), .second, .val (.long q1), .second, .val (.long q2), .second, .val (.long q3), .second, .val (.int p4), .val (.int p5), .val (.ref b101), .unset, .unset] [(.long (own_pick p5 (6 : Int32) (p4.toInt64))), (.int (6 : Int32)), (.ref b101)])) rfl rfl (hb hby at_90)
  have V122 := Arv.set Ar121 q121 S121 M121 H121 G121 rfl W122 6 rfl (Nat.le_of_ble_eq_true rfl)
  have K122 : Keep h0 h122 [] := K119.wr W122 (Or.inr sz101)
  have N122 := Fr.snoc X122 N120 ge101
  have Z122 : n0 ≤ h122.size := Nat.le_trans Z119 (Keep.of_wr W122).1
  have V122b : Arv Z h122 b101 k101 .long (8 : Int32) [(.long (own_pick p5 (0 : Int32) q0)), (.long (own_pick p5 (1 : Int32) q1)), (.long (own_pick p5 (2 : Int32) q2)), (.long (own_pick p5 (3 : Int32) q3)), (.long (own_pick p5 (4 : Int32) (-q0))), (.long (own_pick p5 (5 : Int32) (-q1))), (.long (own_pick p5 (6 : Int32) (p4.toInt64))), (.long (0 : Int64))] (.long (0 : Int64)) := V122
  obtain ⟨_, _, ⟨T123, L123, k123, n123⟩, -, X123, ⟨Lc123, hQ123, l123, y123, z123⟩, st123⟩ := Jvm.LawKit.callS X122 hx (y := (⟨"com/example/serialroute/serialroute/core/P256FieldIsZeroPinLaw", "pick", "(IIJ)J"⟩ : MethodName)) hown (mvT hZ (hw _ (List.mem_of_getElem? (i := 1) rfl))) (mvT hZ (hw _ (List.mem_of_getElem? (i := 2) rfl))) (mvT hZ (hw _ (List.mem_of_getElem? (i := 3) rfl))) (mvT hZ (hw _ (List.mem_of_getElem? (i := 4) rfl))) (by decide) (backOf (W := 2) (rm1 l Z aw hw [] p5 (7 : Int32) q0 h122 n0 Z122 ) hZ (hw _ (List.mem_of_getElem? (i := 4) rfl)) (hw _ (List.mem_of_getElem? (i := 3) rfl)) (by decide) (by decide)) (g := (mkF m 100 #[.val (.long q0), .second, .val (.long q1), .second, .val (.long q2), .second, .val (.long q3), .second, .val (.int p4), .val (.int p5), .val (.ref b101), .unset, .unset] [(.long q0), (.int (7 : Int32)), (.int p5), (.int (7 : Int32)), (.ref b101)])) rfl (by rw [hml]; rfl) (argsL := [(.int p5), (.int (7 : Int32)), (.long q0)]) (rest := [(.int (7 : Int32)), (.ref b101)]) (lenOf pd_0 rfl) rfl (by show 2 * 0 + _ ≤ _; exact Nat.le_of_eq rfl) (hb hby at_100) (fun _ _ => ⟨rfl, e122, (by decide : 1 + 0 ≤ _), (by decide : 8 + 0 ≤ _)⟩)
  dsimp only [Pt.U, Pt.locs, Pt.cells, Pt.slots] at X123 l123 y123 z123 st123 hQ123
  subst l123 y123 z123
  obtain ⟨rfl, N123q, e123⟩ := hQ123
  have N123 := Fr.app N122 N123q
  obtain ⟨cl124, Ar124, q124, S124, M124, H124, G124⟩ := id V122b
  obtain ⟨T125, h125, X125, e125, W125, st125⟩ := stJ X123 hx hZ e123 Ar124 (j := (7 : Int32)) (inb_of S124 ⟨by decide, by decide⟩) (g := (mkF m 103 #[.val (.long q0), .second, .val (.long q1), .second, .val (.long q2), .second, .val (.long q3), .second, .val (.int p4), .val (.int p5), .val (.ref b101), .unset, .unset] [(.long (own_pick p5 (7 : Int32) q0)), (.int (7 : Int32)), (.ref b101)])) rfl rfl (hb hby at_103)
  have V125 := Arv.set Ar124 q124 S124 M124 H124 G124 rfl W125 7 rfl (Nat.le_of_ble_eq_true rfl)
  have K125 : Keep h0 h125 [] := K122.wr W125 (Or.inr sz101)
  have N125 := Fr.snoc X125 N123 ge101
  have Z125 : n0 ≤ h125.size := Nat.le_trans Z122 (Keep.of_wr W125).1
  have V125b : Arv Z h125 b101 k101 .long (8 : Int32) [(.long (own_pick p5 (0 : Int32) q0)), (.long (own_pick p5 (1 : Int32) q1)), (.long (own_pick p5 (2 : Int32) q2)), (.long (own_pick p5 (3 : Int32) q3)), (.long (own_pick p5 (4 : Int32) (-q0))), (.long (own_pick p5 (5 : Int32) (-q1))), (.long (own_pick p5 (6 : Int32) (p4.toInt64))), (.long (own_pick p5 (7 : Int32) q0))] (.long (0 : Int64)) := V125
  obtain ⟨cl126, Ar126, q126, S126, M126, H126, G126⟩ := id V125b
  have pre127 : ∀ t, Steps p.tables e below (T125.setTop (mkF m 110 #[.val (.long q0), .second, .val (.long q1), .second, .val (.long q2), .second, .val (.long q3), .second, .val (.int p4), .val (.int p5), .val (.ref b101), .unset, .unset] [(.int (lcmpW (own_pick p5 (0 : Int32) q0) (0 : Int64)))])) t → Steps p.tables e below (s₁.setTop (entryFrame m #[(.long q0), (.long q1), (.long q2), (.long q3), (.int p4), (.int p5)] maxLocals)) t := fun t k => by
    refine pre0 t ?_
    show Steps p.tables e below (s₁.setTop (mkF m 0 #[.val (.long q0), .second, .val (.long q1), .second, .val (.long q2), .second, .val (.long q3), .second, .val (.int p4), .val (.int p5), .unset, .unset, .unset] [])) _
    refine XS.bipush X0.here hx rfl (hb hby at_0) ?_
    show Steps p.tables e below (s₁.setTop (mkF m 2 #[.val (.long q0), .second, .val (.long q1), .second, .val (.long q2), .second, .val (.long q3), .second, .val (.int p4), .val (.int p5), .unset, .unset, .unset] [(.int (8 : Int32))])) _
    refine st101 _ ?_
    show Steps p.tables e below (T101.setTop (mkF m 4 #[.val (.long q0), .second, .val (.long q1), .second, .val (.long q2), .second, .val (.long q3), .second, .val (.int p4), .val (.int p5), .unset, .unset, .unset] [(.ref b101)])) _
    refine XS.astore X101.here hx rfl (hb hby at_4) rfl rfl (l' := #[.val (.long q0), .second, .val (.long q1), .second, .val (.long q2), .second, .val (.long q3), .second, .val (.int p4), .val (.int p5), .val (.ref b101), .unset, .unset]) rfl ?_
    show Steps p.tables e below (T101.setTop (mkF m 6 #[.val (.long q0), .second, .val (.long q1), .second, .val (.long q2), .second, .val (.long q3), .second, .val (.int p4), .val (.int p5), .val (.ref b101), .unset, .unset] [])) _
    refine XS.aload X101.here hx rfl (hb hby at_6) rfl rfl ?_
    show Steps p.tables e below (T101.setTop (mkF m 8 #[.val (.long q0), .second, .val (.long q1), .second, .val (.long q2), .second, .val (.long q3), .second, .val (.int p4), .val (.int p5), .val (.ref b101), .unset, .unset] [(.ref b101)])) _
    refine XS.iconst X101.here hx rfl (hb hby at_8) ?_
    show Steps p.tables e below (T101.setTop (mkF m 9 #[.val (.long q0), .second, .val (.long q1), .second, .val (.long q2), .second, .val (.long q3), .second, .val (.int p4), .val (.int p5), .val (.ref b101), .unset, .unset] [(.int (0 : Int32)), (.ref b101)])) _
    refine XS.iload X101.here hx rfl (hb hby at_9) rfl ?_
    show Steps p.tables e below (T101.setTop (mkF m 11 #[.val (.long q0), .second, .val (.long q1), .second, .val (.long q2), .second, .val (.long q3), .second, .val (.int p4), .val (.int p5), .val (.ref b101), .unset, .unset] [(.int p5), (.int (0 : Int32)), (.ref b101)])) _
    refine XS.iconst X101.here hx rfl (hb hby at_11) ?_
    show Steps p.tables e below (T101.setTop (mkF m 12 #[.val (.long q0), .second, .val (.long q1), .second, .val (.long q2), .second, .val (.long q3), .second, .val (.int p4), .val (.int p5), .val (.ref b101), .unset, .unset] [(.int (0 : Int32)), (.int p5), (.int (0 : Int32)), (.ref b101)])) _
    refine XS.lloadN X101.here hx rfl (hb hby at_12) rfl ?_
    show Steps p.tables e below (T101.setTop (mkF m 13 #[.val (.long q0), .second, .val (.long q1), .second, .val (.long q2), .second, .val (.long q3), .second, .val (.int p4), .val (.int p5), .val (.ref b101), .unset, .unset] [(.long q0), (.int (0 : Int32)), (.int p5), (.int (0 : Int32)), (.ref b101)])) _
    refine st102 _ ?_
    show Steps p.tables e below (T102.setTop (mkF m 16 #[.val (.long q0), .second, .val (.long q1), .second, .val (.long q2), .second, .val (.long q3), .second, .val (.int p4), .val (.int p5), .val (.ref b101), .unset, .unset] [(.long (own_pick p5 (0 : Int32) q0)), (.int (0 : Int32)), (.ref b101)])) _
    refine st104 _ ?_
    show Steps p.tables e below (T104.setTop (mkF m 17 #[.val (.long q0), .second, .val (.long q1), .second, .val (.long q2), .second, .val (.long q3), .second, .val (.int p4), .val (.int p5), .val (.ref b101), .unset, .unset] [])) _
    refine XS.aload X104.here hx rfl (hb hby at_17) rfl rfl ?_
    show Steps p.tables e below (T104.setTop (mkF m 19 #[.val (.long q0), .second, .val (.long q1), .second, .val (.long q2), .second, .val (.long q3), .second, .val (.int p4), .val (.int p5), .val (.ref b101), .unset, .unset] [(.ref b101)])) _
    refine XS.iconst X104.here hx rfl (hb hby at_19) ?_
    show Steps p.tables e below (T104.setTop (mkF m 20 #[.val (.long q0), .second, .val (.long q1), .second, .val (.long q2), .second, .val (.long q3), .second, .val (.int p4), .val (.int p5), .val (.ref b101), .unset, .unset] [(.int (1 : Int32)), (.ref b101)])) _
    refine XS.iload X104.here hx rfl (hb hby at_20) rfl ?_
    show Steps p.tables e below (T104.setTop (mkF m 22 #[.val (.long q0), .second, .val (.long q1), .second, .val (.long q2), .second, .val (.long q3), .second, .val (.int p4), .val (.int p5), .val (.ref b101), .unset, .unset] [(.int p5), (.int (1 : Int32)), (.ref b101)])) _
    refine XS.iconst X104.here hx rfl (hb hby at_22) ?_
    show Steps p.tables e below (T104.setTop (mkF m 23 #[.val (.long q0), .second, .val (.long q1), .second, .val (.long q2), .second, .val (.long q3), .second, .val (.int p4), .val (.int p5), .val (.ref b101), .unset, .unset] [(.int (1 : Int32)), (.int p5), (.int (1 : Int32)), (.ref b101)])) _
    refine XS.lloadN X104.here hx rfl (hb hby at_23) rfl ?_
    show Steps p.tables e below (T104.setTop (mkF m 24 #[.val (.long q0), .second, .val (.long q1), .second, .val (.long q2), .second, .val (.long q3), .second, .val (.int p4), .val (.int p5), .val (.ref b101), .unset, .unset] [(.long q1), (.int (1 : Int32)), (.int p5), (.int (1 : Int32)), (.ref b101)])) _
    refine st105 _ ?_
    show Steps p.tables e below (T105.setTop (mkF m 27 #[.val (.long q0), .second, .val (.long q1), .second, .val (.long q2), .second, .val (.long q3), .second, .val (.int p4), .val (.int p5), .val (.ref b101), .unset, .unset] [(.long (own_pick p5 (1 : Int32) q1)), (.int (1 : Int32)), (.ref b101)])) _
    refine st107 _ ?_
    show Steps p.tables e below (T107.setTop (mkF m 28 #[.val (.long q0), .second, .val (.long q1), .second, .val (.long q2), .second, .val (.long q3), .second, .val (.int p4), .val (.int p5), .val (.ref b101), .unset, .unset] [])) _
    refine XS.aload X107.here hx rfl (hb hby at_28) rfl rfl ?_
    show Steps p.tables e below (T107.setTop (mkF m 30 #[.val (.long q0), .second, .val (.long q1), .second, .val (.long q2), .second, .val (.long q3), .second, .val (.int p4), .val (.int p5), .val (.ref b101), .unset, .unset] [(.ref b101)])) _
    refine XS.iconst X107.here hx rfl (hb hby at_30) ?_
    show Steps p.tables e below (T107.setTop (mkF m 31 #[.val (.long q0), .second, .val (.long q1), .second, .val (.long q2), .second, .val (.long q3), .second, .val (.int p4), .val (.int p5), .val (.ref b101), .unset, .unset] [(.int (2 : Int32)), (.ref b101)])) _
    refine XS.iload X107.here hx rfl (hb hby at_31) rfl ?_
    show Steps p.tables e below (T107.setTop (mkF m 33 #[.val (.long q0), .second, .val (.long q1), .second, .val (.long q2), .second, .val (.long q3), .second, .val (.int p4), .val (.int p5), .val (.ref b101), .unset, .unset] [(.int p5), (.int (2 : Int32)), (.ref b101)])) _
    refine XS.iconst X107.here hx rfl (hb hby at_33) ?_
    show Steps p.tables e below (T107.setTop (mkF m 34 #[.val (.long q0), .second, .val (.long q1), .second, .val (.long q2), .second, .val (.long q3), .second, .val (.int p4), .val (.int p5), .val (.ref b101), .unset, .unset] [(.int (2 : Int32)), (.int p5), (.int (2 : Int32)), (.ref b101)])) _
    refine XS.lload X107.here hx rfl (hb hby at_34) rfl ?_
    show Steps p.tables e below (T107.setTop (mkF m 36 #[.val (.long q0), .second, .val (.long q1), .second, .val (.long q2), .second, .val (.long q3), .second, .val (.int p4), .val (.int p5), .val (.ref b101), .unset, .unset] [(.long q2), (.int (2 : Int32)), (.int p5), (.int (2 : Int32)), (.ref b101)])) _
    refine st108 _ ?_
    show Steps p.tables e below (T108.setTop (mkF m 39 #[.val (.long q0), .second, .val (.long q1), .second, .val (.long q2), .second, .val (.long q3), .second, .val (.int p4), .val (.int p5), .val (.ref b101), .unset, .unset] [(.long (own_pick p5 (2 : Int32) q2)), (.int (2 : Int32)), (.ref b101)])) _
    refine st110 _ ?_
    show Steps p.tables e below (T110.setTop (mkF m 40 #[.val (.long q0), .second, .val (.long q1), .second, .val (.long q2), .second, .val (.long q3), .second, .val (.int p4), .val (.int p5), .val (.ref b101), .unset, .unset] [])) _
    refine XS.aload X110.here hx rfl (hb hby at_40) rfl rfl ?_
    show Steps p.tables e below (T110.setTop (mkF m 42 #[.val (.long q0), .second, .val (.long q1), .second, .val (.long q2), .second, .val (.long q3), .second, .val (.int p4), .val (.int p5), .val (.ref b101), .unset, .unset] [(.ref b101)])) _
    refine XS.iconst X110.here hx rfl (hb hby at_42) ?_
    show Steps p.tables e below (T110.setTop (mkF m 43 #[.val (.long q0), .second, .val (.long q1), .second, .val (.long q2), .second, .val (.long q3), .second, .val (.int p4), .val (.int p5), .val (.ref b101), .unset, .unset] [(.int (3 : Int32)), (.ref b101)])) _
    refine XS.iload X110.here hx rfl (hb hby at_43) rfl ?_
    show Steps p.tables e below (T110.setTop (mkF m 45 #[.val (.long q0), .second, .val (.long q1), .second, .val (.long q2), .second, .val (.long q3), .second, .val (.int p4), .val (.int p5), .val (.ref b101), .unset, .unset] [(.int p5), (.int (3 : Int32)), (.ref b101)])) _
    refine XS.iconst X110.here hx rfl (hb hby at_45) ?_
    show Steps p.tables e below (T110.setTop (mkF m 46 #[.val (.long q0), .second, .val (.long q1), .second, .val (.long q2), .second, .val (.long q3), .second, .val (.int p4), .val (.int p5), .val (.ref b101), .unset, .unset] [(.int (3 : Int32)), (.int p5), (.int (3 : Int32)), (.ref b101)])) _
    refine XS.lload X110.here hx rfl (hb hby at_46) rfl ?_
    show Steps p.tables e below (T110.setTop (mkF m 48 #[.val (.long q0), .second, .val (.long q1), .second, .val (.long q2), .second, .val (.long q3), .second, .val (.int p4), .val (.int p5), .val (.ref b101), .unset, .unset] [(.long q3), (.int (3 : Int32)), (.int p5), (.int (3 : Int32)), (.ref b101)])) _
    refine st111 _ ?_
    show Steps p.tables e below (T111.setTop (mkF m 51 #[.val (.long q0), .second, .val (.long q1), .second, .val (.long q2), .second, .val (.long q3), .second, .val (.int p4), .val (.int p5), .val (.ref b101), .unset, .unset] [(.long (own_pick p5 (3 : Int32) q3)), (.int (3 : Int32)), (.ref b101)])) _
    refine st113 _ ?_
    show Steps p.tables e below (T113.setTop (mkF m 52 #[.val (.long q0), .second, .val (.long q1), .second, .val (.long q2), .second, .val (.long q3), .second, .val (.int p4), .val (.int p5), .val (.ref b101), .unset, .unset] [])) _
    refine XS.aload X113.here hx rfl (hb hby at_52) rfl rfl ?_
    show Steps p.tables e below (T113.setTop (mkF m 54 #[.val (.long q0), .second, .val (.long q1), .second, .val (.long q2), .second, .val (.long q3), .second, .val (.int p4), .val (.int p5), .val (.ref b101), .unset, .unset] [(.ref b101)])) _
    refine XS.iconst X113.here hx rfl (hb hby at_54) ?_
    show Steps p.tables e below (T113.setTop (mkF m 55 #[.val (.long q0), .second, .val (.long q1), .second, .val (.long q2), .second, .val (.long q3), .second, .val (.int p4), .val (.int p5), .val (.ref b101), .unset, .unset] [(.int (4 : Int32)), (.ref b101)])) _
    refine XS.iload X113.here hx rfl (hb hby at_55) rfl ?_
    show Steps p.tables e below (T113.setTop (mkF m 57 #[.val (.long q0), .second, .val (.long q1), .second, .val (.long q2), .second, .val (.long q3), .second, .val (.int p4), .val (.int p5), .val (.ref b101), .unset, .unset] [(.int p5), (.int (4 : Int32)), (.ref b101)])) _
    refine XS.iconst X113.here hx rfl (hb hby at_57) ?_
    show Steps p.tables e below (T113.setTop (mkF m 58 #[.val (.long q0), .second, .val (.long q1), .second, .val (.long q2), .second, .val (.long q3), .second, .val (.int p4), .val (.int p5), .val (.ref b101), .unset, .unset] [(.int (4 : Int32)), (.int p5), (.int (4 : Int32)), (.ref b101)])) _
    refine XS.lloadN X113.here hx rfl (hb hby at_58) rfl ?_
    show Steps p.tables e below (T113.setTop (mkF m 59 #[.val (.long q0), .second, .val (.long q1), .second, .val (.long q2), .second, .val (.long q3), .second, .val (.int p4), .val (.int p5), .val (.ref b101), .unset, .unset] [(.long q0), (.int (4 : Int32)), (.int p5), (.int (4 : Int32)), (.ref b101)])) _
    refine XS.lneg X113.here hx rfl (hb hby at_59) rfl ?_
    show Steps p.tables e below (T113.setTop (mkF m 60 #[.val (.long q0), .second, .val (.long q1), .second, .val (.long q2), .second, .val (.long q3), .second, .val (.int p4), .val (.int p5), .val (.ref b101), .unset, .unset] [(.long (-q0)), (.int (4 : Int32)), (.int p5), (.int (4 : Int32)), (.ref b101)])) _
    refine st114 _ ?_
    show Steps p.tables e below (T114.setTop (mkF m 63 #[.val (.long q0), .second, .val (.long q1), .second, .val (.long q2), .second, .val (.long q3), .second, .val (.int p4), .val (.int p5), .val (.ref b101), .unset, .unset] [(.long (own_pick p5 (4 : Int32) (-q0))), (.int (4 : Int32)), (.ref b101)])) _
    refine st116 _ ?_
    show Steps p.tables e below (T116.setTop (mkF m 64 #[.val (.long q0), .second, .val (.long q1), .second, .val (.long q2), .second, .val (.long q3), .second, .val (.int p4), .val (.int p5), .val (.ref b101), .unset, .unset] [])) _
    refine XS.aload X116.here hx rfl (hb hby at_64) rfl rfl ?_
    show Steps p.tables e below (T116.setTop (mkF m 66 #[.val (.long q0), .second, .val (.long q1), .second, .val (.long q2), .second, .val (.long q3), .second, .val (.int p4), .val (.int p5), .val (.ref b101), .unset, .unset] [(.ref b101)])) _
    refine XS.iconst X116.here hx rfl (hb hby at_66) ?_
    show Steps p.tables e below (T116.setTop (mkF m 67 #[.val (.long q0), .second, .val (.long q1), .second, .val (.long q2), .second, .val (.long q3), .second, .val (.int p4), .val (.int p5), .val (.ref b101), .unset, .unset] [(.int (5 : Int32)), (.ref b101)])) _
    refine XS.iload X116.here hx rfl (hb hby at_67) rfl ?_
    show Steps p.tables e below (T116.setTop (mkF m 69 #[.val (.long q0), .second, .val (.long q1), .second, .val (.long q2), .second, .val (.long q3), .second, .val (.int p4), .val (.int p5), .val (.ref b101), .unset, .unset] [(.int p5), (.int (5 : Int32)), (.ref b101)])) _
    refine XS.iconst X116.here hx rfl (hb hby at_69) ?_
    show Steps p.tables e below (T116.setTop (mkF m 70 #[.val (.long q0), .second, .val (.long q1), .second, .val (.long q2), .second, .val (.long q3), .second, .val (.int p4), .val (.int p5), .val (.ref b101), .unset, .unset] [(.int (5 : Int32)), (.int p5), (.int (5 : Int32)), (.ref b101)])) _
    refine XS.lloadN X116.here hx rfl (hb hby at_70) rfl ?_
    show Steps p.tables e below (T116.setTop (mkF m 71 #[.val (.long q0), .second, .val (.long q1), .second, .val (.long q2), .second, .val (.long q3), .second, .val (.int p4), .val (.int p5), .val (.ref b101), .unset, .unset] [(.long q1), (.int (5 : Int32)), (.int p5), (.int (5 : Int32)), (.ref b101)])) _
    refine XS.lneg X116.here hx rfl (hb hby at_71) rfl ?_
    show Steps p.tables e below (T116.setTop (mkF m 72 #[.val (.long q0), .second, .val (.long q1), .second, .val (.long q2), .second, .val (.long q3), .second, .val (.int p4), .val (.int p5), .val (.ref b101), .unset, .unset] [(.long (-q1)), (.int (5 : Int32)), (.int p5), (.int (5 : Int32)), (.ref b101)])) _
    refine st117 _ ?_
    show Steps p.tables e below (T117.setTop (mkF m 75 #[.val (.long q0), .second, .val (.long q1), .second, .val (.long q2), .second, .val (.long q3), .second, .val (.int p4), .val (.int p5), .val (.ref b101), .unset, .unset] [(.long (own_pick p5 (5 : Int32) (-q1))), (.int (5 : Int32)), (.ref b101)])) _
    refine st119 _ ?_
    show Steps p.tables e below (T119.setTop (mkF m 76 #[.val (.long q0), .second, .val (.long q1), .second, .val (.long q2), .second, .val (.long q3), .second, .val (.int p4), .val (.int p5), .val (.ref b101), .unset, .unset] [])) _
    refine XS.aload X119.here hx rfl (hb hby at_76) rfl rfl ?_
    show Steps p.tables e below (T119.setTop (mkF m 78 #[.val (.long q0), .second, .val (.long q1), .second, .val (.long q2), .second, .val (.long q3), .second, .val (.int p4), .val (.int p5), .val (.ref b101), .unset, .unset] [(.ref b101)])) _
    refine XS.bipush X119.here hx rfl (hb hby at_78) ?_
    show Steps p.tables e below (T119.setTop (mkF m 80 #[.val (.long q0), .second, .val (.long q1), .second, .val (.long q2), .second, .val (.long q3), .second, .val (.int p4), .val (.int p5), .val (.ref b101), .unset, .unset] [(.int (6 : Int32)), (.ref b101)])) _
    refine XS.iload X119.here hx rfl (hb hby at_80) rfl ?_
    show Steps p.tables e below (T119.setTop (mkF m 82 #[.val (.long q0), .second, .val (.long q1), .second, .val (.long q2), .second, .val (.long q3), .second, .val (.int p4), .val (.int p5), .val (.ref b101), .unset, .unset] [(.int p5), (.int (6 : Int32)), (.ref b101)])) _
    refine XS.bipush X119.here hx rfl (hb hby at_82) ?_
    show Steps p.tables e below (T119.setTop (mkF m 84 #[.val (.long q0), .second, .val (.long q1), .second, .val (.long q2), .second, .val (.long q3), .second, .val (.int p4), .val (.int p5), .val (.ref b101), .unset, .unset] [(.int (6 : Int32)), (.int p5), (.int (6 : Int32)), (.ref b101)])) _
    refine XS.iload X119.here hx rfl (hb hby at_84) rfl ?_
    show Steps p.tables e below (T119.setTop (mkF m 86 #[.val (.long q0), .second, .val (.long q1), .second, .val (.long q2), .second, .val (.long q3), .second, .val (.int p4), .val (.int p5), .val (.ref b101), .unset, .unset] [(.int p4), (.int (6 : Int32)), (.int p5), (.int (6 : Int32)), (.ref b101)])) _
    refine XS.i2l X119.here hx rfl (hb hby at_86) rfl ?_
    show Steps p.tables e below (T119.setTop (mkF m 87 #[.val (.long q0), .second, .val (.long q1), .second, .val (.long q2), .second, .val (.long q3), .second, .val (.int p4), .val (.int p5), .val (.ref b101), .unset, .unset] [(.long (p4.toInt64)), (.int (6 : Int32)), (.int p5), (.int (6 : Int32)), (.ref b101)])) _
    refine st120 _ ?_
    show Steps p.tables e below (T120.setTop (mkF m 90 #[.val (.long q0), .second, .val (.long q1), .second, .val (.long q2), .second, .val (.long q3), .second, .val (.int p4), .val (.int p5), .val (.ref b101), .unset, .unset] [(.long (own_pick p5 (6 : Int32) (p4.toInt64))), (.int (6 : Int32)), (.ref b101)])) _
    refine st122 _ ?_
    show Steps p.tables e below (T122.setTop (mkF m 91 #[.val (.long q0), .second, .val (.long q1), .second, .val (.long q2), .second, .val (.long q3), .second, .val (.int p4), .val (.int p5), .val (.ref b101), .unset, .unset] [])) _
    refine XS.aload X122.here hx rfl (hb hby at_91) rfl rfl ?_
    show Steps p.tables e below (T122.setTop (mkF m 93 #[.val (.long q0), .second, .val (.long q1), .second, .val (.long q2), .second, .val (.long q3), .second, .val (.int p4), .val (.int p5), .val (.ref b101), .unset, .unset] [(.ref b101)])) _
    refine XS.bipush X122.here hx rfl (hb hby at_93) ?_
    show Steps p.tables e below (T122.setTop (mkF m 95 #[.val (.long q0), .second, .val (.long q1), .second, .val (.long q2), .second, .val (.long q3), .second, .val (.int p4), .val (.int p5), .val (.ref b101), .unset, .unset] [(.int (7 : Int32)), (.ref b101)])) _
    refine XS.iload X122.here hx rfl (hb hby at_95) rfl ?_
    show Steps p.tables e below (T122.setTop (mkF m 97 #[.val (.long q0), .second, .val (.long q1), .second, .val (.long q2), .second, .val (.long q3), .second, .val (.int p4), .val (.int p5), .val (.ref b101), .unset, .unset] [(.int p5), (.int (7 : Int32)), (.ref b101)])) _
    refine XS.bipush X122.here hx rfl (hb hby at_97) ?_
    show Steps p.tables e below (T122.setTop (mkF m 99 #[.val (.long q0), .second, .val (.long q1), .second, .val (.long q2), .second, .val (.long q3), .second, .val (.int p4), .val (.int p5), .val (.ref b101), .unset, .unset] [(.int (7 : Int32)), (.int p5), (.int (7 : Int32)), (.ref b101)])) _
    refine XS.lloadN X122.here hx rfl (hb hby at_99) rfl ?_
    show Steps p.tables e below (T122.setTop (mkF m 100 #[.val (.long q0), .second, .val (.long q1), .second, .val (.long q2), .second, .val (.long q3), .second, .val (.int p4), .val (.int p5), .val (.ref b101), .unset, .unset] [(.long q0), (.int (7 : Int32)), (.int p5), (.int (7 : Int32)), (.ref b101)])) _
    refine st123 _ ?_
    show Steps p.tables e below (T123.setTop (mkF m 103 #[.val (.long q0), .second, .val (.long q1), .second, .val (.long q2), .second, .val (.long q3), .second, .val (.int p4), .val (.int p5), .val (.ref b101), .unset, .unset] [(.long (own_pick p5 (7 : Int32) q0)), (.int (7 : Int32)), (.ref b101)])) _
    refine st125 _ ?_
    show Steps p.tables e below (T125.setTop (mkF m 104 #[.val (.long q0), .second, .val (.long q1), .second, .val (.long q2), .second, .val (.long q3), .second, .val (.int p4), .val (.int p5), .val (.ref b101), .unset, .unset] [])) _
    refine XS.aload X125.here hx rfl (hb hby at_104) rfl rfl ?_
    show Steps p.tables e below (T125.setTop (mkF m 106 #[.val (.long q0), .second, .val (.long q1), .second, .val (.long q2), .second, .val (.long q3), .second, .val (.int p4), .val (.int p5), .val (.ref b101), .unset, .unset] [(.ref b101)])) _
    refine XS.iconst X125.here hx rfl (hb hby at_106) ?_
    show Steps p.tables e below (T125.setTop (mkF m 107 #[.val (.long q0), .second, .val (.long q1), .second, .val (.long q2), .second, .val (.long q3), .second, .val (.int p4), .val (.int p5), .val (.ref b101), .unset, .unset] [(.int (0 : Int32)), (.ref b101)])) _
    have hin126 : ¬ ((0 : Int32) < 0 ∨ cl126.slots.size ≤ ((0 : Int32)).toNatClampNeg) := (inb_of S126 ⟨by decide, by decide⟩)
    refine X125.laload hx (j := (0 : Int32)) (v := (.long (own_pick p5 (0 : Int32) q0))) (by rw [e125]; exact Ar126.1) (State.isArrayOf_alike hZ.alike Ar126.2.1) Ar126.2.2 hin126 (H126.at hin126 rfl) (g := (mkF m 107 #[.val (.long q0), .second, .val (.long q1), .second, .val (.long q2), .second, .val (.long q3), .second, .val (.int p4), .val (.int p5), .val (.ref b101), .unset, .unset] [(.int (0 : Int32)), (.ref b101)])) rfl rfl (hb hby at_107) _ ?_
    show Steps p.tables e below (T125.setTop (mkF m 108 #[.val (.long q0), .second, .val (.long q1), .second, .val (.long q2), .second, .val (.long q3), .second, .val (.int p4), .val (.int p5), .val (.ref b101), .unset, .unset] [(.long (own_pick p5 (0 : Int32) q0))])) _
    refine XS.lconst X125.here hx rfl (hb hby at_108) ?_
    show Steps p.tables e below (T125.setTop (mkF m 109 #[.val (.long q0), .second, .val (.long q1), .second, .val (.long q2), .second, .val (.long q3), .second, .val (.int p4), .val (.int p5), .val (.ref b101), .unset, .unset] [(.long (0 : Int64)), (.long (own_pick p5 (0 : Int32) q0))])) _
    refine XS.lcmp X125.here hx rfl (hb hby at_109) rfl ?_
    exact k
  by_cases hc128 : (own_pick p5 (0 : Int32) q0) = (0 : Int64)
  · obtain ⟨cl129, Ar129, q129, S129, M129, H129, G129⟩ := id V125b
    have pre130 : ∀ t, Steps p.tables e below (T125.setTop (mkF m 119 #[.val (.long q0), .second, .val (.long q1), .second, .val (.long q2), .second, .val (.long q3), .second, .val (.int p4), .val (.int p5), .val (.ref b101), .unset, .unset] [(.int (lcmpW (own_pick p5 (1 : Int32) q1) (0 : Int64)))])) t → Steps p.tables e below (s₁.setTop (entryFrame m #[(.long q0), (.long q1), (.long q2), (.long q3), (.int p4), (.int p5)] maxLocals)) t := fun t k => by
      refine pre127 t ?_
      show Steps p.tables e below (T125.setTop (mkF m 110 #[.val (.long q0), .second, .val (.long q1), .second, .val (.long q2), .second, .val (.long q3), .second, .val (.int p4), .val (.int p5), .val (.ref b101), .unset, .unset] [(.int (lcmpW (own_pick p5 (0 : Int32) q0) (0 : Int64)))])) _
      refine XS.ifNo X125.here hx rfl (hb hby at_110) rfl ((if0 _ _).trans (teq ((lw_eq (own_pick p5 (0 : Int32) q0) (0 : Int64)).mpr hc128)).2) ?_
      show Steps p.tables e below (T125.setTop (mkF m 113 #[.val (.long q0), .second, .val (.long q1), .second, .val (.long q2), .second, .val (.long q3), .second, .val (.int p4), .val (.int p5), .val (.ref b101), .unset, .unset] [])) _
      refine XS.aload X125.here hx rfl (hb hby at_113) rfl rfl ?_
      show Steps p.tables e below (T125.setTop (mkF m 115 #[.val (.long q0), .second, .val (.long q1), .second, .val (.long q2), .second, .val (.long q3), .second, .val (.int p4), .val (.int p5), .val (.ref b101), .unset, .unset] [(.ref b101)])) _
      refine XS.iconst X125.here hx rfl (hb hby at_115) ?_
      show Steps p.tables e below (T125.setTop (mkF m 116 #[.val (.long q0), .second, .val (.long q1), .second, .val (.long q2), .second, .val (.long q3), .second, .val (.int p4), .val (.int p5), .val (.ref b101), .unset, .unset] [(.int (1 : Int32)), (.ref b101)])) _
      have hin129 : ¬ ((1 : Int32) < 0 ∨ cl129.slots.size ≤ ((1 : Int32)).toNatClampNeg) := (inb_of S129 ⟨by decide, by decide⟩)
      refine X125.laload hx (j := (1 : Int32)) (v := (.long (own_pick p5 (1 : Int32) q1))) (by rw [e125]; exact Ar129.1) (State.isArrayOf_alike hZ.alike Ar129.2.1) Ar129.2.2 hin129 (H129.at hin129 rfl) (g := (mkF m 116 #[.val (.long q0), .second, .val (.long q1), .second, .val (.long q2), .second, .val (.long q3), .second, .val (.int p4), .val (.int p5), .val (.ref b101), .unset, .unset] [(.int (1 : Int32)), (.ref b101)])) rfl rfl (hb hby at_116) _ ?_
      show Steps p.tables e below (T125.setTop (mkF m 117 #[.val (.long q0), .second, .val (.long q1), .second, .val (.long q2), .second, .val (.long q3), .second, .val (.int p4), .val (.int p5), .val (.ref b101), .unset, .unset] [(.long (own_pick p5 (1 : Int32) q1))])) _
      refine XS.lconst X125.here hx rfl (hb hby at_117) ?_
      show Steps p.tables e below (T125.setTop (mkF m 118 #[.val (.long q0), .second, .val (.long q1), .second, .val (.long q2), .second, .val (.long q3), .second, .val (.int p4), .val (.int p5), .val (.ref b101), .unset, .unset] [(.long (0 : Int64)), (.long (own_pick p5 (1 : Int32) q1))])) _
      refine XS.lcmp X125.here hx rfl (hb hby at_118) rfl ?_
      exact k
    by_cases hc131 : (own_pick p5 (1 : Int32) q1) = (0 : Int64)
    · obtain ⟨cl132, Ar132, q132, S132, M132, H132, G132⟩ := id V125b
      have pre133 : ∀ t, Steps p.tables e below (T125.setTop (mkF m 128 #[.val (.long q0), .second, .val (.long q1), .second, .val (.long q2), .second, .val (.long q3), .second, .val (.int p4), .val (.int p5), .val (.ref b101), .unset, .unset] [(.int (lcmpW (own_pick p5 (2 : Int32) q2) (0 : Int64)))])) t → Steps p.tables e below (s₁.setTop (entryFrame m #[(.long q0), (.long q1), (.long q2), (.long q3), (.int p4), (.int p5)] maxLocals)) t := fun t k => by
        refine pre130 t ?_
        show Steps p.tables e below (T125.setTop (mkF m 119 #[.val (.long q0), .second, .val (.long q1), .second, .val (.long q2), .second, .val (.long q3), .second, .val (.int p4), .val (.int p5), .val (.ref b101), .unset, .unset] [(.int (lcmpW (own_pick p5 (1 : Int32) q1) (0 : Int64)))])) _
        refine XS.ifNo X125.here hx rfl (hb hby at_119) rfl ((if0 _ _).trans (teq ((lw_eq (own_pick p5 (1 : Int32) q1) (0 : Int64)).mpr hc131)).2) ?_
        show Steps p.tables e below (T125.setTop (mkF m 122 #[.val (.long q0), .second, .val (.long q1), .second, .val (.long q2), .second, .val (.long q3), .second, .val (.int p4), .val (.int p5), .val (.ref b101), .unset, .unset] [])) _
        refine XS.aload X125.here hx rfl (hb hby at_122) rfl rfl ?_
        show Steps p.tables e below (T125.setTop (mkF m 124 #[.val (.long q0), .second, .val (.long q1), .second, .val (.long q2), .second, .val (.long q3), .second, .val (.int p4), .val (.int p5), .val (.ref b101), .unset, .unset] [(.ref b101)])) _
        refine XS.iconst X125.here hx rfl (hb hby at_124) ?_
        show Steps p.tables e below (T125.setTop (mkF m 125 #[.val (.long q0), .second, .val (.long q1), .second, .val (.long q2), .second, .val (.long q3), .second, .val (.int p4), .val (.int p5), .val (.ref b101), .unset, .unset] [(.int (2 : Int32)), (.ref b101)])) _
        have hin132 : ¬ ((2 : Int32) < 0 ∨ cl132.slots.size ≤ ((2 : Int32)).toNatClampNeg) := (inb_of S132 ⟨by decide, by decide⟩)
        refine X125.laload hx (j := (2 : Int32)) (v := (.long (own_pick p5 (2 : Int32) q2))) (by rw [e125]; exact Ar132.1) (State.isArrayOf_alike hZ.alike Ar132.2.1) Ar132.2.2 hin132 (H132.at hin132 rfl) (g := (mkF m 125 #[.val (.long q0), .second, .val (.long q1), .second, .val (.long q2), .second, .val (.long q3), .second, .val (.int p4), .val (.int p5), .val (.ref b101), .unset, .unset] [(.int (2 : Int32)), (.ref b101)])) rfl rfl (hb hby at_125) _ ?_
        show Steps p.tables e below (T125.setTop (mkF m 126 #[.val (.long q0), .second, .val (.long q1), .second, .val (.long q2), .second, .val (.long q3), .second, .val (.int p4), .val (.int p5), .val (.ref b101), .unset, .unset] [(.long (own_pick p5 (2 : Int32) q2))])) _
        refine XS.lconst X125.here hx rfl (hb hby at_126) ?_
        show Steps p.tables e below (T125.setTop (mkF m 127 #[.val (.long q0), .second, .val (.long q1), .second, .val (.long q2), .second, .val (.long q3), .second, .val (.int p4), .val (.int p5), .val (.ref b101), .unset, .unset] [(.long (0 : Int64)), (.long (own_pick p5 (2 : Int32) q2))])) _
        refine XS.lcmp X125.here hx rfl (hb hby at_127) rfl ?_
        exact k
      by_cases hc134 : (own_pick p5 (2 : Int32) q2) = (0 : Int64)
      · obtain ⟨cl135, Ar135, q135, S135, M135, H135, G135⟩ := id V125b
        have pre136 : ∀ t, Steps p.tables e below (T125.setTop (mkF m 137 #[.val (.long q0), .second, .val (.long q1), .second, .val (.long q2), .second, .val (.long q3), .second, .val (.int p4), .val (.int p5), .val (.ref b101), .unset, .unset] [(.int (lcmpW (own_pick p5 (3 : Int32) q3) (0 : Int64)))])) t → Steps p.tables e below (s₁.setTop (entryFrame m #[(.long q0), (.long q1), (.long q2), (.long q3), (.int p4), (.int p5)] maxLocals)) t := fun t k => by
          refine pre133 t ?_
          show Steps p.tables e below (T125.setTop (mkF m 128 #[.val (.long q0), .second, .val (.long q1), .second, .val (.long q2), .second, .val (.long q3), .second, .val (.int p4), .val (.int p5), .val (.ref b101), .unset, .unset] [(.int (lcmpW (own_pick p5 (2 : Int32) q2) (0 : Int64)))])) _
          refine XS.ifNo X125.here hx rfl (hb hby at_128) rfl ((if0 _ _).trans (teq ((lw_eq (own_pick p5 (2 : Int32) q2) (0 : Int64)).mpr hc134)).2) ?_
          show Steps p.tables e below (T125.setTop (mkF m 131 #[.val (.long q0), .second, .val (.long q1), .second, .val (.long q2), .second, .val (.long q3), .second, .val (.int p4), .val (.int p5), .val (.ref b101), .unset, .unset] [])) _
          refine XS.aload X125.here hx rfl (hb hby at_131) rfl rfl ?_
          show Steps p.tables e below (T125.setTop (mkF m 133 #[.val (.long q0), .second, .val (.long q1), .second, .val (.long q2), .second, .val (.long q3), .second, .val (.int p4), .val (.int p5), .val (.ref b101), .unset, .unset] [(.ref b101)])) _
          refine XS.iconst X125.here hx rfl (hb hby at_133) ?_
          show Steps p.tables e below (T125.setTop (mkF m 134 #[.val (.long q0), .second, .val (.long q1), .second, .val (.long q2), .second, .val (.long q3), .second, .val (.int p4), .val (.int p5), .val (.ref b101), .unset, .unset] [(.int (3 : Int32)), (.ref b101)])) _
          have hin135 : ¬ ((3 : Int32) < 0 ∨ cl135.slots.size ≤ ((3 : Int32)).toNatClampNeg) := (inb_of S135 ⟨by decide, by decide⟩)
          refine X125.laload hx (j := (3 : Int32)) (v := (.long (own_pick p5 (3 : Int32) q3))) (by rw [e125]; exact Ar135.1) (State.isArrayOf_alike hZ.alike Ar135.2.1) Ar135.2.2 hin135 (H135.at hin135 rfl) (g := (mkF m 134 #[.val (.long q0), .second, .val (.long q1), .second, .val (.long q2), .second, .val (.long q3), .second, .val (.int p4), .val (.int p5), .val (.ref b101), .unset, .unset] [(.int (3 : Int32)), (.ref b101)])) rfl rfl (hb hby at_134) _ ?_
          show Steps p.tables e below (T125.setTop (mkF m 135 #[.val (.long q0), .second, .val (.long q1), .second, .val (.long q2), .second, .val (.long q3), .second, .val (.int p4), .val (.int p5), .val (.ref b101), .unset, .unset] [(.long (own_pick p5 (3 : Int32) q3))])) _
          refine XS.lconst X125.here hx rfl (hb hby at_135) ?_
          show Steps p.tables e below (T125.setTop (mkF m 136 #[.val (.long q0), .second, .val (.long q1), .second, .val (.long q2), .second, .val (.long q3), .second, .val (.int p4), .val (.int p5), .val (.ref b101), .unset, .unset] [(.long (0 : Int64)), (.long (own_pick p5 (3 : Int32) q3))])) _
          refine XS.lcmp X125.here hx rfl (hb hby at_136) rfl ?_
          exact k
        by_cases hc137 : (own_pick p5 (3 : Int32) q3) = (0 : Int64)
        · obtain ⟨cl138, Ar138, q138, S138, M138, H138, G138⟩ := id V125b
          have pre139 : ∀ t, Steps p.tables e below (T125.setTop (mkF m 146 #[.val (.long q0), .second, .val (.long q1), .second, .val (.long q2), .second, .val (.long q3), .second, .val (.int p4), .val (.int p5), .val (.ref b101), .unset, .unset] [(.int (lcmpW (own_pick p5 (4 : Int32) (-q0)) (0 : Int64)))])) t → Steps p.tables e below (s₁.setTop (entryFrame m #[(.long q0), (.long q1), (.long q2), (.long q3), (.int p4), (.int p5)] maxLocals)) t := fun t k => by
            refine pre136 t ?_
            show Steps p.tables e below (T125.setTop (mkF m 137 #[.val (.long q0), .second, .val (.long q1), .second, .val (.long q2), .second, .val (.long q3), .second, .val (.int p4), .val (.int p5), .val (.ref b101), .unset, .unset] [(.int (lcmpW (own_pick p5 (3 : Int32) q3) (0 : Int64)))])) _
            refine XS.ifNo X125.here hx rfl (hb hby at_137) rfl ((if0 _ _).trans (teq ((lw_eq (own_pick p5 (3 : Int32) q3) (0 : Int64)).mpr hc137)).2) ?_
            show Steps p.tables e below (T125.setTop (mkF m 140 #[.val (.long q0), .second, .val (.long q1), .second, .val (.long q2), .second, .val (.long q3), .second, .val (.int p4), .val (.int p5), .val (.ref b101), .unset, .unset] [])) _
            refine XS.aload X125.here hx rfl (hb hby at_140) rfl rfl ?_
            show Steps p.tables e below (T125.setTop (mkF m 142 #[.val (.long q0), .second, .val (.long q1), .second, .val (.long q2), .second, .val (.long q3), .second, .val (.int p4), .val (.int p5), .val (.ref b101), .unset, .unset] [(.ref b101)])) _
            refine XS.iconst X125.here hx rfl (hb hby at_142) ?_
            show Steps p.tables e below (T125.setTop (mkF m 143 #[.val (.long q0), .second, .val (.long q1), .second, .val (.long q2), .second, .val (.long q3), .second, .val (.int p4), .val (.int p5), .val (.ref b101), .unset, .unset] [(.int (4 : Int32)), (.ref b101)])) _
            have hin138 : ¬ ((4 : Int32) < 0 ∨ cl138.slots.size ≤ ((4 : Int32)).toNatClampNeg) := (inb_of S138 ⟨by decide, by decide⟩)
            refine X125.laload hx (j := (4 : Int32)) (v := (.long (own_pick p5 (4 : Int32) (-q0)))) (by rw [e125]; exact Ar138.1) (State.isArrayOf_alike hZ.alike Ar138.2.1) Ar138.2.2 hin138 (H138.at hin138 rfl) (g := (mkF m 143 #[.val (.long q0), .second, .val (.long q1), .second, .val (.long q2), .second, .val (.long q3), .second, .val (.int p4), .val (.int p5), .val (.ref b101), .unset, .unset] [(.int (4 : Int32)), (.ref b101)])) rfl rfl (hb hby at_143) _ ?_
            show Steps p.tables e below (T125.setTop (mkF m 144 #[.val (.long q0), .second, .val (.long q1), .second, .val (.long q2), .second, .val (.long q3), .second, .val (.int p4), .val (.int p5), .val (.ref b101), .unset, .unset] [(.long (own_pick p5 (4 : Int32) (-q0)))])) _
            refine XS.lconst X125.here hx rfl (hb hby at_144) ?_
            show Steps p.tables e below (T125.setTop (mkF m 145 #[.val (.long q0), .second, .val (.long q1), .second, .val (.long q2), .second, .val (.long q3), .second, .val (.int p4), .val (.int p5), .val (.ref b101), .unset, .unset] [(.long (0 : Int64)), (.long (own_pick p5 (4 : Int32) (-q0)))])) _
            refine XS.lcmp X125.here hx rfl (hb hby at_145) rfl ?_
            exact k
          by_cases hc140 : (own_pick p5 (4 : Int32) (-q0)) = (0 : Int64)
          · obtain ⟨cl141, Ar141, q141, S141, M141, H141, G141⟩ := id V125b
            have pre142 : ∀ t, Steps p.tables e below (T125.setTop (mkF m 155 #[.val (.long q0), .second, .val (.long q1), .second, .val (.long q2), .second, .val (.long q3), .second, .val (.int p4), .val (.int p5), .val (.ref b101), .unset, .unset] [(.int (lcmpW (own_pick p5 (5 : Int32) (-q1)) (0 : Int64)))])) t → Steps p.tables e below (s₁.setTop (entryFrame m #[(.long q0), (.long q1), (.long q2), (.long q3), (.int p4), (.int p5)] maxLocals)) t := fun t k => by
              refine pre139 t ?_
              show Steps p.tables e below (T125.setTop (mkF m 146 #[.val (.long q0), .second, .val (.long q1), .second, .val (.long q2), .second, .val (.long q3), .second, .val (.int p4), .val (.int p5), .val (.ref b101), .unset, .unset] [(.int (lcmpW (own_pick p5 (4 : Int32) (-q0)) (0 : Int64)))])) _
              refine XS.ifNo X125.here hx rfl (hb hby at_146) rfl ((if0 _ _).trans (teq ((lw_eq (own_pick p5 (4 : Int32) (-q0)) (0 : Int64)).mpr hc140)).2) ?_
              show Steps p.tables e below (T125.setTop (mkF m 149 #[.val (.long q0), .second, .val (.long q1), .second, .val (.long q2), .second, .val (.long q3), .second, .val (.int p4), .val (.int p5), .val (.ref b101), .unset, .unset] [])) _
              refine XS.aload X125.here hx rfl (hb hby at_149) rfl rfl ?_
              show Steps p.tables e below (T125.setTop (mkF m 151 #[.val (.long q0), .second, .val (.long q1), .second, .val (.long q2), .second, .val (.long q3), .second, .val (.int p4), .val (.int p5), .val (.ref b101), .unset, .unset] [(.ref b101)])) _
              refine XS.iconst X125.here hx rfl (hb hby at_151) ?_
              show Steps p.tables e below (T125.setTop (mkF m 152 #[.val (.long q0), .second, .val (.long q1), .second, .val (.long q2), .second, .val (.long q3), .second, .val (.int p4), .val (.int p5), .val (.ref b101), .unset, .unset] [(.int (5 : Int32)), (.ref b101)])) _
              have hin141 : ¬ ((5 : Int32) < 0 ∨ cl141.slots.size ≤ ((5 : Int32)).toNatClampNeg) := (inb_of S141 ⟨by decide, by decide⟩)
              refine X125.laload hx (j := (5 : Int32)) (v := (.long (own_pick p5 (5 : Int32) (-q1)))) (by rw [e125]; exact Ar141.1) (State.isArrayOf_alike hZ.alike Ar141.2.1) Ar141.2.2 hin141 (H141.at hin141 rfl) (g := (mkF m 152 #[.val (.long q0), .second, .val (.long q1), .second, .val (.long q2), .second, .val (.long q3), .second, .val (.int p4), .val (.int p5), .val (.ref b101), .unset, .unset] [(.int (5 : Int32)), (.ref b101)])) rfl rfl (hb hby at_152) _ ?_
              show Steps p.tables e below (T125.setTop (mkF m 153 #[.val (.long q0), .second, .val (.long q1), .second, .val (.long q2), .second, .val (.long q3), .second, .val (.int p4), .val (.int p5), .val (.ref b101), .unset, .unset] [(.long (own_pick p5 (5 : Int32) (-q1)))])) _
              refine XS.lconst X125.here hx rfl (hb hby at_153) ?_
              show Steps p.tables e below (T125.setTop (mkF m 154 #[.val (.long q0), .second, .val (.long q1), .second, .val (.long q2), .second, .val (.long q3), .second, .val (.int p4), .val (.int p5), .val (.ref b101), .unset, .unset] [(.long (0 : Int64)), (.long (own_pick p5 (5 : Int32) (-q1)))])) _
              refine XS.lcmp X125.here hx rfl (hb hby at_154) rfl ?_
              exact k
            by_cases hc143 : (own_pick p5 (5 : Int32) (-q1)) = (0 : Int64)
            · obtain ⟨cl144, Ar144, q144, S144, M144, H144, G144⟩ := id V125b
              have pre145 : ∀ t, Steps p.tables e below (T125.setTop (mkF m 165 #[.val (.long q0), .second, .val (.long q1), .second, .val (.long q2), .second, .val (.long q3), .second, .val (.int p4), .val (.int p5), .val (.ref b101), .unset, .unset] [(.int (lcmpW (own_pick p5 (6 : Int32) (p4.toInt64)) (0 : Int64)))])) t → Steps p.tables e below (s₁.setTop (entryFrame m #[(.long q0), (.long q1), (.long q2), (.long q3), (.int p4), (.int p5)] maxLocals)) t := fun t k => by
                refine pre142 t ?_
                show Steps p.tables e below (T125.setTop (mkF m 155 #[.val (.long q0), .second, .val (.long q1), .second, .val (.long q2), .second, .val (.long q3), .second, .val (.int p4), .val (.int p5), .val (.ref b101), .unset, .unset] [(.int (lcmpW (own_pick p5 (5 : Int32) (-q1)) (0 : Int64)))])) _
                refine XS.ifNo X125.here hx rfl (hb hby at_155) rfl ((if0 _ _).trans (teq ((lw_eq (own_pick p5 (5 : Int32) (-q1)) (0 : Int64)).mpr hc143)).2) ?_
                show Steps p.tables e below (T125.setTop (mkF m 158 #[.val (.long q0), .second, .val (.long q1), .second, .val (.long q2), .second, .val (.long q3), .second, .val (.int p4), .val (.int p5), .val (.ref b101), .unset, .unset] [])) _
                refine XS.aload X125.here hx rfl (hb hby at_158) rfl rfl ?_
                show Steps p.tables e below (T125.setTop (mkF m 160 #[.val (.long q0), .second, .val (.long q1), .second, .val (.long q2), .second, .val (.long q3), .second, .val (.int p4), .val (.int p5), .val (.ref b101), .unset, .unset] [(.ref b101)])) _
                refine XS.bipush X125.here hx rfl (hb hby at_160) ?_
                show Steps p.tables e below (T125.setTop (mkF m 162 #[.val (.long q0), .second, .val (.long q1), .second, .val (.long q2), .second, .val (.long q3), .second, .val (.int p4), .val (.int p5), .val (.ref b101), .unset, .unset] [(.int (6 : Int32)), (.ref b101)])) _
                have hin144 : ¬ ((6 : Int32) < 0 ∨ cl144.slots.size ≤ ((6 : Int32)).toNatClampNeg) := (inb_of S144 ⟨by decide, by decide⟩)
                refine X125.laload hx (j := (6 : Int32)) (v := (.long (own_pick p5 (6 : Int32) (p4.toInt64)))) (by rw [e125]; exact Ar144.1) (State.isArrayOf_alike hZ.alike Ar144.2.1) Ar144.2.2 hin144 (H144.at hin144 rfl) (g := (mkF m 162 #[.val (.long q0), .second, .val (.long q1), .second, .val (.long q2), .second, .val (.long q3), .second, .val (.int p4), .val (.int p5), .val (.ref b101), .unset, .unset] [(.int (6 : Int32)), (.ref b101)])) rfl rfl (hb hby at_162) _ ?_
                show Steps p.tables e below (T125.setTop (mkF m 163 #[.val (.long q0), .second, .val (.long q1), .second, .val (.long q2), .second, .val (.long q3), .second, .val (.int p4), .val (.int p5), .val (.ref b101), .unset, .unset] [(.long (own_pick p5 (6 : Int32) (p4.toInt64)))])) _
                refine XS.lconst X125.here hx rfl (hb hby at_163) ?_
                show Steps p.tables e below (T125.setTop (mkF m 164 #[.val (.long q0), .second, .val (.long q1), .second, .val (.long q2), .second, .val (.long q3), .second, .val (.int p4), .val (.int p5), .val (.ref b101), .unset, .unset] [(.long (0 : Int64)), (.long (own_pick p5 (6 : Int32) (p4.toInt64)))])) _
                refine XS.lcmp X125.here hx rfl (hb hby at_164) rfl ?_
                exact k
              by_cases hc146 : (own_pick p5 (6 : Int32) (p4.toInt64)) = (0 : Int64)
              · obtain ⟨cl147, Ar147, q147, S147, M147, H147, G147⟩ := id V125b
                have pre148 : ∀ t, Steps p.tables e below (T125.setTop (mkF m 175 #[.val (.long q0), .second, .val (.long q1), .second, .val (.long q2), .second, .val (.long q3), .second, .val (.int p4), .val (.int p5), .val (.ref b101), .unset, .unset] [(.int (lcmpW (own_pick p5 (7 : Int32) q0) (0 : Int64)))])) t → Steps p.tables e below (s₁.setTop (entryFrame m #[(.long q0), (.long q1), (.long q2), (.long q3), (.int p4), (.int p5)] maxLocals)) t := fun t k => by
                  refine pre145 t ?_
                  show Steps p.tables e below (T125.setTop (mkF m 165 #[.val (.long q0), .second, .val (.long q1), .second, .val (.long q2), .second, .val (.long q3), .second, .val (.int p4), .val (.int p5), .val (.ref b101), .unset, .unset] [(.int (lcmpW (own_pick p5 (6 : Int32) (p4.toInt64)) (0 : Int64)))])) _
                  refine XS.ifNo X125.here hx rfl (hb hby at_165) rfl ((if0 _ _).trans (teq ((lw_eq (own_pick p5 (6 : Int32) (p4.toInt64)) (0 : Int64)).mpr hc146)).2) ?_
                  show Steps p.tables e below (T125.setTop (mkF m 168 #[.val (.long q0), .second, .val (.long q1), .second, .val (.long q2), .second, .val (.long q3), .second, .val (.int p4), .val (.int p5), .val (.ref b101), .unset, .unset] [])) _
                  refine XS.aload X125.here hx rfl (hb hby at_168) rfl rfl ?_
                  show Steps p.tables e below (T125.setTop (mkF m 170 #[.val (.long q0), .second, .val (.long q1), .second, .val (.long q2), .second, .val (.long q3), .second, .val (.int p4), .val (.int p5), .val (.ref b101), .unset, .unset] [(.ref b101)])) _
                  refine XS.bipush X125.here hx rfl (hb hby at_170) ?_
                  show Steps p.tables e below (T125.setTop (mkF m 172 #[.val (.long q0), .second, .val (.long q1), .second, .val (.long q2), .second, .val (.long q3), .second, .val (.int p4), .val (.int p5), .val (.ref b101), .unset, .unset] [(.int (7 : Int32)), (.ref b101)])) _
                  have hin147 : ¬ ((7 : Int32) < 0 ∨ cl147.slots.size ≤ ((7 : Int32)).toNatClampNeg) := (inb_of S147 ⟨by decide, by decide⟩)
                  refine X125.laload hx (j := (7 : Int32)) (v := (.long (own_pick p5 (7 : Int32) q0))) (by rw [e125]; exact Ar147.1) (State.isArrayOf_alike hZ.alike Ar147.2.1) Ar147.2.2 hin147 (H147.at hin147 rfl) (g := (mkF m 172 #[.val (.long q0), .second, .val (.long q1), .second, .val (.long q2), .second, .val (.long q3), .second, .val (.int p4), .val (.int p5), .val (.ref b101), .unset, .unset] [(.int (7 : Int32)), (.ref b101)])) rfl rfl (hb hby at_172) _ ?_
                  show Steps p.tables e below (T125.setTop (mkF m 173 #[.val (.long q0), .second, .val (.long q1), .second, .val (.long q2), .second, .val (.long q3), .second, .val (.int p4), .val (.int p5), .val (.ref b101), .unset, .unset] [(.long (own_pick p5 (7 : Int32) q0))])) _
                  refine XS.lconst X125.here hx rfl (hb hby at_173) ?_
                  show Steps p.tables e below (T125.setTop (mkF m 174 #[.val (.long q0), .second, .val (.long q1), .second, .val (.long q2), .second, .val (.long q3), .second, .val (.int p4), .val (.int p5), .val (.ref b101), .unset, .unset] [(.long (0 : Int64)), (.long (own_pick p5 (7 : Int32) q0))])) _
                  refine XS.lcmp X125.here hx rfl (hb hby at_174) rfl ?_
                  exact k
                by_cases hc149 : (own_pick p5 (7 : Int32) q0) = (0 : Int64)
                · obtain ⟨_, _, ⟨T150, L150, k150, n150⟩, -, X150, ⟨Lc150, hQ150, l150, y150, z150⟩, st150⟩ := Jvm.LawKit.callS X125 hx (y := (⟨"com/example/serialroute/serialroute/core/P256Field", "isZero", "([J)Z"⟩ : MethodName)) hown (mvT hZ (hw _ (List.mem_of_getElem? (i := 5) rfl))) (mvT hZ (hw _ (List.mem_of_getElem? (i := 6) rfl))) (mvT hZ (hw _ (List.mem_of_getElem? (i := 7) rfl))) (mvT hZ (hw _ (List.mem_of_getElem? (i := 8) rfl))) (by decide) (backOf (W := 0) (rm2 l Z aw hw [] b101 k101 (own_pick p5 (0 : Int32) q0) (own_pick p5 (1 : Int32) q1) (own_pick p5 (2 : Int32) q2) (own_pick p5 (3 : Int32) q3) (own_pick p5 (4 : Int32) (-q0)) (own_pick p5 (5 : Int32) (-q1)) (own_pick p5 (6 : Int32) (p4.toInt64)) (own_pick p5 (7 : Int32) q0) h125 n0 Z125 V125b) hZ (hw _ (List.mem_of_getElem? (i := 8) rfl)) (hw _ (List.mem_of_getElem? (i := 7) rfl)) (by decide) (by decide)) (g := (mkF m 187 #[.val (.long q0), .second, .val (.long q1), .second, .val (.long q2), .second, .val (.long q3), .second, .val (.int p4), .val (.int p5), .val (.ref b101), .val (.int (1 : Int32)), .unset] [(.ref b101)])) rfl (by rw [hml]; rfl) (argsL := [(.ref b101)]) (rest := []) (lenOf pd_1 rfl) rfl (by show 2 * 0 + _ ≤ _; exact Nat.le_of_eq rfl) (hb hby at_187) (fun _ _ => ⟨rfl, e125, (by decide : 1 + 0 ≤ _), (by decide : 8 + 0 ≤ _)⟩)
                  dsimp only [Pt.U, Pt.locs, Pt.cells, Pt.slots] at X150 l150 y150 z150 st150 hQ150
                  subst l150 y150 z150
                  obtain ⟨hv150, N150q, e150⟩ := hQ150
                  rw [own_z_yes hc128 hc131 hc134 hc137 hc140 hc143 hc146 hc149] at hv150
                  subst hv150
                  have N150 := Fr.app N125 N150q
                  obtain ⟨fs, hr, hrun, hended, hW, hsame⟩ := X150.leave (v := some (.int (1 : Int32))) (fun h => by rw [Bd.returns] at h; cases h)
                  refine ⟨_, _, pre148 _ ?_, hrun, hended, _, _, rfl, ?_, ⟨_, rfl⟩, hW, hsame.mono (by decide) (by decide)⟩
                  · show Steps p.tables e below (T125.setTop (mkF m 175 #[.val (.long q0), .second, .val (.long q1), .second, .val (.long q2), .second, .val (.long q3), .second, .val (.int p4), .val (.int p5), .val (.ref b101), .unset, .unset] [(.int (lcmpW (own_pick p5 (7 : Int32) q0) (0 : Int64)))])) _
                    refine XS.ifNo X125.here hx rfl (hb hby at_175) rfl ((if0 _ _).trans (teq ((lw_eq (own_pick p5 (7 : Int32) q0) (0 : Int64)).mpr hc149)).2) ?_
                    show Steps p.tables e below (T125.setTop (mkF m 178 #[.val (.long q0), .second, .val (.long q1), .second, .val (.long q2), .second, .val (.long q3), .second, .val (.int p4), .val (.int p5), .val (.ref b101), .unset, .unset] [])) _
                    refine XS.iconst X125.here hx rfl (hb hby at_178) ?_
                    show Steps p.tables e below (T125.setTop (mkF m 179 #[.val (.long q0), .second, .val (.long q1), .second, .val (.long q2), .second, .val (.long q3), .second, .val (.int p4), .val (.int p5), .val (.ref b101), .unset, .unset] [(.int (1 : Int32))])) _
                    refine XS.goto X125.here hx rfl (pc0 := 179) (pc' := 183) rfl (hb hby at_179) (by decide) (by decide) ?_
                    show Steps p.tables e below (T125.setTop (mkF m 183 #[.val (.long q0), .second, .val (.long q1), .second, .val (.long q2), .second, .val (.long q3), .second, .val (.int p4), .val (.int p5), .val (.ref b101), .unset, .unset] [(.int (1 : Int32))])) _
                    refine XS.istore X125.here hx rfl (hb hby at_183) rfl (l' := #[.val (.long q0), .second, .val (.long q1), .second, .val (.long q2), .second, .val (.long q3), .second, .val (.int p4), .val (.int p5), .val (.ref b101), .val (.int (1 : Int32)), .unset]) rfl ?_
                    show Steps p.tables e below (T125.setTop (mkF m 185 #[.val (.long q0), .second, .val (.long q1), .second, .val (.long q2), .second, .val (.long q3), .second, .val (.int p4), .val (.int p5), .val (.ref b101), .val (.int (1 : Int32)), .unset] [])) _
                    refine XS.aload X125.here hx rfl (hb hby at_185) rfl rfl ?_
                    show Steps p.tables e below (T125.setTop (mkF m 187 #[.val (.long q0), .second, .val (.long q1), .second, .val (.long q2), .second, .val (.long q3), .second, .val (.int p4), .val (.int p5), .val (.ref b101), .val (.int (1 : Int32)), .unset] [(.ref b101)])) _
                    refine st150 _ ?_
                    show Steps p.tables e below (T150.setTop (mkF m 190 #[.val (.long q0), .second, .val (.long q1), .second, .val (.long q2), .second, .val (.long q3), .second, .val (.int p4), .val (.int p5), .val (.ref b101), .val (.int (1 : Int32)), .unset] [(.int (1 : Int32))])) _
                    refine XS.istore X150.here hx rfl (hb hby at_190) rfl (l' := #[.val (.long q0), .second, .val (.long q1), .second, .val (.long q2), .second, .val (.long q3), .second, .val (.int p4), .val (.int p5), .val (.ref b101), .val (.int (1 : Int32)), .val (.int (1 : Int32))]) rfl ?_
                    show Steps p.tables e below (T150.setTop (mkF m 192 #[.val (.long q0), .second, .val (.long q1), .second, .val (.long q2), .second, .val (.long q3), .second, .val (.int p4), .val (.int p5), .val (.ref b101), .val (.int (1 : Int32)), .val (.int (1 : Int32))] [])) _
                    refine XS.iload X150.here hx rfl (hb hby at_192) rfl ?_
                    show Steps p.tables e below (T150.setTop (mkF m 194 #[.val (.long q0), .second, .val (.long q1), .second, .val (.long q2), .second, .val (.long q3), .second, .val (.int p4), .val (.int p5), .val (.ref b101), .val (.int (1 : Int32)), .val (.int (1 : Int32))] [(.int (1 : Int32))])) _
                    refine XS.iload X150.here hx rfl (hb hby at_194) rfl ?_
                    show Steps p.tables e below (T150.setTop (mkF m 196 #[.val (.long q0), .second, .val (.long q1), .second, .val (.long q2), .second, .val (.long q3), .second, .val (.int p4), .val (.int p5), .val (.ref b101), .val (.int (1 : Int32)), .val (.int (1 : Int32))] [(.int (1 : Int32)), (.int (1 : Int32))])) _
                    refine XS.icmpNo X150.here hx rfl (hb hby at_196) rfl (teq (by decide : (1 : Int32) = (1 : Int32))).2 ?_
                    show Steps p.tables e below (T150.setTop (mkF m 199 #[.val (.long q0), .second, .val (.long q1), .second, .val (.long q2), .second, .val (.long q3), .second, .val (.int p4), .val (.int p5), .val (.ref b101), .val (.int (1 : Int32)), .val (.int (1 : Int32))] [])) _
                    refine XS.iconst X150.here hx rfl (hb hby at_199) ?_
                    show Steps p.tables e below (T150.setTop (mkF m 200 #[.val (.long q0), .second, .val (.long q1), .second, .val (.long q2), .second, .val (.long q3), .second, .val (.int p4), .val (.int p5), .val (.ref b101), .val (.int (1 : Int32)), .val (.int (1 : Int32))] [(.int (1 : Int32))])) _
                    refine XS.goto X150.here hx rfl (pc0 := 200) (pc' := 204) rfl (hb hby at_200) (by decide) (by decide) ?_
                    show Steps p.tables e below (T150.setTop (mkF m 204 #[.val (.long q0), .second, .val (.long q1), .second, .val (.long q2), .second, .val (.long q3), .second, .val (.int p4), .val (.int p5), .val (.ref b101), .val (.int (1 : Int32)), .val (.int (1 : Int32))] [(.int (1 : Int32))])) _
                    exact retN X150 hx (t := .boolean) Bd.returns (by simp) (hb hby at_204) hr
                  · show Q0 Z q0 q1 q2 q3 p4 p5 h0 n0 _ T150.heap _
                    rw [e150]
                    exact ⟨rfl, N150⟩
                · obtain ⟨_, _, ⟨T151, L151, k151, n151⟩, -, X151, ⟨Lc151, hQ151, l151, y151, z151⟩, st151⟩ := Jvm.LawKit.callS X125 hx (y := (⟨"com/example/serialroute/serialroute/core/P256Field", "isZero", "([J)Z"⟩ : MethodName)) hown (mvT hZ (hw _ (List.mem_of_getElem? (i := 5) rfl))) (mvT hZ (hw _ (List.mem_of_getElem? (i := 6) rfl))) (mvT hZ (hw _ (List.mem_of_getElem? (i := 7) rfl))) (mvT hZ (hw _ (List.mem_of_getElem? (i := 8) rfl))) (by decide) (backOf (W := 0) (rm2 l Z aw hw [] b101 k101 (own_pick p5 (0 : Int32) q0) (own_pick p5 (1 : Int32) q1) (own_pick p5 (2 : Int32) q2) (own_pick p5 (3 : Int32) q3) (own_pick p5 (4 : Int32) (-q0)) (own_pick p5 (5 : Int32) (-q1)) (own_pick p5 (6 : Int32) (p4.toInt64)) (own_pick p5 (7 : Int32) q0) h125 n0 Z125 V125b) hZ (hw _ (List.mem_of_getElem? (i := 8) rfl)) (hw _ (List.mem_of_getElem? (i := 7) rfl)) (by decide) (by decide)) (g := (mkF m 187 #[.val (.long q0), .second, .val (.long q1), .second, .val (.long q2), .second, .val (.long q3), .second, .val (.int p4), .val (.int p5), .val (.ref b101), .val (.int (0 : Int32)), .unset] [(.ref b101)])) rfl (by rw [hml]; rfl) (argsL := [(.ref b101)]) (rest := []) (lenOf pd_1 rfl) rfl (by show 2 * 0 + _ ≤ _; exact Nat.le_of_eq rfl) (hb hby at_187) (fun _ _ => ⟨rfl, e125, (by decide : 1 + 0 ≤ _), (by decide : 8 + 0 ≤ _)⟩)
                  dsimp only [Pt.U, Pt.locs, Pt.cells, Pt.slots] at X151 l151 y151 z151 st151 hQ151
                  subst l151 y151 z151
                  obtain ⟨hv151, N151q, e151⟩ := hQ151
                  rw [own_z_no (fun q => hc149 q.2.2.2.2.2.2.2)] at hv151
                  subst hv151
                  have N151 := Fr.app N125 N151q
                  obtain ⟨fs, hr, hrun, hended, hW, hsame⟩ := X151.leave (v := some (.int (1 : Int32))) (fun h => by rw [Bd.returns] at h; cases h)
                  refine ⟨_, _, pre148 _ ?_, hrun, hended, _, _, rfl, ?_, ⟨_, rfl⟩, hW, hsame.mono (by decide) (by decide)⟩
                  · show Steps p.tables e below (T125.setTop (mkF m 175 #[.val (.long q0), .second, .val (.long q1), .second, .val (.long q2), .second, .val (.long q3), .second, .val (.int p4), .val (.int p5), .val (.ref b101), .unset, .unset] [(.int (lcmpW (own_pick p5 (7 : Int32) q0) (0 : Int64)))])) _
                    refine XS.ifYes X125.here hx rfl (pc0 := 175) (pc' := 182) rfl (hb hby at_175) rfl ((if0 _ _).trans (feq (fun q => hc149 ((lw_eq (own_pick p5 (7 : Int32) q0) (0 : Int64)).mp q))).2) (by decide) (by decide) ?_
                    show Steps p.tables e below (T125.setTop (mkF m 182 #[.val (.long q0), .second, .val (.long q1), .second, .val (.long q2), .second, .val (.long q3), .second, .val (.int p4), .val (.int p5), .val (.ref b101), .unset, .unset] [])) _
                    refine XS.iconst X125.here hx rfl (hb hby at_182) ?_
                    show Steps p.tables e below (T125.setTop (mkF m 183 #[.val (.long q0), .second, .val (.long q1), .second, .val (.long q2), .second, .val (.long q3), .second, .val (.int p4), .val (.int p5), .val (.ref b101), .unset, .unset] [(.int (0 : Int32))])) _
                    refine XS.istore X125.here hx rfl (hb hby at_183) rfl (l' := #[.val (.long q0), .second, .val (.long q1), .second, .val (.long q2), .second, .val (.long q3), .second, .val (.int p4), .val (.int p5), .val (.ref b101), .val (.int (0 : Int32)), .unset]) rfl ?_
                    show Steps p.tables e below (T125.setTop (mkF m 185 #[.val (.long q0), .second, .val (.long q1), .second, .val (.long q2), .second, .val (.long q3), .second, .val (.int p4), .val (.int p5), .val (.ref b101), .val (.int (0 : Int32)), .unset] [])) _
                    refine XS.aload X125.here hx rfl (hb hby at_185) rfl rfl ?_
                    show Steps p.tables e below (T125.setTop (mkF m 187 #[.val (.long q0), .second, .val (.long q1), .second, .val (.long q2), .second, .val (.long q3), .second, .val (.int p4), .val (.int p5), .val (.ref b101), .val (.int (0 : Int32)), .unset] [(.ref b101)])) _
                    refine st151 _ ?_
                    show Steps p.tables e below (T151.setTop (mkF m 190 #[.val (.long q0), .second, .val (.long q1), .second, .val (.long q2), .second, .val (.long q3), .second, .val (.int p4), .val (.int p5), .val (.ref b101), .val (.int (0 : Int32)), .unset] [(.int (0 : Int32))])) _
                    refine XS.istore X151.here hx rfl (hb hby at_190) rfl (l' := #[.val (.long q0), .second, .val (.long q1), .second, .val (.long q2), .second, .val (.long q3), .second, .val (.int p4), .val (.int p5), .val (.ref b101), .val (.int (0 : Int32)), .val (.int (0 : Int32))]) rfl ?_
                    show Steps p.tables e below (T151.setTop (mkF m 192 #[.val (.long q0), .second, .val (.long q1), .second, .val (.long q2), .second, .val (.long q3), .second, .val (.int p4), .val (.int p5), .val (.ref b101), .val (.int (0 : Int32)), .val (.int (0 : Int32))] [])) _
                    refine XS.iload X151.here hx rfl (hb hby at_192) rfl ?_
                    show Steps p.tables e below (T151.setTop (mkF m 194 #[.val (.long q0), .second, .val (.long q1), .second, .val (.long q2), .second, .val (.long q3), .second, .val (.int p4), .val (.int p5), .val (.ref b101), .val (.int (0 : Int32)), .val (.int (0 : Int32))] [(.int (0 : Int32))])) _
                    refine XS.iload X151.here hx rfl (hb hby at_194) rfl ?_
                    show Steps p.tables e below (T151.setTop (mkF m 196 #[.val (.long q0), .second, .val (.long q1), .second, .val (.long q2), .second, .val (.long q3), .second, .val (.int p4), .val (.int p5), .val (.ref b101), .val (.int (0 : Int32)), .val (.int (0 : Int32))] [(.int (0 : Int32)), (.int (0 : Int32))])) _
                    refine XS.icmpNo X151.here hx rfl (hb hby at_196) rfl (teq (by decide : (0 : Int32) = (0 : Int32))).2 ?_
                    show Steps p.tables e below (T151.setTop (mkF m 199 #[.val (.long q0), .second, .val (.long q1), .second, .val (.long q2), .second, .val (.long q3), .second, .val (.int p4), .val (.int p5), .val (.ref b101), .val (.int (0 : Int32)), .val (.int (0 : Int32))] [])) _
                    refine XS.iconst X151.here hx rfl (hb hby at_199) ?_
                    show Steps p.tables e below (T151.setTop (mkF m 200 #[.val (.long q0), .second, .val (.long q1), .second, .val (.long q2), .second, .val (.long q3), .second, .val (.int p4), .val (.int p5), .val (.ref b101), .val (.int (0 : Int32)), .val (.int (0 : Int32))] [(.int (1 : Int32))])) _
                    refine XS.goto X151.here hx rfl (pc0 := 200) (pc' := 204) rfl (hb hby at_200) (by decide) (by decide) ?_
                    show Steps p.tables e below (T151.setTop (mkF m 204 #[.val (.long q0), .second, .val (.long q1), .second, .val (.long q2), .second, .val (.long q3), .second, .val (.int p4), .val (.int p5), .val (.ref b101), .val (.int (0 : Int32)), .val (.int (0 : Int32))] [(.int (1 : Int32))])) _
                    exact retN X151 hx (t := .boolean) Bd.returns (by simp) (hb hby at_204) hr
                  · show Q0 Z q0 q1 q2 q3 p4 p5 h0 n0 _ T151.heap _
                    rw [e151]
                    exact ⟨rfl, N151⟩
              · obtain ⟨_, _, ⟨T152, L152, k152, n152⟩, -, X152, ⟨Lc152, hQ152, l152, y152, z152⟩, st152⟩ := Jvm.LawKit.callS X125 hx (y := (⟨"com/example/serialroute/serialroute/core/P256Field", "isZero", "([J)Z"⟩ : MethodName)) hown (mvT hZ (hw _ (List.mem_of_getElem? (i := 5) rfl))) (mvT hZ (hw _ (List.mem_of_getElem? (i := 6) rfl))) (mvT hZ (hw _ (List.mem_of_getElem? (i := 7) rfl))) (mvT hZ (hw _ (List.mem_of_getElem? (i := 8) rfl))) (by decide) (backOf (W := 0) (rm2 l Z aw hw [] b101 k101 (own_pick p5 (0 : Int32) q0) (own_pick p5 (1 : Int32) q1) (own_pick p5 (2 : Int32) q2) (own_pick p5 (3 : Int32) q3) (own_pick p5 (4 : Int32) (-q0)) (own_pick p5 (5 : Int32) (-q1)) (own_pick p5 (6 : Int32) (p4.toInt64)) (own_pick p5 (7 : Int32) q0) h125 n0 Z125 V125b) hZ (hw _ (List.mem_of_getElem? (i := 8) rfl)) (hw _ (List.mem_of_getElem? (i := 7) rfl)) (by decide) (by decide)) (g := (mkF m 187 #[.val (.long q0), .second, .val (.long q1), .second, .val (.long q2), .second, .val (.long q3), .second, .val (.int p4), .val (.int p5), .val (.ref b101), .val (.int (0 : Int32)), .unset] [(.ref b101)])) rfl (by rw [hml]; rfl) (argsL := [(.ref b101)]) (rest := []) (lenOf pd_1 rfl) rfl (by show 2 * 0 + _ ≤ _; exact Nat.le_of_eq rfl) (hb hby at_187) (fun _ _ => ⟨rfl, e125, (by decide : 1 + 0 ≤ _), (by decide : 8 + 0 ≤ _)⟩)
                dsimp only [Pt.U, Pt.locs, Pt.cells, Pt.slots] at X152 l152 y152 z152 st152 hQ152
                subst l152 y152 z152
                obtain ⟨hv152, N152q, e152⟩ := hQ152
                rw [own_z_no (fun q => hc146 q.2.2.2.2.2.2.1)] at hv152
                subst hv152
                have N152 := Fr.app N125 N152q
                obtain ⟨fs, hr, hrun, hended, hW, hsame⟩ := X152.leave (v := some (.int (1 : Int32))) (fun h => by rw [Bd.returns] at h; cases h)
                refine ⟨_, _, pre145 _ ?_, hrun, hended, _, _, rfl, ?_, ⟨_, rfl⟩, hW, hsame.mono (by decide) (by decide)⟩
                · show Steps p.tables e below (T125.setTop (mkF m 165 #[.val (.long q0), .second, .val (.long q1), .second, .val (.long q2), .second, .val (.long q3), .second, .val (.int p4), .val (.int p5), .val (.ref b101), .unset, .unset] [(.int (lcmpW (own_pick p5 (6 : Int32) (p4.toInt64)) (0 : Int64)))])) _
                  refine XS.ifYes X125.here hx rfl (pc0 := 165) (pc' := 182) rfl (hb hby at_165) rfl ((if0 _ _).trans (feq (fun q => hc146 ((lw_eq (own_pick p5 (6 : Int32) (p4.toInt64)) (0 : Int64)).mp q))).2) (by decide) (by decide) ?_
                  show Steps p.tables e below (T125.setTop (mkF m 182 #[.val (.long q0), .second, .val (.long q1), .second, .val (.long q2), .second, .val (.long q3), .second, .val (.int p4), .val (.int p5), .val (.ref b101), .unset, .unset] [])) _
                  refine XS.iconst X125.here hx rfl (hb hby at_182) ?_
                  show Steps p.tables e below (T125.setTop (mkF m 183 #[.val (.long q0), .second, .val (.long q1), .second, .val (.long q2), .second, .val (.long q3), .second, .val (.int p4), .val (.int p5), .val (.ref b101), .unset, .unset] [(.int (0 : Int32))])) _
                  refine XS.istore X125.here hx rfl (hb hby at_183) rfl (l' := #[.val (.long q0), .second, .val (.long q1), .second, .val (.long q2), .second, .val (.long q3), .second, .val (.int p4), .val (.int p5), .val (.ref b101), .val (.int (0 : Int32)), .unset]) rfl ?_
                  show Steps p.tables e below (T125.setTop (mkF m 185 #[.val (.long q0), .second, .val (.long q1), .second, .val (.long q2), .second, .val (.long q3), .second, .val (.int p4), .val (.int p5), .val (.ref b101), .val (.int (0 : Int32)), .unset] [])) _
                  refine XS.aload X125.here hx rfl (hb hby at_185) rfl rfl ?_
                  show Steps p.tables e below (T125.setTop (mkF m 187 #[.val (.long q0), .second, .val (.long q1), .second, .val (.long q2), .second, .val (.long q3), .second, .val (.int p4), .val (.int p5), .val (.ref b101), .val (.int (0 : Int32)), .unset] [(.ref b101)])) _
                  refine st152 _ ?_
                  show Steps p.tables e below (T152.setTop (mkF m 190 #[.val (.long q0), .second, .val (.long q1), .second, .val (.long q2), .second, .val (.long q3), .second, .val (.int p4), .val (.int p5), .val (.ref b101), .val (.int (0 : Int32)), .unset] [(.int (0 : Int32))])) _
                  refine XS.istore X152.here hx rfl (hb hby at_190) rfl (l' := #[.val (.long q0), .second, .val (.long q1), .second, .val (.long q2), .second, .val (.long q3), .second, .val (.int p4), .val (.int p5), .val (.ref b101), .val (.int (0 : Int32)), .val (.int (0 : Int32))]) rfl ?_
                  show Steps p.tables e below (T152.setTop (mkF m 192 #[.val (.long q0), .second, .val (.long q1), .second, .val (.long q2), .second, .val (.long q3), .second, .val (.int p4), .val (.int p5), .val (.ref b101), .val (.int (0 : Int32)), .val (.int (0 : Int32))] [])) _
                  refine XS.iload X152.here hx rfl (hb hby at_192) rfl ?_
                  show Steps p.tables e below (T152.setTop (mkF m 194 #[.val (.long q0), .second, .val (.long q1), .second, .val (.long q2), .second, .val (.long q3), .second, .val (.int p4), .val (.int p5), .val (.ref b101), .val (.int (0 : Int32)), .val (.int (0 : Int32))] [(.int (0 : Int32))])) _
                  refine XS.iload X152.here hx rfl (hb hby at_194) rfl ?_
                  show Steps p.tables e below (T152.setTop (mkF m 196 #[.val (.long q0), .second, .val (.long q1), .second, .val (.long q2), .second, .val (.long q3), .second, .val (.int p4), .val (.int p5), .val (.ref b101), .val (.int (0 : Int32)), .val (.int (0 : Int32))] [(.int (0 : Int32)), (.int (0 : Int32))])) _
                  refine XS.icmpNo X152.here hx rfl (hb hby at_196) rfl (teq (by decide : (0 : Int32) = (0 : Int32))).2 ?_
                  show Steps p.tables e below (T152.setTop (mkF m 199 #[.val (.long q0), .second, .val (.long q1), .second, .val (.long q2), .second, .val (.long q3), .second, .val (.int p4), .val (.int p5), .val (.ref b101), .val (.int (0 : Int32)), .val (.int (0 : Int32))] [])) _
                  refine XS.iconst X152.here hx rfl (hb hby at_199) ?_
                  show Steps p.tables e below (T152.setTop (mkF m 200 #[.val (.long q0), .second, .val (.long q1), .second, .val (.long q2), .second, .val (.long q3), .second, .val (.int p4), .val (.int p5), .val (.ref b101), .val (.int (0 : Int32)), .val (.int (0 : Int32))] [(.int (1 : Int32))])) _
                  refine XS.goto X152.here hx rfl (pc0 := 200) (pc' := 204) rfl (hb hby at_200) (by decide) (by decide) ?_
                  show Steps p.tables e below (T152.setTop (mkF m 204 #[.val (.long q0), .second, .val (.long q1), .second, .val (.long q2), .second, .val (.long q3), .second, .val (.int p4), .val (.int p5), .val (.ref b101), .val (.int (0 : Int32)), .val (.int (0 : Int32))] [(.int (1 : Int32))])) _
                  exact retN X152 hx (t := .boolean) Bd.returns (by simp) (hb hby at_204) hr
                · show Q0 Z q0 q1 q2 q3 p4 p5 h0 n0 _ T152.heap _
                  rw [e152]
                  exact ⟨rfl, N152⟩
            · obtain ⟨_, _, ⟨T153, L153, k153, n153⟩, -, X153, ⟨Lc153, hQ153, l153, y153, z153⟩, st153⟩ := Jvm.LawKit.callS X125 hx (y := (⟨"com/example/serialroute/serialroute/core/P256Field", "isZero", "([J)Z"⟩ : MethodName)) hown (mvT hZ (hw _ (List.mem_of_getElem? (i := 5) rfl))) (mvT hZ (hw _ (List.mem_of_getElem? (i := 6) rfl))) (mvT hZ (hw _ (List.mem_of_getElem? (i := 7) rfl))) (mvT hZ (hw _ (List.mem_of_getElem? (i := 8) rfl))) (by decide) (backOf (W := 0) (rm2 l Z aw hw [] b101 k101 (own_pick p5 (0 : Int32) q0) (own_pick p5 (1 : Int32) q1) (own_pick p5 (2 : Int32) q2) (own_pick p5 (3 : Int32) q3) (own_pick p5 (4 : Int32) (-q0)) (own_pick p5 (5 : Int32) (-q1)) (own_pick p5 (6 : Int32) (p4.toInt64)) (own_pick p5 (7 : Int32) q0) h125 n0 Z125 V125b) hZ (hw _ (List.mem_of_getElem? (i := 8) rfl)) (hw _ (List.mem_of_getElem? (i := 7) rfl)) (by decide) (by decide)) (g := (mkF m 187 #[.val (.long q0), .second, .val (.long q1), .second, .val (.long q2), .second, .val (.long q3), .second, .val (.int p4), .val (.int p5), .val (.ref b101), .val (.int (0 : Int32)), .unset] [(.ref b101)])) rfl (by rw [hml]; rfl) (argsL := [(.ref b101)]) (rest := []) (lenOf pd_1 rfl) rfl (by show 2 * 0 + _ ≤ _; exact Nat.le_of_eq rfl) (hb hby at_187) (fun _ _ => ⟨rfl, e125, (by decide : 1 + 0 ≤ _), (by decide : 8 + 0 ≤ _)⟩)
              dsimp only [Pt.U, Pt.locs, Pt.cells, Pt.slots] at X153 l153 y153 z153 st153 hQ153
              subst l153 y153 z153
              obtain ⟨hv153, N153q, e153⟩ := hQ153
              rw [own_z_no (fun q => hc143 q.2.2.2.2.2.1)] at hv153
              subst hv153
              have N153 := Fr.app N125 N153q
              obtain ⟨fs, hr, hrun, hended, hW, hsame⟩ := X153.leave (v := some (.int (1 : Int32))) (fun h => by rw [Bd.returns] at h; cases h)
              refine ⟨_, _, pre142 _ ?_, hrun, hended, _, _, rfl, ?_, ⟨_, rfl⟩, hW, hsame.mono (by decide) (by decide)⟩
              · show Steps p.tables e below (T125.setTop (mkF m 155 #[.val (.long q0), .second, .val (.long q1), .second, .val (.long q2), .second, .val (.long q3), .second, .val (.int p4), .val (.int p5), .val (.ref b101), .unset, .unset] [(.int (lcmpW (own_pick p5 (5 : Int32) (-q1)) (0 : Int64)))])) _
                refine XS.ifYes X125.here hx rfl (pc0 := 155) (pc' := 182) rfl (hb hby at_155) rfl ((if0 _ _).trans (feq (fun q => hc143 ((lw_eq (own_pick p5 (5 : Int32) (-q1)) (0 : Int64)).mp q))).2) (by decide) (by decide) ?_
                show Steps p.tables e below (T125.setTop (mkF m 182 #[.val (.long q0), .second, .val (.long q1), .second, .val (.long q2), .second, .val (.long q3), .second, .val (.int p4), .val (.int p5), .val (.ref b101), .unset, .unset] [])) _
                refine XS.iconst X125.here hx rfl (hb hby at_182) ?_
                show Steps p.tables e below (T125.setTop (mkF m 183 #[.val (.long q0), .second, .val (.long q1), .second, .val (.long q2), .second, .val (.long q3), .second, .val (.int p4), .val (.int p5), .val (.ref b101), .unset, .unset] [(.int (0 : Int32))])) _
                refine XS.istore X125.here hx rfl (hb hby at_183) rfl (l' := #[.val (.long q0), .second, .val (.long q1), .second, .val (.long q2), .second, .val (.long q3), .second, .val (.int p4), .val (.int p5), .val (.ref b101), .val (.int (0 : Int32)), .unset]) rfl ?_
                show Steps p.tables e below (T125.setTop (mkF m 185 #[.val (.long q0), .second, .val (.long q1), .second, .val (.long q2), .second, .val (.long q3), .second, .val (.int p4), .val (.int p5), .val (.ref b101), .val (.int (0 : Int32)), .unset] [])) _
                refine XS.aload X125.here hx rfl (hb hby at_185) rfl rfl ?_
                show Steps p.tables e below (T125.setTop (mkF m 187 #[.val (.long q0), .second, .val (.long q1), .second, .val (.long q2), .second, .val (.long q3), .second, .val (.int p4), .val (.int p5), .val (.ref b101), .val (.int (0 : Int32)), .unset] [(.ref b101)])) _
                refine st153 _ ?_
                show Steps p.tables e below (T153.setTop (mkF m 190 #[.val (.long q0), .second, .val (.long q1), .second, .val (.long q2), .second, .val (.long q3), .second, .val (.int p4), .val (.int p5), .val (.ref b101), .val (.int (0 : Int32)), .unset] [(.int (0 : Int32))])) _
                refine XS.istore X153.here hx rfl (hb hby at_190) rfl (l' := #[.val (.long q0), .second, .val (.long q1), .second, .val (.long q2), .second, .val (.long q3), .second, .val (.int p4), .val (.int p5), .val (.ref b101), .val (.int (0 : Int32)), .val (.int (0 : Int32))]) rfl ?_
                show Steps p.tables e below (T153.setTop (mkF m 192 #[.val (.long q0), .second, .val (.long q1), .second, .val (.long q2), .second, .val (.long q3), .second, .val (.int p4), .val (.int p5), .val (.ref b101), .val (.int (0 : Int32)), .val (.int (0 : Int32))] [])) _
                refine XS.iload X153.here hx rfl (hb hby at_192) rfl ?_
                show Steps p.tables e below (T153.setTop (mkF m 194 #[.val (.long q0), .second, .val (.long q1), .second, .val (.long q2), .second, .val (.long q3), .second, .val (.int p4), .val (.int p5), .val (.ref b101), .val (.int (0 : Int32)), .val (.int (0 : Int32))] [(.int (0 : Int32))])) _
                refine XS.iload X153.here hx rfl (hb hby at_194) rfl ?_
                show Steps p.tables e below (T153.setTop (mkF m 196 #[.val (.long q0), .second, .val (.long q1), .second, .val (.long q2), .second, .val (.long q3), .second, .val (.int p4), .val (.int p5), .val (.ref b101), .val (.int (0 : Int32)), .val (.int (0 : Int32))] [(.int (0 : Int32)), (.int (0 : Int32))])) _
                refine XS.icmpNo X153.here hx rfl (hb hby at_196) rfl (teq (by decide : (0 : Int32) = (0 : Int32))).2 ?_
                show Steps p.tables e below (T153.setTop (mkF m 199 #[.val (.long q0), .second, .val (.long q1), .second, .val (.long q2), .second, .val (.long q3), .second, .val (.int p4), .val (.int p5), .val (.ref b101), .val (.int (0 : Int32)), .val (.int (0 : Int32))] [])) _
                refine XS.iconst X153.here hx rfl (hb hby at_199) ?_
                show Steps p.tables e below (T153.setTop (mkF m 200 #[.val (.long q0), .second, .val (.long q1), .second, .val (.long q2), .second, .val (.long q3), .second, .val (.int p4), .val (.int p5), .val (.ref b101), .val (.int (0 : Int32)), .val (.int (0 : Int32))] [(.int (1 : Int32))])) _
                refine XS.goto X153.here hx rfl (pc0 := 200) (pc' := 204) rfl (hb hby at_200) (by decide) (by decide) ?_
                show Steps p.tables e below (T153.setTop (mkF m 204 #[.val (.long q0), .second, .val (.long q1), .second, .val (.long q2), .second, .val (.long q3), .second, .val (.int p4), .val (.int p5), .val (.ref b101), .val (.int (0 : Int32)), .val (.int (0 : Int32))] [(.int (1 : Int32))])) _
                exact retN X153 hx (t := .boolean) Bd.returns (by simp) (hb hby at_204) hr
              · show Q0 Z q0 q1 q2 q3 p4 p5 h0 n0 _ T153.heap _
                rw [e153]
                exact ⟨rfl, N153⟩
          · obtain ⟨_, _, ⟨T154, L154, k154, n154⟩, -, X154, ⟨Lc154, hQ154, l154, y154, z154⟩, st154⟩ := Jvm.LawKit.callS X125 hx (y := (⟨"com/example/serialroute/serialroute/core/P256Field", "isZero", "([J)Z"⟩ : MethodName)) hown (mvT hZ (hw _ (List.mem_of_getElem? (i := 5) rfl))) (mvT hZ (hw _ (List.mem_of_getElem? (i := 6) rfl))) (mvT hZ (hw _ (List.mem_of_getElem? (i := 7) rfl))) (mvT hZ (hw _ (List.mem_of_getElem? (i := 8) rfl))) (by decide) (backOf (W := 0) (rm2 l Z aw hw [] b101 k101 (own_pick p5 (0 : Int32) q0) (own_pick p5 (1 : Int32) q1) (own_pick p5 (2 : Int32) q2) (own_pick p5 (3 : Int32) q3) (own_pick p5 (4 : Int32) (-q0)) (own_pick p5 (5 : Int32) (-q1)) (own_pick p5 (6 : Int32) (p4.toInt64)) (own_pick p5 (7 : Int32) q0) h125 n0 Z125 V125b) hZ (hw _ (List.mem_of_getElem? (i := 8) rfl)) (hw _ (List.mem_of_getElem? (i := 7) rfl)) (by decide) (by decide)) (g := (mkF m 187 #[.val (.long q0), .second, .val (.long q1), .second, .val (.long q2), .second, .val (.long q3), .second, .val (.int p4), .val (.int p5), .val (.ref b101), .val (.int (0 : Int32)), .unset] [(.ref b101)])) rfl (by rw [hml]; rfl) (argsL := [(.ref b101)]) (rest := []) (lenOf pd_1 rfl) rfl (by show 2 * 0 + _ ≤ _; exact Nat.le_of_eq rfl) (hb hby at_187) (fun _ _ => ⟨rfl, e125, (by decide : 1 + 0 ≤ _), (by decide : 8 + 0 ≤ _)⟩)
            dsimp only [Pt.U, Pt.locs, Pt.cells, Pt.slots] at X154 l154 y154 z154 st154 hQ154
            subst l154 y154 z154
            obtain ⟨hv154, N154q, e154⟩ := hQ154
            rw [own_z_no (fun q => hc140 q.2.2.2.2.1)] at hv154
            subst hv154
            have N154 := Fr.app N125 N154q
            obtain ⟨fs, hr, hrun, hended, hW, hsame⟩ := X154.leave (v := some (.int (1 : Int32))) (fun h => by rw [Bd.returns] at h; cases h)
            refine ⟨_, _, pre139 _ ?_, hrun, hended, _, _, rfl, ?_, ⟨_, rfl⟩, hW, hsame.mono (by decide) (by decide)⟩
            · show Steps p.tables e below (T125.setTop (mkF m 146 #[.val (.long q0), .second, .val (.long q1), .second, .val (.long q2), .second, .val (.long q3), .second, .val (.int p4), .val (.int p5), .val (.ref b101), .unset, .unset] [(.int (lcmpW (own_pick p5 (4 : Int32) (-q0)) (0 : Int64)))])) _
              refine XS.ifYes X125.here hx rfl (pc0 := 146) (pc' := 182) rfl (hb hby at_146) rfl ((if0 _ _).trans (feq (fun q => hc140 ((lw_eq (own_pick p5 (4 : Int32) (-q0)) (0 : Int64)).mp q))).2) (by decide) (by decide) ?_
              show Steps p.tables e below (T125.setTop (mkF m 182 #[.val (.long q0), .second, .val (.long q1), .second, .val (.long q2), .second, .val (.long q3), .second, .val (.int p4), .val (.int p5), .val (.ref b101), .unset, .unset] [])) _
              refine XS.iconst X125.here hx rfl (hb hby at_182) ?_
              show Steps p.tables e below (T125.setTop (mkF m 183 #[.val (.long q0), .second, .val (.long q1), .second, .val (.long q2), .second, .val (.long q3), .second, .val (.int p4), .val (.int p5), .val (.ref b101), .unset, .unset] [(.int (0 : Int32))])) _
              refine XS.istore X125.here hx rfl (hb hby at_183) rfl (l' := #[.val (.long q0), .second, .val (.long q1), .second, .val (.long q2), .second, .val (.long q3), .second, .val (.int p4), .val (.int p5), .val (.ref b101), .val (.int (0 : Int32)), .unset]) rfl ?_
              show Steps p.tables e below (T125.setTop (mkF m 185 #[.val (.long q0), .second, .val (.long q1), .second, .val (.long q2), .second, .val (.long q3), .second, .val (.int p4), .val (.int p5), .val (.ref b101), .val (.int (0 : Int32)), .unset] [])) _
              refine XS.aload X125.here hx rfl (hb hby at_185) rfl rfl ?_
              show Steps p.tables e below (T125.setTop (mkF m 187 #[.val (.long q0), .second, .val (.long q1), .second, .val (.long q2), .second, .val (.long q3), .second, .val (.int p4), .val (.int p5), .val (.ref b101), .val (.int (0 : Int32)), .unset] [(.ref b101)])) _
              refine st154 _ ?_
              show Steps p.tables e below (T154.setTop (mkF m 190 #[.val (.long q0), .second, .val (.long q1), .second, .val (.long q2), .second, .val (.long q3), .second, .val (.int p4), .val (.int p5), .val (.ref b101), .val (.int (0 : Int32)), .unset] [(.int (0 : Int32))])) _
              refine XS.istore X154.here hx rfl (hb hby at_190) rfl (l' := #[.val (.long q0), .second, .val (.long q1), .second, .val (.long q2), .second, .val (.long q3), .second, .val (.int p4), .val (.int p5), .val (.ref b101), .val (.int (0 : Int32)), .val (.int (0 : Int32))]) rfl ?_
              show Steps p.tables e below (T154.setTop (mkF m 192 #[.val (.long q0), .second, .val (.long q1), .second, .val (.long q2), .second, .val (.long q3), .second, .val (.int p4), .val (.int p5), .val (.ref b101), .val (.int (0 : Int32)), .val (.int (0 : Int32))] [])) _
              refine XS.iload X154.here hx rfl (hb hby at_192) rfl ?_
              show Steps p.tables e below (T154.setTop (mkF m 194 #[.val (.long q0), .second, .val (.long q1), .second, .val (.long q2), .second, .val (.long q3), .second, .val (.int p4), .val (.int p5), .val (.ref b101), .val (.int (0 : Int32)), .val (.int (0 : Int32))] [(.int (0 : Int32))])) _
              refine XS.iload X154.here hx rfl (hb hby at_194) rfl ?_
              show Steps p.tables e below (T154.setTop (mkF m 196 #[.val (.long q0), .second, .val (.long q1), .second, .val (.long q2), .second, .val (.long q3), .second, .val (.int p4), .val (.int p5), .val (.ref b101), .val (.int (0 : Int32)), .val (.int (0 : Int32))] [(.int (0 : Int32)), (.int (0 : Int32))])) _
              refine XS.icmpNo X154.here hx rfl (hb hby at_196) rfl (teq (by decide : (0 : Int32) = (0 : Int32))).2 ?_
              show Steps p.tables e below (T154.setTop (mkF m 199 #[.val (.long q0), .second, .val (.long q1), .second, .val (.long q2), .second, .val (.long q3), .second, .val (.int p4), .val (.int p5), .val (.ref b101), .val (.int (0 : Int32)), .val (.int (0 : Int32))] [])) _
              refine XS.iconst X154.here hx rfl (hb hby at_199) ?_
              show Steps p.tables e below (T154.setTop (mkF m 200 #[.val (.long q0), .second, .val (.long q1), .second, .val (.long q2), .second, .val (.long q3), .second, .val (.int p4), .val (.int p5), .val (.ref b101), .val (.int (0 : Int32)), .val (.int (0 : Int32))] [(.int (1 : Int32))])) _
              refine XS.goto X154.here hx rfl (pc0 := 200) (pc' := 204) rfl (hb hby at_200) (by decide) (by decide) ?_
              show Steps p.tables e below (T154.setTop (mkF m 204 #[.val (.long q0), .second, .val (.long q1), .second, .val (.long q2), .second, .val (.long q3), .second, .val (.int p4), .val (.int p5), .val (.ref b101), .val (.int (0 : Int32)), .val (.int (0 : Int32))] [(.int (1 : Int32))])) _
              exact retN X154 hx (t := .boolean) Bd.returns (by simp) (hb hby at_204) hr
            · show Q0 Z q0 q1 q2 q3 p4 p5 h0 n0 _ T154.heap _
              rw [e154]
              exact ⟨rfl, N154⟩
        · obtain ⟨_, _, ⟨T155, L155, k155, n155⟩, -, X155, ⟨Lc155, hQ155, l155, y155, z155⟩, st155⟩ := Jvm.LawKit.callS X125 hx (y := (⟨"com/example/serialroute/serialroute/core/P256Field", "isZero", "([J)Z"⟩ : MethodName)) hown (mvT hZ (hw _ (List.mem_of_getElem? (i := 5) rfl))) (mvT hZ (hw _ (List.mem_of_getElem? (i := 6) rfl))) (mvT hZ (hw _ (List.mem_of_getElem? (i := 7) rfl))) (mvT hZ (hw _ (List.mem_of_getElem? (i := 8) rfl))) (by decide) (backOf (W := 0) (rm2 l Z aw hw [] b101 k101 (own_pick p5 (0 : Int32) q0) (own_pick p5 (1 : Int32) q1) (own_pick p5 (2 : Int32) q2) (own_pick p5 (3 : Int32) q3) (own_pick p5 (4 : Int32) (-q0)) (own_pick p5 (5 : Int32) (-q1)) (own_pick p5 (6 : Int32) (p4.toInt64)) (own_pick p5 (7 : Int32) q0) h125 n0 Z125 V125b) hZ (hw _ (List.mem_of_getElem? (i := 8) rfl)) (hw _ (List.mem_of_getElem? (i := 7) rfl)) (by decide) (by decide)) (g := (mkF m 187 #[.val (.long q0), .second, .val (.long q1), .second, .val (.long q2), .second, .val (.long q3), .second, .val (.int p4), .val (.int p5), .val (.ref b101), .val (.int (0 : Int32)), .unset] [(.ref b101)])) rfl (by rw [hml]; rfl) (argsL := [(.ref b101)]) (rest := []) (lenOf pd_1 rfl) rfl (by show 2 * 0 + _ ≤ _; exact Nat.le_of_eq rfl) (hb hby at_187) (fun _ _ => ⟨rfl, e125, (by decide : 1 + 0 ≤ _), (by decide : 8 + 0 ≤ _)⟩)
          dsimp only [Pt.U, Pt.locs, Pt.cells, Pt.slots] at X155 l155 y155 z155 st155 hQ155
          subst l155 y155 z155
          obtain ⟨hv155, N155q, e155⟩ := hQ155
          rw [own_z_no (fun q => hc137 q.2.2.2.1)] at hv155
          subst hv155
          have N155 := Fr.app N125 N155q
          obtain ⟨fs, hr, hrun, hended, hW, hsame⟩ := X155.leave (v := some (.int (1 : Int32))) (fun h => by rw [Bd.returns] at h; cases h)
          refine ⟨_, _, pre136 _ ?_, hrun, hended, _, _, rfl, ?_, ⟨_, rfl⟩, hW, hsame.mono (by decide) (by decide)⟩
          · show Steps p.tables e below (T125.setTop (mkF m 137 #[.val (.long q0), .second, .val (.long q1), .second, .val (.long q2), .second, .val (.long q3), .second, .val (.int p4), .val (.int p5), .val (.ref b101), .unset, .unset] [(.int (lcmpW (own_pick p5 (3 : Int32) q3) (0 : Int64)))])) _
            refine XS.ifYes X125.here hx rfl (pc0 := 137) (pc' := 182) rfl (hb hby at_137) rfl ((if0 _ _).trans (feq (fun q => hc137 ((lw_eq (own_pick p5 (3 : Int32) q3) (0 : Int64)).mp q))).2) (by decide) (by decide) ?_
            show Steps p.tables e below (T125.setTop (mkF m 182 #[.val (.long q0), .second, .val (.long q1), .second, .val (.long q2), .second, .val (.long q3), .second, .val (.int p4), .val (.int p5), .val (.ref b101), .unset, .unset] [])) _
            refine XS.iconst X125.here hx rfl (hb hby at_182) ?_
            show Steps p.tables e below (T125.setTop (mkF m 183 #[.val (.long q0), .second, .val (.long q1), .second, .val (.long q2), .second, .val (.long q3), .second, .val (.int p4), .val (.int p5), .val (.ref b101), .unset, .unset] [(.int (0 : Int32))])) _
            refine XS.istore X125.here hx rfl (hb hby at_183) rfl (l' := #[.val (.long q0), .second, .val (.long q1), .second, .val (.long q2), .second, .val (.long q3), .second, .val (.int p4), .val (.int p5), .val (.ref b101), .val (.int (0 : Int32)), .unset]) rfl ?_
            show Steps p.tables e below (T125.setTop (mkF m 185 #[.val (.long q0), .second, .val (.long q1), .second, .val (.long q2), .second, .val (.long q3), .second, .val (.int p4), .val (.int p5), .val (.ref b101), .val (.int (0 : Int32)), .unset] [])) _
            refine XS.aload X125.here hx rfl (hb hby at_185) rfl rfl ?_
            show Steps p.tables e below (T125.setTop (mkF m 187 #[.val (.long q0), .second, .val (.long q1), .second, .val (.long q2), .second, .val (.long q3), .second, .val (.int p4), .val (.int p5), .val (.ref b101), .val (.int (0 : Int32)), .unset] [(.ref b101)])) _
            refine st155 _ ?_
            show Steps p.tables e below (T155.setTop (mkF m 190 #[.val (.long q0), .second, .val (.long q1), .second, .val (.long q2), .second, .val (.long q3), .second, .val (.int p4), .val (.int p5), .val (.ref b101), .val (.int (0 : Int32)), .unset] [(.int (0 : Int32))])) _
            refine XS.istore X155.here hx rfl (hb hby at_190) rfl (l' := #[.val (.long q0), .second, .val (.long q1), .second, .val (.long q2), .second, .val (.long q3), .second, .val (.int p4), .val (.int p5), .val (.ref b101), .val (.int (0 : Int32)), .val (.int (0 : Int32))]) rfl ?_
            show Steps p.tables e below (T155.setTop (mkF m 192 #[.val (.long q0), .second, .val (.long q1), .second, .val (.long q2), .second, .val (.long q3), .second, .val (.int p4), .val (.int p5), .val (.ref b101), .val (.int (0 : Int32)), .val (.int (0 : Int32))] [])) _
            refine XS.iload X155.here hx rfl (hb hby at_192) rfl ?_
            show Steps p.tables e below (T155.setTop (mkF m 194 #[.val (.long q0), .second, .val (.long q1), .second, .val (.long q2), .second, .val (.long q3), .second, .val (.int p4), .val (.int p5), .val (.ref b101), .val (.int (0 : Int32)), .val (.int (0 : Int32))] [(.int (0 : Int32))])) _
            refine XS.iload X155.here hx rfl (hb hby at_194) rfl ?_
            show Steps p.tables e below (T155.setTop (mkF m 196 #[.val (.long q0), .second, .val (.long q1), .second, .val (.long q2), .second, .val (.long q3), .second, .val (.int p4), .val (.int p5), .val (.ref b101), .val (.int (0 : Int32)), .val (.int (0 : Int32))] [(.int (0 : Int32)), (.int (0 : Int32))])) _
            refine XS.icmpNo X155.here hx rfl (hb hby at_196) rfl (teq (by decide : (0 : Int32) = (0 : Int32))).2 ?_
            show Steps p.tables e below (T155.setTop (mkF m 199 #[.val (.long q0), .second, .val (.long q1), .second, .val (.long q2), .second, .val (.long q3), .second, .val (.int p4), .val (.int p5), .val (.ref b101), .val (.int (0 : Int32)), .val (.int (0 : Int32))] [])) _
            refine XS.iconst X155.here hx rfl (hb hby at_199) ?_
            show Steps p.tables e below (T155.setTop (mkF m 200 #[.val (.long q0), .second, .val (.long q1), .second, .val (.long q2), .second, .val (.long q3), .second, .val (.int p4), .val (.int p5), .val (.ref b101), .val (.int (0 : Int32)), .val (.int (0 : Int32))] [(.int (1 : Int32))])) _
            refine XS.goto X155.here hx rfl (pc0 := 200) (pc' := 204) rfl (hb hby at_200) (by decide) (by decide) ?_
            show Steps p.tables e below (T155.setTop (mkF m 204 #[.val (.long q0), .second, .val (.long q1), .second, .val (.long q2), .second, .val (.long q3), .second, .val (.int p4), .val (.int p5), .val (.ref b101), .val (.int (0 : Int32)), .val (.int (0 : Int32))] [(.int (1 : Int32))])) _
            exact retN X155 hx (t := .boolean) Bd.returns (by simp) (hb hby at_204) hr
          · show Q0 Z q0 q1 q2 q3 p4 p5 h0 n0 _ T155.heap _
            rw [e155]
            exact ⟨rfl, N155⟩
      · obtain ⟨_, _, ⟨T156, L156, k156, n156⟩, -, X156, ⟨Lc156, hQ156, l156, y156, z156⟩, st156⟩ := Jvm.LawKit.callS X125 hx (y := (⟨"com/example/serialroute/serialroute/core/P256Field", "isZero", "([J)Z"⟩ : MethodName)) hown (mvT hZ (hw _ (List.mem_of_getElem? (i := 5) rfl))) (mvT hZ (hw _ (List.mem_of_getElem? (i := 6) rfl))) (mvT hZ (hw _ (List.mem_of_getElem? (i := 7) rfl))) (mvT hZ (hw _ (List.mem_of_getElem? (i := 8) rfl))) (by decide) (backOf (W := 0) (rm2 l Z aw hw [] b101 k101 (own_pick p5 (0 : Int32) q0) (own_pick p5 (1 : Int32) q1) (own_pick p5 (2 : Int32) q2) (own_pick p5 (3 : Int32) q3) (own_pick p5 (4 : Int32) (-q0)) (own_pick p5 (5 : Int32) (-q1)) (own_pick p5 (6 : Int32) (p4.toInt64)) (own_pick p5 (7 : Int32) q0) h125 n0 Z125 V125b) hZ (hw _ (List.mem_of_getElem? (i := 8) rfl)) (hw _ (List.mem_of_getElem? (i := 7) rfl)) (by decide) (by decide)) (g := (mkF m 187 #[.val (.long q0), .second, .val (.long q1), .second, .val (.long q2), .second, .val (.long q3), .second, .val (.int p4), .val (.int p5), .val (.ref b101), .val (.int (0 : Int32)), .unset] [(.ref b101)])) rfl (by rw [hml]; rfl) (argsL := [(.ref b101)]) (rest := []) (lenOf pd_1 rfl) rfl (by show 2 * 0 + _ ≤ _; exact Nat.le_of_eq rfl) (hb hby at_187) (fun _ _ => ⟨rfl, e125, (by decide : 1 + 0 ≤ _), (by decide : 8 + 0 ≤ _)⟩)
        dsimp only [Pt.U, Pt.locs, Pt.cells, Pt.slots] at X156 l156 y156 z156 st156 hQ156
        subst l156 y156 z156
        obtain ⟨hv156, N156q, e156⟩ := hQ156
        rw [own_z_no (fun q => hc134 q.2.2.1)] at hv156
        subst hv156
        have N156 := Fr.app N125 N156q
        obtain ⟨fs, hr, hrun, hended, hW, hsame⟩ := X156.leave (v := some (.int (1 : Int32))) (fun h => by rw [Bd.returns] at h; cases h)
        refine ⟨_, _, pre133 _ ?_, hrun, hended, _, _, rfl, ?_, ⟨_, rfl⟩, hW, hsame.mono (by decide) (by decide)⟩
        · show Steps p.tables e below (T125.setTop (mkF m 128 #[.val (.long q0), .second, .val (.long q1), .second, .val (.long q2), .second, .val (.long q3), .second, .val (.int p4), .val (.int p5), .val (.ref b101), .unset, .unset] [(.int (lcmpW (own_pick p5 (2 : Int32) q2) (0 : Int64)))])) _
          refine XS.ifYes X125.here hx rfl (pc0 := 128) (pc' := 182) rfl (hb hby at_128) rfl ((if0 _ _).trans (feq (fun q => hc134 ((lw_eq (own_pick p5 (2 : Int32) q2) (0 : Int64)).mp q))).2) (by decide) (by decide) ?_
          show Steps p.tables e below (T125.setTop (mkF m 182 #[.val (.long q0), .second, .val (.long q1), .second, .val (.long q2), .second, .val (.long q3), .second, .val (.int p4), .val (.int p5), .val (.ref b101), .unset, .unset] [])) _
          refine XS.iconst X125.here hx rfl (hb hby at_182) ?_
          show Steps p.tables e below (T125.setTop (mkF m 183 #[.val (.long q0), .second, .val (.long q1), .second, .val (.long q2), .second, .val (.long q3), .second, .val (.int p4), .val (.int p5), .val (.ref b101), .unset, .unset] [(.int (0 : Int32))])) _
          refine XS.istore X125.here hx rfl (hb hby at_183) rfl (l' := #[.val (.long q0), .second, .val (.long q1), .second, .val (.long q2), .second, .val (.long q3), .second, .val (.int p4), .val (.int p5), .val (.ref b101), .val (.int (0 : Int32)), .unset]) rfl ?_
          show Steps p.tables e below (T125.setTop (mkF m 185 #[.val (.long q0), .second, .val (.long q1), .second, .val (.long q2), .second, .val (.long q3), .second, .val (.int p4), .val (.int p5), .val (.ref b101), .val (.int (0 : Int32)), .unset] [])) _
          refine XS.aload X125.here hx rfl (hb hby at_185) rfl rfl ?_
          show Steps p.tables e below (T125.setTop (mkF m 187 #[.val (.long q0), .second, .val (.long q1), .second, .val (.long q2), .second, .val (.long q3), .second, .val (.int p4), .val (.int p5), .val (.ref b101), .val (.int (0 : Int32)), .unset] [(.ref b101)])) _
          refine st156 _ ?_
          show Steps p.tables e below (T156.setTop (mkF m 190 #[.val (.long q0), .second, .val (.long q1), .second, .val (.long q2), .second, .val (.long q3), .second, .val (.int p4), .val (.int p5), .val (.ref b101), .val (.int (0 : Int32)), .unset] [(.int (0 : Int32))])) _
          refine XS.istore X156.here hx rfl (hb hby at_190) rfl (l' := #[.val (.long q0), .second, .val (.long q1), .second, .val (.long q2), .second, .val (.long q3), .second, .val (.int p4), .val (.int p5), .val (.ref b101), .val (.int (0 : Int32)), .val (.int (0 : Int32))]) rfl ?_
          show Steps p.tables e below (T156.setTop (mkF m 192 #[.val (.long q0), .second, .val (.long q1), .second, .val (.long q2), .second, .val (.long q3), .second, .val (.int p4), .val (.int p5), .val (.ref b101), .val (.int (0 : Int32)), .val (.int (0 : Int32))] [])) _
          refine XS.iload X156.here hx rfl (hb hby at_192) rfl ?_
          show Steps p.tables e below (T156.setTop (mkF m 194 #[.val (.long q0), .second, .val (.long q1), .second, .val (.long q2), .second, .val (.long q3), .second, .val (.int p4), .val (.int p5), .val (.ref b101), .val (.int (0 : Int32)), .val (.int (0 : Int32))] [(.int (0 : Int32))])) _
          refine XS.iload X156.here hx rfl (hb hby at_194) rfl ?_
          show Steps p.tables e below (T156.setTop (mkF m 196 #[.val (.long q0), .second, .val (.long q1), .second, .val (.long q2), .second, .val (.long q3), .second, .val (.int p4), .val (.int p5), .val (.ref b101), .val (.int (0 : Int32)), .val (.int (0 : Int32))] [(.int (0 : Int32)), (.int (0 : Int32))])) _
          refine XS.icmpNo X156.here hx rfl (hb hby at_196) rfl (teq (by decide : (0 : Int32) = (0 : Int32))).2 ?_
          show Steps p.tables e below (T156.setTop (mkF m 199 #[.val (.long q0), .second, .val (.long q1), .second, .val (.long q2), .second, .val (.long q3), .second, .val (.int p4), .val (.int p5), .val (.ref b101), .val (.int (0 : Int32)), .val (.int (0 : Int32))] [])) _
          refine XS.iconst X156.here hx rfl (hb hby at_199) ?_
          show Steps p.tables e below (T156.setTop (mkF m 200 #[.val (.long q0), .second, .val (.long q1), .second, .val (.long q2), .second, .val (.long q3), .second, .val (.int p4), .val (.int p5), .val (.ref b101), .val (.int (0 : Int32)), .val (.int (0 : Int32))] [(.int (1 : Int32))])) _
          refine XS.goto X156.here hx rfl (pc0 := 200) (pc' := 204) rfl (hb hby at_200) (by decide) (by decide) ?_
          show Steps p.tables e below (T156.setTop (mkF m 204 #[.val (.long q0), .second, .val (.long q1), .second, .val (.long q2), .second, .val (.long q3), .second, .val (.int p4), .val (.int p5), .val (.ref b101), .val (.int (0 : Int32)), .val (.int (0 : Int32))] [(.int (1 : Int32))])) _
          exact retN X156 hx (t := .boolean) Bd.returns (by simp) (hb hby at_204) hr
        · show Q0 Z q0 q1 q2 q3 p4 p5 h0 n0 _ T156.heap _
          rw [e156]
          exact ⟨rfl, N156⟩
    · obtain ⟨_, _, ⟨T157, L157, k157, n157⟩, -, X157, ⟨Lc157, hQ157, l157, y157, z157⟩, st157⟩ := Jvm.LawKit.callS X125 hx (y := (⟨"com/example/serialroute/serialroute/core/P256Field", "isZero", "([J)Z"⟩ : MethodName)) hown (mvT hZ (hw _ (List.mem_of_getElem? (i := 5) rfl))) (mvT hZ (hw _ (List.mem_of_getElem? (i := 6) rfl))) (mvT hZ (hw _ (List.mem_of_getElem? (i := 7) rfl))) (mvT hZ (hw _ (List.mem_of_getElem? (i := 8) rfl))) (by decide) (backOf (W := 0) (rm2 l Z aw hw [] b101 k101 (own_pick p5 (0 : Int32) q0) (own_pick p5 (1 : Int32) q1) (own_pick p5 (2 : Int32) q2) (own_pick p5 (3 : Int32) q3) (own_pick p5 (4 : Int32) (-q0)) (own_pick p5 (5 : Int32) (-q1)) (own_pick p5 (6 : Int32) (p4.toInt64)) (own_pick p5 (7 : Int32) q0) h125 n0 Z125 V125b) hZ (hw _ (List.mem_of_getElem? (i := 8) rfl)) (hw _ (List.mem_of_getElem? (i := 7) rfl)) (by decide) (by decide)) (g := (mkF m 187 #[.val (.long q0), .second, .val (.long q1), .second, .val (.long q2), .second, .val (.long q3), .second, .val (.int p4), .val (.int p5), .val (.ref b101), .val (.int (0 : Int32)), .unset] [(.ref b101)])) rfl (by rw [hml]; rfl) (argsL := [(.ref b101)]) (rest := []) (lenOf pd_1 rfl) rfl (by show 2 * 0 + _ ≤ _; exact Nat.le_of_eq rfl) (hb hby at_187) (fun _ _ => ⟨rfl, e125, (by decide : 1 + 0 ≤ _), (by decide : 8 + 0 ≤ _)⟩)
      dsimp only [Pt.U, Pt.locs, Pt.cells, Pt.slots] at X157 l157 y157 z157 st157 hQ157
      subst l157 y157 z157
      obtain ⟨hv157, N157q, e157⟩ := hQ157
      rw [own_z_no (fun q => hc131 q.2.1)] at hv157
      subst hv157
      have N157 := Fr.app N125 N157q
      obtain ⟨fs, hr, hrun, hended, hW, hsame⟩ := X157.leave (v := some (.int (1 : Int32))) (fun h => by rw [Bd.returns] at h; cases h)
      refine ⟨_, _, pre130 _ ?_, hrun, hended, _, _, rfl, ?_, ⟨_, rfl⟩, hW, hsame.mono (by decide) (by decide)⟩
      · show Steps p.tables e below (T125.setTop (mkF m 119 #[.val (.long q0), .second, .val (.long q1), .second, .val (.long q2), .second, .val (.long q3), .second, .val (.int p4), .val (.int p5), .val (.ref b101), .unset, .unset] [(.int (lcmpW (own_pick p5 (1 : Int32) q1) (0 : Int64)))])) _
        refine XS.ifYes X125.here hx rfl (pc0 := 119) (pc' := 182) rfl (hb hby at_119) rfl ((if0 _ _).trans (feq (fun q => hc131 ((lw_eq (own_pick p5 (1 : Int32) q1) (0 : Int64)).mp q))).2) (by decide) (by decide) ?_
        show Steps p.tables e below (T125.setTop (mkF m 182 #[.val (.long q0), .second, .val (.long q1), .second, .val (.long q2), .second, .val (.long q3), .second, .val (.int p4), .val (.int p5), .val (.ref b101), .unset, .unset] [])) _
        refine XS.iconst X125.here hx rfl (hb hby at_182) ?_
        show Steps p.tables e below (T125.setTop (mkF m 183 #[.val (.long q0), .second, .val (.long q1), .second, .val (.long q2), .second, .val (.long q3), .second, .val (.int p4), .val (.int p5), .val (.ref b101), .unset, .unset] [(.int (0 : Int32))])) _
        refine XS.istore X125.here hx rfl (hb hby at_183) rfl (l' := #[.val (.long q0), .second, .val (.long q1), .second, .val (.long q2), .second, .val (.long q3), .second, .val (.int p4), .val (.int p5), .val (.ref b101), .val (.int (0 : Int32)), .unset]) rfl ?_
        show Steps p.tables e below (T125.setTop (mkF m 185 #[.val (.long q0), .second, .val (.long q1), .second, .val (.long q2), .second, .val (.long q3), .second, .val (.int p4), .val (.int p5), .val (.ref b101), .val (.int (0 : Int32)), .unset] [])) _
        refine XS.aload X125.here hx rfl (hb hby at_185) rfl rfl ?_
        show Steps p.tables e below (T125.setTop (mkF m 187 #[.val (.long q0), .second, .val (.long q1), .second, .val (.long q2), .second, .val (.long q3), .second, .val (.int p4), .val (.int p5), .val (.ref b101), .val (.int (0 : Int32)), .unset] [(.ref b101)])) _
        refine st157 _ ?_
        show Steps p.tables e below (T157.setTop (mkF m 190 #[.val (.long q0), .second, .val (.long q1), .second, .val (.long q2), .second, .val (.long q3), .second, .val (.int p4), .val (.int p5), .val (.ref b101), .val (.int (0 : Int32)), .unset] [(.int (0 : Int32))])) _
        refine XS.istore X157.here hx rfl (hb hby at_190) rfl (l' := #[.val (.long q0), .second, .val (.long q1), .second, .val (.long q2), .second, .val (.long q3), .second, .val (.int p4), .val (.int p5), .val (.ref b101), .val (.int (0 : Int32)), .val (.int (0 : Int32))]) rfl ?_
        show Steps p.tables e below (T157.setTop (mkF m 192 #[.val (.long q0), .second, .val (.long q1), .second, .val (.long q2), .second, .val (.long q3), .second, .val (.int p4), .val (.int p5), .val (.ref b101), .val (.int (0 : Int32)), .val (.int (0 : Int32))] [])) _
        refine XS.iload X157.here hx rfl (hb hby at_192) rfl ?_
        show Steps p.tables e below (T157.setTop (mkF m 194 #[.val (.long q0), .second, .val (.long q1), .second, .val (.long q2), .second, .val (.long q3), .second, .val (.int p4), .val (.int p5), .val (.ref b101), .val (.int (0 : Int32)), .val (.int (0 : Int32))] [(.int (0 : Int32))])) _
        refine XS.iload X157.here hx rfl (hb hby at_194) rfl ?_
        show Steps p.tables e below (T157.setTop (mkF m 196 #[.val (.long q0), .second, .val (.long q1), .second, .val (.long q2), .second, .val (.long q3), .second, .val (.int p4), .val (.int p5), .val (.ref b101), .val (.int (0 : Int32)), .val (.int (0 : Int32))] [(.int (0 : Int32)), (.int (0 : Int32))])) _
        refine XS.icmpNo X157.here hx rfl (hb hby at_196) rfl (teq (by decide : (0 : Int32) = (0 : Int32))).2 ?_
        show Steps p.tables e below (T157.setTop (mkF m 199 #[.val (.long q0), .second, .val (.long q1), .second, .val (.long q2), .second, .val (.long q3), .second, .val (.int p4), .val (.int p5), .val (.ref b101), .val (.int (0 : Int32)), .val (.int (0 : Int32))] [])) _
        refine XS.iconst X157.here hx rfl (hb hby at_199) ?_
        show Steps p.tables e below (T157.setTop (mkF m 200 #[.val (.long q0), .second, .val (.long q1), .second, .val (.long q2), .second, .val (.long q3), .second, .val (.int p4), .val (.int p5), .val (.ref b101), .val (.int (0 : Int32)), .val (.int (0 : Int32))] [(.int (1 : Int32))])) _
        refine XS.goto X157.here hx rfl (pc0 := 200) (pc' := 204) rfl (hb hby at_200) (by decide) (by decide) ?_
        show Steps p.tables e below (T157.setTop (mkF m 204 #[.val (.long q0), .second, .val (.long q1), .second, .val (.long q2), .second, .val (.long q3), .second, .val (.int p4), .val (.int p5), .val (.ref b101), .val (.int (0 : Int32)), .val (.int (0 : Int32))] [(.int (1 : Int32))])) _
        exact retN X157 hx (t := .boolean) Bd.returns (by simp) (hb hby at_204) hr
      · show Q0 Z q0 q1 q2 q3 p4 p5 h0 n0 _ T157.heap _
        rw [e157]
        exact ⟨rfl, N157⟩
  · obtain ⟨_, _, ⟨T158, L158, k158, n158⟩, -, X158, ⟨Lc158, hQ158, l158, y158, z158⟩, st158⟩ := Jvm.LawKit.callS X125 hx (y := (⟨"com/example/serialroute/serialroute/core/P256Field", "isZero", "([J)Z"⟩ : MethodName)) hown (mvT hZ (hw _ (List.mem_of_getElem? (i := 5) rfl))) (mvT hZ (hw _ (List.mem_of_getElem? (i := 6) rfl))) (mvT hZ (hw _ (List.mem_of_getElem? (i := 7) rfl))) (mvT hZ (hw _ (List.mem_of_getElem? (i := 8) rfl))) (by decide) (backOf (W := 0) (rm2 l Z aw hw [] b101 k101 (own_pick p5 (0 : Int32) q0) (own_pick p5 (1 : Int32) q1) (own_pick p5 (2 : Int32) q2) (own_pick p5 (3 : Int32) q3) (own_pick p5 (4 : Int32) (-q0)) (own_pick p5 (5 : Int32) (-q1)) (own_pick p5 (6 : Int32) (p4.toInt64)) (own_pick p5 (7 : Int32) q0) h125 n0 Z125 V125b) hZ (hw _ (List.mem_of_getElem? (i := 8) rfl)) (hw _ (List.mem_of_getElem? (i := 7) rfl)) (by decide) (by decide)) (g := (mkF m 187 #[.val (.long q0), .second, .val (.long q1), .second, .val (.long q2), .second, .val (.long q3), .second, .val (.int p4), .val (.int p5), .val (.ref b101), .val (.int (0 : Int32)), .unset] [(.ref b101)])) rfl (by rw [hml]; rfl) (argsL := [(.ref b101)]) (rest := []) (lenOf pd_1 rfl) rfl (by show 2 * 0 + _ ≤ _; exact Nat.le_of_eq rfl) (hb hby at_187) (fun _ _ => ⟨rfl, e125, (by decide : 1 + 0 ≤ _), (by decide : 8 + 0 ≤ _)⟩)
    dsimp only [Pt.U, Pt.locs, Pt.cells, Pt.slots] at X158 l158 y158 z158 st158 hQ158
    subst l158 y158 z158
    obtain ⟨hv158, N158q, e158⟩ := hQ158
    rw [own_z_no (fun q => hc128 q.1)] at hv158
    subst hv158
    have N158 := Fr.app N125 N158q
    obtain ⟨fs, hr, hrun, hended, hW, hsame⟩ := X158.leave (v := some (.int (1 : Int32))) (fun h => by rw [Bd.returns] at h; cases h)
    refine ⟨_, _, pre127 _ ?_, hrun, hended, _, _, rfl, ?_, ⟨_, rfl⟩, hW, hsame.mono (by decide) (by decide)⟩
    · show Steps p.tables e below (T125.setTop (mkF m 110 #[.val (.long q0), .second, .val (.long q1), .second, .val (.long q2), .second, .val (.long q3), .second, .val (.int p4), .val (.int p5), .val (.ref b101), .unset, .unset] [(.int (lcmpW (own_pick p5 (0 : Int32) q0) (0 : Int64)))])) _
      refine XS.ifYes X125.here hx rfl (pc0 := 110) (pc' := 182) rfl (hb hby at_110) rfl ((if0 _ _).trans (feq (fun q => hc128 ((lw_eq (own_pick p5 (0 : Int32) q0) (0 : Int64)).mp q))).2) (by decide) (by decide) ?_
      show Steps p.tables e below (T125.setTop (mkF m 182 #[.val (.long q0), .second, .val (.long q1), .second, .val (.long q2), .second, .val (.long q3), .second, .val (.int p4), .val (.int p5), .val (.ref b101), .unset, .unset] [])) _
      refine XS.iconst X125.here hx rfl (hb hby at_182) ?_
      show Steps p.tables e below (T125.setTop (mkF m 183 #[.val (.long q0), .second, .val (.long q1), .second, .val (.long q2), .second, .val (.long q3), .second, .val (.int p4), .val (.int p5), .val (.ref b101), .unset, .unset] [(.int (0 : Int32))])) _
      refine XS.istore X125.here hx rfl (hb hby at_183) rfl (l' := #[.val (.long q0), .second, .val (.long q1), .second, .val (.long q2), .second, .val (.long q3), .second, .val (.int p4), .val (.int p5), .val (.ref b101), .val (.int (0 : Int32)), .unset]) rfl ?_
      show Steps p.tables e below (T125.setTop (mkF m 185 #[.val (.long q0), .second, .val (.long q1), .second, .val (.long q2), .second, .val (.long q3), .second, .val (.int p4), .val (.int p5), .val (.ref b101), .val (.int (0 : Int32)), .unset] [])) _
      refine XS.aload X125.here hx rfl (hb hby at_185) rfl rfl ?_
      show Steps p.tables e below (T125.setTop (mkF m 187 #[.val (.long q0), .second, .val (.long q1), .second, .val (.long q2), .second, .val (.long q3), .second, .val (.int p4), .val (.int p5), .val (.ref b101), .val (.int (0 : Int32)), .unset] [(.ref b101)])) _
      refine st158 _ ?_
      show Steps p.tables e below (T158.setTop (mkF m 190 #[.val (.long q0), .second, .val (.long q1), .second, .val (.long q2), .second, .val (.long q3), .second, .val (.int p4), .val (.int p5), .val (.ref b101), .val (.int (0 : Int32)), .unset] [(.int (0 : Int32))])) _
      refine XS.istore X158.here hx rfl (hb hby at_190) rfl (l' := #[.val (.long q0), .second, .val (.long q1), .second, .val (.long q2), .second, .val (.long q3), .second, .val (.int p4), .val (.int p5), .val (.ref b101), .val (.int (0 : Int32)), .val (.int (0 : Int32))]) rfl ?_
      show Steps p.tables e below (T158.setTop (mkF m 192 #[.val (.long q0), .second, .val (.long q1), .second, .val (.long q2), .second, .val (.long q3), .second, .val (.int p4), .val (.int p5), .val (.ref b101), .val (.int (0 : Int32)), .val (.int (0 : Int32))] [])) _
      refine XS.iload X158.here hx rfl (hb hby at_192) rfl ?_
      show Steps p.tables e below (T158.setTop (mkF m 194 #[.val (.long q0), .second, .val (.long q1), .second, .val (.long q2), .second, .val (.long q3), .second, .val (.int p4), .val (.int p5), .val (.ref b101), .val (.int (0 : Int32)), .val (.int (0 : Int32))] [(.int (0 : Int32))])) _
      refine XS.iload X158.here hx rfl (hb hby at_194) rfl ?_
      show Steps p.tables e below (T158.setTop (mkF m 196 #[.val (.long q0), .second, .val (.long q1), .second, .val (.long q2), .second, .val (.long q3), .second, .val (.int p4), .val (.int p5), .val (.ref b101), .val (.int (0 : Int32)), .val (.int (0 : Int32))] [(.int (0 : Int32)), (.int (0 : Int32))])) _
      refine XS.icmpNo X158.here hx rfl (hb hby at_196) rfl (teq (by decide : (0 : Int32) = (0 : Int32))).2 ?_
      show Steps p.tables e below (T158.setTop (mkF m 199 #[.val (.long q0), .second, .val (.long q1), .second, .val (.long q2), .second, .val (.long q3), .second, .val (.int p4), .val (.int p5), .val (.ref b101), .val (.int (0 : Int32)), .val (.int (0 : Int32))] [])) _
      refine XS.iconst X158.here hx rfl (hb hby at_199) ?_
      show Steps p.tables e below (T158.setTop (mkF m 200 #[.val (.long q0), .second, .val (.long q1), .second, .val (.long q2), .second, .val (.long q3), .second, .val (.int p4), .val (.int p5), .val (.ref b101), .val (.int (0 : Int32)), .val (.int (0 : Int32))] [(.int (1 : Int32))])) _
      refine XS.goto X158.here hx rfl (pc0 := 200) (pc' := 204) rfl (hb hby at_200) (by decide) (by decide) ?_
      show Steps p.tables e below (T158.setTop (mkF m 204 #[.val (.long q0), .second, .val (.long q1), .second, .val (.long q2), .second, .val (.long q3), .second, .val (.int p4), .val (.int p5), .val (.ref b101), .val (.int (0 : Int32)), .val (.int (0 : Int32))] [(.int (1 : Int32))])) _
      exact retN X158 hx (t := .boolean) Bd.returns (by simp) (hb hby at_204) hr
    · show Q0 Z q0 q1 q2 q3 p4 p5 h0 n0 _ T158.heap _
      rw [e158]
      exact ⟨rfl, N158⟩
set_option maxRecDepth 65536 in
set_option maxHeartbeats 40000000 in
theorem comes_1 {Post : Tables → Env → Array Value → State → Outcome → State → Prop} (hpost : ∀ tb e args s v u, (limb_1_1.after args s (.returned v) u = true ∧ limb_1_2.after args s (.returned v) u = true ∧ True) → FrameEnd s (.returned v) u (Jvm.fieldLocs frame_1_writes args s ++ Jvm.arrayLocs frame_1_arrays args s ++ Jvm.staticLocs frame_1_statics s) 16 128 → Post tb e args s (.returned v) u) :
    ArmFor flags0 classFile x code maxLocals ret World_1 tables_1 room_1 Calls_1 rest_1 Pre_1 Post := by
  intro l hfl _ _ p e ha hc hk s m args below hf hA hF happ hP
  obtain ⟨hcalls, hrest, hpre⟩ := hP
  obtain ⟨-, -, -, hnamed, -, -, -, hat⟩ := (Spec.applies_iff hf).mp happ
  obtain ⟨hg, hn⟩ := and_e (Cond.before_iff.mp (show (Jvm.Cond.and given_1 narrow_1).before args s = true from hpre))
  obtain ⟨hga, hgb⟩ := and_e hg
  obtain ⟨hgba, hgbb⟩ := and_e hgb
  obtain ⟨hgbba, hgbbb⟩ := and_e hgbb
  obtain ⟨hgbbba, hgbbbb⟩ := and_e hgbbb
  obtain ⟨hgbbbba, hgbbbbb⟩ := and_e hgbbbb
  obtain ⟨hgbbbbba, hgbbbbbb⟩ := and_e hgbbbbb
  obtain ⟨w0, w1, w2, w3, w4, w5, rfl⟩ : ∃ w0 w1 w2 w3 w4 w5 : Value, args = #[w0, w1, w2, w3, w4, w5] := by
    have hs : args.size = 6 := by simpa [Cond.value, given_1] using hga
    obtain ⟨L⟩ := args
    match L, hs with
    | [w0, w1, w2, w3, w4, w5], _ => exact ⟨w0, w1, w2, w3, w4, w5, rfl⟩
  have hw := fun d (hd : d ∈ tables_1) => atoms_spec (ws := Jvm.Cond.code x code maxLocals ret :: tables_1) hat d (List.mem_cons_of_mem _ hd)
  have hfit : Fit s := fun {y c} hc i hi => by
    obtain ⟨ha, rfl⟩ := Array.getElem?_eq_some_iff.mp hc
    have q := List.all_eq_true.mp ((Array.all_eq_true_iff_forall_mem.mp hF) _ (Array.getElem_mem ha)) i (List.mem_range.mpr hi)
    simpa [Array.getElem?_eq_getElem hi] using q
  obtain ⟨i0, ei0⟩ := isL_v hgba
  obtain rfl : w0 = (.long i0) := Option.some.inj ei0
  obtain ⟨i1, ei1⟩ := isL_v hgbba
  obtain rfl : w1 = (.long i1) := Option.some.inj ei1
  obtain ⟨i2, ei2⟩ := isL_v hgbbba
  obtain rfl : w2 = (.long i2) := Option.some.inj ei2
  obtain ⟨i3, ei3⟩ := isL_v hgbbbba
  obtain rfl : w3 = (.long i3) := Option.some.inj ei3
  obtain ⟨i4, ei4⟩ := is_v hgbbbbba
  obtain rfl : w4 = (.int i4) := Option.some.inj ei4
  obtain ⟨i5, ei5⟩ := is_v hgbbbbbb
  obtain rfl : w5 = (.int i5) := Option.some.inj ei5
  obtain ⟨n, o, h1, h2, h3, _, L, rfl, ⟨rfl, N⟩, hq⟩ := rm0 l s _ hw tables_1 i0 i1 i2 i3 i4 i5  s.heap s.heap.size (Nat.le_refl _)  p e ha hc hk s m _ below hf ((Spec.applies_iff_loose hf).mp happ).1 ⟨rfl, State.Warmed39.refl s, rfl⟩ trivial
  refine ⟨n, _, h1, h2, h3, hpost _ _ _ _ _ _ ⟨Cond.after_iff.mpr rfl, Cond.after_iff.mpr (eq_i res_at (Term.int_eval (1)) rfl), trivial⟩ ⟨hq.1, hq.2.1, (hq.2.2.sift fun y hy => Or.inr (N y hy)).mono (by decide) (by decide)⟩⟩
theorem main_1_1 : Claimed_1_1 := comes_1 fun _ _ _ _ _ _ h hF => ⟨h.1, hF⟩
theorem main_1_2 : Claimed_1_2 := comes_1 fun _ _ _ _ _ _ h hF => ⟨h.2.1, hF⟩
end Jvm.Pilot.@@N@@
namespace Jvm.Pilot.@@N@@
open Jvm Jvm.ClassFile Sem Op Lib Jvm.Free Jvm.Stand Jvm.Pilot.@@N@@.Jvm.D
/-! MADE BY PROGRAM (witnessworld.py) out of the Statement's table words and the real class files: 11 classes; the members and pool entries that the words name. The judged class is class 1, her method 2. -/
namespace start1
open Jvm.ClassFile
def u (s : String) : CpInfo := .utf8 (stringToUtf16 s)
/-- a pool by its gaps: so many unusable entries, then the entry; so many at the end -/
def gap : Nat → List CpInfo → List CpInfo
  | 0, r => r
  | n + 1, r => .unusable :: gap n r
def poolList (es : List (Nat × CpInfo)) (last : Nat) : List CpInfo := es.foldr (fun e r => gap e.1 (e.2 :: r)) (gap last [])
def pool (es : List (Nat × CpInfo)) (last : Nat) : Array CpInfo := ⟨poolList es last⟩
def fileOf (pool : Array CpInfo) (this : Nat) (attrs : Array Attribute := #[]) (ms : Array MethodInfo := #[]) (fl : Nat := 33) (sup : Nat := 0) (ifs : Array Nat := #[]) (fds : Array FieldInfo := #[]) : ClassFile where
  minorVersion := 0
  majorVersion := 65
  constantPool := pool
  accessFlags := fl
  thisClass := this
  superClass := sup
  interfaces := ifs
  fields := fds
  methods := ms
  attributes := attrs
def plain (name : String) (sup : Option ClassId) : Class where
  name := name
  kind := .ordinary
  loader := none
  accessFlags := 33
  super := sup
  interfaces := #[]
  cf := none
  fields := #[]
  methods := #[]
  instanceTypes := #[]
  staticTypes := #[]
  resolved := #[]
  callSites := []
  init := .initialized
  statics := none
  mirror := none

def pool0 : Array CpInfo := pool [(5, u "<init>"), (0, u "()V"), (1, .class_ 10), (1, u "java/lang/Object")] 113

def k0m0 : Method := { name := "<init>", desc := "()V", sig := { parameters := [], returnType := none }, accessFlags := 1, code := none }
/-- java/lang/Object -/
def k0 : Class := { plain "java/lang/Object" none with
  accessFlags := 33
  interfaces := #[]
  cf := some (fileOf pool0 8 #[] #[{ accessFlags := 1, nameIndex := 5, descriptorIndex := 6, attributes := #[] }] 33 0 #[] #[])
  fields := #[]
  methods := #[k0m0]
  instanceTypes := #[]
  staticTypes := #[]
  resolved := Array.replicate 124 none
  statics := none }

def pool1 : Array CpInfo := pool [(2, .class_ 4), (1, u "java/lang/Object"), (0, u "<init>"), (0, u "()V"), (0, .methodref 8 9), (0, .class_ 10), (0, .nameAndType 11 12), (0, u "com/example/serialroute/serialroute/core/P256FieldIsZeroPinLaw"), (0, u "pick"), (0, u "(IIJ)J"), (0, .methodref 14 15), (0, .class_ 16), (0, .nameAndType 17 18), (0, u "com/example/serialroute/serialroute/core/P256Field"), (0, u "isZero"), (0, u "([J)Z"), (3, u "law"), (0, u "(JJJJII)Z")] 4

def k1m0 : Method := { name := "<init>", desc := "()V", sig := { parameters := [], returnType := none }, accessFlags := 2, code := none }
def k1c1 : Code := { maxStack := 2, maxLocals := 4, code := method_2_code, exceptionTable := #[], attributes := #[] }
def k1m1 : Method := { name := "pick", desc := "(IIJ)J", sig := { parameters := [.int, .int, .long], returnType := some .long }, accessFlags := 10, code := some k1c1 }
def k1c2 : Code := { maxStack := 6, maxLocals := 13, code := code, exceptionTable := #[], attributes := #[] }
def k1m2 : Method := { name := "law", desc := "(JJJJII)Z", sig := { parameters := [.long, .long, .long, .long, .int, .int], returnType := some .boolean }, accessFlags := 9, code := some k1c2 }
/-- com/example/serialroute/serialroute/core/P256FieldIsZeroPinLaw -/
def k1 : Class := { plain "com/example/serialroute/serialroute/core/P256FieldIsZeroPinLaw" (some 0) with
  accessFlags := 49
  interfaces := #[]
  cf := some (fileOf pool1 8 #[] #[{ accessFlags := 2, nameIndex := 5, descriptorIndex := 6, attributes := #[] }, { accessFlags := 10, nameIndex := 11, descriptorIndex := 12, attributes := #[] }, { accessFlags := 9, nameIndex := 22, descriptorIndex := 23, attributes := #[] }] 49 2 #[] #[])
  fields := #[]
  methods := #[k1m0, k1m1, k1m2]
  instanceTypes := #[]
  staticTypes := #[]
  resolved := Array.replicate 28 none
  statics := none }

def pool2 : Array CpInfo := pool [(2, .class_ 4), (1, u "java/lang/Object"), (0, u "<init>"), (0, u "()V"), (0, .class_ 8), (0, u "com/example/serialroute/serialroute/core/P256Field"), (2, u "product"), (0, u "[J"), (8, u "P"), (0, u "Ljava/math/BigInteger;"), (42, u "([J)Z"), (9, u "isZero"), (8, u "P_WORDS"), (31, u "WORDS"), (0, u "I"), (2, u "MASK"), (0, u "J")] 28

def k2m0 : Method := { name := "<init>", desc := "()V", sig := { parameters := [], returnType := none }, accessFlags := 0, code := none }
def k2c1 : Code := { maxStack := 4, maxLocals := 8, code := prog_29_method_4_code, exceptionTable := #[], attributes := #[] }
def k2m1 : Method := { name := "isZero", desc := "([J)Z", sig := { parameters := [(.array .long)], returnType := some .boolean }, accessFlags := 8, code := some k2c1 }
/-- com/example/serialroute/serialroute/core/P256Field -/
def k2 : Class := { plain "com/example/serialroute/serialroute/core/P256Field" (some 0) with
  accessFlags := 48
  interfaces := #[]
  cf := some (fileOf pool2 7 #[] #[{ accessFlags := 0, nameIndex := 5, descriptorIndex := 6, attributes := #[] }, { accessFlags := 8, nameIndex := 75, descriptorIndex := 65, attributes := #[] }] 48 2 #[] #[{ accessFlags := 24, nameIndex := 116, descriptorIndex := 117, attributes := #[] }, { accessFlags := 24, nameIndex := 21, descriptorIndex := 22, attributes := #[] }, { accessFlags := 26, nameIndex := 120, descriptorIndex := 121, attributes := #[] }, { accessFlags := 26, nameIndex := 84, descriptorIndex := 12, attributes := #[] }, { accessFlags := 18, nameIndex := 11, descriptorIndex := 12, attributes := #[] }])
  fields := #[{ name := "WORDS", type := .int, accessFlags := 24, slot := 0, constantValue := 0 }, { name := "P", type := (.object "java/math/BigInteger"), accessFlags := 24, slot := 1, constantValue := 0 }, { name := "MASK", type := .long, accessFlags := 26, slot := 2, constantValue := 0 }, { name := "P_WORDS", type := (.array .long), accessFlags := 26, slot := 3, constantValue := 0 }, { name := "product", type := (.array .long), accessFlags := 18, slot := 0, constantValue := 0 }]
  methods := #[k2m0, k2m1]
  instanceTypes := #[(.array .long)]
  staticTypes := #[.int, (.object "java/math/BigInteger"), .long, (.array .long)]
  resolved := Array.replicate 150 none
  statics := none }

def pool3 : Array CpInfo := pool [(1, u "java/lang/Cloneable"), (0, .class_ 1), (0, u "java/lang/Object"), (0, .class_ 3)] 3

/-- java/lang/Cloneable -/
def k3 : Class := { plain "java/lang/Cloneable" (some 0) with
  accessFlags := 1537
  interfaces := #[]
  cf := some (fileOf pool3 2 #[] #[] 1537 4 #[] #[])
  fields := #[]
  methods := #[]
  instanceTypes := #[]
  staticTypes := #[]
  resolved := Array.replicate 8 none
  statics := none }

def pool4 : Array CpInfo := pool [(1, u "java/io/Serializable"), (0, .class_ 1), (0, u "java/lang/Object"), (0, .class_ 3)] 3

/-- java/io/Serializable -/
def k4 : Class := { plain "java/io/Serializable" (some 0) with
  accessFlags := 1537
  interfaces := #[]
  cf := some (fileOf pool4 2 #[] #[] 1537 4 #[] #[])
  fields := #[]
  methods := #[]
  instanceTypes := #[]
  staticTypes := #[]
  resolved := Array.replicate 8 none
  statics := none }

/-- the primitive byte -/
def k5 : Class := { plain "byte" none with kind := .primitive 'B', accessFlags := 0x411 }
/-- [B -/
def k6 : Class := { plain "[B" (some 0) with kind := .array 5 .byte, interfaces := #[3, 4], accessFlags := 1041 }

/-- the primitive int -/
def k7 : Class := { plain "int" none with kind := .primitive 'I', accessFlags := 0x411 }
/-- [I -/
def k8 : Class := { plain "[I" (some 0) with kind := .array 7 .int, interfaces := #[3, 4], accessFlags := 1041 }

/-- the primitive long -/
def k9 : Class := { plain "long" none with kind := .primitive 'J', accessFlags := 0x411 }
/-- [J -/
def k10 : Class := { plain "[J" (some 0) with kind := .array 9 .long, interfaces := #[3, 4], accessFlags := 1041 }

def heap : Heap := #[]
def classes : Array Class := #[k0, k1, k2, k3, k4, k5, k6, k7, k8, k9, k10]
def interned : List (Array UInt16 × Addr) := []
def slotsUsed : Nat := 0
def theMethod : MethodId := ⟨1, 2⟩
def args0 : Array Value := #[.long 5, .long 7, .long 0, .long 1, .int 3, .int 9]
def aboutOver (below : List Frame) : State where
  vm := { classes := classes, interned := interned.toArray }
  heap := heap
  slotsUsed := slotsUsed
  threads := #[{ frames := .invoking theMethod args0 :: below }]
def below0 : List Frame := [.native { method := ⟨0, 0⟩, args := #[] }]
def about1 : State := aboutOver below0
def p0 : Program := .bare "" "" ""
def e0 : Env := launch0.env 0 0 0
theorem w_frames : about1.frames = Frame.invoking theMethod args0 :: below0 := rfl
set_option maxRecDepth 65536 in
theorem w_args : argsFit about1.vm theMethod args0 = true := by decide +kernel
set_option maxRecDepth 65536 in
theorem w_heap : heapFits about1 = true := by decide +kernel
set_option maxRecDepth 65536 in
theorem w_runnable : about1.curStatus? = some .runnable := by decide +kernel
set_option maxRecDepth 65536 in
theorem w_alone : about1.alone = true := by decide +kernel
set_option maxRecDepth 65536 in
theorem w_named : about1.methodNamed? x = some theMethod := by decide +kernel
set_option maxRecDepth 65536 in
theorem w_hears : about1.hears theMethod below0 = true := by decide +kernel
set_option maxRecDepth 65536 in
theorem w_ripe : about1.ripe theMethod args0 below0 = true := by decide +kernel
theorem w_running : about1.status = .running := rfl
set_option maxRecDepth 65536 in
theorem w_room : about1.hasRoom e0.platform room_1 = true :=
  launch0.hasRoom_least _ room_1 (by decide +kernel) (by decide +kernel) (by decide +kernel) (by decide +kernel) (by decide +kernel) (by decide +kernel)
theorem allAtoms_all (ts : List Jvm.Cond) (a : Array Jvm.Value) (st : Jvm.State) : (allAtoms ts).before a st = ts.all (fun c => c.before a st) := by
  induction ts with
  | nil => rfl
  | cons c t ih =>
    show (Jvm.Cond.and c (allAtoms t)).before a st = _
    rw [Jvm.Cond.before_and, ih, List.all_cons]
def words1 : List Jvm.Cond := Jvm.Cond.code x code maxLocals ret :: tables_1
/-- a 'code' word, met by the world's own term for the bytes: nothing is compared byte by byte -/
theorem code_word {y : MethodName} {bytes : ByteArray} {mx : Nat} {rt : Option FieldType} {a : Array Value} {s : State} {m : MethodId} {meth : Method} {c : Code} (h1 : s.methodNamed? y = some m) (h2 : s.vm.method? m = some meth) (h3 : meth.code = some c) (h4 : c.code = bytes)
    (h5 : (c.maxLocals == mx && c.exceptionTable.isEmpty && decide (c.maxStack ≤ mostOperands) && decide (meth.sig.returnType = rt) && !meth.locks && decide (parseMethodDescriptor y.desc = some meth.sig)) = true) : (Jvm.Cond.code y bytes mx rt).before a s = true := by
  simp only [Bool.and_eq_true, beq_iff_eq, Bool.not_eq_true', decide_eq_true_eq] at h5
  obtain ⟨⟨⟨⟨⟨g1, g2⟩, g3⟩, g4⟩, g5⟩, g6⟩ := h5
  simp [Cond.before, Cond.holds, Cond.value, h1, h2, h3, h4, g1, g2, g3, g4, g5, g6]
def isCode : Jvm.Cond → Bool
  | .code _ _ _ _ => true
  | _ => false
theorem all_split {L : List Jvm.Cond} {P : Jvm.Cond → Bool} (h1 : L.all (fun c => isCode c || P c) = true) (h2 : ∀ c ∈ L.filter isCode, P c = true) : L.all P = true := by
  refine List.all_eq_true.mpr fun c hc => ?_
  have h := List.all_eq_true.mp h1 c hc
  rcases Bool.eq_false_or_eq_true (isCode c) with hi | hi
  · exact h2 c (List.mem_filter.mpr ⟨hc, hi⟩)
  · simpa [hi] using h
set_option maxRecDepth 65536 in
theorem w_c0 : (Jvm.Cond.code x code maxLocals ret).before args0 about1 = true := code_word (m := ⟨1, 2⟩) (meth := k1m2) (c := k1c2) (by decide +kernel) rfl rfl rfl (by decide +kernel)
set_option maxRecDepth 65536 in
theorem w_c1 : (Jvm.Cond.code ({ cls := "com/example/serialroute/serialroute/core/P256FieldIsZeroPinLaw", name := "pick", desc := "(IIJ)J" } : Jvm.MethodName) method_2_code (4 : Nat) (Option.some Jvm.ClassFile.FieldType.long)).before args0 about1 = true := code_word (m := ⟨1, 1⟩) (meth := k1m1) (c := k1c1) (by decide +kernel) rfl rfl rfl (by decide +kernel)
set_option maxRecDepth 65536 in
theorem w_c2 : (Jvm.Cond.code ({ cls := "com/example/serialroute/serialroute/core/P256Field", name := "isZero", desc := "([J)Z" } : Jvm.MethodName) prog_29_method_4_code (8 : Nat) (Option.some Jvm.ClassFile.FieldType.boolean)).before args0 about1 = true := code_word (m := ⟨2, 1⟩) (meth := k2m1) (c := k2c1) (by decide +kernel) rfl rfl rfl (by decide +kernel)
def codes1 : List Jvm.Cond := [Jvm.Cond.code x code maxLocals ret, Jvm.Cond.code ({ cls := "com/example/serialroute/serialroute/core/P256FieldIsZeroPinLaw", name := "pick", desc := "(IIJ)J" } : Jvm.MethodName) method_2_code (4 : Nat) (Option.some Jvm.ClassFile.FieldType.long), Jvm.Cond.code ({ cls := "com/example/serialroute/serialroute/core/P256Field", name := "isZero", desc := "([J)Z" } : Jvm.MethodName) prog_29_method_4_code (8 : Nat) (Option.some Jvm.ClassFile.FieldType.boolean)]
set_option maxRecDepth 65536 in
theorem codes_eq : words1.filter isCode = codes1 := rfl
theorem w_codes : ∀ c ∈ words1.filter isCode, c.before args0 about1 = true := by
  rw [codes_eq]
  intro c hc
  simp only [codes1, List.mem_cons, List.not_mem_nil, or_false] at hc
  rcases hc with rfl | rfl | rfl
  · exact w_c0
  · exact w_c1
  · exact w_c2
set_option maxRecDepth 65536 in
theorem w_t1 : words1.all (fun c => isCode c || c.before args0 about1) = true := by decide +kernel
theorem w_tables : (allAtoms (Jvm.Cond.code x code maxLocals ret :: tables_1)).before args0 about1 = true := by
  rw [allAtoms_all]
  show words1.all (fun c => c.before args0 about1) = true
  refine all_split ?_ w_codes
  rw [w_t1]
set_option maxRecDepth 65536 in
theorem w_case : (Jvm.Cond.and given_1 narrow_1).before args0 about1 = true := by decide +kernel
theorem w_applies : (headSpec (Jvm.Cond.code x code maxLocals ret :: tables_1) room_1).applies x e0.platform about1 = true :=
  (Spec.applies_iff w_frames).mpr ⟨w_running, w_runnable, w_alone, w_named, w_hears, w_ripe, w_room, w_tables⟩
theorem atStart : AtStart classFile x code maxLocals ret World_1 tables_1 room_1 Calls_1 rest_1 Pre_1 launch0 p0 e0 about1 theMethod args0 below0 :=
  ⟨lists_1, trivial, launch0.admits_env _ _ _, launch0.least_env, fairChoices_fair.cas, fairChoices_fair.clock, w_frames, w_args, w_heap, w_applies, trivial, trivial, w_case⟩
end start1
theorem witness_1 : WitnessClaimed_1 := ⟨start1.p0, start1.e0, start1.about1, start1.theMethod, start1.args0, start1.below0, start1.atStart⟩
end Jvm.Pilot.@@N@@
