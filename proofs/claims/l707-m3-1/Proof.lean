import JvmDerived
import JvmDerived.Pilot.@@N@@Statement
import JvmDerived.Pilot.@@N@@Code
set_option linter.unusedVariables false
set_option linter.unusedSimpArgs false
namespace Jvm.RoadKit
open Sem ClassFile Op Lib Jvm.Stand Jvm.Free Jvm.LawKit
section New
variable {p : Program} {l : Launch} {e : Env} {R : Room} {s : State} {m : MethodId} {args : Array Value} {below : List Frame} {meth : Method} {c : Code} {T : State} {locs : List Loc} {cells slots : Nat}
theorem retI (X : Stand p l e R s m args below meth c T locs cells slots) (hx : p.tables.exec = Jvm.exec) {pc : Nat} {Ls : Array Slot} {z : Int32} {rest : List Value} (hret : meth.sig.returnType = some .int) (hd : decode c.code pc = .ok (.ireturn, 1)) {fs : List Frame}
    (hl : ∀ (f : JFrame) (acts : List Action), f.method = m → f.locked = none → f.entered = [] → (doReturn e (T.setTop f) acts (some (.int z))).1 = T.setFrames fs) : Steps p.tables e below (T.setTop (mkF m pc Ls (.int z :: rest))) (T.setFrames fs) := by
  have hm' : T.vm.method? m = some meth := X.method'
  have hn : narrow .int (.int z) = .int z := rfl
  show Steps p.tables e below (T.setTop { method := m, pc := pc, locals := Ls, stack := _ :: rest, locked := none }) _
  jvm_step X.here [X.here.top, hx, hd, hm', hret, hn]
  first | (intro acts; rw [hl _ acts rfl rfl rfl]) | rw [hl _ _ rfl rfl rfl]
  exact Steps.refl _
end New
end Jvm.RoadKit
namespace Jvm.Pilot.@@N@@
open Jvm Jvm.ClassFile Sem Op Lib Jvm.Free Jvm.Stand Jvm.LawKit Jvm.RoadKit Bundle Jvm.Pilot.@@N@@.Jvm.D

theorem own_exa {args a0 : Array Value} {s : State} {C n d K : String} (wi : (Jvm.Cond.initialized C).before args s = true) (wl : (Jvm.Cond.laysStatic C n d).before args s = true) (h : (Jvm.Cond.exactly (Jvm.Term.static C n d) K).value args s none s [] = some true) : ∃ a, Sta s s.heap C n d (.ref a) ∧ Exa s s.heap a K ∧ (Jvm.Term.static C n d).eval args s none [] s = some (.ref a) := by
  obtain ⟨a, ev⟩ := exa_v h
  exact ⟨a, Sta.start ev (Or.inr ⟨wi, wl⟩), Exa.start ev h, ev⟩
theorem own_fldI {args : Array Value} {s : State} {a : Addr} {t : Jvm.Term} {C n d : String} {k : Int32} (ev : t.eval args s none [] s = some (.ref a)) (h : (Jvm.Cond.eq (Jvm.Term.field t C n d) (Jvm.Term.int k)).value args s none s [] = some true) : Fld s s.heap a C n d (.int k) := by
  obtain ⟨x, y, ex, ey, -, ky⟩ := cmp_v (Or.inl h)
  obtain rfl : Value.int k = y := Option.some.inj ey
  obtain ⟨z, rfl⟩ := ky
  have hz : z = k := by simpa [Cond.value, ex, ey] using h
  subst hz
  exact Fld.start ((fld_at ev).symm.trans ex)

theorem own_sta_keep {Z : State} {h h' : Heap} {C n d : String} {v : Value} {ws : List Addr} (F : Sta Z h C n d v) (K : Keep h h' ws) (nos : ∀ x ∈ ws, ∀ cell : Cell, h[x]? = some cell → cell.vm.isStatics = false) : Sta Z h' C n d v := by
  obtain ⟨cf, i, k, f, st, cell, h1, h2, h3, h4, h5, h6, h7⟩ := F
  exact ⟨cf, i, k, f, st, cell, h1, h2, h3, h4, K.2.1 _ _ h5 (fun q => by rw [nos _ q _ h5] at h6; cases h6), h6, h7⟩
theorem own_ext {h h' : Heap} (K : Keep h h' []) : Ext h h' := ⟨K.1, fun a c q => K.2.1 a c q nin0⟩
theorem own_arrAt {args : Array Value} {s : State} {a : Addr} {cl : Cell} {t : Jvm.Term} {v : Value} (ev : t.eval args s none [] s = some (.ref a)) (hc : s.heap[a]? = some cl) (h : (Jvm.Term.length t).eval args s none [] s = some v) : cl.slots.size < 2 ^ 31 ∧ v = .int cl.slots.size.toInt32 := by
  obtain ⟨a', c', e1, e2, e3⟩ := Term.length_spec h
  cases ev.symm.trans e1
  have e4 := e2
  simp only [State.arrayAt?, hc, Option.bind_eq_bind, Option.bind_some] at e4
  obtain rfl : c' = cl := by
    cases hk : s.vm.classes[cl.cls]? with
    | none => simp [hk] at e4
    | some k => simp only [hk, Option.bind_some] at e4; split at e4 <;> first | (split at e4 <;> first | (cases e4; rfl; done) | (cases e4; done)) | (cases e4; rfl; done) | (cases e4; done)
  refine ⟨?_, e3⟩
  simp only [Term.eval, ev, e2, Option.bind_eq_bind, Option.bind_some] at h
  split at h
  · assumption
  · cases h
theorem own_len {args : Array Value} {s : State} {a : Addr} {cl : Cell} {t : Jvm.Term} {k : Int32} (ev : t.eval args s none [] s = some (.ref a)) (hc : s.heap[a]? = some cl) (h : (Jvm.Cond.eq (Jvm.Term.length t) (Jvm.Term.int k)).value args s none s [] = some true) : cl.slots.size < 2 ^ 31 ∧ cl.slots.size.toInt32 = k := by
  obtain ⟨x, y, ex, ey, -, ky⟩ := cmp_v (Or.inl h)
  obtain rfl : Value.int k = y := Option.some.inj ey
  obtain ⟨h1, rfl⟩ := own_arrAt ev hc ex
  refine ⟨h1, ?_⟩
  simpa [Cond.value, ex, ey] using h
theorem own_elemI {args : Array Value} {s : State} {a : Addr} {cl : Cell} {t : Jvm.Term} {j k : Int32} (ev : t.eval args s none [] s = some (.ref a)) (hc : s.heap[a]? = some cl) (h : (Jvm.Cond.eq (Jvm.Term.elem t (Jvm.Term.int j)) (Jvm.Term.int k)).value args s none s [] = some true) : cl.slots[j.toNatClampNeg]? = some (.int k) := by
  obtain ⟨x, y, ex, ey, -, ky⟩ := cmp_v (Or.inl h)
  obtain rfl : Value.int k = y := Option.some.inj ey
  obtain ⟨z, rfl⟩ := ky
  have hz : z = k := by simpa [Cond.value, ex, ey] using h
  subst hz
  exact (elem_in ex ev rfl hc).2
theorem own_elemJ {args : Array Value} {s : State} {a : Addr} {cl : Cell} {t : Jvm.Term} {j : Int32} {k : Int64} (ev : t.eval args s none [] s = some (.ref a)) (hc : s.heap[a]? = some cl) (h : (Jvm.Cond.eq (Jvm.Term.elem t (Jvm.Term.int j)) (Jvm.Term.long k)).value args s none s [] = some true) : cl.slots[j.toNatClampNeg]? = some (.long k) := by
  obtain ⟨x, y, ex, ey, -, ky⟩ := cmp_v (Or.inl h)
  obtain rfl : Value.long k = y := Option.some.inj ey
  obtain ⟨z, rfl⟩ := ky
  have hz : z = k := by simpa [Cond.value, ex, ey] using h
  subst hz
  exact (elem_in ex ev rfl hc).2
theorem own_elemR {args : Array Value} {s : State} {a b : Addr} {cl : Cell} {t u : Jvm.Term} {j : Int32} (ev : t.eval args s none [] s = some (.ref a)) (eu : u.eval args s none [] s = some (.ref b)) (hc : s.heap[a]? = some cl) (h : (Jvm.Cond.eq (Jvm.Term.elem t (Jvm.Term.int j)) u).value args s none s [] = some true) : cl.slots[j.toNatClampNeg]? = some (.ref b) := by
  obtain ⟨x, y, ex, ey, -, ky⟩ := cmp_v (Or.inl h)
  cases eu.symm.trans ey
  have hr : x.isRef = true := ky.2
  rw [eq_R ex ey hr rfl] at h
  have hz : x = .ref b := by simpa using h
  subst hz
  exact (elem_in ex ev rfl hc).2

theorem d2_0 : decode prog_9_method_1_code 0 = .ok (.getstatic 19, 3) := by decide +kernel
theorem d2_3 : decode prog_9_method_1_code 3 = .ok (.invokevirtual 23, 3) := by decide +kernel
theorem d2_6 : decode prog_9_method_1_code 6 = .ok (.checkcast 24, 3) := by decide +kernel
theorem d2_9 : decode prog_9_method_1_code 9 = .ok (.areturn, 1) := by decide +kernel
theorem ef_rm2 (m : MethodId)  : entryFrame m #[] 0 = mkF m 0 #[] [] := by first | (simp [entryFrame, mkF, argsToLocals, Value.category]; done) | rfl
theorem pn_0 : plainName "com/example/countersign/countersign/protocol/ActivationStatus" = true := by first | (simp [plainName, overriddenIn]; done) | decide +kernel
def Q2 (Z : State) (wv : Addr) (kk : ClassId) (o1 : Addr) (o2 : Addr) (o3 : Addr) (o4 : Addr) (o5 : Addr) (h0 : Heap) (n0 : Nat) (v : Option Value) (h : Heap) (L : List Loc) : Prop := ∃ b, v = some (.ref b) ∧ Fr n0 L ∧ Keep h0 h [] ∧ h0.size ≤ b ∧ Arv Z h b kk (.object "com/example/countersign/countersign/protocol/ActivationStatus") (5 : Int32) [(.ref o1), (.ref o2), (.ref o3), (.ref o4), (.ref o5)] .null
set_option maxRecDepth 65536 in
set_option maxHeartbeats 40000000 in
theorem rm2 (l : Launch) (Z : State) (aw : Array Value) (hw : ∀ d ∈ tables_1, d.before aw Z = true) (ws : List Jvm.Cond) (wv : Addr) (kk : ClassId) (o1 : Addr) (o2 : Addr) (o3 : Addr) (o4 : Addr) (o5 : Addr) (h0 : Heap) (n0 : Nat) (Z0 : n0 ≤ h0.size) (SV : Sta Z h0 "com/example/countersign/countersign/protocol/ActivationStatus" "$VALUES" "[Lcom/example/countersign/countersign/protocol/ActivationStatus;" (.ref wv)) (EV : Exa Z h0 wv "[Lcom/example/countersign/countersign/protocol/ActivationStatus;") (V0 : Arv Z h0 wv kk (.object "com/example/countersign/countersign/protocol/ActivationStatus") (5 : Int32) [(.ref o1), (.ref o2), (.ref o3), (.ref o4), (.ref o5)] .null) :
    MetFree l (⟨"com/example/countersign/countersign/protocol/ActivationStatus", "values", "()[Lcom/example/countersign/countersign/protocol/ActivationStatus;"⟩ : MethodName) (head1 (Jvm.Cond.code (⟨"com/example/countersign/countersign/protocol/ActivationStatus", "values", "()[Lcom/example/countersign/countersign/protocol/ActivationStatus;"⟩ : MethodName) prog_9_method_1_code 0 (some (.array (.object "com/example/countersign/countersign/protocol/ActivationStatus"))) :: ws) ({ frames := 1, cells := 1, slots := 5, locals := 14 } : Room)) (fun a U => a = #[] ∧ Z.Warmed39 U.vm ∧ U.heap = h0) (fun _ _ _ _ _ => True) (fun _ U oc U' => ∃ v L, oc = .returned v ∧ Q2 Z wv kk o1 o2 o3 o4 o5 h0 n0 v U'.heap L ∧ FrameEnd U oc U' L ({ frames := 1, cells := 1, slots := 5, locals := 14 } : Room).cells ({ frames := 1, cells := 1, slots := 5, locals := 14 } : Room).slots) := by
  refine MetFree.of_bodySF (plainFor_of_name pn_0) hisR ?_
  intro p e s m args below meth c s₁ Bd hml0 hP hK
  obtain ⟨rfl, hZ, hh⟩ := hP
  have hx := Bd.exec
  have hby := Bd.bytes
  have hml : c.maxLocals = 0 := hml0
  have hown : s.vm.findClass "com/example/countersign/countersign/protocol/ActivationStatus" = some m.cls := findClass_of_methodNamed Bd.named
  have hnm := (name_of_methodNamed Bd.named Bd.method).1
  have X0 : Stand p l e ({ frames := 1, cells := 1, slots := 5, locals := 14 } : Room) s m #[] below meth c s₁ [] 0 0 := Stand.of_body Bd
  have e0 : s₁.heap = h0 := by rw [← hh, Bd.state]; rfl
  have N0 := Fr.nil n0
  have pre0 : ∀ t, Steps p.tables e below (s₁.setTop (mkF m 0 #[] [])) t → Steps p.tables e below (s₁.setTop (entryFrame m #[] 0)) t := fun t k => castTop (ef_rm2 m ) k
  obtain ⟨T1, X1, e1, st1⟩ := getS2 X0 hx hZ hown (host := "") (Or.inl (hw _ (List.mem_of_getElem? (i := 8) rfl))) Via.refl e0 SV (g := (mkF m 0 #[] [])) rfl (hb hby d2_0)
  obtain ⟨T2, h2, X2, e2, E2, A2, B2, st2⟩ := cloneH X1 hx hZ hown (hw _ (List.mem_of_getElem? (i := 10) rfl)) (hw _ (List.mem_of_getElem? (i := 11) rfl)) (hw _ (List.mem_of_getElem? (i := 15) rfl)) (hw _ (List.mem_of_getElem? (i := 13) rfl)) (hw _ (List.mem_of_getElem? (i := 14) rfl)) (hw _ (List.mem_of_getElem? (i := 16) rfl)) e1 V0.arh EV (g := (mkF m 3 #[] [(.ref wv)])) rfl (by rw [hml]; rfl) rfl (hb hby d2_3) (by decide) (W := 0) (cap := 5) (by show 2 * 0 + _ ≤ _; exact Nat.le_of_eq rfl) (by decide) (by decide) (by decide) (by decide)
  obtain ⟨b2, g2⟩ : ∃ z, z = h0.size := ⟨_, rfl⟩
  rw [← g2] at A2 B2 st2
  have ne3 : wv ≠ b2 := Nat.ne_of_lt (Nat.lt_of_lt_of_le EV.lt (Nat.le_of_eq g2.symm))
  have ge2 : n0 ≤ b2 := Nat.le_trans Z0 (Nat.le_of_eq g2.symm)
  have sz2 : h0.size ≤ b2 := Nat.le_of_eq g2.symm
  have f4 := SV.ext E2
  have f5 := EV.ext E2
  have f6 := V0.ext E2
  have Z2 : n0 ≤ h2.size := Nat.le_trans Z0 E2.1
  have K2 : Keep h0 h2 [] := (Keep.refl h0 []).ext E2
  have V2 : Arv Z h2 b2 kk (.object "com/example/countersign/countersign/protocol/ActivationStatus") (5 : Int32) [(.ref o1), (.ref o2), (.ref o3), (.ref o4), (.ref o5)] .null := A2
  obtain ⟨T7, X7, e7, st7⟩ := castY X2 hx hZ hown (hw _ (List.mem_of_getElem? (i := 23) rfl)) e2 (Ins.self B2) (g := (mkF m 6 #[] [(.ref b2)])) rfl rfl (hb hby d2_6)
  obtain ⟨fs, hr, hrun, hended, hW, hsame⟩ := X7.leave (v := some (.ref b2)) (fun h => by rw [Bd.returns] at h; cases h)
  refine ⟨_, _, pre0 _ ?_, hrun, hended, _, _, rfl, ?_, ⟨_, rfl⟩, hW, hsame.mono (by decide) (by decide)⟩
  · show Steps p.tables e below (s₁.setTop (mkF m 0 #[] [])) _
    refine st1 _ ?_
    show Steps p.tables e below (T1.setTop (mkF m 3 #[] [(.ref wv)])) _
    refine st2 _ ?_
    show Steps p.tables e below (T2.setTop (mkF m 6 #[] [(.ref b2)])) _
    refine st7 _ ?_
    show Steps p.tables e below (T7.setTop (mkF m 9 #[] [(.ref b2)])) _
    jvm_step X7.here [X7.here.top, hx, (hb hby d2_9), X7.method', Bd.returns, Value.isRef, FieldType.isReference]
    first | (intro acts; rw [hr _ acts rfl rfl rfl]) | rw [hr _ _ rfl rfl rfl]
    exact Steps.refl _
  · show Q2 Z wv kk o1 o2 o3 o4 o5 h0 n0 _ T7.heap _
    rw [e7]
    exact ⟨_, rfl, N0, K2, sz2, V2⟩
def own_from (k : Int32) (o1 o2 o3 o4 o5 : Addr) : Addr := if k = (1 : Int32) then o1 else if k = (2 : Int32) then o2 else if k = (3 : Int32) then o3 else if k = (4 : Int32) then o4 else o5
theorem own_five (x : Int32) : (((x &&& (2147483647 : Int32)) % (5 : Int32)) + (1 : Int32)) = (1 : Int32) ∨ (((x &&& (2147483647 : Int32)) % (5 : Int32)) + (1 : Int32)) = (2 : Int32) ∨ (((x &&& (2147483647 : Int32)) % (5 : Int32)) + (1 : Int32)) = (3 : Int32) ∨ (((x &&& (2147483647 : Int32)) % (5 : Int32)) + (1 : Int32)) = (4 : Int32) ∨ (((x &&& (2147483647 : Int32)) % (5 : Int32)) + (1 : Int32)) = (5 : Int32) := by
  have hm := c_mask x 2147483647 31 (by decide) (by decide)
  have h0 : 0 ≤ (x &&& (2147483647 : Int32)).toInt := by rw [hm]; exact Int.emod_nonneg _ (by decide)
  have hr := (c_irem (x &&& (2147483647 : Int32)) 5 5 (by decide)).1 h0
  have ha := c_iadd ((x &&& (2147483647 : Int32)) % (5 : Int32)) 1
  have hb := rng32 (((x &&& (2147483647 : Int32)) % (5 : Int32)) + (1 : Int32))
  simp only [← Int32.toInt_inj, show (1 : Int32).toInt = 1 by decide, show (2 : Int32).toInt = 2 by decide, show (3 : Int32).toInt = 3 by decide, show (4 : Int32).toInt = 4 by decide, show (5 : Int32).toInt = 5 by decide] at *
  omega
theorem d1_0 : decode prog_9_method_4_code 0 = .ok (.invokestatic 42, 3) := by decide +kernel
theorem pd_0 : parseMethodDescriptor "()[Lcom/example/countersign/countersign/protocol/ActivationStatus;" = some ⟨[], some (.array (.object "com/example/countersign/countersign/protocol/ActivationStatus"))⟩ := by decide +kernel
theorem d1_3 : decode prog_9_method_4_code 3 = .ok (.astore_n 1, 1) := by decide +kernel
theorem d1_4 : decode prog_9_method_4_code 4 = .ok (.aload_n 1, 1) := by decide +kernel
theorem d1_5 : decode prog_9_method_4_code 5 = .ok (.arraylength, 1) := by decide +kernel
theorem d1_6 : decode prog_9_method_4_code 6 = .ok (.istore_n 2, 1) := by decide +kernel
theorem d1_7 : decode prog_9_method_4_code 7 = .ok (.iconst 0, 1) := by decide +kernel
theorem d1_8 : decode prog_9_method_4_code 8 = .ok (.istore_n 3, 1) := by decide +kernel
theorem d1_9 : decode prog_9_method_4_code 9 = .ok (.iload_n 3, 1) := by decide +kernel
theorem d1_10 : decode prog_9_method_4_code 10 = .ok (.iload_n 2, 1) := by decide +kernel
theorem d1_11 : decode prog_9_method_4_code 11 = .ok (.if_icmp .ge 26, 3) := by decide +kernel
theorem d1_14 : decode prog_9_method_4_code 14 = .ok (.aload_n 1, 1) := by decide +kernel
theorem d1_15 : decode prog_9_method_4_code 15 = .ok (.iload_n 3, 1) := by decide +kernel
theorem d1_16 : decode prog_9_method_4_code 16 = .ok (.aaload, 1) := by decide +kernel
theorem d1_17 : decode prog_9_method_4_code 17 = .ok (.astore 4, 2) := by decide +kernel
theorem d1_19 : decode prog_9_method_4_code 19 = .ok (.aload 4, 2) := by decide +kernel
theorem d1_21 : decode prog_9_method_4_code 21 = .ok (.getfield 38, 3) := by decide +kernel
theorem d1_24 : decode prog_9_method_4_code 24 = .ok (.iload_n 0, 1) := by decide +kernel
theorem d1_25 : decode prog_9_method_4_code 25 = .ok (.if_icmp .ne 6, 3) := by decide +kernel
theorem d1_28 : decode prog_9_method_4_code 28 = .ok (.aload 4, 2) := by decide +kernel
theorem d1_30 : decode prog_9_method_4_code 30 = .ok (.areturn, 1) := by decide +kernel
theorem d1_31 : decode prog_9_method_4_code 31 = .ok (.iinc 3 1, 3) := by decide +kernel
theorem d1_34 : decode prog_9_method_4_code 34 = .ok (.goto (-25), 3) := by decide +kernel
theorem ef_rm1 (m : MethodId) (x0 : Int32) : entryFrame m #[(.int x0)] 5 = mkF m 0 #[.val (.int x0), .unset, .unset, .unset, .unset] [] := by first | (simp [entryFrame, mkF, argsToLocals, Value.category]; done) | rfl
def Q1 (Z : State) (p0 : Int32) (wv : Addr) (kk : ClassId) (o1 : Addr) (o2 : Addr) (o3 : Addr) (o4 : Addr) (o5 : Addr) (h0 : Heap) (n0 : Nat) (v : Option Value) (h : Heap) (L : List Loc) : Prop := v = some (.ref (own_from p0 o1 o2 o3 o4 o5)) ∧ Fr n0 L ∧ Keep h0 h []
set_option maxRecDepth 65536 in
set_option maxHeartbeats 40000000 in
theorem rm1 (l : Launch) (Z : State) (aw : Array Value) (hw : ∀ d ∈ tables_1, d.before aw Z = true) (ws : List Jvm.Cond) (p0 : Int32) (wv : Addr) (kk : ClassId) (o1 : Addr) (o2 : Addr) (o3 : Addr) (o4 : Addr) (o5 : Addr) (h0 : Heap) (n0 : Nat) (Z0 : n0 ≤ h0.size) (SV : Sta Z h0 "com/example/countersign/countersign/protocol/ActivationStatus" "$VALUES" "[Lcom/example/countersign/countersign/protocol/ActivationStatus;" (.ref wv)) (EV : Exa Z h0 wv "[Lcom/example/countersign/countersign/protocol/ActivationStatus;") (V0 : Arv Z h0 wv kk (.object "com/example/countersign/countersign/protocol/ActivationStatus") (5 : Int32) [(.ref o1), (.ref o2), (.ref o3), (.ref o4), (.ref o5)] .null) (E1 : Exa Z h0 o1 "com/example/countersign/countersign/protocol/ActivationStatus") (E2 : Exa Z h0 o2 "com/example/countersign/countersign/protocol/ActivationStatus") (E3 : Exa Z h0 o3 "com/example/countersign/countersign/protocol/ActivationStatus") (E4 : Exa Z h0 o4 "com/example/countersign/countersign/protocol/ActivationStatus") (E5 : Exa Z h0 o5 "com/example/countersign/countersign/protocol/ActivationStatus") (F1 : Fld Z h0 o1 "com/example/countersign/countersign/protocol/ActivationStatus" "code" "I" (.int (1 : Int32))) (F2 : Fld Z h0 o2 "com/example/countersign/countersign/protocol/ActivationStatus" "code" "I" (.int (2 : Int32))) (F3 : Fld Z h0 o3 "com/example/countersign/countersign/protocol/ActivationStatus" "code" "I" (.int (3 : Int32))) (F4 : Fld Z h0 o4 "com/example/countersign/countersign/protocol/ActivationStatus" "code" "I" (.int (4 : Int32))) (F5 : Fld Z h0 o5 "com/example/countersign/countersign/protocol/ActivationStatus" "code" "I" (.int (5 : Int32))) (hp : p0 = (1 : Int32) ∨ p0 = (2 : Int32) ∨ p0 = (3 : Int32) ∨ p0 = (4 : Int32) ∨ p0 = (5 : Int32)) :
    MetFree l (⟨"com/example/countersign/countersign/protocol/ActivationStatus", "fromCode", "(I)Lcom/example/countersign/countersign/protocol/ActivationStatus;"⟩ : MethodName) (head1 (Jvm.Cond.code (⟨"com/example/countersign/countersign/protocol/ActivationStatus", "fromCode", "(I)Lcom/example/countersign/countersign/protocol/ActivationStatus;"⟩ : MethodName) prog_9_method_4_code 5 (some (.object "com/example/countersign/countersign/protocol/ActivationStatus")) :: ws) ({ frames := 2, cells := 1, slots := 5, locals := 25 } : Room)) (fun a U => a = #[(.int p0)] ∧ Z.Warmed39 U.vm ∧ U.heap = h0) (fun _ _ _ _ _ => True) (fun _ U oc U' => ∃ v L, oc = .returned v ∧ Q1 Z p0 wv kk o1 o2 o3 o4 o5 h0 n0 v U'.heap L ∧ FrameEnd U oc U' L ({ frames := 2, cells := 1, slots := 5, locals := 25 } : Room).cells ({ frames := 2, cells := 1, slots := 5, locals := 25 } : Room).slots) := by
  refine MetFree.of_bodySF (plainFor_of_name pn_0) hisR ?_
  intro p e s m args below meth c s₁ Bd hml0 hP hK
  obtain ⟨rfl, hZ, hh⟩ := hP
  have hx := Bd.exec
  have hby := Bd.bytes
  have hml : c.maxLocals = 5 := hml0
  have hown : s.vm.findClass "com/example/countersign/countersign/protocol/ActivationStatus" = some m.cls := findClass_of_methodNamed Bd.named
  have hnm := (name_of_methodNamed Bd.named Bd.method).1
  have X0 : Stand p l e ({ frames := 2, cells := 1, slots := 5, locals := 25 } : Room) s m #[(.int p0)] below meth c s₁ [] 0 0 := Stand.of_body Bd
  have e0 : s₁.heap = h0 := by rw [← hh, Bd.state]; rfl
  have N0 := Fr.nil n0
  have pre0 : ∀ t, Steps p.tables e below (s₁.setTop (mkF m 0 #[.val (.int p0), .unset, .unset, .unset, .unset] [])) t → Steps p.tables e below (s₁.setTop (entryFrame m #[(.int p0)] 5)) t := fun t k => castTop (ef_rm1 m p0) k
  obtain ⟨k, gk⟩ : ∃ z, z = p0 := ⟨_, rfl⟩
  have preK : ∀ t, Steps p.tables e below (s₁.setTop (mkF m 0 #[.val (.int k), .unset, .unset, .unset, .unset] [])) t → Steps p.tables e below (s₁.setTop (entryFrame m #[(.int p0)] 5)) t := by rw [gk]; exact pre0
  rw [← gk] at hp
  rcases hp with rfl | rfl | rfl | rfl | rfl
  · skip
    obtain ⟨_, _, ⟨T1, L1, k1, n1⟩, -, X1, ⟨Lc1, hQ1, l1, y1, z1⟩, st1⟩ := Jvm.LawKit.callS X0 hx (y := (⟨"com/example/countersign/countersign/protocol/ActivationStatus", "values", "()[Lcom/example/countersign/countersign/protocol/ActivationStatus;"⟩ : MethodName)) hown (mvT hZ (hw _ (List.mem_of_getElem? (i := 5) rfl))) (mvT hZ (hw _ (List.mem_of_getElem? (i := 6) rfl))) (mvT hZ (hw _ (List.mem_of_getElem? (i := 3) rfl))) (mvT hZ (hw _ (List.mem_of_getElem? (i := 7) rfl))) (by decide) (backOf (W := 0) (rm2 l Z aw hw [] wv kk o1 o2 o3 o4 o5 h0 n0 Z0 SV EV V0) hZ (hw _ (List.mem_of_getElem? (i := 7) rfl)) (hw _ (List.mem_of_getElem? (i := 3) rfl)) (by decide) (by decide)) (g := (mkF m 0 #[.val (.int (1 : Int32)), .unset, .unset, .unset, .unset] [])) rfl (by rw [hml]; rfl) (argsL := []) (rest := []) (lenOf pd_0 rfl) rfl (by show 2 * 0 + _ ≤ _; exact Nat.le_of_eq rfl) (hb hby d1_0) (fun _ _ => ⟨rfl, e0, (by decide : 0 + 1 ≤ _), (by decide : 0 + 5 ≤ _)⟩)
    dsimp only [Pt.U, Pt.locs, Pt.cells, Pt.slots] at X1 l1 y1 z1 st1 hQ1
    subst l1 y1 z1
    obtain ⟨b1, rfl, N1q, K1q, g1q, V1q⟩ := hQ1
    have N1 := Fr.app N0 N1q
    have E1q := own_ext K1q
    have ne2 : wv ≠ b1 := Nat.ne_of_lt (Nat.lt_of_lt_of_le EV.lt g1q)
    have ne3 : o1 ≠ b1 := Nat.ne_of_lt (Nat.lt_of_lt_of_le E1.lt g1q)
    have ne4 : o2 ≠ b1 := Nat.ne_of_lt (Nat.lt_of_lt_of_le E2.lt g1q)
    have ne5 : o3 ≠ b1 := Nat.ne_of_lt (Nat.lt_of_lt_of_le E3.lt g1q)
    have ne6 : o4 ≠ b1 := Nat.ne_of_lt (Nat.lt_of_lt_of_le E4.lt g1q)
    have ne7 : o5 ≠ b1 := Nat.ne_of_lt (Nat.lt_of_lt_of_le E5.lt g1q)
    have geb1 : n0 ≤ b1 := Nat.le_trans Z0 g1q
    have szb1 : h0.size ≤ b1 := g1q
    have f8 := SV.ext E1q
    have f9 := EV.ext E1q
    have f10 := V0.ext E1q
    have f11 := E1.ext E1q
    have f12 := F1.ext E1q
    have f13 := E2.ext E1q
    have f14 := F2.ext E1q
    have f15 := E3.ext E1q
    have f16 := F3.ext E1q
    have f17 := E4.ext E1q
    have f18 := F4.ext E1q
    have f19 := E5.ext E1q
    have f20 := F5.ext E1q
    have Z1 : n0 ≤ T1.heap.size := Nat.le_trans Z0 E1q.1
    have K1 : Keep h0 T1.heap [] := (Keep.refl h0 []).ext E1q
    obtain ⟨cl21, Ar21, q21, S21, M21, H21, G21⟩ := id V1q
    obtain ⟨cl22, Ar22, q22, S22, M22, H22, G22⟩ := id V1q
    obtain ⟨T23, X23, e23, st23⟩ := getF X1 hx hZ hown (host := "") (Or.inl (hw _ (List.mem_of_getElem? (i := 25) rfl))) Via.refl rfl f12 (g := (mkF m 21 #[.val (.int (1 : Int32)), .val (.ref b1), .val (.int (5 : Int32)), .val (.int (0 : Int32)), .val (.ref o1)] [(.ref o1)])) rfl rfl (hb hby d1_21)
    obtain ⟨fs, hr, hrun, hended, hW, hsame⟩ := X23.leave (v := some (.ref o1)) (fun h => by rw [Bd.returns] at h; cases h)
    refine ⟨_, _, preK _ ?_, hrun, hended, _, _, rfl, ?_, ⟨_, rfl⟩, hW, hsame.mono (by decide) (by decide)⟩
    · show Steps p.tables e below (s₁.setTop (mkF m 0 #[.val (.int (1 : Int32)), .unset, .unset, .unset, .unset] [])) _
      refine st1 _ ?_
      show Steps p.tables e below (T1.setTop (mkF m 3 #[.val (.int (1 : Int32)), .unset, .unset, .unset, .unset] [(.ref b1)])) _
      refine XS.astoreN X1.here hx rfl (hb hby d1_3) rfl rfl (l' := #[.val (.int (1 : Int32)), .val (.ref b1), .unset, .unset, .unset]) rfl ?_
      show Steps p.tables e below (T1.setTop (mkF m 4 #[.val (.int (1 : Int32)), .val (.ref b1), .unset, .unset, .unset] [])) _
      refine XS.aloadN X1.here hx rfl (hb hby d1_4) rfl rfl ?_
      show Steps p.tables e below (T1.setTop (mkF m 5 #[.val (.int (1 : Int32)), .val (.ref b1), .unset, .unset, .unset] [(.ref b1)])) _
      refine X1.arraylength hx Ar21.1 (State.isArrayOf_alike hZ.alike Ar21.2.1) (g := (mkF m 5 #[.val (.int (1 : Int32)), .val (.ref b1), .unset, .unset, .unset] [(.ref b1)])) rfl rfl (hb hby d1_5) _ ?_
      rw [len_of S21 M21]
      show Steps p.tables e below (T1.setTop (mkF m 6 #[.val (.int (1 : Int32)), .val (.ref b1), .unset, .unset, .unset] [(.int (5 : Int32))])) _
      refine XS.istoreN X1.here hx rfl (hb hby d1_6) rfl (l' := #[.val (.int (1 : Int32)), .val (.ref b1), .val (.int (5 : Int32)), .unset, .unset]) rfl ?_
      show Steps p.tables e below (T1.setTop (mkF m 7 #[.val (.int (1 : Int32)), .val (.ref b1), .val (.int (5 : Int32)), .unset, .unset] [])) _
      refine XS.iconst X1.here hx rfl (hb hby d1_7) ?_
      show Steps p.tables e below (T1.setTop (mkF m 8 #[.val (.int (1 : Int32)), .val (.ref b1), .val (.int (5 : Int32)), .unset, .unset] [(.int (0 : Int32))])) _
      refine XS.istoreN X1.here hx rfl (hb hby d1_8) rfl (l' := #[.val (.int (1 : Int32)), .val (.ref b1), .val (.int (5 : Int32)), .val (.int (0 : Int32)), .unset]) rfl ?_
      show Steps p.tables e below (T1.setTop (mkF m 9 #[.val (.int (1 : Int32)), .val (.ref b1), .val (.int (5 : Int32)), .val (.int (0 : Int32)), .unset] [])) _
      refine XS.iloadN X1.here hx rfl (hb hby d1_9) rfl ?_
      show Steps p.tables e below (T1.setTop (mkF m 10 #[.val (.int (1 : Int32)), .val (.ref b1), .val (.int (5 : Int32)), .val (.int (0 : Int32)), .unset] [(.int (0 : Int32))])) _
      refine XS.iloadN X1.here hx rfl (hb hby d1_10) rfl ?_
      show Steps p.tables e below (T1.setTop (mkF m 11 #[.val (.int (1 : Int32)), .val (.ref b1), .val (.int (5 : Int32)), .val (.int (0 : Int32)), .unset] [(.int (5 : Int32)), (.int (0 : Int32))])) _
      refine XS.icmpNo X1.here hx rfl (hb hby d1_11) rfl (tlt (by decide : (0 : Int32) < (5 : Int32))).2.1 ?_
      show Steps p.tables e below (T1.setTop (mkF m 14 #[.val (.int (1 : Int32)), .val (.ref b1), .val (.int (5 : Int32)), .val (.int (0 : Int32)), .unset] [])) _
      refine XS.aloadN X1.here hx rfl (hb hby d1_14) rfl rfl ?_
      show Steps p.tables e below (T1.setTop (mkF m 15 #[.val (.int (1 : Int32)), .val (.ref b1), .val (.int (5 : Int32)), .val (.int (0 : Int32)), .unset] [(.ref b1)])) _
      refine XS.iloadN X1.here hx rfl (hb hby d1_15) rfl ?_
      show Steps p.tables e below (T1.setTop (mkF m 16 #[.val (.int (1 : Int32)), .val (.ref b1), .val (.int (5 : Int32)), .val (.int (0 : Int32)), .unset] [(.int (0 : Int32)), (.ref b1)])) _
      have hin22 : ¬ ((0 : Int32) < 0 ∨ cl22.slots.size ≤ ((0 : Int32)).toNatClampNeg) := (inb_of S22 ⟨by decide, by decide⟩)
      refine X1.aaload hx (j := (0 : Int32)) (v := (.ref o1)) Ar22.1 (State.isArrayOf_alike hZ.alike Ar22.2.1) rfl Ar22.2.2 hin22 (H22.at hin22 rfl) (g := (mkF m 16 #[.val (.int (1 : Int32)), .val (.ref b1), .val (.int (5 : Int32)), .val (.int (0 : Int32)), .unset] [(.int (0 : Int32)), (.ref b1)])) rfl rfl (hb hby d1_16) _ ?_
      show Steps p.tables e below (T1.setTop (mkF m 17 #[.val (.int (1 : Int32)), .val (.ref b1), .val (.int (5 : Int32)), .val (.int (0 : Int32)), .unset] [(.ref o1)])) _
      refine XS.astore X1.here hx rfl (hb hby d1_17) rfl rfl (l' := #[.val (.int (1 : Int32)), .val (.ref b1), .val (.int (5 : Int32)), .val (.int (0 : Int32)), .val (.ref o1)]) rfl ?_
      show Steps p.tables e below (T1.setTop (mkF m 19 #[.val (.int (1 : Int32)), .val (.ref b1), .val (.int (5 : Int32)), .val (.int (0 : Int32)), .val (.ref o1)] [])) _
      refine XS.aload X1.here hx rfl (hb hby d1_19) rfl rfl ?_
      show Steps p.tables e below (T1.setTop (mkF m 21 #[.val (.int (1 : Int32)), .val (.ref b1), .val (.int (5 : Int32)), .val (.int (0 : Int32)), .val (.ref o1)] [(.ref o1)])) _
      refine st23 _ ?_
      show Steps p.tables e below (T23.setTop (mkF m 24 #[.val (.int (1 : Int32)), .val (.ref b1), .val (.int (5 : Int32)), .val (.int (0 : Int32)), .val (.ref o1)] [(.int (1 : Int32))])) _
      refine XS.iloadN X23.here hx rfl (hb hby d1_24) rfl ?_
      show Steps p.tables e below (T23.setTop (mkF m 25 #[.val (.int (1 : Int32)), .val (.ref b1), .val (.int (5 : Int32)), .val (.int (0 : Int32)), .val (.ref o1)] [(.int (1 : Int32)), (.int (1 : Int32))])) _
      refine XS.icmpNo X23.here hx rfl (hb hby d1_25) rfl (teq (by decide : (1 : Int32) = (1 : Int32))).2 ?_
      show Steps p.tables e below (T23.setTop (mkF m 28 #[.val (.int (1 : Int32)), .val (.ref b1), .val (.int (5 : Int32)), .val (.int (0 : Int32)), .val (.ref o1)] [])) _
      refine XS.aload X23.here hx rfl (hb hby d1_28) rfl rfl ?_
      show Steps p.tables e below (T23.setTop (mkF m 30 #[.val (.int (1 : Int32)), .val (.ref b1), .val (.int (5 : Int32)), .val (.int (0 : Int32)), .val (.ref o1)] [(.ref o1)])) _
      jvm_step X23.here [X23.here.top, hx, (hb hby d1_30), X23.method', Bd.returns, Value.isRef, FieldType.isReference]
      first | (intro acts; rw [hr _ acts rfl rfl rfl]) | rw [hr _ _ rfl rfl rfl]
      exact Steps.refl _
    · show Q1 Z p0 wv kk o1 o2 o3 o4 o5 h0 n0 _ T23.heap _
      rw [e23]
      exact ⟨by rw [← gk]; rfl, N1, K1⟩
  · skip
    obtain ⟨_, _, ⟨T24, L24, k24, n24⟩, -, X24, ⟨Lc24, hQ24, l24, y24, z24⟩, st24⟩ := Jvm.LawKit.callS X0 hx (y := (⟨"com/example/countersign/countersign/protocol/ActivationStatus", "values", "()[Lcom/example/countersign/countersign/protocol/ActivationStatus;"⟩ : MethodName)) hown (mvT hZ (hw _ (List.mem_of_getElem? (i := 5) rfl))) (mvT hZ (hw _ (List.mem_of_getElem? (i := 6) rfl))) (mvT hZ (hw _ (List.mem_of_getElem? (i := 3) rfl))) (mvT hZ (hw _ (List.mem_of_getElem? (i := 7) rfl))) (by decide) (backOf (W := 0) (rm2 l Z aw hw [] wv kk o1 o2 o3 o4 o5 h0 n0 Z0 SV EV V0) hZ (hw _ (List.mem_of_getElem? (i := 7) rfl)) (hw _ (List.mem_of_getElem? (i := 3) rfl)) (by decide) (by decide)) (g := (mkF m 0 #[.val (.int (2 : Int32)), .unset, .unset, .unset, .unset] [])) rfl (by rw [hml]; rfl) (argsL := []) (rest := []) (lenOf pd_0 rfl) rfl (by show 2 * 0 + _ ≤ _; exact Nat.le_of_eq rfl) (hb hby d1_0) (fun _ _ => ⟨rfl, e0, (by decide : 0 + 1 ≤ _), (by decide : 0 + 5 ≤ _)⟩)
    dsimp only [Pt.U, Pt.locs, Pt.cells, Pt.slots] at X24 l24 y24 z24 st24 hQ24
    subst l24 y24 z24
    obtain ⟨b24, rfl, N24q, K24q, g24q, V24q⟩ := hQ24
    have N24 := Fr.app N0 N24q
    have E24q := own_ext K24q
    have ne25 : wv ≠ b24 := Nat.ne_of_lt (Nat.lt_of_lt_of_le EV.lt g24q)
    have ne26 : o1 ≠ b24 := Nat.ne_of_lt (Nat.lt_of_lt_of_le E1.lt g24q)
    have ne27 : o2 ≠ b24 := Nat.ne_of_lt (Nat.lt_of_lt_of_le E2.lt g24q)
    have ne28 : o3 ≠ b24 := Nat.ne_of_lt (Nat.lt_of_lt_of_le E3.lt g24q)
    have ne29 : o4 ≠ b24 := Nat.ne_of_lt (Nat.lt_of_lt_of_le E4.lt g24q)
    have ne30 : o5 ≠ b24 := Nat.ne_of_lt (Nat.lt_of_lt_of_le E5.lt g24q)
    have geb24 : n0 ≤ b24 := Nat.le_trans Z0 g24q
    have szb24 : h0.size ≤ b24 := g24q
    have f31 := SV.ext E24q
    have f32 := EV.ext E24q
    have f33 := V0.ext E24q
    have f34 := E1.ext E24q
    have f35 := F1.ext E24q
    have f36 := E2.ext E24q
    have f37 := F2.ext E24q
    have f38 := E3.ext E24q
    have f39 := F3.ext E24q
    have f40 := E4.ext E24q
    have f41 := F4.ext E24q
    have f42 := E5.ext E24q
    have f43 := F5.ext E24q
    have Z24 : n0 ≤ T24.heap.size := Nat.le_trans Z0 E24q.1
    have K24 : Keep h0 T24.heap [] := (Keep.refl h0 []).ext E24q
    obtain ⟨cl44, Ar44, q44, S44, M44, H44, G44⟩ := id V24q
    obtain ⟨cl45, Ar45, q45, S45, M45, H45, G45⟩ := id V24q
    obtain ⟨T46, X46, e46, st46⟩ := getF X24 hx hZ hown (host := "") (Or.inl (hw _ (List.mem_of_getElem? (i := 25) rfl))) Via.refl rfl f35 (g := (mkF m 21 #[.val (.int (2 : Int32)), .val (.ref b24), .val (.int (5 : Int32)), .val (.int (0 : Int32)), .val (.ref o1)] [(.ref o1)])) rfl rfl (hb hby d1_21)
    obtain ⟨cl47, Ar47, q47, S47, M47, H47, G47⟩ := id V24q
    obtain ⟨T48, X48, e48, st48⟩ := getF X46 hx hZ hown (host := "") (Or.inl (hw _ (List.mem_of_getElem? (i := 25) rfl))) Via.refl e46 f37 (g := (mkF m 21 #[.val (.int (2 : Int32)), .val (.ref b24), .val (.int (5 : Int32)), .val (.int (1 : Int32)), .val (.ref o2)] [(.ref o2)])) rfl rfl (hb hby d1_21)
    obtain ⟨fs, hr, hrun, hended, hW, hsame⟩ := X48.leave (v := some (.ref o2)) (fun h => by rw [Bd.returns] at h; cases h)
    refine ⟨_, _, preK _ ?_, hrun, hended, _, _, rfl, ?_, ⟨_, rfl⟩, hW, hsame.mono (by decide) (by decide)⟩
    · show Steps p.tables e below (s₁.setTop (mkF m 0 #[.val (.int (2 : Int32)), .unset, .unset, .unset, .unset] [])) _
      refine st24 _ ?_
      show Steps p.tables e below (T24.setTop (mkF m 3 #[.val (.int (2 : Int32)), .unset, .unset, .unset, .unset] [(.ref b24)])) _
      refine XS.astoreN X24.here hx rfl (hb hby d1_3) rfl rfl (l' := #[.val (.int (2 : Int32)), .val (.ref b24), .unset, .unset, .unset]) rfl ?_
      show Steps p.tables e below (T24.setTop (mkF m 4 #[.val (.int (2 : Int32)), .val (.ref b24), .unset, .unset, .unset] [])) _
      refine XS.aloadN X24.here hx rfl (hb hby d1_4) rfl rfl ?_
      show Steps p.tables e below (T24.setTop (mkF m 5 #[.val (.int (2 : Int32)), .val (.ref b24), .unset, .unset, .unset] [(.ref b24)])) _
      refine X24.arraylength hx Ar44.1 (State.isArrayOf_alike hZ.alike Ar44.2.1) (g := (mkF m 5 #[.val (.int (2 : Int32)), .val (.ref b24), .unset, .unset, .unset] [(.ref b24)])) rfl rfl (hb hby d1_5) _ ?_
      rw [len_of S44 M44]
      show Steps p.tables e below (T24.setTop (mkF m 6 #[.val (.int (2 : Int32)), .val (.ref b24), .unset, .unset, .unset] [(.int (5 : Int32))])) _
      refine XS.istoreN X24.here hx rfl (hb hby d1_6) rfl (l' := #[.val (.int (2 : Int32)), .val (.ref b24), .val (.int (5 : Int32)), .unset, .unset]) rfl ?_
      show Steps p.tables e below (T24.setTop (mkF m 7 #[.val (.int (2 : Int32)), .val (.ref b24), .val (.int (5 : Int32)), .unset, .unset] [])) _
      refine XS.iconst X24.here hx rfl (hb hby d1_7) ?_
      show Steps p.tables e below (T24.setTop (mkF m 8 #[.val (.int (2 : Int32)), .val (.ref b24), .val (.int (5 : Int32)), .unset, .unset] [(.int (0 : Int32))])) _
      refine XS.istoreN X24.here hx rfl (hb hby d1_8) rfl (l' := #[.val (.int (2 : Int32)), .val (.ref b24), .val (.int (5 : Int32)), .val (.int (0 : Int32)), .unset]) rfl ?_
      show Steps p.tables e below (T24.setTop (mkF m 9 #[.val (.int (2 : Int32)), .val (.ref b24), .val (.int (5 : Int32)), .val (.int (0 : Int32)), .unset] [])) _
      refine XS.iloadN X24.here hx rfl (hb hby d1_9) rfl ?_
      show Steps p.tables e below (T24.setTop (mkF m 10 #[.val (.int (2 : Int32)), .val (.ref b24), .val (.int (5 : Int32)), .val (.int (0 : Int32)), .unset] [(.int (0 : Int32))])) _
      refine XS.iloadN X24.here hx rfl (hb hby d1_10) rfl ?_
      show Steps p.tables e below (T24.setTop (mkF m 11 #[.val (.int (2 : Int32)), .val (.ref b24), .val (.int (5 : Int32)), .val (.int (0 : Int32)), .unset] [(.int (5 : Int32)), (.int (0 : Int32))])) _
      refine XS.icmpNo X24.here hx rfl (hb hby d1_11) rfl (tlt (by decide : (0 : Int32) < (5 : Int32))).2.1 ?_
      show Steps p.tables e below (T24.setTop (mkF m 14 #[.val (.int (2 : Int32)), .val (.ref b24), .val (.int (5 : Int32)), .val (.int (0 : Int32)), .unset] [])) _
      refine XS.aloadN X24.here hx rfl (hb hby d1_14) rfl rfl ?_
      show Steps p.tables e below (T24.setTop (mkF m 15 #[.val (.int (2 : Int32)), .val (.ref b24), .val (.int (5 : Int32)), .val (.int (0 : Int32)), .unset] [(.ref b24)])) _
      refine XS.iloadN X24.here hx rfl (hb hby d1_15) rfl ?_
      show Steps p.tables e below (T24.setTop (mkF m 16 #[.val (.int (2 : Int32)), .val (.ref b24), .val (.int (5 : Int32)), .val (.int (0 : Int32)), .unset] [(.int (0 : Int32)), (.ref b24)])) _
      have hin45 : ¬ ((0 : Int32) < 0 ∨ cl45.slots.size ≤ ((0 : Int32)).toNatClampNeg) := (inb_of S45 ⟨by decide, by decide⟩)
      refine X24.aaload hx (j := (0 : Int32)) (v := (.ref o1)) Ar45.1 (State.isArrayOf_alike hZ.alike Ar45.2.1) rfl Ar45.2.2 hin45 (H45.at hin45 rfl) (g := (mkF m 16 #[.val (.int (2 : Int32)), .val (.ref b24), .val (.int (5 : Int32)), .val (.int (0 : Int32)), .unset] [(.int (0 : Int32)), (.ref b24)])) rfl rfl (hb hby d1_16) _ ?_
      show Steps p.tables e below (T24.setTop (mkF m 17 #[.val (.int (2 : Int32)), .val (.ref b24), .val (.int (5 : Int32)), .val (.int (0 : Int32)), .unset] [(.ref o1)])) _
      refine XS.astore X24.here hx rfl (hb hby d1_17) rfl rfl (l' := #[.val (.int (2 : Int32)), .val (.ref b24), .val (.int (5 : Int32)), .val (.int (0 : Int32)), .val (.ref o1)]) rfl ?_
      show Steps p.tables e below (T24.setTop (mkF m 19 #[.val (.int (2 : Int32)), .val (.ref b24), .val (.int (5 : Int32)), .val (.int (0 : Int32)), .val (.ref o1)] [])) _
      refine XS.aload X24.here hx rfl (hb hby d1_19) rfl rfl ?_
      show Steps p.tables e below (T24.setTop (mkF m 21 #[.val (.int (2 : Int32)), .val (.ref b24), .val (.int (5 : Int32)), .val (.int (0 : Int32)), .val (.ref o1)] [(.ref o1)])) _
      refine st46 _ ?_
      show Steps p.tables e below (T46.setTop (mkF m 24 #[.val (.int (2 : Int32)), .val (.ref b24), .val (.int (5 : Int32)), .val (.int (0 : Int32)), .val (.ref o1)] [(.int (1 : Int32))])) _
      refine XS.iloadN X46.here hx rfl (hb hby d1_24) rfl ?_
      show Steps p.tables e below (T46.setTop (mkF m 25 #[.val (.int (2 : Int32)), .val (.ref b24), .val (.int (5 : Int32)), .val (.int (0 : Int32)), .val (.ref o1)] [(.int (2 : Int32)), (.int (1 : Int32))])) _
      refine XS.icmpYes X46.here hx rfl (pc0 := 25) (pc' := 31) rfl (hb hby d1_25) rfl (feq (by decide : ¬ ((1 : Int32) = (2 : Int32)))).2 (by decide) (by decide) ?_
      show Steps p.tables e below (T46.setTop (mkF m 31 #[.val (.int (2 : Int32)), .val (.ref b24), .val (.int (5 : Int32)), .val (.int (0 : Int32)), .val (.ref o1)] [])) _
      refine XS.iinc X46.here hx rfl (hb hby d1_31) rfl (l' := #[.val (.int (2 : Int32)), .val (.ref b24), .val (.int (5 : Int32)), .val (.int (1 : Int32)), .val (.ref o1)]) rfl ?_
      show Steps p.tables e below (T46.setTop (mkF m 34 #[.val (.int (2 : Int32)), .val (.ref b24), .val (.int (5 : Int32)), .val (.int (1 : Int32)), .val (.ref o1)] [])) _
      refine XS.goto X46.here hx rfl (pc0 := 34) (pc' := 9) rfl (hb hby d1_34) (by decide) (by decide) ?_
      show Steps p.tables e below (T46.setTop (mkF m 9 #[.val (.int (2 : Int32)), .val (.ref b24), .val (.int (5 : Int32)), .val (.int (1 : Int32)), .val (.ref o1)] [])) _
      refine XS.iloadN X46.here hx rfl (hb hby d1_9) rfl ?_
      show Steps p.tables e below (T46.setTop (mkF m 10 #[.val (.int (2 : Int32)), .val (.ref b24), .val (.int (5 : Int32)), .val (.int (1 : Int32)), .val (.ref o1)] [(.int (1 : Int32))])) _
      refine XS.iloadN X46.here hx rfl (hb hby d1_10) rfl ?_
      show Steps p.tables e below (T46.setTop (mkF m 11 #[.val (.int (2 : Int32)), .val (.ref b24), .val (.int (5 : Int32)), .val (.int (1 : Int32)), .val (.ref o1)] [(.int (5 : Int32)), (.int (1 : Int32))])) _
      refine XS.icmpNo X46.here hx rfl (hb hby d1_11) rfl (tlt (by decide : (1 : Int32) < (5 : Int32))).2.1 ?_
      show Steps p.tables e below (T46.setTop (mkF m 14 #[.val (.int (2 : Int32)), .val (.ref b24), .val (.int (5 : Int32)), .val (.int (1 : Int32)), .val (.ref o1)] [])) _
      refine XS.aloadN X46.here hx rfl (hb hby d1_14) rfl rfl ?_
      show Steps p.tables e below (T46.setTop (mkF m 15 #[.val (.int (2 : Int32)), .val (.ref b24), .val (.int (5 : Int32)), .val (.int (1 : Int32)), .val (.ref o1)] [(.ref b24)])) _
      refine XS.iloadN X46.here hx rfl (hb hby d1_15) rfl ?_
      show Steps p.tables e below (T46.setTop (mkF m 16 #[.val (.int (2 : Int32)), .val (.ref b24), .val (.int (5 : Int32)), .val (.int (1 : Int32)), .val (.ref o1)] [(.int (1 : Int32)), (.ref b24)])) _
      have hin47 : ¬ ((1 : Int32) < 0 ∨ cl47.slots.size ≤ ((1 : Int32)).toNatClampNeg) := (inb_of S47 ⟨by decide, by decide⟩)
      refine X46.aaload hx (j := (1 : Int32)) (v := (.ref o2)) (by rw [e46]; exact Ar47.1) (State.isArrayOf_alike hZ.alike Ar47.2.1) rfl Ar47.2.2 hin47 (H47.at hin47 rfl) (g := (mkF m 16 #[.val (.int (2 : Int32)), .val (.ref b24), .val (.int (5 : Int32)), .val (.int (1 : Int32)), .val (.ref o1)] [(.int (1 : Int32)), (.ref b24)])) rfl rfl (hb hby d1_16) _ ?_
      show Steps p.tables e below (T46.setTop (mkF m 17 #[.val (.int (2 : Int32)), .val (.ref b24), .val (.int (5 : Int32)), .val (.int (1 : Int32)), .val (.ref o1)] [(.ref o2)])) _
      refine XS.astore X46.here hx rfl (hb hby d1_17) rfl rfl (l' := #[.val (.int (2 : Int32)), .val (.ref b24), .val (.int (5 : Int32)), .val (.int (1 : Int32)), .val (.ref o2)]) rfl ?_
      show Steps p.tables e below (T46.setTop (mkF m 19 #[.val (.int (2 : Int32)), .val (.ref b24), .val (.int (5 : Int32)), .val (.int (1 : Int32)), .val (.ref o2)] [])) _
      refine XS.aload X46.here hx rfl (hb hby d1_19) rfl rfl ?_
      show Steps p.tables e below (T46.setTop (mkF m 21 #[.val (.int (2 : Int32)), .val (.ref b24), .val (.int (5 : Int32)), .val (.int (1 : Int32)), .val (.ref o2)] [(.ref o2)])) _
      refine st48 _ ?_
      show Steps p.tables e below (T48.setTop (mkF m 24 #[.val (.int (2 : Int32)), .val (.ref b24), .val (.int (5 : Int32)), .val (.int (1 : Int32)), .val (.ref o2)] [(.int (2 : Int32))])) _
      refine XS.iloadN X48.here hx rfl (hb hby d1_24) rfl ?_
      show Steps p.tables e below (T48.setTop (mkF m 25 #[.val (.int (2 : Int32)), .val (.ref b24), .val (.int (5 : Int32)), .val (.int (1 : Int32)), .val (.ref o2)] [(.int (2 : Int32)), (.int (2 : Int32))])) _
      refine XS.icmpNo X48.here hx rfl (hb hby d1_25) rfl (teq (by decide : (2 : Int32) = (2 : Int32))).2 ?_
      show Steps p.tables e below (T48.setTop (mkF m 28 #[.val (.int (2 : Int32)), .val (.ref b24), .val (.int (5 : Int32)), .val (.int (1 : Int32)), .val (.ref o2)] [])) _
      refine XS.aload X48.here hx rfl (hb hby d1_28) rfl rfl ?_
      show Steps p.tables e below (T48.setTop (mkF m 30 #[.val (.int (2 : Int32)), .val (.ref b24), .val (.int (5 : Int32)), .val (.int (1 : Int32)), .val (.ref o2)] [(.ref o2)])) _
      jvm_step X48.here [X48.here.top, hx, (hb hby d1_30), X48.method', Bd.returns, Value.isRef, FieldType.isReference]
      first | (intro acts; rw [hr _ acts rfl rfl rfl]) | rw [hr _ _ rfl rfl rfl]
      exact Steps.refl _
    · show Q1 Z p0 wv kk o1 o2 o3 o4 o5 h0 n0 _ T48.heap _
      rw [e48]
      exact ⟨by rw [← gk]; rfl, N24, K24⟩
  · skip
    obtain ⟨_, _, ⟨T49, L49, k49, n49⟩, -, X49, ⟨Lc49, hQ49, l49, y49, z49⟩, st49⟩ := Jvm.LawKit.callS X0 hx (y := (⟨"com/example/countersign/countersign/protocol/ActivationStatus", "values", "()[Lcom/example/countersign/countersign/protocol/ActivationStatus;"⟩ : MethodName)) hown (mvT hZ (hw _ (List.mem_of_getElem? (i := 5) rfl))) (mvT hZ (hw _ (List.mem_of_getElem? (i := 6) rfl))) (mvT hZ (hw _ (List.mem_of_getElem? (i := 3) rfl))) (mvT hZ (hw _ (List.mem_of_getElem? (i := 7) rfl))) (by decide) (backOf (W := 0) (rm2 l Z aw hw [] wv kk o1 o2 o3 o4 o5 h0 n0 Z0 SV EV V0) hZ (hw _ (List.mem_of_getElem? (i := 7) rfl)) (hw _ (List.mem_of_getElem? (i := 3) rfl)) (by decide) (by decide)) (g := (mkF m 0 #[.val (.int (3 : Int32)), .unset, .unset, .unset, .unset] [])) rfl (by rw [hml]; rfl) (argsL := []) (rest := []) (lenOf pd_0 rfl) rfl (by show 2 * 0 + _ ≤ _; exact Nat.le_of_eq rfl) (hb hby d1_0) (fun _ _ => ⟨rfl, e0, (by decide : 0 + 1 ≤ _), (by decide : 0 + 5 ≤ _)⟩)
    dsimp only [Pt.U, Pt.locs, Pt.cells, Pt.slots] at X49 l49 y49 z49 st49 hQ49
    subst l49 y49 z49
    obtain ⟨b49, rfl, N49q, K49q, g49q, V49q⟩ := hQ49
    have N49 := Fr.app N0 N49q
    have E49q := own_ext K49q
    have ne50 : wv ≠ b49 := Nat.ne_of_lt (Nat.lt_of_lt_of_le EV.lt g49q)
    have ne51 : o1 ≠ b49 := Nat.ne_of_lt (Nat.lt_of_lt_of_le E1.lt g49q)
    have ne52 : o2 ≠ b49 := Nat.ne_of_lt (Nat.lt_of_lt_of_le E2.lt g49q)
    have ne53 : o3 ≠ b49 := Nat.ne_of_lt (Nat.lt_of_lt_of_le E3.lt g49q)
    have ne54 : o4 ≠ b49 := Nat.ne_of_lt (Nat.lt_of_lt_of_le E4.lt g49q)
    have ne55 : o5 ≠ b49 := Nat.ne_of_lt (Nat.lt_of_lt_of_le E5.lt g49q)
    have geb49 : n0 ≤ b49 := Nat.le_trans Z0 g49q
    have szb49 : h0.size ≤ b49 := g49q
    have f56 := SV.ext E49q
    have f57 := EV.ext E49q
    have f58 := V0.ext E49q
    have f59 := E1.ext E49q
    have f60 := F1.ext E49q
    have f61 := E2.ext E49q
    have f62 := F2.ext E49q
    have f63 := E3.ext E49q
    have f64 := F3.ext E49q
    have f65 := E4.ext E49q
    have f66 := F4.ext E49q
    have f67 := E5.ext E49q
    have f68 := F5.ext E49q
    have Z49 : n0 ≤ T49.heap.size := Nat.le_trans Z0 E49q.1
    have K49 : Keep h0 T49.heap [] := (Keep.refl h0 []).ext E49q
    obtain ⟨cl69, Ar69, q69, S69, M69, H69, G69⟩ := id V49q
    obtain ⟨cl70, Ar70, q70, S70, M70, H70, G70⟩ := id V49q
    obtain ⟨T71, X71, e71, st71⟩ := getF X49 hx hZ hown (host := "") (Or.inl (hw _ (List.mem_of_getElem? (i := 25) rfl))) Via.refl rfl f60 (g := (mkF m 21 #[.val (.int (3 : Int32)), .val (.ref b49), .val (.int (5 : Int32)), .val (.int (0 : Int32)), .val (.ref o1)] [(.ref o1)])) rfl rfl (hb hby d1_21)
    obtain ⟨cl72, Ar72, q72, S72, M72, H72, G72⟩ := id V49q
    obtain ⟨T73, X73, e73, st73⟩ := getF X71 hx hZ hown (host := "") (Or.inl (hw _ (List.mem_of_getElem? (i := 25) rfl))) Via.refl e71 f62 (g := (mkF m 21 #[.val (.int (3 : Int32)), .val (.ref b49), .val (.int (5 : Int32)), .val (.int (1 : Int32)), .val (.ref o2)] [(.ref o2)])) rfl rfl (hb hby d1_21)
    obtain ⟨cl74, Ar74, q74, S74, M74, H74, G74⟩ := id V49q
    obtain ⟨T75, X75, e75, st75⟩ := getF X73 hx hZ hown (host := "") (Or.inl (hw _ (List.mem_of_getElem? (i := 25) rfl))) Via.refl e73 f64 (g := (mkF m 21 #[.val (.int (3 : Int32)), .val (.ref b49), .val (.int (5 : Int32)), .val (.int (2 : Int32)), .val (.ref o3)] [(.ref o3)])) rfl rfl (hb hby d1_21)
    obtain ⟨fs, hr, hrun, hended, hW, hsame⟩ := X75.leave (v := some (.ref o3)) (fun h => by rw [Bd.returns] at h; cases h)
    refine ⟨_, _, preK _ ?_, hrun, hended, _, _, rfl, ?_, ⟨_, rfl⟩, hW, hsame.mono (by decide) (by decide)⟩
    · show Steps p.tables e below (s₁.setTop (mkF m 0 #[.val (.int (3 : Int32)), .unset, .unset, .unset, .unset] [])) _
      refine st49 _ ?_
      show Steps p.tables e below (T49.setTop (mkF m 3 #[.val (.int (3 : Int32)), .unset, .unset, .unset, .unset] [(.ref b49)])) _
      refine XS.astoreN X49.here hx rfl (hb hby d1_3) rfl rfl (l' := #[.val (.int (3 : Int32)), .val (.ref b49), .unset, .unset, .unset]) rfl ?_
      show Steps p.tables e below (T49.setTop (mkF m 4 #[.val (.int (3 : Int32)), .val (.ref b49), .unset, .unset, .unset] [])) _
      refine XS.aloadN X49.here hx rfl (hb hby d1_4) rfl rfl ?_
      show Steps p.tables e below (T49.setTop (mkF m 5 #[.val (.int (3 : Int32)), .val (.ref b49), .unset, .unset, .unset] [(.ref b49)])) _
      refine X49.arraylength hx Ar69.1 (State.isArrayOf_alike hZ.alike Ar69.2.1) (g := (mkF m 5 #[.val (.int (3 : Int32)), .val (.ref b49), .unset, .unset, .unset] [(.ref b49)])) rfl rfl (hb hby d1_5) _ ?_
      rw [len_of S69 M69]
      show Steps p.tables e below (T49.setTop (mkF m 6 #[.val (.int (3 : Int32)), .val (.ref b49), .unset, .unset, .unset] [(.int (5 : Int32))])) _
      refine XS.istoreN X49.here hx rfl (hb hby d1_6) rfl (l' := #[.val (.int (3 : Int32)), .val (.ref b49), .val (.int (5 : Int32)), .unset, .unset]) rfl ?_
      show Steps p.tables e below (T49.setTop (mkF m 7 #[.val (.int (3 : Int32)), .val (.ref b49), .val (.int (5 : Int32)), .unset, .unset] [])) _
      refine XS.iconst X49.here hx rfl (hb hby d1_7) ?_
      show Steps p.tables e below (T49.setTop (mkF m 8 #[.val (.int (3 : Int32)), .val (.ref b49), .val (.int (5 : Int32)), .unset, .unset] [(.int (0 : Int32))])) _
      refine XS.istoreN X49.here hx rfl (hb hby d1_8) rfl (l' := #[.val (.int (3 : Int32)), .val (.ref b49), .val (.int (5 : Int32)), .val (.int (0 : Int32)), .unset]) rfl ?_
      show Steps p.tables e below (T49.setTop (mkF m 9 #[.val (.int (3 : Int32)), .val (.ref b49), .val (.int (5 : Int32)), .val (.int (0 : Int32)), .unset] [])) _
      refine XS.iloadN X49.here hx rfl (hb hby d1_9) rfl ?_
      show Steps p.tables e below (T49.setTop (mkF m 10 #[.val (.int (3 : Int32)), .val (.ref b49), .val (.int (5 : Int32)), .val (.int (0 : Int32)), .unset] [(.int (0 : Int32))])) _
      refine XS.iloadN X49.here hx rfl (hb hby d1_10) rfl ?_
      show Steps p.tables e below (T49.setTop (mkF m 11 #[.val (.int (3 : Int32)), .val (.ref b49), .val (.int (5 : Int32)), .val (.int (0 : Int32)), .unset] [(.int (5 : Int32)), (.int (0 : Int32))])) _
      refine XS.icmpNo X49.here hx rfl (hb hby d1_11) rfl (tlt (by decide : (0 : Int32) < (5 : Int32))).2.1 ?_
      show Steps p.tables e below (T49.setTop (mkF m 14 #[.val (.int (3 : Int32)), .val (.ref b49), .val (.int (5 : Int32)), .val (.int (0 : Int32)), .unset] [])) _
      refine XS.aloadN X49.here hx rfl (hb hby d1_14) rfl rfl ?_
      show Steps p.tables e below (T49.setTop (mkF m 15 #[.val (.int (3 : Int32)), .val (.ref b49), .val (.int (5 : Int32)), .val (.int (0 : Int32)), .unset] [(.ref b49)])) _
      refine XS.iloadN X49.here hx rfl (hb hby d1_15) rfl ?_
      show Steps p.tables e below (T49.setTop (mkF m 16 #[.val (.int (3 : Int32)), .val (.ref b49), .val (.int (5 : Int32)), .val (.int (0 : Int32)), .unset] [(.int (0 : Int32)), (.ref b49)])) _
      have hin70 : ¬ ((0 : Int32) < 0 ∨ cl70.slots.size ≤ ((0 : Int32)).toNatClampNeg) := (inb_of S70 ⟨by decide, by decide⟩)
      refine X49.aaload hx (j := (0 : Int32)) (v := (.ref o1)) Ar70.1 (State.isArrayOf_alike hZ.alike Ar70.2.1) rfl Ar70.2.2 hin70 (H70.at hin70 rfl) (g := (mkF m 16 #[.val (.int (3 : Int32)), .val (.ref b49), .val (.int (5 : Int32)), .val (.int (0 : Int32)), .unset] [(.int (0 : Int32)), (.ref b49)])) rfl rfl (hb hby d1_16) _ ?_
      show Steps p.tables e below (T49.setTop (mkF m 17 #[.val (.int (3 : Int32)), .val (.ref b49), .val (.int (5 : Int32)), .val (.int (0 : Int32)), .unset] [(.ref o1)])) _
      refine XS.astore X49.here hx rfl (hb hby d1_17) rfl rfl (l' := #[.val (.int (3 : Int32)), .val (.ref b49), .val (.int (5 : Int32)), .val (.int (0 : Int32)), .val (.ref o1)]) rfl ?_
      show Steps p.tables e below (T49.setTop (mkF m 19 #[.val (.int (3 : Int32)), .val (.ref b49), .val (.int (5 : Int32)), .val (.int (0 : Int32)), .val (.ref o1)] [])) _
      refine XS.aload X49.here hx rfl (hb hby d1_19) rfl rfl ?_
      show Steps p.tables e below (T49.setTop (mkF m 21 #[.val (.int (3 : Int32)), .val (.ref b49), .val (.int (5 : Int32)), .val (.int (0 : Int32)), .val (.ref o1)] [(.ref o1)])) _
      refine st71 _ ?_
      show Steps p.tables e below (T71.setTop (mkF m 24 #[.val (.int (3 : Int32)), .val (.ref b49), .val (.int (5 : Int32)), .val (.int (0 : Int32)), .val (.ref o1)] [(.int (1 : Int32))])) _
      refine XS.iloadN X71.here hx rfl (hb hby d1_24) rfl ?_
      show Steps p.tables e below (T71.setTop (mkF m 25 #[.val (.int (3 : Int32)), .val (.ref b49), .val (.int (5 : Int32)), .val (.int (0 : Int32)), .val (.ref o1)] [(.int (3 : Int32)), (.int (1 : Int32))])) _
      refine XS.icmpYes X71.here hx rfl (pc0 := 25) (pc' := 31) rfl (hb hby d1_25) rfl (feq (by decide : ¬ ((1 : Int32) = (3 : Int32)))).2 (by decide) (by decide) ?_
      show Steps p.tables e below (T71.setTop (mkF m 31 #[.val (.int (3 : Int32)), .val (.ref b49), .val (.int (5 : Int32)), .val (.int (0 : Int32)), .val (.ref o1)] [])) _
      refine XS.iinc X71.here hx rfl (hb hby d1_31) rfl (l' := #[.val (.int (3 : Int32)), .val (.ref b49), .val (.int (5 : Int32)), .val (.int (1 : Int32)), .val (.ref o1)]) rfl ?_
      show Steps p.tables e below (T71.setTop (mkF m 34 #[.val (.int (3 : Int32)), .val (.ref b49), .val (.int (5 : Int32)), .val (.int (1 : Int32)), .val (.ref o1)] [])) _
      refine XS.goto X71.here hx rfl (pc0 := 34) (pc' := 9) rfl (hb hby d1_34) (by decide) (by decide) ?_
      show Steps p.tables e below (T71.setTop (mkF m 9 #[.val (.int (3 : Int32)), .val (.ref b49), .val (.int (5 : Int32)), .val (.int (1 : Int32)), .val (.ref o1)] [])) _
      refine XS.iloadN X71.here hx rfl (hb hby d1_9) rfl ?_
      show Steps p.tables e below (T71.setTop (mkF m 10 #[.val (.int (3 : Int32)), .val (.ref b49), .val (.int (5 : Int32)), .val (.int (1 : Int32)), .val (.ref o1)] [(.int (1 : Int32))])) _
      refine XS.iloadN X71.here hx rfl (hb hby d1_10) rfl ?_
      show Steps p.tables e below (T71.setTop (mkF m 11 #[.val (.int (3 : Int32)), .val (.ref b49), .val (.int (5 : Int32)), .val (.int (1 : Int32)), .val (.ref o1)] [(.int (5 : Int32)), (.int (1 : Int32))])) _
      refine XS.icmpNo X71.here hx rfl (hb hby d1_11) rfl (tlt (by decide : (1 : Int32) < (5 : Int32))).2.1 ?_
      show Steps p.tables e below (T71.setTop (mkF m 14 #[.val (.int (3 : Int32)), .val (.ref b49), .val (.int (5 : Int32)), .val (.int (1 : Int32)), .val (.ref o1)] [])) _
      refine XS.aloadN X71.here hx rfl (hb hby d1_14) rfl rfl ?_
      show Steps p.tables e below (T71.setTop (mkF m 15 #[.val (.int (3 : Int32)), .val (.ref b49), .val (.int (5 : Int32)), .val (.int (1 : Int32)), .val (.ref o1)] [(.ref b49)])) _
      refine XS.iloadN X71.here hx rfl (hb hby d1_15) rfl ?_
      show Steps p.tables e below (T71.setTop (mkF m 16 #[.val (.int (3 : Int32)), .val (.ref b49), .val (.int (5 : Int32)), .val (.int (1 : Int32)), .val (.ref o1)] [(.int (1 : Int32)), (.ref b49)])) _
      have hin72 : ¬ ((1 : Int32) < 0 ∨ cl72.slots.size ≤ ((1 : Int32)).toNatClampNeg) := (inb_of S72 ⟨by decide, by decide⟩)
      refine X71.aaload hx (j := (1 : Int32)) (v := (.ref o2)) (by rw [e71]; exact Ar72.1) (State.isArrayOf_alike hZ.alike Ar72.2.1) rfl Ar72.2.2 hin72 (H72.at hin72 rfl) (g := (mkF m 16 #[.val (.int (3 : Int32)), .val (.ref b49), .val (.int (5 : Int32)), .val (.int (1 : Int32)), .val (.ref o1)] [(.int (1 : Int32)), (.ref b49)])) rfl rfl (hb hby d1_16) _ ?_
      show Steps p.tables e below (T71.setTop (mkF m 17 #[.val (.int (3 : Int32)), .val (.ref b49), .val (.int (5 : Int32)), .val (.int (1 : Int32)), .val (.ref o1)] [(.ref o2)])) _
      refine XS.astore X71.here hx rfl (hb hby d1_17) rfl rfl (l' := #[.val (.int (3 : Int32)), .val (.ref b49), .val (.int (5 : Int32)), .val (.int (1 : Int32)), .val (.ref o2)]) rfl ?_
      show Steps p.tables e below (T71.setTop (mkF m 19 #[.val (.int (3 : Int32)), .val (.ref b49), .val (.int (5 : Int32)), .val (.int (1 : Int32)), .val (.ref o2)] [])) _
      refine XS.aload X71.here hx rfl (hb hby d1_19) rfl rfl ?_
      show Steps p.tables e below (T71.setTop (mkF m 21 #[.val (.int (3 : Int32)), .val (.ref b49), .val (.int (5 : Int32)), .val (.int (1 : Int32)), .val (.ref o2)] [(.ref o2)])) _
      refine st73 _ ?_
      show Steps p.tables e below (T73.setTop (mkF m 24 #[.val (.int (3 : Int32)), .val (.ref b49), .val (.int (5 : Int32)), .val (.int (1 : Int32)), .val (.ref o2)] [(.int (2 : Int32))])) _
      refine XS.iloadN X73.here hx rfl (hb hby d1_24) rfl ?_
      show Steps p.tables e below (T73.setTop (mkF m 25 #[.val (.int (3 : Int32)), .val (.ref b49), .val (.int (5 : Int32)), .val (.int (1 : Int32)), .val (.ref o2)] [(.int (3 : Int32)), (.int (2 : Int32))])) _
      refine XS.icmpYes X73.here hx rfl (pc0 := 25) (pc' := 31) rfl (hb hby d1_25) rfl (feq (by decide : ¬ ((2 : Int32) = (3 : Int32)))).2 (by decide) (by decide) ?_
      show Steps p.tables e below (T73.setTop (mkF m 31 #[.val (.int (3 : Int32)), .val (.ref b49), .val (.int (5 : Int32)), .val (.int (1 : Int32)), .val (.ref o2)] [])) _
      refine XS.iinc X73.here hx rfl (hb hby d1_31) rfl (l' := #[.val (.int (3 : Int32)), .val (.ref b49), .val (.int (5 : Int32)), .val (.int (2 : Int32)), .val (.ref o2)]) rfl ?_
      show Steps p.tables e below (T73.setTop (mkF m 34 #[.val (.int (3 : Int32)), .val (.ref b49), .val (.int (5 : Int32)), .val (.int (2 : Int32)), .val (.ref o2)] [])) _
      refine XS.goto X73.here hx rfl (pc0 := 34) (pc' := 9) rfl (hb hby d1_34) (by decide) (by decide) ?_
      show Steps p.tables e below (T73.setTop (mkF m 9 #[.val (.int (3 : Int32)), .val (.ref b49), .val (.int (5 : Int32)), .val (.int (2 : Int32)), .val (.ref o2)] [])) _
      refine XS.iloadN X73.here hx rfl (hb hby d1_9) rfl ?_
      show Steps p.tables e below (T73.setTop (mkF m 10 #[.val (.int (3 : Int32)), .val (.ref b49), .val (.int (5 : Int32)), .val (.int (2 : Int32)), .val (.ref o2)] [(.int (2 : Int32))])) _
      refine XS.iloadN X73.here hx rfl (hb hby d1_10) rfl ?_
      show Steps p.tables e below (T73.setTop (mkF m 11 #[.val (.int (3 : Int32)), .val (.ref b49), .val (.int (5 : Int32)), .val (.int (2 : Int32)), .val (.ref o2)] [(.int (5 : Int32)), (.int (2 : Int32))])) _
      refine XS.icmpNo X73.here hx rfl (hb hby d1_11) rfl (tlt (by decide : (2 : Int32) < (5 : Int32))).2.1 ?_
      show Steps p.tables e below (T73.setTop (mkF m 14 #[.val (.int (3 : Int32)), .val (.ref b49), .val (.int (5 : Int32)), .val (.int (2 : Int32)), .val (.ref o2)] [])) _
      refine XS.aloadN X73.here hx rfl (hb hby d1_14) rfl rfl ?_
      show Steps p.tables e below (T73.setTop (mkF m 15 #[.val (.int (3 : Int32)), .val (.ref b49), .val (.int (5 : Int32)), .val (.int (2 : Int32)), .val (.ref o2)] [(.ref b49)])) _
      refine XS.iloadN X73.here hx rfl (hb hby d1_15) rfl ?_
      show Steps p.tables e below (T73.setTop (mkF m 16 #[.val (.int (3 : Int32)), .val (.ref b49), .val (.int (5 : Int32)), .val (.int (2 : Int32)), .val (.ref o2)] [(.int (2 : Int32)), (.ref b49)])) _
      have hin74 : ¬ ((2 : Int32) < 0 ∨ cl74.slots.size ≤ ((2 : Int32)).toNatClampNeg) := (inb_of S74 ⟨by decide, by decide⟩)
      refine X73.aaload hx (j := (2 : Int32)) (v := (.ref o3)) (by rw [e73]; exact Ar74.1) (State.isArrayOf_alike hZ.alike Ar74.2.1) rfl Ar74.2.2 hin74 (H74.at hin74 rfl) (g := (mkF m 16 #[.val (.int (3 : Int32)), .val (.ref b49), .val (.int (5 : Int32)), .val (.int (2 : Int32)), .val (.ref o2)] [(.int (2 : Int32)), (.ref b49)])) rfl rfl (hb hby d1_16) _ ?_
      show Steps p.tables e below (T73.setTop (mkF m 17 #[.val (.int (3 : Int32)), .val (.ref b49), .val (.int (5 : Int32)), .val (.int (2 : Int32)), .val (.ref o2)] [(.ref o3)])) _
      refine XS.astore X73.here hx rfl (hb hby d1_17) rfl rfl (l' := #[.val (.int (3 : Int32)), .val (.ref b49), .val (.int (5 : Int32)), .val (.int (2 : Int32)), .val (.ref o3)]) rfl ?_
      show Steps p.tables e below (T73.setTop (mkF m 19 #[.val (.int (3 : Int32)), .val (.ref b49), .val (.int (5 : Int32)), .val (.int (2 : Int32)), .val (.ref o3)] [])) _
      refine XS.aload X73.here hx rfl (hb hby d1_19) rfl rfl ?_
      show Steps p.tables e below (T73.setTop (mkF m 21 #[.val (.int (3 : Int32)), .val (.ref b49), .val (.int (5 : Int32)), .val (.int (2 : Int32)), .val (.ref o3)] [(.ref o3)])) _
      refine st75 _ ?_
      show Steps p.tables e below (T75.setTop (mkF m 24 #[.val (.int (3 : Int32)), .val (.ref b49), .val (.int (5 : Int32)), .val (.int (2 : Int32)), .val (.ref o3)] [(.int (3 : Int32))])) _
      refine XS.iloadN X75.here hx rfl (hb hby d1_24) rfl ?_
      show Steps p.tables e below (T75.setTop (mkF m 25 #[.val (.int (3 : Int32)), .val (.ref b49), .val (.int (5 : Int32)), .val (.int (2 : Int32)), .val (.ref o3)] [(.int (3 : Int32)), (.int (3 : Int32))])) _
      refine XS.icmpNo X75.here hx rfl (hb hby d1_25) rfl (teq (by decide : (3 : Int32) = (3 : Int32))).2 ?_
      show Steps p.tables e below (T75.setTop (mkF m 28 #[.val (.int (3 : Int32)), .val (.ref b49), .val (.int (5 : Int32)), .val (.int (2 : Int32)), .val (.ref o3)] [])) _
      refine XS.aload X75.here hx rfl (hb hby d1_28) rfl rfl ?_
      show Steps p.tables e below (T75.setTop (mkF m 30 #[.val (.int (3 : Int32)), .val (.ref b49), .val (.int (5 : Int32)), .val (.int (2 : Int32)), .val (.ref o3)] [(.ref o3)])) _
      jvm_step X75.here [X75.here.top, hx, (hb hby d1_30), X75.method', Bd.returns, Value.isRef, FieldType.isReference]
      first | (intro acts; rw [hr _ acts rfl rfl rfl]) | rw [hr _ _ rfl rfl rfl]
      exact Steps.refl _
    · show Q1 Z p0 wv kk o1 o2 o3 o4 o5 h0 n0 _ T75.heap _
      rw [e75]
      exact ⟨by rw [← gk]; rfl, N49, K49⟩
  · skip
    obtain ⟨_, _, ⟨T76, L76, k76, n76⟩, -, X76, ⟨Lc76, hQ76, l76, y76, z76⟩, st76⟩ := Jvm.LawKit.callS X0 hx (y := (⟨"com/example/countersign/countersign/protocol/ActivationStatus", "values", "()[Lcom/example/countersign/countersign/protocol/ActivationStatus;"⟩ : MethodName)) hown (mvT hZ (hw _ (List.mem_of_getElem? (i := 5) rfl))) (mvT hZ (hw _ (List.mem_of_getElem? (i := 6) rfl))) (mvT hZ (hw _ (List.mem_of_getElem? (i := 3) rfl))) (mvT hZ (hw _ (List.mem_of_getElem? (i := 7) rfl))) (by decide) (backOf (W := 0) (rm2 l Z aw hw [] wv kk o1 o2 o3 o4 o5 h0 n0 Z0 SV EV V0) hZ (hw _ (List.mem_of_getElem? (i := 7) rfl)) (hw _ (List.mem_of_getElem? (i := 3) rfl)) (by decide) (by decide)) (g := (mkF m 0 #[.val (.int (4 : Int32)), .unset, .unset, .unset, .unset] [])) rfl (by rw [hml]; rfl) (argsL := []) (rest := []) (lenOf pd_0 rfl) rfl (by show 2 * 0 + _ ≤ _; exact Nat.le_of_eq rfl) (hb hby d1_0) (fun _ _ => ⟨rfl, e0, (by decide : 0 + 1 ≤ _), (by decide : 0 + 5 ≤ _)⟩)
    dsimp only [Pt.U, Pt.locs, Pt.cells, Pt.slots] at X76 l76 y76 z76 st76 hQ76
    subst l76 y76 z76
    obtain ⟨b76, rfl, N76q, K76q, g76q, V76q⟩ := hQ76
    have N76 := Fr.app N0 N76q
    have E76q := own_ext K76q
    have ne77 : wv ≠ b76 := Nat.ne_of_lt (Nat.lt_of_lt_of_le EV.lt g76q)
    have ne78 : o1 ≠ b76 := Nat.ne_of_lt (Nat.lt_of_lt_of_le E1.lt g76q)
    have ne79 : o2 ≠ b76 := Nat.ne_of_lt (Nat.lt_of_lt_of_le E2.lt g76q)
    have ne80 : o3 ≠ b76 := Nat.ne_of_lt (Nat.lt_of_lt_of_le E3.lt g76q)
    have ne81 : o4 ≠ b76 := Nat.ne_of_lt (Nat.lt_of_lt_of_le E4.lt g76q)
    have ne82 : o5 ≠ b76 := Nat.ne_of_lt (Nat.lt_of_lt_of_le E5.lt g76q)
    have geb76 : n0 ≤ b76 := Nat.le_trans Z0 g76q
    have szb76 : h0.size ≤ b76 := g76q
    have f83 := SV.ext E76q
    have f84 := EV.ext E76q
    have f85 := V0.ext E76q
    have f86 := E1.ext E76q
    have f87 := F1.ext E76q
    have f88 := E2.ext E76q
    have f89 := F2.ext E76q
    have f90 := E3.ext E76q
    have f91 := F3.ext E76q
    have f92 := E4.ext E76q
    have f93 := F4.ext E76q
    have f94 := E5.ext E76q
    have f95 := F5.ext E76q
    have Z76 : n0 ≤ T76.heap.size := Nat.le_trans Z0 E76q.1
    have K76 : Keep h0 T76.heap [] := (Keep.refl h0 []).ext E76q
    obtain ⟨cl96, Ar96, q96, S96, M96, H96, G96⟩ := id V76q
    obtain ⟨cl97, Ar97, q97, S97, M97, H97, G97⟩ := id V76q
    obtain ⟨T98, X98, e98, st98⟩ := getF X76 hx hZ hown (host := "") (Or.inl (hw _ (List.mem_of_getElem? (i := 25) rfl))) Via.refl rfl f87 (g := (mkF m 21 #[.val (.int (4 : Int32)), .val (.ref b76), .val (.int (5 : Int32)), .val (.int (0 : Int32)), .val (.ref o1)] [(.ref o1)])) rfl rfl (hb hby d1_21)
    obtain ⟨cl99, Ar99, q99, S99, M99, H99, G99⟩ := id V76q
    obtain ⟨T100, X100, e100, st100⟩ := getF X98 hx hZ hown (host := "") (Or.inl (hw _ (List.mem_of_getElem? (i := 25) rfl))) Via.refl e98 f89 (g := (mkF m 21 #[.val (.int (4 : Int32)), .val (.ref b76), .val (.int (5 : Int32)), .val (.int (1 : Int32)), .val (.ref o2)] [(.ref o2)])) rfl rfl (hb hby d1_21)
    obtain ⟨cl101, Ar101, q101, S101, M101, H101, G101⟩ := id V76q
    obtain ⟨T102, X102, e102, st102⟩ := getF X100 hx hZ hown (host := "") (Or.inl (hw _ (List.mem_of_getElem? (i := 25) rfl))) Via.refl e100 f91 (g := (mkF m 21 #[.val (.int (4 : Int32)), .val (.ref b76), .val (.int (5 : Int32)), .val (.int (2 : Int32)), .val (.ref o3)] [(.ref o3)])) rfl rfl (hb hby d1_21)
    obtain ⟨cl103, Ar103, q103, S103, M103, H103, G103⟩ := id V76q
    obtain ⟨T104, X104, e104, st104⟩ := getF X102 hx hZ hown (host := "") (Or.inl (hw _ (List.mem_of_getElem? (i := 25) rfl))) Via.refl e102 f93 (g := (mkF m 21 #[.val (.int (4 : Int32)), .val (.ref b76), .val (.int (5 : Int32)), .val (.int (3 : Int32)), .val (.ref o4)] [(.ref o4)])) rfl rfl (hb hby d1_21)
    obtain ⟨fs, hr, hrun, hended, hW, hsame⟩ := X104.leave (v := some (.ref o4)) (fun h => by rw [Bd.returns] at h; cases h)
    refine ⟨_, _, preK _ ?_, hrun, hended, _, _, rfl, ?_, ⟨_, rfl⟩, hW, hsame.mono (by decide) (by decide)⟩
    · show Steps p.tables e below (s₁.setTop (mkF m 0 #[.val (.int (4 : Int32)), .unset, .unset, .unset, .unset] [])) _
      refine st76 _ ?_
      show Steps p.tables e below (T76.setTop (mkF m 3 #[.val (.int (4 : Int32)), .unset, .unset, .unset, .unset] [(.ref b76)])) _
      refine XS.astoreN X76.here hx rfl (hb hby d1_3) rfl rfl (l' := #[.val (.int (4 : Int32)), .val (.ref b76), .unset, .unset, .unset]) rfl ?_
      show Steps p.tables e below (T76.setTop (mkF m 4 #[.val (.int (4 : Int32)), .val (.ref b76), .unset, .unset, .unset] [])) _
      refine XS.aloadN X76.here hx rfl (hb hby d1_4) rfl rfl ?_
      show Steps p.tables e below (T76.setTop (mkF m 5 #[.val (.int (4 : Int32)), .val (.ref b76), .unset, .unset, .unset] [(.ref b76)])) _
      refine X76.arraylength hx Ar96.1 (State.isArrayOf_alike hZ.alike Ar96.2.1) (g := (mkF m 5 #[.val (.int (4 : Int32)), .val (.ref b76), .unset, .unset, .unset] [(.ref b76)])) rfl rfl (hb hby d1_5) _ ?_
      rw [len_of S96 M96]
      show Steps p.tables e below (T76.setTop (mkF m 6 #[.val (.int (4 : Int32)), .val (.ref b76), .unset, .unset, .unset] [(.int (5 : Int32))])) _
      refine XS.istoreN X76.here hx rfl (hb hby d1_6) rfl (l' := #[.val (.int (4 : Int32)), .val (.ref b76), .val (.int (5 : Int32)), .unset, .unset]) rfl ?_
      show Steps p.tables e below (T76.setTop (mkF m 7 #[.val (.int (4 : Int32)), .val (.ref b76), .val (.int (5 : Int32)), .unset, .unset] [])) _
      refine XS.iconst X76.here hx rfl (hb hby d1_7) ?_
      show Steps p.tables e below (T76.setTop (mkF m 8 #[.val (.int (4 : Int32)), .val (.ref b76), .val (.int (5 : Int32)), .unset, .unset] [(.int (0 : Int32))])) _
      refine XS.istoreN X76.here hx rfl (hb hby d1_8) rfl (l' := #[.val (.int (4 : Int32)), .val (.ref b76), .val (.int (5 : Int32)), .val (.int (0 : Int32)), .unset]) rfl ?_
      show Steps p.tables e below (T76.setTop (mkF m 9 #[.val (.int (4 : Int32)), .val (.ref b76), .val (.int (5 : Int32)), .val (.int (0 : Int32)), .unset] [])) _
      refine XS.iloadN X76.here hx rfl (hb hby d1_9) rfl ?_
      show Steps p.tables e below (T76.setTop (mkF m 10 #[.val (.int (4 : Int32)), .val (.ref b76), .val (.int (5 : Int32)), .val (.int (0 : Int32)), .unset] [(.int (0 : Int32))])) _
      refine XS.iloadN X76.here hx rfl (hb hby d1_10) rfl ?_
      show Steps p.tables e below (T76.setTop (mkF m 11 #[.val (.int (4 : Int32)), .val (.ref b76), .val (.int (5 : Int32)), .val (.int (0 : Int32)), .unset] [(.int (5 : Int32)), (.int (0 : Int32))])) _
      refine XS.icmpNo X76.here hx rfl (hb hby d1_11) rfl (tlt (by decide : (0 : Int32) < (5 : Int32))).2.1 ?_
      show Steps p.tables e below (T76.setTop (mkF m 14 #[.val (.int (4 : Int32)), .val (.ref b76), .val (.int (5 : Int32)), .val (.int (0 : Int32)), .unset] [])) _
      refine XS.aloadN X76.here hx rfl (hb hby d1_14) rfl rfl ?_
      show Steps p.tables e below (T76.setTop (mkF m 15 #[.val (.int (4 : Int32)), .val (.ref b76), .val (.int (5 : Int32)), .val (.int (0 : Int32)), .unset] [(.ref b76)])) _
      refine XS.iloadN X76.here hx rfl (hb hby d1_15) rfl ?_
      show Steps p.tables e below (T76.setTop (mkF m 16 #[.val (.int (4 : Int32)), .val (.ref b76), .val (.int (5 : Int32)), .val (.int (0 : Int32)), .unset] [(.int (0 : Int32)), (.ref b76)])) _
      have hin97 : ¬ ((0 : Int32) < 0 ∨ cl97.slots.size ≤ ((0 : Int32)).toNatClampNeg) := (inb_of S97 ⟨by decide, by decide⟩)
      refine X76.aaload hx (j := (0 : Int32)) (v := (.ref o1)) Ar97.1 (State.isArrayOf_alike hZ.alike Ar97.2.1) rfl Ar97.2.2 hin97 (H97.at hin97 rfl) (g := (mkF m 16 #[.val (.int (4 : Int32)), .val (.ref b76), .val (.int (5 : Int32)), .val (.int (0 : Int32)), .unset] [(.int (0 : Int32)), (.ref b76)])) rfl rfl (hb hby d1_16) _ ?_
      show Steps p.tables e below (T76.setTop (mkF m 17 #[.val (.int (4 : Int32)), .val (.ref b76), .val (.int (5 : Int32)), .val (.int (0 : Int32)), .unset] [(.ref o1)])) _
      refine XS.astore X76.here hx rfl (hb hby d1_17) rfl rfl (l' := #[.val (.int (4 : Int32)), .val (.ref b76), .val (.int (5 : Int32)), .val (.int (0 : Int32)), .val (.ref o1)]) rfl ?_
      show Steps p.tables e below (T76.setTop (mkF m 19 #[.val (.int (4 : Int32)), .val (.ref b76), .val (.int (5 : Int32)), .val (.int (0 : Int32)), .val (.ref o1)] [])) _
      refine XS.aload X76.here hx rfl (hb hby d1_19) rfl rfl ?_
      show Steps p.tables e below (T76.setTop (mkF m 21 #[.val (.int (4 : Int32)), .val (.ref b76), .val (.int (5 : Int32)), .val (.int (0 : Int32)), .val (.ref o1)] [(.ref o1)])) _
      refine st98 _ ?_
      show Steps p.tables e below (T98.setTop (mkF m 24 #[.val (.int (4 : Int32)), .val (.ref b76), .val (.int (5 : Int32)), .val (.int (0 : Int32)), .val (.ref o1)] [(.int (1 : Int32))])) _
      refine XS.iloadN X98.here hx rfl (hb hby d1_24) rfl ?_
      show Steps p.tables e below (T98.setTop (mkF m 25 #[.val (.int (4 : Int32)), .val (.ref b76), .val (.int (5 : Int32)), .val (.int (0 : Int32)), .val (.ref o1)] [(.int (4 : Int32)), (.int (1 : Int32))])) _
      refine XS.icmpYes X98.here hx rfl (pc0 := 25) (pc' := 31) rfl (hb hby d1_25) rfl (feq (by decide : ¬ ((1 : Int32) = (4 : Int32)))).2 (by decide) (by decide) ?_
      show Steps p.tables e below (T98.setTop (mkF m 31 #[.val (.int (4 : Int32)), .val (.ref b76), .val (.int (5 : Int32)), .val (.int (0 : Int32)), .val (.ref o1)] [])) _
      refine XS.iinc X98.here hx rfl (hb hby d1_31) rfl (l' := #[.val (.int (4 : Int32)), .val (.ref b76), .val (.int (5 : Int32)), .val (.int (1 : Int32)), .val (.ref o1)]) rfl ?_
      show Steps p.tables e below (T98.setTop (mkF m 34 #[.val (.int (4 : Int32)), .val (.ref b76), .val (.int (5 : Int32)), .val (.int (1 : Int32)), .val (.ref o1)] [])) _
      refine XS.goto X98.here hx rfl (pc0 := 34) (pc' := 9) rfl (hb hby d1_34) (by decide) (by decide) ?_
      show Steps p.tables e below (T98.setTop (mkF m 9 #[.val (.int (4 : Int32)), .val (.ref b76), .val (.int (5 : Int32)), .val (.int (1 : Int32)), .val (.ref o1)] [])) _
      refine XS.iloadN X98.here hx rfl (hb hby d1_9) rfl ?_
      show Steps p.tables e below (T98.setTop (mkF m 10 #[.val (.int (4 : Int32)), .val (.ref b76), .val (.int (5 : Int32)), .val (.int (1 : Int32)), .val (.ref o1)] [(.int (1 : Int32))])) _
      refine XS.iloadN X98.here hx rfl (hb hby d1_10) rfl ?_
      show Steps p.tables e below (T98.setTop (mkF m 11 #[.val (.int (4 : Int32)), .val (.ref b76), .val (.int (5 : Int32)), .val (.int (1 : Int32)), .val (.ref o1)] [(.int (5 : Int32)), (.int (1 : Int32))])) _
      refine XS.icmpNo X98.here hx rfl (hb hby d1_11) rfl (tlt (by decide : (1 : Int32) < (5 : Int32))).2.1 ?_
      show Steps p.tables e below (T98.setTop (mkF m 14 #[.val (.int (4 : Int32)), .val (.ref b76), .val (.int (5 : Int32)), .val (.int (1 : Int32)), .val (.ref o1)] [])) _
      refine XS.aloadN X98.here hx rfl (hb hby d1_14) rfl rfl ?_
      show Steps p.tables e below (T98.setTop (mkF m 15 #[.val (.int (4 : Int32)), .val (.ref b76), .val (.int (5 : Int32)), .val (.int (1 : Int32)), .val (.ref o1)] [(.ref b76)])) _
      refine XS.iloadN X98.here hx rfl (hb hby d1_15) rfl ?_
      show Steps p.tables e below (T98.setTop (mkF m 16 #[.val (.int (4 : Int32)), .val (.ref b76), .val (.int (5 : Int32)), .val (.int (1 : Int32)), .val (.ref o1)] [(.int (1 : Int32)), (.ref b76)])) _
      have hin99 : ¬ ((1 : Int32) < 0 ∨ cl99.slots.size ≤ ((1 : Int32)).toNatClampNeg) := (inb_of S99 ⟨by decide, by decide⟩)
      refine X98.aaload hx (j := (1 : Int32)) (v := (.ref o2)) (by rw [e98]; exact Ar99.1) (State.isArrayOf_alike hZ.alike Ar99.2.1) rfl Ar99.2.2 hin99 (H99.at hin99 rfl) (g := (mkF m 16 #[.val (.int (4 : Int32)), .val (.ref b76), .val (.int (5 : Int32)), .val (.int (1 : Int32)), .val (.ref o1)] [(.int (1 : Int32)), (.ref b76)])) rfl rfl (hb hby d1_16) _ ?_
      show Steps p.tables e below (T98.setTop (mkF m 17 #[.val (.int (4 : Int32)), .val (.ref b76), .val (.int (5 : Int32)), .val (.int (1 : Int32)), .val (.ref o1)] [(.ref o2)])) _
      refine XS.astore X98.here hx rfl (hb hby d1_17) rfl rfl (l' := #[.val (.int (4 : Int32)), .val (.ref b76), .val (.int (5 : Int32)), .val (.int (1 : Int32)), .val (.ref o2)]) rfl ?_
      show Steps p.tables e below (T98.setTop (mkF m 19 #[.val (.int (4 : Int32)), .val (.ref b76), .val (.int (5 : Int32)), .val (.int (1 : Int32)), .val (.ref o2)] [])) _
      refine XS.aload X98.here hx rfl (hb hby d1_19) rfl rfl ?_
      show Steps p.tables e below (T98.setTop (mkF m 21 #[.val (.int (4 : Int32)), .val (.ref b76), .val (.int (5 : Int32)), .val (.int (1 : Int32)), .val (.ref o2)] [(.ref o2)])) _
      refine st100 _ ?_
      show Steps p.tables e below (T100.setTop (mkF m 24 #[.val (.int (4 : Int32)), .val (.ref b76), .val (.int (5 : Int32)), .val (.int (1 : Int32)), .val (.ref o2)] [(.int (2 : Int32))])) _
      refine XS.iloadN X100.here hx rfl (hb hby d1_24) rfl ?_
      show Steps p.tables e below (T100.setTop (mkF m 25 #[.val (.int (4 : Int32)), .val (.ref b76), .val (.int (5 : Int32)), .val (.int (1 : Int32)), .val (.ref o2)] [(.int (4 : Int32)), (.int (2 : Int32))])) _
      refine XS.icmpYes X100.here hx rfl (pc0 := 25) (pc' := 31) rfl (hb hby d1_25) rfl (feq (by decide : ¬ ((2 : Int32) = (4 : Int32)))).2 (by decide) (by decide) ?_
      show Steps p.tables e below (T100.setTop (mkF m 31 #[.val (.int (4 : Int32)), .val (.ref b76), .val (.int (5 : Int32)), .val (.int (1 : Int32)), .val (.ref o2)] [])) _
      refine XS.iinc X100.here hx rfl (hb hby d1_31) rfl (l' := #[.val (.int (4 : Int32)), .val (.ref b76), .val (.int (5 : Int32)), .val (.int (2 : Int32)), .val (.ref o2)]) rfl ?_
      show Steps p.tables e below (T100.setTop (mkF m 34 #[.val (.int (4 : Int32)), .val (.ref b76), .val (.int (5 : Int32)), .val (.int (2 : Int32)), .val (.ref o2)] [])) _
      refine XS.goto X100.here hx rfl (pc0 := 34) (pc' := 9) rfl (hb hby d1_34) (by decide) (by decide) ?_
      show Steps p.tables e below (T100.setTop (mkF m 9 #[.val (.int (4 : Int32)), .val (.ref b76), .val (.int (5 : Int32)), .val (.int (2 : Int32)), .val (.ref o2)] [])) _
      refine XS.iloadN X100.here hx rfl (hb hby d1_9) rfl ?_
      show Steps p.tables e below (T100.setTop (mkF m 10 #[.val (.int (4 : Int32)), .val (.ref b76), .val (.int (5 : Int32)), .val (.int (2 : Int32)), .val (.ref o2)] [(.int (2 : Int32))])) _
      refine XS.iloadN X100.here hx rfl (hb hby d1_10) rfl ?_
      show Steps p.tables e below (T100.setTop (mkF m 11 #[.val (.int (4 : Int32)), .val (.ref b76), .val (.int (5 : Int32)), .val (.int (2 : Int32)), .val (.ref o2)] [(.int (5 : Int32)), (.int (2 : Int32))])) _
      refine XS.icmpNo X100.here hx rfl (hb hby d1_11) rfl (tlt (by decide : (2 : Int32) < (5 : Int32))).2.1 ?_
      show Steps p.tables e below (T100.setTop (mkF m 14 #[.val (.int (4 : Int32)), .val (.ref b76), .val (.int (5 : Int32)), .val (.int (2 : Int32)), .val (.ref o2)] [])) _
      refine XS.aloadN X100.here hx rfl (hb hby d1_14) rfl rfl ?_
      show Steps p.tables e below (T100.setTop (mkF m 15 #[.val (.int (4 : Int32)), .val (.ref b76), .val (.int (5 : Int32)), .val (.int (2 : Int32)), .val (.ref o2)] [(.ref b76)])) _
      refine XS.iloadN X100.here hx rfl (hb hby d1_15) rfl ?_
      show Steps p.tables e below (T100.setTop (mkF m 16 #[.val (.int (4 : Int32)), .val (.ref b76), .val (.int (5 : Int32)), .val (.int (2 : Int32)), .val (.ref o2)] [(.int (2 : Int32)), (.ref b76)])) _
      have hin101 : ¬ ((2 : Int32) < 0 ∨ cl101.slots.size ≤ ((2 : Int32)).toNatClampNeg) := (inb_of S101 ⟨by decide, by decide⟩)
      refine X100.aaload hx (j := (2 : Int32)) (v := (.ref o3)) (by rw [e100]; exact Ar101.1) (State.isArrayOf_alike hZ.alike Ar101.2.1) rfl Ar101.2.2 hin101 (H101.at hin101 rfl) (g := (mkF m 16 #[.val (.int (4 : Int32)), .val (.ref b76), .val (.int (5 : Int32)), .val (.int (2 : Int32)), .val (.ref o2)] [(.int (2 : Int32)), (.ref b76)])) rfl rfl (hb hby d1_16) _ ?_
      show Steps p.tables e below (T100.setTop (mkF m 17 #[.val (.int (4 : Int32)), .val (.ref b76), .val (.int (5 : Int32)), .val (.int (2 : Int32)), .val (.ref o2)] [(.ref o3)])) _
      refine XS.astore X100.here hx rfl (hb hby d1_17) rfl rfl (l' := #[.val (.int (4 : Int32)), .val (.ref b76), .val (.int (5 : Int32)), .val (.int (2 : Int32)), .val (.ref o3)]) rfl ?_
      show Steps p.tables e below (T100.setTop (mkF m 19 #[.val (.int (4 : Int32)), .val (.ref b76), .val (.int (5 : Int32)), .val (.int (2 : Int32)), .val (.ref o3)] [])) _
      refine XS.aload X100.here hx rfl (hb hby d1_19) rfl rfl ?_
      show Steps p.tables e below (T100.setTop (mkF m 21 #[.val (.int (4 : Int32)), .val (.ref b76), .val (.int (5 : Int32)), .val (.int (2 : Int32)), .val (.ref o3)] [(.ref o3)])) _
      refine st102 _ ?_
      show Steps p.tables e below (T102.setTop (mkF m 24 #[.val (.int (4 : Int32)), .val (.ref b76), .val (.int (5 : Int32)), .val (.int (2 : Int32)), .val (.ref o3)] [(.int (3 : Int32))])) _
      refine XS.iloadN X102.here hx rfl (hb hby d1_24) rfl ?_
      show Steps p.tables e below (T102.setTop (mkF m 25 #[.val (.int (4 : Int32)), .val (.ref b76), .val (.int (5 : Int32)), .val (.int (2 : Int32)), .val (.ref o3)] [(.int (4 : Int32)), (.int (3 : Int32))])) _
      refine XS.icmpYes X102.here hx rfl (pc0 := 25) (pc' := 31) rfl (hb hby d1_25) rfl (feq (by decide : ¬ ((3 : Int32) = (4 : Int32)))).2 (by decide) (by decide) ?_
      show Steps p.tables e below (T102.setTop (mkF m 31 #[.val (.int (4 : Int32)), .val (.ref b76), .val (.int (5 : Int32)), .val (.int (2 : Int32)), .val (.ref o3)] [])) _
      refine XS.iinc X102.here hx rfl (hb hby d1_31) rfl (l' := #[.val (.int (4 : Int32)), .val (.ref b76), .val (.int (5 : Int32)), .val (.int (3 : Int32)), .val (.ref o3)]) rfl ?_
      show Steps p.tables e below (T102.setTop (mkF m 34 #[.val (.int (4 : Int32)), .val (.ref b76), .val (.int (5 : Int32)), .val (.int (3 : Int32)), .val (.ref o3)] [])) _
      refine XS.goto X102.here hx rfl (pc0 := 34) (pc' := 9) rfl (hb hby d1_34) (by decide) (by decide) ?_
      show Steps p.tables e below (T102.setTop (mkF m 9 #[.val (.int (4 : Int32)), .val (.ref b76), .val (.int (5 : Int32)), .val (.int (3 : Int32)), .val (.ref o3)] [])) _
      refine XS.iloadN X102.here hx rfl (hb hby d1_9) rfl ?_
      show Steps p.tables e below (T102.setTop (mkF m 10 #[.val (.int (4 : Int32)), .val (.ref b76), .val (.int (5 : Int32)), .val (.int (3 : Int32)), .val (.ref o3)] [(.int (3 : Int32))])) _
      refine XS.iloadN X102.here hx rfl (hb hby d1_10) rfl ?_
      show Steps p.tables e below (T102.setTop (mkF m 11 #[.val (.int (4 : Int32)), .val (.ref b76), .val (.int (5 : Int32)), .val (.int (3 : Int32)), .val (.ref o3)] [(.int (5 : Int32)), (.int (3 : Int32))])) _
      refine XS.icmpNo X102.here hx rfl (hb hby d1_11) rfl (tlt (by decide : (3 : Int32) < (5 : Int32))).2.1 ?_
      show Steps p.tables e below (T102.setTop (mkF m 14 #[.val (.int (4 : Int32)), .val (.ref b76), .val (.int (5 : Int32)), .val (.int (3 : Int32)), .val (.ref o3)] [])) _
      refine XS.aloadN X102.here hx rfl (hb hby d1_14) rfl rfl ?_
      show Steps p.tables e below (T102.setTop (mkF m 15 #[.val (.int (4 : Int32)), .val (.ref b76), .val (.int (5 : Int32)), .val (.int (3 : Int32)), .val (.ref o3)] [(.ref b76)])) _
      refine XS.iloadN X102.here hx rfl (hb hby d1_15) rfl ?_
      show Steps p.tables e below (T102.setTop (mkF m 16 #[.val (.int (4 : Int32)), .val (.ref b76), .val (.int (5 : Int32)), .val (.int (3 : Int32)), .val (.ref o3)] [(.int (3 : Int32)), (.ref b76)])) _
      have hin103 : ¬ ((3 : Int32) < 0 ∨ cl103.slots.size ≤ ((3 : Int32)).toNatClampNeg) := (inb_of S103 ⟨by decide, by decide⟩)
      refine X102.aaload hx (j := (3 : Int32)) (v := (.ref o4)) (by rw [e102]; exact Ar103.1) (State.isArrayOf_alike hZ.alike Ar103.2.1) rfl Ar103.2.2 hin103 (H103.at hin103 rfl) (g := (mkF m 16 #[.val (.int (4 : Int32)), .val (.ref b76), .val (.int (5 : Int32)), .val (.int (3 : Int32)), .val (.ref o3)] [(.int (3 : Int32)), (.ref b76)])) rfl rfl (hb hby d1_16) _ ?_
      show Steps p.tables e below (T102.setTop (mkF m 17 #[.val (.int (4 : Int32)), .val (.ref b76), .val (.int (5 : Int32)), .val (.int (3 : Int32)), .val (.ref o3)] [(.ref o4)])) _
      refine XS.astore X102.here hx rfl (hb hby d1_17) rfl rfl (l' := #[.val (.int (4 : Int32)), .val (.ref b76), .val (.int (5 : Int32)), .val (.int (3 : Int32)), .val (.ref o4)]) rfl ?_
      show Steps p.tables e below (T102.setTop (mkF m 19 #[.val (.int (4 : Int32)), .val (.ref b76), .val (.int (5 : Int32)), .val (.int (3 : Int32)), .val (.ref o4)] [])) _
      refine XS.aload X102.here hx rfl (hb hby d1_19) rfl rfl ?_
      show Steps p.tables e below (T102.setTop (mkF m 21 #[.val (.int (4 : Int32)), .val (.ref b76), .val (.int (5 : Int32)), .val (.int (3 : Int32)), .val (.ref o4)] [(.ref o4)])) _
      refine st104 _ ?_
      show Steps p.tables e below (T104.setTop (mkF m 24 #[.val (.int (4 : Int32)), .val (.ref b76), .val (.int (5 : Int32)), .val (.int (3 : Int32)), .val (.ref o4)] [(.int (4 : Int32))])) _
      refine XS.iloadN X104.here hx rfl (hb hby d1_24) rfl ?_
      show Steps p.tables e below (T104.setTop (mkF m 25 #[.val (.int (4 : Int32)), .val (.ref b76), .val (.int (5 : Int32)), .val (.int (3 : Int32)), .val (.ref o4)] [(.int (4 : Int32)), (.int (4 : Int32))])) _
      refine XS.icmpNo X104.here hx rfl (hb hby d1_25) rfl (teq (by decide : (4 : Int32) = (4 : Int32))).2 ?_
      show Steps p.tables e below (T104.setTop (mkF m 28 #[.val (.int (4 : Int32)), .val (.ref b76), .val (.int (5 : Int32)), .val (.int (3 : Int32)), .val (.ref o4)] [])) _
      refine XS.aload X104.here hx rfl (hb hby d1_28) rfl rfl ?_
      show Steps p.tables e below (T104.setTop (mkF m 30 #[.val (.int (4 : Int32)), .val (.ref b76), .val (.int (5 : Int32)), .val (.int (3 : Int32)), .val (.ref o4)] [(.ref o4)])) _
      jvm_step X104.here [X104.here.top, hx, (hb hby d1_30), X104.method', Bd.returns, Value.isRef, FieldType.isReference]
      first | (intro acts; rw [hr _ acts rfl rfl rfl]) | rw [hr _ _ rfl rfl rfl]
      exact Steps.refl _
    · show Q1 Z p0 wv kk o1 o2 o3 o4 o5 h0 n0 _ T104.heap _
      rw [e104]
      exact ⟨by rw [← gk]; rfl, N76, K76⟩
  · skip
    obtain ⟨_, _, ⟨T105, L105, k105, n105⟩, -, X105, ⟨Lc105, hQ105, l105, y105, z105⟩, st105⟩ := Jvm.LawKit.callS X0 hx (y := (⟨"com/example/countersign/countersign/protocol/ActivationStatus", "values", "()[Lcom/example/countersign/countersign/protocol/ActivationStatus;"⟩ : MethodName)) hown (mvT hZ (hw _ (List.mem_of_getElem? (i := 5) rfl))) (mvT hZ (hw _ (List.mem_of_getElem? (i := 6) rfl))) (mvT hZ (hw _ (List.mem_of_getElem? (i := 3) rfl))) (mvT hZ (hw _ (List.mem_of_getElem? (i := 7) rfl))) (by decide) (backOf (W := 0) (rm2 l Z aw hw [] wv kk o1 o2 o3 o4 o5 h0 n0 Z0 SV EV V0) hZ (hw _ (List.mem_of_getElem? (i := 7) rfl)) (hw _ (List.mem_of_getElem? (i := 3) rfl)) (by decide) (by decide)) (g := (mkF m 0 #[.val (.int (5 : Int32)), .unset, .unset, .unset, .unset] [])) rfl (by rw [hml]; rfl) (argsL := []) (rest := []) (lenOf pd_0 rfl) rfl (by show 2 * 0 + _ ≤ _; exact Nat.le_of_eq rfl) (hb hby d1_0) (fun _ _ => ⟨rfl, e0, (by decide : 0 + 1 ≤ _), (by decide : 0 + 5 ≤ _)⟩)
    dsimp only [Pt.U, Pt.locs, Pt.cells, Pt.slots] at X105 l105 y105 z105 st105 hQ105
    subst l105 y105 z105
    obtain ⟨b105, rfl, N105q, K105q, g105q, V105q⟩ := hQ105
    have N105 := Fr.app N0 N105q
    have E105q := own_ext K105q
    have ne106 : wv ≠ b105 := Nat.ne_of_lt (Nat.lt_of_lt_of_le EV.lt g105q)
    have ne107 : o1 ≠ b105 := Nat.ne_of_lt (Nat.lt_of_lt_of_le E1.lt g105q)
    have ne108 : o2 ≠ b105 := Nat.ne_of_lt (Nat.lt_of_lt_of_le E2.lt g105q)
    have ne109 : o3 ≠ b105 := Nat.ne_of_lt (Nat.lt_of_lt_of_le E3.lt g105q)
    have ne110 : o4 ≠ b105 := Nat.ne_of_lt (Nat.lt_of_lt_of_le E4.lt g105q)
    have ne111 : o5 ≠ b105 := Nat.ne_of_lt (Nat.lt_of_lt_of_le E5.lt g105q)
    have geb105 : n0 ≤ b105 := Nat.le_trans Z0 g105q
    have szb105 : h0.size ≤ b105 := g105q
    have f112 := SV.ext E105q
    have f113 := EV.ext E105q
    have f114 := V0.ext E105q
    have f115 := E1.ext E105q
    have f116 := F1.ext E105q
    have f117 := E2.ext E105q
    have f118 := F2.ext E105q
    have f119 := E3.ext E105q
    have f120 := F3.ext E105q
    have f121 := E4.ext E105q
    have f122 := F4.ext E105q
    have f123 := E5.ext E105q
    have f124 := F5.ext E105q
    have Z105 : n0 ≤ T105.heap.size := Nat.le_trans Z0 E105q.1
    have K105 : Keep h0 T105.heap [] := (Keep.refl h0 []).ext E105q
    obtain ⟨cl125, Ar125, q125, S125, M125, H125, G125⟩ := id V105q
    obtain ⟨cl126, Ar126, q126, S126, M126, H126, G126⟩ := id V105q
    obtain ⟨T127, X127, e127, st127⟩ := getF X105 hx hZ hown (host := "") (Or.inl (hw _ (List.mem_of_getElem? (i := 25) rfl))) Via.refl rfl f116 (g := (mkF m 21 #[.val (.int (5 : Int32)), .val (.ref b105), .val (.int (5 : Int32)), .val (.int (0 : Int32)), .val (.ref o1)] [(.ref o1)])) rfl rfl (hb hby d1_21)
    obtain ⟨cl128, Ar128, q128, S128, M128, H128, G128⟩ := id V105q
    obtain ⟨T129, X129, e129, st129⟩ := getF X127 hx hZ hown (host := "") (Or.inl (hw _ (List.mem_of_getElem? (i := 25) rfl))) Via.refl e127 f118 (g := (mkF m 21 #[.val (.int (5 : Int32)), .val (.ref b105), .val (.int (5 : Int32)), .val (.int (1 : Int32)), .val (.ref o2)] [(.ref o2)])) rfl rfl (hb hby d1_21)
    obtain ⟨cl130, Ar130, q130, S130, M130, H130, G130⟩ := id V105q
    obtain ⟨T131, X131, e131, st131⟩ := getF X129 hx hZ hown (host := "") (Or.inl (hw _ (List.mem_of_getElem? (i := 25) rfl))) Via.refl e129 f120 (g := (mkF m 21 #[.val (.int (5 : Int32)), .val (.ref b105), .val (.int (5 : Int32)), .val (.int (2 : Int32)), .val (.ref o3)] [(.ref o3)])) rfl rfl (hb hby d1_21)
    obtain ⟨cl132, Ar132, q132, S132, M132, H132, G132⟩ := id V105q
    obtain ⟨T133, X133, e133, st133⟩ := getF X131 hx hZ hown (host := "") (Or.inl (hw _ (List.mem_of_getElem? (i := 25) rfl))) Via.refl e131 f122 (g := (mkF m 21 #[.val (.int (5 : Int32)), .val (.ref b105), .val (.int (5 : Int32)), .val (.int (3 : Int32)), .val (.ref o4)] [(.ref o4)])) rfl rfl (hb hby d1_21)
    obtain ⟨cl134, Ar134, q134, S134, M134, H134, G134⟩ := id V105q
    obtain ⟨T135, X135, e135, st135⟩ := getF X133 hx hZ hown (host := "") (Or.inl (hw _ (List.mem_of_getElem? (i := 25) rfl))) Via.refl e133 f124 (g := (mkF m 21 #[.val (.int (5 : Int32)), .val (.ref b105), .val (.int (5 : Int32)), .val (.int (4 : Int32)), .val (.ref o5)] [(.ref o5)])) rfl rfl (hb hby d1_21)
    obtain ⟨fs, hr, hrun, hended, hW, hsame⟩ := X135.leave (v := some (.ref o5)) (fun h => by rw [Bd.returns] at h; cases h)
    refine ⟨_, _, preK _ ?_, hrun, hended, _, _, rfl, ?_, ⟨_, rfl⟩, hW, hsame.mono (by decide) (by decide)⟩
    · show Steps p.tables e below (s₁.setTop (mkF m 0 #[.val (.int (5 : Int32)), .unset, .unset, .unset, .unset] [])) _
      refine st105 _ ?_
      show Steps p.tables e below (T105.setTop (mkF m 3 #[.val (.int (5 : Int32)), .unset, .unset, .unset, .unset] [(.ref b105)])) _
      refine XS.astoreN X105.here hx rfl (hb hby d1_3) rfl rfl (l' := #[.val (.int (5 : Int32)), .val (.ref b105), .unset, .unset, .unset]) rfl ?_
      show Steps p.tables e below (T105.setTop (mkF m 4 #[.val (.int (5 : Int32)), .val (.ref b105), .unset, .unset, .unset] [])) _
      refine XS.aloadN X105.here hx rfl (hb hby d1_4) rfl rfl ?_
      show Steps p.tables e below (T105.setTop (mkF m 5 #[.val (.int (5 : Int32)), .val (.ref b105), .unset, .unset, .unset] [(.ref b105)])) _
      refine X105.arraylength hx Ar125.1 (State.isArrayOf_alike hZ.alike Ar125.2.1) (g := (mkF m 5 #[.val (.int (5 : Int32)), .val (.ref b105), .unset, .unset, .unset] [(.ref b105)])) rfl rfl (hb hby d1_5) _ ?_
      rw [len_of S125 M125]
      show Steps p.tables e below (T105.setTop (mkF m 6 #[.val (.int (5 : Int32)), .val (.ref b105), .unset, .unset, .unset] [(.int (5 : Int32))])) _
      refine XS.istoreN X105.here hx rfl (hb hby d1_6) rfl (l' := #[.val (.int (5 : Int32)), .val (.ref b105), .val (.int (5 : Int32)), .unset, .unset]) rfl ?_
      show Steps p.tables e below (T105.setTop (mkF m 7 #[.val (.int (5 : Int32)), .val (.ref b105), .val (.int (5 : Int32)), .unset, .unset] [])) _
      refine XS.iconst X105.here hx rfl (hb hby d1_7) ?_
      show Steps p.tables e below (T105.setTop (mkF m 8 #[.val (.int (5 : Int32)), .val (.ref b105), .val (.int (5 : Int32)), .unset, .unset] [(.int (0 : Int32))])) _
      refine XS.istoreN X105.here hx rfl (hb hby d1_8) rfl (l' := #[.val (.int (5 : Int32)), .val (.ref b105), .val (.int (5 : Int32)), .val (.int (0 : Int32)), .unset]) rfl ?_
      show Steps p.tables e below (T105.setTop (mkF m 9 #[.val (.int (5 : Int32)), .val (.ref b105), .val (.int (5 : Int32)), .val (.int (0 : Int32)), .unset] [])) _
      refine XS.iloadN X105.here hx rfl (hb hby d1_9) rfl ?_
      show Steps p.tables e below (T105.setTop (mkF m 10 #[.val (.int (5 : Int32)), .val (.ref b105), .val (.int (5 : Int32)), .val (.int (0 : Int32)), .unset] [(.int (0 : Int32))])) _
      refine XS.iloadN X105.here hx rfl (hb hby d1_10) rfl ?_
      show Steps p.tables e below (T105.setTop (mkF m 11 #[.val (.int (5 : Int32)), .val (.ref b105), .val (.int (5 : Int32)), .val (.int (0 : Int32)), .unset] [(.int (5 : Int32)), (.int (0 : Int32))])) _
      refine XS.icmpNo X105.here hx rfl (hb hby d1_11) rfl (tlt (by decide : (0 : Int32) < (5 : Int32))).2.1 ?_
      show Steps p.tables e below (T105.setTop (mkF m 14 #[.val (.int (5 : Int32)), .val (.ref b105), .val (.int (5 : Int32)), .val (.int (0 : Int32)), .unset] [])) _
      refine XS.aloadN X105.here hx rfl (hb hby d1_14) rfl rfl ?_
      show Steps p.tables e below (T105.setTop (mkF m 15 #[.val (.int (5 : Int32)), .val (.ref b105), .val (.int (5 : Int32)), .val (.int (0 : Int32)), .unset] [(.ref b105)])) _
      refine XS.iloadN X105.here hx rfl (hb hby d1_15) rfl ?_
      show Steps p.tables e below (T105.setTop (mkF m 16 #[.val (.int (5 : Int32)), .val (.ref b105), .val (.int (5 : Int32)), .val (.int (0 : Int32)), .unset] [(.int (0 : Int32)), (.ref b105)])) _
      have hin126 : ¬ ((0 : Int32) < 0 ∨ cl126.slots.size ≤ ((0 : Int32)).toNatClampNeg) := (inb_of S126 ⟨by decide, by decide⟩)
      refine X105.aaload hx (j := (0 : Int32)) (v := (.ref o1)) Ar126.1 (State.isArrayOf_alike hZ.alike Ar126.2.1) rfl Ar126.2.2 hin126 (H126.at hin126 rfl) (g := (mkF m 16 #[.val (.int (5 : Int32)), .val (.ref b105), .val (.int (5 : Int32)), .val (.int (0 : Int32)), .unset] [(.int (0 : Int32)), (.ref b105)])) rfl rfl (hb hby d1_16) _ ?_
      show Steps p.tables e below (T105.setTop (mkF m 17 #[.val (.int (5 : Int32)), .val (.ref b105), .val (.int (5 : Int32)), .val (.int (0 : Int32)), .unset] [(.ref o1)])) _
      refine XS.astore X105.here hx rfl (hb hby d1_17) rfl rfl (l' := #[.val (.int (5 : Int32)), .val (.ref b105), .val (.int (5 : Int32)), .val (.int (0 : Int32)), .val (.ref o1)]) rfl ?_
      show Steps p.tables e below (T105.setTop (mkF m 19 #[.val (.int (5 : Int32)), .val (.ref b105), .val (.int (5 : Int32)), .val (.int (0 : Int32)), .val (.ref o1)] [])) _
      refine XS.aload X105.here hx rfl (hb hby d1_19) rfl rfl ?_
      show Steps p.tables e below (T105.setTop (mkF m 21 #[.val (.int (5 : Int32)), .val (.ref b105), .val (.int (5 : Int32)), .val (.int (0 : Int32)), .val (.ref o1)] [(.ref o1)])) _
      refine st127 _ ?_
      show Steps p.tables e below (T127.setTop (mkF m 24 #[.val (.int (5 : Int32)), .val (.ref b105), .val (.int (5 : Int32)), .val (.int (0 : Int32)), .val (.ref o1)] [(.int (1 : Int32))])) _
      refine XS.iloadN X127.here hx rfl (hb hby d1_24) rfl ?_
      show Steps p.tables e below (T127.setTop (mkF m 25 #[.val (.int (5 : Int32)), .val (.ref b105), .val (.int (5 : Int32)), .val (.int (0 : Int32)), .val (.ref o1)] [(.int (5 : Int32)), (.int (1 : Int32))])) _
      refine XS.icmpYes X127.here hx rfl (pc0 := 25) (pc' := 31) rfl (hb hby d1_25) rfl (feq (by decide : ¬ ((1 : Int32) = (5 : Int32)))).2 (by decide) (by decide) ?_
      show Steps p.tables e below (T127.setTop (mkF m 31 #[.val (.int (5 : Int32)), .val (.ref b105), .val (.int (5 : Int32)), .val (.int (0 : Int32)), .val (.ref o1)] [])) _
      refine XS.iinc X127.here hx rfl (hb hby d1_31) rfl (l' := #[.val (.int (5 : Int32)), .val (.ref b105), .val (.int (5 : Int32)), .val (.int (1 : Int32)), .val (.ref o1)]) rfl ?_
      show Steps p.tables e below (T127.setTop (mkF m 34 #[.val (.int (5 : Int32)), .val (.ref b105), .val (.int (5 : Int32)), .val (.int (1 : Int32)), .val (.ref o1)] [])) _
      refine XS.goto X127.here hx rfl (pc0 := 34) (pc' := 9) rfl (hb hby d1_34) (by decide) (by decide) ?_
      show Steps p.tables e below (T127.setTop (mkF m 9 #[.val (.int (5 : Int32)), .val (.ref b105), .val (.int (5 : Int32)), .val (.int (1 : Int32)), .val (.ref o1)] [])) _
      refine XS.iloadN X127.here hx rfl (hb hby d1_9) rfl ?_
      show Steps p.tables e below (T127.setTop (mkF m 10 #[.val (.int (5 : Int32)), .val (.ref b105), .val (.int (5 : Int32)), .val (.int (1 : Int32)), .val (.ref o1)] [(.int (1 : Int32))])) _
      refine XS.iloadN X127.here hx rfl (hb hby d1_10) rfl ?_
      show Steps p.tables e below (T127.setTop (mkF m 11 #[.val (.int (5 : Int32)), .val (.ref b105), .val (.int (5 : Int32)), .val (.int (1 : Int32)), .val (.ref o1)] [(.int (5 : Int32)), (.int (1 : Int32))])) _
      refine XS.icmpNo X127.here hx rfl (hb hby d1_11) rfl (tlt (by decide : (1 : Int32) < (5 : Int32))).2.1 ?_
      show Steps p.tables e below (T127.setTop (mkF m 14 #[.val (.int (5 : Int32)), .val (.ref b105), .val (.int (5 : Int32)), .val (.int (1 : Int32)), .val (.ref o1)] [])) _
      refine XS.aloadN X127.here hx rfl (hb hby d1_14) rfl rfl ?_
      show Steps p.tables e below (T127.setTop (mkF m 15 #[.val (.int (5 : Int32)), .val (.ref b105), .val (.int (5 : Int32)), .val (.int (1 : Int32)), .val (.ref o1)] [(.ref b105)])) _
      refine XS.iloadN X127.here hx rfl (hb hby d1_15) rfl ?_
      show Steps p.tables e below (T127.setTop (mkF m 16 #[.val (.int (5 : Int32)), .val (.ref b105), .val (.int (5 : Int32)), .val (.int (1 : Int32)), .val (.ref o1)] [(.int (1 : Int32)), (.ref b105)])) _
      have hin128 : ¬ ((1 : Int32) < 0 ∨ cl128.slots.size ≤ ((1 : Int32)).toNatClampNeg) := (inb_of S128 ⟨by decide, by decide⟩)
      refine X127.aaload hx (j := (1 : Int32)) (v := (.ref o2)) (by rw [e127]; exact Ar128.1) (State.isArrayOf_alike hZ.alike Ar128.2.1) rfl Ar128.2.2 hin128 (H128.at hin128 rfl) (g := (mkF m 16 #[.val (.int (5 : Int32)), .val (.ref b105), .val (.int (5 : Int32)), .val (.int (1 : Int32)), .val (.ref o1)] [(.int (1 : Int32)), (.ref b105)])) rfl rfl (hb hby d1_16) _ ?_
      show Steps p.tables e below (T127.setTop (mkF m 17 #[.val (.int (5 : Int32)), .val (.ref b105), .val (.int (5 : Int32)), .val (.int (1 : Int32)), .val (.ref o1)] [(.ref o2)])) _
      refine XS.astore X127.here hx rfl (hb hby d1_17) rfl rfl (l' := #[.val (.int (5 : Int32)), .val (.ref b105), .val (.int (5 : Int32)), .val (.int (1 : Int32)), .val (.ref o2)]) rfl ?_
      show Steps p.tables e below (T127.setTop (mkF m 19 #[.val (.int (5 : Int32)), .val (.ref b105), .val (.int (5 : Int32)), .val (.int (1 : Int32)), .val (.ref o2)] [])) _
      refine XS.aload X127.here hx rfl (hb hby d1_19) rfl rfl ?_
      show Steps p.tables e below (T127.setTop (mkF m 21 #[.val (.int (5 : Int32)), .val (.ref b105), .val (.int (5 : Int32)), .val (.int (1 : Int32)), .val (.ref o2)] [(.ref o2)])) _
      refine st129 _ ?_
      show Steps p.tables e below (T129.setTop (mkF m 24 #[.val (.int (5 : Int32)), .val (.ref b105), .val (.int (5 : Int32)), .val (.int (1 : Int32)), .val (.ref o2)] [(.int (2 : Int32))])) _
      refine XS.iloadN X129.here hx rfl (hb hby d1_24) rfl ?_
      show Steps p.tables e below (T129.setTop (mkF m 25 #[.val (.int (5 : Int32)), .val (.ref b105), .val (.int (5 : Int32)), .val (.int (1 : Int32)), .val (.ref o2)] [(.int (5 : Int32)), (.int (2 : Int32))])) _
      refine XS.icmpYes X129.here hx rfl (pc0 := 25) (pc' := 31) rfl (hb hby d1_25) rfl (feq (by decide : ¬ ((2 : Int32) = (5 : Int32)))).2 (by decide) (by decide) ?_
      show Steps p.tables e below (T129.setTop (mkF m 31 #[.val (.int (5 : Int32)), .val (.ref b105), .val (.int (5 : Int32)), .val (.int (1 : Int32)), .val (.ref o2)] [])) _
      refine XS.iinc X129.here hx rfl (hb hby d1_31) rfl (l' := #[.val (.int (5 : Int32)), .val (.ref b105), .val (.int (5 : Int32)), .val (.int (2 : Int32)), .val (.ref o2)]) rfl ?_
      show Steps p.tables e below (T129.setTop (mkF m 34 #[.val (.int (5 : Int32)), .val (.ref b105), .val (.int (5 : Int32)), .val (.int (2 : Int32)), .val (.ref o2)] [])) _
      refine XS.goto X129.here hx rfl (pc0 := 34) (pc' := 9) rfl (hb hby d1_34) (by decide) (by decide) ?_
      show Steps p.tables e below (T129.setTop (mkF m 9 #[.val (.int (5 : Int32)), .val (.ref b105), .val (.int (5 : Int32)), .val (.int (2 : Int32)), .val (.ref o2)] [])) _
      refine XS.iloadN X129.here hx rfl (hb hby d1_9) rfl ?_
      show Steps p.tables e below (T129.setTop (mkF m 10 #[.val (.int (5 : Int32)), .val (.ref b105), .val (.int (5 : Int32)), .val (.int (2 : Int32)), .val (.ref o2)] [(.int (2 : Int32))])) _
      refine XS.iloadN X129.here hx rfl (hb hby d1_10) rfl ?_
      show Steps p.tables e below (T129.setTop (mkF m 11 #[.val (.int (5 : Int32)), .val (.ref b105), .val (.int (5 : Int32)), .val (.int (2 : Int32)), .val (.ref o2)] [(.int (5 : Int32)), (.int (2 : Int32))])) _
      refine XS.icmpNo X129.here hx rfl (hb hby d1_11) rfl (tlt (by decide : (2 : Int32) < (5 : Int32))).2.1 ?_
      show Steps p.tables e below (T129.setTop (mkF m 14 #[.val (.int (5 : Int32)), .val (.ref b105), .val (.int (5 : Int32)), .val (.int (2 : Int32)), .val (.ref o2)] [])) _
      refine XS.aloadN X129.here hx rfl (hb hby d1_14) rfl rfl ?_
      show Steps p.tables e below (T129.setTop (mkF m 15 #[.val (.int (5 : Int32)), .val (.ref b105), .val (.int (5 : Int32)), .val (.int (2 : Int32)), .val (.ref o2)] [(.ref b105)])) _
      refine XS.iloadN X129.here hx rfl (hb hby d1_15) rfl ?_
      show Steps p.tables e below (T129.setTop (mkF m 16 #[.val (.int (5 : Int32)), .val (.ref b105), .val (.int (5 : Int32)), .val (.int (2 : Int32)), .val (.ref o2)] [(.int (2 : Int32)), (.ref b105)])) _
      have hin130 : ¬ ((2 : Int32) < 0 ∨ cl130.slots.size ≤ ((2 : Int32)).toNatClampNeg) := (inb_of S130 ⟨by decide, by decide⟩)
      refine X129.aaload hx (j := (2 : Int32)) (v := (.ref o3)) (by rw [e129]; exact Ar130.1) (State.isArrayOf_alike hZ.alike Ar130.2.1) rfl Ar130.2.2 hin130 (H130.at hin130 rfl) (g := (mkF m 16 #[.val (.int (5 : Int32)), .val (.ref b105), .val (.int (5 : Int32)), .val (.int (2 : Int32)), .val (.ref o2)] [(.int (2 : Int32)), (.ref b105)])) rfl rfl (hb hby d1_16) _ ?_
      show Steps p.tables e below (T129.setTop (mkF m 17 #[.val (.int (5 : Int32)), .val (.ref b105), .val (.int (5 : Int32)), .val (.int (2 : Int32)), .val (.ref o2)] [(.ref o3)])) _
      refine XS.astore X129.here hx rfl (hb hby d1_17) rfl rfl (l' := #[.val (.int (5 : Int32)), .val (.ref b105), .val (.int (5 : Int32)), .val (.int (2 : Int32)), .val (.ref o3)]) rfl ?_
      show Steps p.tables e below (T129.setTop (mkF m 19 #[.val (.int (5 : Int32)), .val (.ref b105), .val (.int (5 : Int32)), .val (.int (2 : Int32)), .val (.ref o3)] [])) _
      refine XS.aload X129.here hx rfl (hb hby d1_19) rfl rfl ?_
      show Steps p.tables e below (T129.setTop (mkF m 21 #[.val (.int (5 : Int32)), .val (.ref b105), .val (.int (5 : Int32)), .val (.int (2 : Int32)), .val (.ref o3)] [(.ref o3)])) _
      refine st131 _ ?_
      show Steps p.tables e below (T131.setTop (mkF m 24 #[.val (.int (5 : Int32)), .val (.ref b105), .val (.int (5 : Int32)), .val (.int (2 : Int32)), .val (.ref o3)] [(.int (3 : Int32))])) _
      refine XS.iloadN X131.here hx rfl (hb hby d1_24) rfl ?_
      show Steps p.tables e below (T131.setTop (mkF m 25 #[.val (.int (5 : Int32)), .val (.ref b105), .val (.int (5 : Int32)), .val (.int (2 : Int32)), .val (.ref o3)] [(.int (5 : Int32)), (.int (3 : Int32))])) _
      refine XS.icmpYes X131.here hx rfl (pc0 := 25) (pc' := 31) rfl (hb hby d1_25) rfl (feq (by decide : ¬ ((3 : Int32) = (5 : Int32)))).2 (by decide) (by decide) ?_
      show Steps p.tables e below (T131.setTop (mkF m 31 #[.val (.int (5 : Int32)), .val (.ref b105), .val (.int (5 : Int32)), .val (.int (2 : Int32)), .val (.ref o3)] [])) _
      refine XS.iinc X131.here hx rfl (hb hby d1_31) rfl (l' := #[.val (.int (5 : Int32)), .val (.ref b105), .val (.int (5 : Int32)), .val (.int (3 : Int32)), .val (.ref o3)]) rfl ?_
      show Steps p.tables e below (T131.setTop (mkF m 34 #[.val (.int (5 : Int32)), .val (.ref b105), .val (.int (5 : Int32)), .val (.int (3 : Int32)), .val (.ref o3)] [])) _
      refine XS.goto X131.here hx rfl (pc0 := 34) (pc' := 9) rfl (hb hby d1_34) (by decide) (by decide) ?_
      show Steps p.tables e below (T131.setTop (mkF m 9 #[.val (.int (5 : Int32)), .val (.ref b105), .val (.int (5 : Int32)), .val (.int (3 : Int32)), .val (.ref o3)] [])) _
      refine XS.iloadN X131.here hx rfl (hb hby d1_9) rfl ?_
      show Steps p.tables e below (T131.setTop (mkF m 10 #[.val (.int (5 : Int32)), .val (.ref b105), .val (.int (5 : Int32)), .val (.int (3 : Int32)), .val (.ref o3)] [(.int (3 : Int32))])) _
      refine XS.iloadN X131.here hx rfl (hb hby d1_10) rfl ?_
      show Steps p.tables e below (T131.setTop (mkF m 11 #[.val (.int (5 : Int32)), .val (.ref b105), .val (.int (5 : Int32)), .val (.int (3 : Int32)), .val (.ref o3)] [(.int (5 : Int32)), (.int (3 : Int32))])) _
      refine XS.icmpNo X131.here hx rfl (hb hby d1_11) rfl (tlt (by decide : (3 : Int32) < (5 : Int32))).2.1 ?_
      show Steps p.tables e below (T131.setTop (mkF m 14 #[.val (.int (5 : Int32)), .val (.ref b105), .val (.int (5 : Int32)), .val (.int (3 : Int32)), .val (.ref o3)] [])) _
      refine XS.aloadN X131.here hx rfl (hb hby d1_14) rfl rfl ?_
      show Steps p.tables e below (T131.setTop (mkF m 15 #[.val (.int (5 : Int32)), .val (.ref b105), .val (.int (5 : Int32)), .val (.int (3 : Int32)), .val (.ref o3)] [(.ref b105)])) _
      refine XS.iloadN X131.here hx rfl (hb hby d1_15) rfl ?_
      show Steps p.tables e below (T131.setTop (mkF m 16 #[.val (.int (5 : Int32)), .val (.ref b105), .val (.int (5 : Int32)), .val (.int (3 : Int32)), .val (.ref o3)] [(.int (3 : Int32)), (.ref b105)])) _
      have hin132 : ¬ ((3 : Int32) < 0 ∨ cl132.slots.size ≤ ((3 : Int32)).toNatClampNeg) := (inb_of S132 ⟨by decide, by decide⟩)
      refine X131.aaload hx (j := (3 : Int32)) (v := (.ref o4)) (by rw [e131]; exact Ar132.1) (State.isArrayOf_alike hZ.alike Ar132.2.1) rfl Ar132.2.2 hin132 (H132.at hin132 rfl) (g := (mkF m 16 #[.val (.int (5 : Int32)), .val (.ref b105), .val (.int (5 : Int32)), .val (.int (3 : Int32)), .val (.ref o3)] [(.int (3 : Int32)), (.ref b105)])) rfl rfl (hb hby d1_16) _ ?_
      show Steps p.tables e below (T131.setTop (mkF m 17 #[.val (.int (5 : Int32)), .val (.ref b105), .val (.int (5 : Int32)), .val (.int (3 : Int32)), .val (.ref o3)] [(.ref o4)])) _
      refine XS.astore X131.here hx rfl (hb hby d1_17) rfl rfl (l' := #[.val (.int (5 : Int32)), .val (.ref b105), .val (.int (5 : Int32)), .val (.int (3 : Int32)), .val (.ref o4)]) rfl ?_
      show Steps p.tables e below (T131.setTop (mkF m 19 #[.val (.int (5 : Int32)), .val (.ref b105), .val (.int (5 : Int32)), .val (.int (3 : Int32)), .val (.ref o4)] [])) _
      refine XS.aload X131.here hx rfl (hb hby d1_19) rfl rfl ?_
      show Steps p.tables e below (T131.setTop (mkF m 21 #[.val (.int (5 : Int32)), .val (.ref b105), .val (.int (5 : Int32)), .val (.int (3 : Int32)), .val (.ref o4)] [(.ref o4)])) _
      refine st133 _ ?_
      show Steps p.tables e below (T133.setTop (mkF m 24 #[.val (.int (5 : Int32)), .val (.ref b105), .val (.int (5 : Int32)), .val (.int (3 : Int32)), .val (.ref o4)] [(.int (4 : Int32))])) _
      refine XS.iloadN X133.here hx rfl (hb hby d1_24) rfl ?_
      show Steps p.tables e below (T133.setTop (mkF m 25 #[.val (.int (5 : Int32)), .val (.ref b105), .val (.int (5 : Int32)), .val (.int (3 : Int32)), .val (.ref o4)] [(.int (5 : Int32)), (.int (4 : Int32))])) _
      refine XS.icmpYes X133.here hx rfl (pc0 := 25) (pc' := 31) rfl (hb hby d1_25) rfl (feq (by decide : ¬ ((4 : Int32) = (5 : Int32)))).2 (by decide) (by decide) ?_
      show Steps p.tables e below (T133.setTop (mkF m 31 #[.val (.int (5 : Int32)), .val (.ref b105), .val (.int (5 : Int32)), .val (.int (3 : Int32)), .val (.ref o4)] [])) _
      refine XS.iinc X133.here hx rfl (hb hby d1_31) rfl (l' := #[.val (.int (5 : Int32)), .val (.ref b105), .val (.int (5 : Int32)), .val (.int (4 : Int32)), .val (.ref o4)]) rfl ?_
      show Steps p.tables e below (T133.setTop (mkF m 34 #[.val (.int (5 : Int32)), .val (.ref b105), .val (.int (5 : Int32)), .val (.int (4 : Int32)), .val (.ref o4)] [])) _
      refine XS.goto X133.here hx rfl (pc0 := 34) (pc' := 9) rfl (hb hby d1_34) (by decide) (by decide) ?_
      show Steps p.tables e below (T133.setTop (mkF m 9 #[.val (.int (5 : Int32)), .val (.ref b105), .val (.int (5 : Int32)), .val (.int (4 : Int32)), .val (.ref o4)] [])) _
      refine XS.iloadN X133.here hx rfl (hb hby d1_9) rfl ?_
      show Steps p.tables e below (T133.setTop (mkF m 10 #[.val (.int (5 : Int32)), .val (.ref b105), .val (.int (5 : Int32)), .val (.int (4 : Int32)), .val (.ref o4)] [(.int (4 : Int32))])) _
      refine XS.iloadN X133.here hx rfl (hb hby d1_10) rfl ?_
      show Steps p.tables e below (T133.setTop (mkF m 11 #[.val (.int (5 : Int32)), .val (.ref b105), .val (.int (5 : Int32)), .val (.int (4 : Int32)), .val (.ref o4)] [(.int (5 : Int32)), (.int (4 : Int32))])) _
      refine XS.icmpNo X133.here hx rfl (hb hby d1_11) rfl (tlt (by decide : (4 : Int32) < (5 : Int32))).2.1 ?_
      show Steps p.tables e below (T133.setTop (mkF m 14 #[.val (.int (5 : Int32)), .val (.ref b105), .val (.int (5 : Int32)), .val (.int (4 : Int32)), .val (.ref o4)] [])) _
      refine XS.aloadN X133.here hx rfl (hb hby d1_14) rfl rfl ?_
      show Steps p.tables e below (T133.setTop (mkF m 15 #[.val (.int (5 : Int32)), .val (.ref b105), .val (.int (5 : Int32)), .val (.int (4 : Int32)), .val (.ref o4)] [(.ref b105)])) _
      refine XS.iloadN X133.here hx rfl (hb hby d1_15) rfl ?_
      show Steps p.tables e below (T133.setTop (mkF m 16 #[.val (.int (5 : Int32)), .val (.ref b105), .val (.int (5 : Int32)), .val (.int (4 : Int32)), .val (.ref o4)] [(.int (4 : Int32)), (.ref b105)])) _
      have hin134 : ¬ ((4 : Int32) < 0 ∨ cl134.slots.size ≤ ((4 : Int32)).toNatClampNeg) := (inb_of S134 ⟨by decide, by decide⟩)
      refine X133.aaload hx (j := (4 : Int32)) (v := (.ref o5)) (by rw [e133]; exact Ar134.1) (State.isArrayOf_alike hZ.alike Ar134.2.1) rfl Ar134.2.2 hin134 (H134.at hin134 rfl) (g := (mkF m 16 #[.val (.int (5 : Int32)), .val (.ref b105), .val (.int (5 : Int32)), .val (.int (4 : Int32)), .val (.ref o4)] [(.int (4 : Int32)), (.ref b105)])) rfl rfl (hb hby d1_16) _ ?_
      show Steps p.tables e below (T133.setTop (mkF m 17 #[.val (.int (5 : Int32)), .val (.ref b105), .val (.int (5 : Int32)), .val (.int (4 : Int32)), .val (.ref o4)] [(.ref o5)])) _
      refine XS.astore X133.here hx rfl (hb hby d1_17) rfl rfl (l' := #[.val (.int (5 : Int32)), .val (.ref b105), .val (.int (5 : Int32)), .val (.int (4 : Int32)), .val (.ref o5)]) rfl ?_
      show Steps p.tables e below (T133.setTop (mkF m 19 #[.val (.int (5 : Int32)), .val (.ref b105), .val (.int (5 : Int32)), .val (.int (4 : Int32)), .val (.ref o5)] [])) _
      refine XS.aload X133.here hx rfl (hb hby d1_19) rfl rfl ?_
      show Steps p.tables e below (T133.setTop (mkF m 21 #[.val (.int (5 : Int32)), .val (.ref b105), .val (.int (5 : Int32)), .val (.int (4 : Int32)), .val (.ref o5)] [(.ref o5)])) _
      refine st135 _ ?_
      show Steps p.tables e below (T135.setTop (mkF m 24 #[.val (.int (5 : Int32)), .val (.ref b105), .val (.int (5 : Int32)), .val (.int (4 : Int32)), .val (.ref o5)] [(.int (5 : Int32))])) _
      refine XS.iloadN X135.here hx rfl (hb hby d1_24) rfl ?_
      show Steps p.tables e below (T135.setTop (mkF m 25 #[.val (.int (5 : Int32)), .val (.ref b105), .val (.int (5 : Int32)), .val (.int (4 : Int32)), .val (.ref o5)] [(.int (5 : Int32)), (.int (5 : Int32))])) _
      refine XS.icmpNo X135.here hx rfl (hb hby d1_25) rfl (teq (by decide : (5 : Int32) = (5 : Int32))).2 ?_
      show Steps p.tables e below (T135.setTop (mkF m 28 #[.val (.int (5 : Int32)), .val (.ref b105), .val (.int (5 : Int32)), .val (.int (4 : Int32)), .val (.ref o5)] [])) _
      refine XS.aload X135.here hx rfl (hb hby d1_28) rfl rfl ?_
      show Steps p.tables e below (T135.setTop (mkF m 30 #[.val (.int (5 : Int32)), .val (.ref b105), .val (.int (5 : Int32)), .val (.int (4 : Int32)), .val (.ref o5)] [(.ref o5)])) _
      jvm_step X135.here [X135.here.top, hx, (hb hby d1_30), X135.method', Bd.returns, Value.isRef, FieldType.isReference]
      first | (intro acts; rw [hr _ acts rfl rfl rfl]) | rw [hr _ _ rfl rfl rfl]
      exact Steps.refl _
    · show Q1 Z p0 wv kk o1 o2 o3 o4 o5 h0 n0 _ T135.heap _
      rw [e135]
      exact ⟨by rw [← gk]; rfl, N105, K105⟩
theorem d3_0 : decode method_3_code 0 = .ok (.iload_n 0, 1) := by decide +kernel
theorem d3_1 : decode method_3_code 1 = .ok (.iconst 1, 1) := by decide +kernel
theorem d3_2 : decode method_3_code 2 = .ok (.if_icmp .ne 7, 3) := by decide +kernel
theorem d3_5 : decode method_3_code 5 = .ok (.getstatic 23, 3) := by decide +kernel
theorem d3_8 : decode method_3_code 8 = .ok (.areturn, 1) := by decide +kernel
theorem d3_9 : decode method_3_code 9 = .ok (.iload_n 0, 1) := by decide +kernel
theorem d3_10 : decode method_3_code 10 = .ok (.iconst 2, 1) := by decide +kernel
theorem d3_11 : decode method_3_code 11 = .ok (.if_icmp .ne 7, 3) := by decide +kernel
theorem d3_14 : decode method_3_code 14 = .ok (.getstatic 27, 3) := by decide +kernel
theorem d3_17 : decode method_3_code 17 = .ok (.areturn, 1) := by decide +kernel
theorem d3_18 : decode method_3_code 18 = .ok (.iload_n 0, 1) := by decide +kernel
theorem d3_19 : decode method_3_code 19 = .ok (.iconst 3, 1) := by decide +kernel
theorem d3_20 : decode method_3_code 20 = .ok (.if_icmp .ne 7, 3) := by decide +kernel
theorem d3_23 : decode method_3_code 23 = .ok (.getstatic 30, 3) := by decide +kernel
theorem d3_26 : decode method_3_code 26 = .ok (.areturn, 1) := by decide +kernel
theorem d3_27 : decode method_3_code 27 = .ok (.iload_n 0, 1) := by decide +kernel
theorem d3_28 : decode method_3_code 28 = .ok (.iconst 4, 1) := by decide +kernel
theorem d3_29 : decode method_3_code 29 = .ok (.if_icmp .ne 7, 3) := by decide +kernel
theorem d3_32 : decode method_3_code 32 = .ok (.getstatic 33, 3) := by decide +kernel
theorem d3_35 : decode method_3_code 35 = .ok (.areturn, 1) := by decide +kernel
theorem d3_36 : decode method_3_code 36 = .ok (.getstatic 36, 3) := by decide +kernel
theorem d3_39 : decode method_3_code 39 = .ok (.areturn, 1) := by decide +kernel
theorem ef_rm3 (m : MethodId) (x0 : Int32) : entryFrame m #[(.int x0)] 1 = mkF m 0 #[.val (.int x0)] [] := by first | (simp [entryFrame, mkF, argsToLocals, Value.category]; done) | rfl
theorem pn_1 : plainName "com/example/countersign/countersign/protocol/ActivationStatusFromCodePinLaw" = true := by first | (simp [plainName, overriddenIn]; done) | decide +kernel
def Q3 (Z : State) (p0 : Int32) (o1 : Addr) (o2 : Addr) (o3 : Addr) (o4 : Addr) (o5 : Addr) (h0 : Heap) (n0 : Nat) (v : Option Value) (h : Heap) (L : List Loc) : Prop := v = some (.ref (own_from p0 o1 o2 o3 o4 o5)) ∧ Fr n0 L ∧ h = h0
set_option maxRecDepth 65536 in
set_option maxHeartbeats 40000000 in
theorem rm3 (l : Launch) (Z : State) (aw : Array Value) (hw : ∀ d ∈ tables_1, d.before aw Z = true) (ws : List Jvm.Cond) (p0 : Int32) (o1 : Addr) (o2 : Addr) (o3 : Addr) (o4 : Addr) (o5 : Addr) (h0 : Heap) (n0 : Nat) (Z0 : n0 ≤ h0.size) (S_CREATED : Sta Z h0 "com/example/countersign/countersign/protocol/ActivationStatus" "CREATED" "Lcom/example/countersign/countersign/protocol/ActivationStatus;" (.ref o1)) (S_PENDING_COMMIT : Sta Z h0 "com/example/countersign/countersign/protocol/ActivationStatus" "PENDING_COMMIT" "Lcom/example/countersign/countersign/protocol/ActivationStatus;" (.ref o2)) (S_ACTIVE : Sta Z h0 "com/example/countersign/countersign/protocol/ActivationStatus" "ACTIVE" "Lcom/example/countersign/countersign/protocol/ActivationStatus;" (.ref o3)) (S_BLOCKED : Sta Z h0 "com/example/countersign/countersign/protocol/ActivationStatus" "BLOCKED" "Lcom/example/countersign/countersign/protocol/ActivationStatus;" (.ref o4)) (S_REMOVED : Sta Z h0 "com/example/countersign/countersign/protocol/ActivationStatus" "REMOVED" "Lcom/example/countersign/countersign/protocol/ActivationStatus;" (.ref o5)) :
    MetFree l (⟨"com/example/countersign/countersign/protocol/ActivationStatusFromCodePinLaw", "expected", "(I)Lcom/example/countersign/countersign/protocol/ActivationStatus;"⟩ : MethodName) (head1 (Jvm.Cond.code (⟨"com/example/countersign/countersign/protocol/ActivationStatusFromCodePinLaw", "expected", "(I)Lcom/example/countersign/countersign/protocol/ActivationStatus;"⟩ : MethodName) method_3_code 1 (some (.object "com/example/countersign/countersign/protocol/ActivationStatus")) :: ws) ({ frames := 0, cells := 0, slots := 0, locals := 0 } : Room)) (fun a U => a = #[(.int p0)] ∧ Z.Warmed39 U.vm ∧ U.heap = h0) (fun _ _ _ _ _ => True) (fun _ U oc U' => ∃ v L, oc = .returned v ∧ Q3 Z p0 o1 o2 o3 o4 o5 h0 n0 v U'.heap L ∧ FrameEnd U oc U' L ({ frames := 0, cells := 0, slots := 0, locals := 0 } : Room).cells ({ frames := 0, cells := 0, slots := 0, locals := 0 } : Room).slots) := by
  refine MetFree.of_bodySF (plainFor_of_name pn_1) hisR ?_
  intro p e s m args below meth c s₁ Bd hml0 hP hK
  obtain ⟨rfl, hZ, hh⟩ := hP
  have hx := Bd.exec
  have hby := Bd.bytes
  have hml : c.maxLocals = 1 := hml0
  have hown : s.vm.findClass "com/example/countersign/countersign/protocol/ActivationStatusFromCodePinLaw" = some m.cls := findClass_of_methodNamed Bd.named
  have hnm := (name_of_methodNamed Bd.named Bd.method).1
  have X0 : Stand p l e ({ frames := 0, cells := 0, slots := 0, locals := 0 } : Room) s m #[(.int p0)] below meth c s₁ [] 0 0 := Stand.of_body Bd
  have e0 : s₁.heap = h0 := by rw [← hh, Bd.state]; rfl
  have N0 := Fr.nil n0
  have pre0 : ∀ t, Steps p.tables e below (s₁.setTop (mkF m 0 #[.val (.int p0)] [])) t → Steps p.tables e below (s₁.setTop (entryFrame m #[(.int p0)] 1)) t := fun t k => castTop (ef_rm3 m p0) k
  have pre1 : ∀ t, Steps p.tables e below (s₁.setTop (mkF m 2 #[.val (.int p0)] [(.int (1 : Int32)), (.int p0)])) t → Steps p.tables e below (s₁.setTop (entryFrame m #[(.int p0)] 1)) t := fun t k => by
    refine pre0 t ?_
    show Steps p.tables e below (s₁.setTop (mkF m 0 #[.val (.int p0)] [])) _
    refine XS.iloadN X0.here hx rfl (hb hby d3_0) rfl ?_
    show Steps p.tables e below (s₁.setTop (mkF m 1 #[.val (.int p0)] [(.int p0)])) _
    refine XS.iconst X0.here hx rfl (hb hby d3_1) ?_
    exact k
  by_cases hc2 : p0 = (1 : Int32)
  · obtain ⟨T3, X3, e3, st3⟩ := getS2 X0 hx hZ hown (host := "") (Or.inl (hw _ (List.mem_of_getElem? (i := 31) rfl))) Via.refl e0 S_CREATED (g := (mkF m 5 #[.val (.int p0)] [])) rfl (hb hby d3_5)
    obtain ⟨fs, hr, hrun, hended, hW, hsame⟩ := X3.leave (v := some (.ref o1)) (fun h => by rw [Bd.returns] at h; cases h)
    refine ⟨_, _, pre1 _ ?_, hrun, hended, _, _, rfl, ?_, ⟨_, rfl⟩, hW, hsame.mono (by decide) (by decide)⟩
    · show Steps p.tables e below (s₁.setTop (mkF m 2 #[.val (.int p0)] [(.int (1 : Int32)), (.int p0)])) _
      refine XS.icmpNo X0.here hx rfl (hb hby d3_2) rfl (teq hc2).2 ?_
      show Steps p.tables e below (s₁.setTop (mkF m 5 #[.val (.int p0)] [])) _
      refine st3 _ ?_
      show Steps p.tables e below (T3.setTop (mkF m 8 #[.val (.int p0)] [(.ref o1)])) _
      jvm_step X3.here [X3.here.top, hx, (hb hby d3_8), X3.method', Bd.returns, Value.isRef, FieldType.isReference]
      first | (intro acts; rw [hr _ acts rfl rfl rfl]) | rw [hr _ _ rfl rfl rfl]
      exact Steps.refl _
    · show Q3 Z p0 o1 o2 o3 o4 o5 h0 n0 _ T3.heap _
      rw [e3]
      exact ⟨by rw [own_from, if_pos hc2], N0, rfl⟩
  · have pre4 : ∀ t, Steps p.tables e below (s₁.setTop (mkF m 11 #[.val (.int p0)] [(.int (2 : Int32)), (.int p0)])) t → Steps p.tables e below (s₁.setTop (entryFrame m #[(.int p0)] 1)) t := fun t k => by
      refine pre1 t ?_
      show Steps p.tables e below (s₁.setTop (mkF m 2 #[.val (.int p0)] [(.int (1 : Int32)), (.int p0)])) _
      refine XS.icmpYes X0.here hx rfl (pc0 := 2) (pc' := 9) rfl (hb hby d3_2) rfl (feq hc2).2 (by decide) (by decide) ?_
      show Steps p.tables e below (s₁.setTop (mkF m 9 #[.val (.int p0)] [])) _
      refine XS.iloadN X0.here hx rfl (hb hby d3_9) rfl ?_
      show Steps p.tables e below (s₁.setTop (mkF m 10 #[.val (.int p0)] [(.int p0)])) _
      refine XS.iconst X0.here hx rfl (hb hby d3_10) ?_
      exact k
    by_cases hc5 : p0 = (2 : Int32)
    · obtain ⟨T6, X6, e6, st6⟩ := getS2 X0 hx hZ hown (host := "") (Or.inl (hw _ (List.mem_of_getElem? (i := 38) rfl))) Via.refl e0 S_PENDING_COMMIT (g := (mkF m 14 #[.val (.int p0)] [])) rfl (hb hby d3_14)
      obtain ⟨fs, hr, hrun, hended, hW, hsame⟩ := X6.leave (v := some (.ref o2)) (fun h => by rw [Bd.returns] at h; cases h)
      refine ⟨_, _, pre4 _ ?_, hrun, hended, _, _, rfl, ?_, ⟨_, rfl⟩, hW, hsame.mono (by decide) (by decide)⟩
      · show Steps p.tables e below (s₁.setTop (mkF m 11 #[.val (.int p0)] [(.int (2 : Int32)), (.int p0)])) _
        refine XS.icmpNo X0.here hx rfl (hb hby d3_11) rfl (teq hc5).2 ?_
        show Steps p.tables e below (s₁.setTop (mkF m 14 #[.val (.int p0)] [])) _
        refine st6 _ ?_
        show Steps p.tables e below (T6.setTop (mkF m 17 #[.val (.int p0)] [(.ref o2)])) _
        jvm_step X6.here [X6.here.top, hx, (hb hby d3_17), X6.method', Bd.returns, Value.isRef, FieldType.isReference]
        first | (intro acts; rw [hr _ acts rfl rfl rfl]) | rw [hr _ _ rfl rfl rfl]
        exact Steps.refl _
      · show Q3 Z p0 o1 o2 o3 o4 o5 h0 n0 _ T6.heap _
        rw [e6]
        exact ⟨by rw [own_from, if_neg hc2, if_pos hc5], N0, rfl⟩
    · have pre7 : ∀ t, Steps p.tables e below (s₁.setTop (mkF m 20 #[.val (.int p0)] [(.int (3 : Int32)), (.int p0)])) t → Steps p.tables e below (s₁.setTop (entryFrame m #[(.int p0)] 1)) t := fun t k => by
        refine pre4 t ?_
        show Steps p.tables e below (s₁.setTop (mkF m 11 #[.val (.int p0)] [(.int (2 : Int32)), (.int p0)])) _
        refine XS.icmpYes X0.here hx rfl (pc0 := 11) (pc' := 18) rfl (hb hby d3_11) rfl (feq hc5).2 (by decide) (by decide) ?_
        show Steps p.tables e below (s₁.setTop (mkF m 18 #[.val (.int p0)] [])) _
        refine XS.iloadN X0.here hx rfl (hb hby d3_18) rfl ?_
        show Steps p.tables e below (s₁.setTop (mkF m 19 #[.val (.int p0)] [(.int p0)])) _
        refine XS.iconst X0.here hx rfl (hb hby d3_19) ?_
        exact k
      by_cases hc8 : p0 = (3 : Int32)
      · obtain ⟨T9, X9, e9, st9⟩ := getS2 X0 hx hZ hown (host := "") (Or.inl (hw _ (List.mem_of_getElem? (i := 40) rfl))) Via.refl e0 S_ACTIVE (g := (mkF m 23 #[.val (.int p0)] [])) rfl (hb hby d3_23)
        obtain ⟨fs, hr, hrun, hended, hW, hsame⟩ := X9.leave (v := some (.ref o3)) (fun h => by rw [Bd.returns] at h; cases h)
        refine ⟨_, _, pre7 _ ?_, hrun, hended, _, _, rfl, ?_, ⟨_, rfl⟩, hW, hsame.mono (by decide) (by decide)⟩
        · show Steps p.tables e below (s₁.setTop (mkF m 20 #[.val (.int p0)] [(.int (3 : Int32)), (.int p0)])) _
          refine XS.icmpNo X0.here hx rfl (hb hby d3_20) rfl (teq hc8).2 ?_
          show Steps p.tables e below (s₁.setTop (mkF m 23 #[.val (.int p0)] [])) _
          refine st9 _ ?_
          show Steps p.tables e below (T9.setTop (mkF m 26 #[.val (.int p0)] [(.ref o3)])) _
          jvm_step X9.here [X9.here.top, hx, (hb hby d3_26), X9.method', Bd.returns, Value.isRef, FieldType.isReference]
          first | (intro acts; rw [hr _ acts rfl rfl rfl]) | rw [hr _ _ rfl rfl rfl]
          exact Steps.refl _
        · show Q3 Z p0 o1 o2 o3 o4 o5 h0 n0 _ T9.heap _
          rw [e9]
          exact ⟨by rw [own_from, if_neg hc2, if_neg hc5, if_pos hc8], N0, rfl⟩
      · have pre10 : ∀ t, Steps p.tables e below (s₁.setTop (mkF m 29 #[.val (.int p0)] [(.int (4 : Int32)), (.int p0)])) t → Steps p.tables e below (s₁.setTop (entryFrame m #[(.int p0)] 1)) t := fun t k => by
          refine pre7 t ?_
          show Steps p.tables e below (s₁.setTop (mkF m 20 #[.val (.int p0)] [(.int (3 : Int32)), (.int p0)])) _
          refine XS.icmpYes X0.here hx rfl (pc0 := 20) (pc' := 27) rfl (hb hby d3_20) rfl (feq hc8).2 (by decide) (by decide) ?_
          show Steps p.tables e below (s₁.setTop (mkF m 27 #[.val (.int p0)] [])) _
          refine XS.iloadN X0.here hx rfl (hb hby d3_27) rfl ?_
          show Steps p.tables e below (s₁.setTop (mkF m 28 #[.val (.int p0)] [(.int p0)])) _
          refine XS.iconst X0.here hx rfl (hb hby d3_28) ?_
          exact k
        by_cases hc11 : p0 = (4 : Int32)
        · obtain ⟨T12, X12, e12, st12⟩ := getS2 X0 hx hZ hown (host := "") (Or.inl (hw _ (List.mem_of_getElem? (i := 37) rfl))) Via.refl e0 S_BLOCKED (g := (mkF m 32 #[.val (.int p0)] [])) rfl (hb hby d3_32)
          obtain ⟨fs, hr, hrun, hended, hW, hsame⟩ := X12.leave (v := some (.ref o4)) (fun h => by rw [Bd.returns] at h; cases h)
          refine ⟨_, _, pre10 _ ?_, hrun, hended, _, _, rfl, ?_, ⟨_, rfl⟩, hW, hsame.mono (by decide) (by decide)⟩
          · show Steps p.tables e below (s₁.setTop (mkF m 29 #[.val (.int p0)] [(.int (4 : Int32)), (.int p0)])) _
            refine XS.icmpNo X0.here hx rfl (hb hby d3_29) rfl (teq hc11).2 ?_
            show Steps p.tables e below (s₁.setTop (mkF m 32 #[.val (.int p0)] [])) _
            refine st12 _ ?_
            show Steps p.tables e below (T12.setTop (mkF m 35 #[.val (.int p0)] [(.ref o4)])) _
            jvm_step X12.here [X12.here.top, hx, (hb hby d3_35), X12.method', Bd.returns, Value.isRef, FieldType.isReference]
            first | (intro acts; rw [hr _ acts rfl rfl rfl]) | rw [hr _ _ rfl rfl rfl]
            exact Steps.refl _
          · show Q3 Z p0 o1 o2 o3 o4 o5 h0 n0 _ T12.heap _
            rw [e12]
            exact ⟨by rw [own_from, if_neg hc2, if_neg hc5, if_neg hc8, if_pos hc11], N0, rfl⟩
        · obtain ⟨T13, X13, e13, st13⟩ := getS2 X0 hx hZ hown (host := "") (Or.inl (hw _ (List.mem_of_getElem? (i := 39) rfl))) Via.refl e0 S_REMOVED (g := (mkF m 36 #[.val (.int p0)] [])) rfl (hb hby d3_36)
          obtain ⟨fs, hr, hrun, hended, hW, hsame⟩ := X13.leave (v := some (.ref o5)) (fun h => by rw [Bd.returns] at h; cases h)
          refine ⟨_, _, pre10 _ ?_, hrun, hended, _, _, rfl, ?_, ⟨_, rfl⟩, hW, hsame.mono (by decide) (by decide)⟩
          · show Steps p.tables e below (s₁.setTop (mkF m 29 #[.val (.int p0)] [(.int (4 : Int32)), (.int p0)])) _
            refine XS.icmpYes X0.here hx rfl (pc0 := 29) (pc' := 36) rfl (hb hby d3_29) rfl (feq hc11).2 (by decide) (by decide) ?_
            show Steps p.tables e below (s₁.setTop (mkF m 36 #[.val (.int p0)] [])) _
            refine st13 _ ?_
            show Steps p.tables e below (T13.setTop (mkF m 39 #[.val (.int p0)] [(.ref o5)])) _
            jvm_step X13.here [X13.here.top, hx, (hb hby d3_39), X13.method', Bd.returns, Value.isRef, FieldType.isReference]
            first | (intro acts; rw [hr _ acts rfl rfl rfl]) | rw [hr _ _ rfl rfl rfl]
            exact Steps.refl _
          · show Q3 Z p0 o1 o2 o3 o4 o5 h0 n0 _ T13.heap _
            rw [e13]
            exact ⟨by rw [own_from, if_neg hc2, if_neg hc5, if_neg hc8, if_neg hc11], N0, rfl⟩
theorem d4_0 : decode prog_9_method_5_code 0 = .ok (.aload_n 0, 1) := by decide +kernel
theorem d4_1 : decode prog_9_method_5_code 1 = .ok (.getfield 38, 3) := by decide +kernel
theorem d4_4 : decode prog_9_method_5_code 4 = .ok (.ireturn, 1) := by decide +kernel
theorem ef_rm4 (m : MethodId) (x0 : Addr) : entryFrame m #[(.ref x0)] 1 = mkF m 0 #[.val (.ref x0)] [] := by first | (simp [entryFrame, mkF, argsToLocals, Value.category]; done) | rfl
def Q4 (Z : State) (a0 : Addr) (o : Int32) (h0 : Heap) (n0 : Nat) (v : Option Value) (h : Heap) (L : List Loc) : Prop := v = some (.int o) ∧ Fr n0 L ∧ h = h0
set_option maxRecDepth 65536 in
set_option maxHeartbeats 40000000 in
theorem rm4 (l : Launch) (Z : State) (aw : Array Value) (hw : ∀ d ∈ tables_1, d.before aw Z = true) (ws : List Jvm.Cond) (a0 : Addr) (o : Int32) (h0 : Heap) (n0 : Nat) (Z0 : n0 ≤ h0.size) (F : Fld Z h0 a0 "com/example/countersign/countersign/protocol/ActivationStatus" "code" "I" (.int o)) :
    MetFree l (⟨"com/example/countersign/countersign/protocol/ActivationStatus", "code", "()I"⟩ : MethodName) (head1 (Jvm.Cond.code (⟨"com/example/countersign/countersign/protocol/ActivationStatus", "code", "()I"⟩ : MethodName) prog_9_method_5_code 1 (some .int) :: ws) ({ frames := 0, cells := 0, slots := 0, locals := 0 } : Room)) (fun a U => a = #[(.ref a0)] ∧ Z.Warmed39 U.vm ∧ U.heap = h0) (fun _ _ _ _ _ => True) (fun _ U oc U' => ∃ v L, oc = .returned v ∧ Q4 Z a0 o h0 n0 v U'.heap L ∧ FrameEnd U oc U' L ({ frames := 0, cells := 0, slots := 0, locals := 0 } : Room).cells ({ frames := 0, cells := 0, slots := 0, locals := 0 } : Room).slots) := by
  refine MetFree.of_bodySF (plainFor_of_name pn_0) hisR ?_
  intro p e s m args below meth c s₁ Bd hml0 hP hK
  obtain ⟨rfl, hZ, hh⟩ := hP
  have hx := Bd.exec
  have hby := Bd.bytes
  have hml : c.maxLocals = 1 := hml0
  have hown : s.vm.findClass "com/example/countersign/countersign/protocol/ActivationStatus" = some m.cls := findClass_of_methodNamed Bd.named
  have hnm := (name_of_methodNamed Bd.named Bd.method).1
  have X0 : Stand p l e ({ frames := 0, cells := 0, slots := 0, locals := 0 } : Room) s m #[(.ref a0)] below meth c s₁ [] 0 0 := Stand.of_body Bd
  have e0 : s₁.heap = h0 := by rw [← hh, Bd.state]; rfl
  have N0 := Fr.nil n0
  have pre0 : ∀ t, Steps p.tables e below (s₁.setTop (mkF m 0 #[.val (.ref a0)] [])) t → Steps p.tables e below (s₁.setTop (entryFrame m #[(.ref a0)] 1)) t := fun t k => castTop (ef_rm4 m a0) k
  obtain ⟨T1, X1, e1, st1⟩ := getF X0 hx hZ hown (host := "") (Or.inl (hw _ (List.mem_of_getElem? (i := 25) rfl))) Via.refl e0 F (g := (mkF m 1 #[.val (.ref a0)] [(.ref a0)])) rfl rfl (hb hby d4_1)
  obtain ⟨fs, hr, hrun, hended, hW, hsame⟩ := X1.leave (v := some (.int o)) (fun h => by rw [Bd.returns] at h; cases h)
  refine ⟨_, _, pre0 _ ?_, hrun, hended, _, _, rfl, ?_, ⟨_, rfl⟩, hW, hsame.mono (by decide) (by decide)⟩
  · show Steps p.tables e below (s₁.setTop (mkF m 0 #[.val (.ref a0)] [])) _
    refine XS.aloadN X0.here hx rfl (hb hby d4_0) rfl rfl ?_
    show Steps p.tables e below (s₁.setTop (mkF m 1 #[.val (.ref a0)] [(.ref a0)])) _
    refine st1 _ ?_
    show Steps p.tables e below (T1.setTop (mkF m 4 #[.val (.ref a0)] [(.int o)])) _
    exact retI X1 hx Bd.returns (hb hby d4_4) hr
  · show Q4 Z a0 o h0 n0 _ T1.heap _
    rw [e1]
    exact ⟨rfl, N0, rfl⟩
theorem pd_1 : parseMethodDescriptor "(I)Lcom/example/countersign/countersign/protocol/ActivationStatus;" = some ⟨[.int], some (.object "com/example/countersign/countersign/protocol/ActivationStatus")⟩ := by decide +kernel
theorem pd_2 : parseMethodDescriptor "()I" = some ⟨[], some .int⟩ := by decide +kernel
theorem ef_rm0 (m : MethodId) (x0 : Int32) : entryFrame m #[(.int x0)] maxLocals = mkF m 0 #[.val (.int x0), .unset, .unset] [] := by first | (simp [entryFrame, mkF, argsToLocals, Value.category, maxLocals]; done) | rfl
def Q0 (Z : State) (p0 : Int32) (wv : Addr) (kk : ClassId) (o1 : Addr) (o2 : Addr) (o3 : Addr) (o4 : Addr) (o5 : Addr) (h0 : Heap) (n0 : Nat) (v : Option Value) (h : Heap) (L : List Loc) : Prop := v = some (.int 1) ∧ Fr n0 L
set_option maxRecDepth 65536 in
set_option maxHeartbeats 40000000 in
theorem rm0 (l : Launch) (Z : State) (aw : Array Value) (hw : ∀ d ∈ tables_1, d.before aw Z = true) (ws : List Jvm.Cond) (p0 : Int32) (wv : Addr) (kk : ClassId) (o1 : Addr) (o2 : Addr) (o3 : Addr) (o4 : Addr) (o5 : Addr) (h0 : Heap) (n0 : Nat) (Z0 : n0 ≤ h0.size) (S_CREATED : Sta Z h0 "com/example/countersign/countersign/protocol/ActivationStatus" "CREATED" "Lcom/example/countersign/countersign/protocol/ActivationStatus;" (.ref o1)) (S_PENDING_COMMIT : Sta Z h0 "com/example/countersign/countersign/protocol/ActivationStatus" "PENDING_COMMIT" "Lcom/example/countersign/countersign/protocol/ActivationStatus;" (.ref o2)) (S_ACTIVE : Sta Z h0 "com/example/countersign/countersign/protocol/ActivationStatus" "ACTIVE" "Lcom/example/countersign/countersign/protocol/ActivationStatus;" (.ref o3)) (S_BLOCKED : Sta Z h0 "com/example/countersign/countersign/protocol/ActivationStatus" "BLOCKED" "Lcom/example/countersign/countersign/protocol/ActivationStatus;" (.ref o4)) (S_REMOVED : Sta Z h0 "com/example/countersign/countersign/protocol/ActivationStatus" "REMOVED" "Lcom/example/countersign/countersign/protocol/ActivationStatus;" (.ref o5)) (SV : Sta Z h0 "com/example/countersign/countersign/protocol/ActivationStatus" "$VALUES" "[Lcom/example/countersign/countersign/protocol/ActivationStatus;" (.ref wv)) (EV : Exa Z h0 wv "[Lcom/example/countersign/countersign/protocol/ActivationStatus;") (V0 : Arv Z h0 wv kk (.object "com/example/countersign/countersign/protocol/ActivationStatus") (5 : Int32) [(.ref o1), (.ref o2), (.ref o3), (.ref o4), (.ref o5)] .null) (E1 : Exa Z h0 o1 "com/example/countersign/countersign/protocol/ActivationStatus") (E2 : Exa Z h0 o2 "com/example/countersign/countersign/protocol/ActivationStatus") (E3 : Exa Z h0 o3 "com/example/countersign/countersign/protocol/ActivationStatus") (E4 : Exa Z h0 o4 "com/example/countersign/countersign/protocol/ActivationStatus") (E5 : Exa Z h0 o5 "com/example/countersign/countersign/protocol/ActivationStatus") (F1 : Fld Z h0 o1 "com/example/countersign/countersign/protocol/ActivationStatus" "code" "I" (.int (1 : Int32))) (F2 : Fld Z h0 o2 "com/example/countersign/countersign/protocol/ActivationStatus" "code" "I" (.int (2 : Int32))) (F3 : Fld Z h0 o3 "com/example/countersign/countersign/protocol/ActivationStatus" "code" "I" (.int (3 : Int32))) (F4 : Fld Z h0 o4 "com/example/countersign/countersign/protocol/ActivationStatus" "code" "I" (.int (4 : Int32))) (F5 : Fld Z h0 o5 "com/example/countersign/countersign/protocol/ActivationStatus" "code" "I" (.int (5 : Int32))) :
    MetFree l x (head1 (Jvm.Cond.code x code maxLocals ret :: ws) room_1) (fun a U => a = #[(.int p0)] ∧ Z.Warmed39 U.vm ∧ U.heap = h0) (fun _ _ _ _ _ => True) (fun _ U oc U' => ∃ v L, oc = .returned v ∧ Q0 Z p0 wv kk o1 o2 o3 o4 o5 h0 n0 v U'.heap L ∧ FrameEnd U oc U' L room_1.cells room_1.slots) := by
  refine MetFree.of_bodySF (plainFor_of_name pn_1) hisR ?_
  intro p e s m args below meth c s₁ Bd hml0 hP hK
  obtain ⟨rfl, hZ, hh⟩ := hP
  have hx := Bd.exec
  have hby := Bd.bytes
  have hml : c.maxLocals = 3 := hml0
  have hown : s.vm.findClass "com/example/countersign/countersign/protocol/ActivationStatusFromCodePinLaw" = some m.cls := findClass_of_methodNamed Bd.named
  have hnm := (name_of_methodNamed Bd.named Bd.method).1
  have X0 : Stand p l e room_1 s m #[(.int p0)] below meth c s₁ [] 0 0 := Stand.of_body Bd
  have e0 : s₁.heap = h0 := by rw [← hh, Bd.state]; rfl
  have N0 := Fr.nil n0
  have pre0 : ∀ t, Steps p.tables e below (s₁.setTop (mkF m 0 #[.val (.int p0), .unset, .unset] [])) t → Steps p.tables e below (s₁.setTop (entryFrame m #[(.int p0)] maxLocals)) t := fun t k => castTop (ef_rm0 m p0) k
  have pre1 : ∀ t, Steps p.tables e below (s₁.setTop (mkF m 8 #[.val (.int p0), .unset, .unset] [(.int (((p0 &&& (2147483647 : Int32)) % (5 : Int32)) + (1 : Int32)))])) t → Steps p.tables e below (s₁.setTop (entryFrame m #[(.int p0)] maxLocals)) t := fun t k => by
    refine pre0 t ?_
    show Steps p.tables e below (s₁.setTop (mkF m 0 #[.val (.int p0), .unset, .unset] [])) _
    refine XS.iloadN X0.here hx rfl (hb hby at_0) rfl ?_
    show Steps p.tables e below (s₁.setTop (mkF m 1 #[.val (.int p0), .unset, .unset] [(.int p0)])) _
    refine X0.ldcInt hx hown (mvT hZ (hw _ (List.mem_of_getElem? (i := 0) rfl))) (g := (mkF m 1 #[.val (.int p0), .unset, .unset] [(.int p0)])) rfl (hb hby at_1) _ ?_
    show Steps p.tables e below (s₁.setTop (mkF m 3 #[.val (.int p0), .unset, .unset] [(.int (2147483647 : Int32)), (.int p0)])) _
    refine XS.iand X0.here hx rfl (hb hby at_3) rfl ?_
    show Steps p.tables e below (s₁.setTop (mkF m 4 #[.val (.int p0), .unset, .unset] [(.int (p0 &&& (2147483647 : Int32)))])) _
    refine XS.iconst X0.here hx rfl (hb hby at_4) ?_
    show Steps p.tables e below (s₁.setTop (mkF m 5 #[.val (.int p0), .unset, .unset] [(.int (5 : Int32)), (.int (p0 &&& (2147483647 : Int32)))])) _
    refine iremM X0 hx rfl (hb hby at_5) rfl (by decide) ?_
    show Steps p.tables e below (s₁.setTop (mkF m 6 #[.val (.int p0), .unset, .unset] [(.int ((p0 &&& (2147483647 : Int32)) % (5 : Int32)))])) _
    refine XS.iconst X0.here hx rfl (hb hby at_6) ?_
    show Steps p.tables e below (s₁.setTop (mkF m 7 #[.val (.int p0), .unset, .unset] [(.int (1 : Int32)), (.int ((p0 &&& (2147483647 : Int32)) % (5 : Int32)))])) _
    refine XS.iadd X0.here hx rfl (hb hby at_7) rfl ?_
    exact k
  have hk := own_five p0
  obtain ⟨k, gk⟩ : ∃ z, z = (((p0 &&& (2147483647 : Int32)) % (5 : Int32)) + (1 : Int32)) := ⟨_, rfl⟩
  rw [← gk] at hk pre1
  rcases hk with rfl | rfl | rfl | rfl | rfl
  · skip
    obtain ⟨_, _, ⟨T2, L2, k2, n2⟩, -, X2, ⟨Lc2, hQ2, l2, y2, z2⟩, st2⟩ := Jvm.LawKit.callS X0 hx (y := (⟨"com/example/countersign/countersign/protocol/ActivationStatus", "fromCode", "(I)Lcom/example/countersign/countersign/protocol/ActivationStatus;"⟩ : MethodName)) hown (mvT hZ (hw _ (List.mem_of_getElem? (i := 1) rfl))) (mvT hZ (hw _ (List.mem_of_getElem? (i := 2) rfl))) (mvT hZ (hw _ (List.mem_of_getElem? (i := 3) rfl))) (mvT hZ (hw _ (List.mem_of_getElem? (i := 4) rfl))) (by decide) (backOf (W := 0) (rm1 l Z aw hw [] (1 : Int32) wv kk o1 o2 o3 o4 o5 h0 n0 Z0 SV EV V0 E1 E2 E3 E4 E5 F1 F2 F3 F4 F5 (by decide)) hZ (hw _ (List.mem_of_getElem? (i := 4) rfl)) (hw _ (List.mem_of_getElem? (i := 3) rfl)) (by decide) (by decide)) (g := (mkF m 10 #[.val (.int p0), .val (.int (1 : Int32)), .unset] [(.int (1 : Int32))])) rfl (by rw [hml]; rfl) (argsL := [(.int (1 : Int32))]) (rest := []) (lenOf pd_1 rfl) rfl (by show 2 * 0 + _ ≤ _; exact Nat.le_of_eq rfl) (hb hby at_10) (fun _ _ => ⟨rfl, e0, (by decide : 0 + 1 ≤ _), (by decide : 0 + 5 ≤ _)⟩)
    dsimp only [Pt.U, Pt.locs, Pt.cells, Pt.slots] at X2 l2 y2 z2 st2 hQ2
    subst l2 y2 z2
    obtain ⟨hv2, N2q, K2q⟩ := hQ2
    rw [show own_from (1 : Int32) o1 o2 o3 o4 o5 = o1 from rfl] at hv2
    subst hv2
    have N2 := Fr.app N0 N2q
    have E2q := own_ext K2q
    have f3 := S_CREATED.ext E2q
    have f4 := S_PENDING_COMMIT.ext E2q
    have f5 := S_ACTIVE.ext E2q
    have f6 := S_BLOCKED.ext E2q
    have f7 := S_REMOVED.ext E2q
    have f8 := SV.ext E2q
    have f9 := EV.ext E2q
    have f10 := V0.ext E2q
    have f11 := E1.ext E2q
    have f12 := F1.ext E2q
    have f13 := E2.ext E2q
    have f14 := F2.ext E2q
    have f15 := E3.ext E2q
    have f16 := F3.ext E2q
    have f17 := E4.ext E2q
    have f18 := F4.ext E2q
    have f19 := E5.ext E2q
    have f20 := F5.ext E2q
    have Z2 : n0 ≤ T2.heap.size := Nat.le_trans Z0 E2q.1
    have K2 : Keep h0 T2.heap [] := (Keep.refl h0 []).ext E2q
    obtain ⟨_, _, ⟨T21, L21, k21, n21⟩, -, X21, ⟨Lc21, hQ21, l21, y21, z21⟩, st21⟩ := Jvm.LawKit.callS X2 hx (y := (⟨"com/example/countersign/countersign/protocol/ActivationStatusFromCodePinLaw", "expected", "(I)Lcom/example/countersign/countersign/protocol/ActivationStatus;"⟩ : MethodName)) hown (mvT hZ (hw _ (List.mem_of_getElem? (i := 27) rfl))) (mvT hZ (hw _ (List.mem_of_getElem? (i := 28) rfl))) (mvT hZ (hw _ (List.mem_of_getElem? (i := 29) rfl))) (mvT hZ (hw _ (List.mem_of_getElem? (i := 30) rfl))) (by decide) (backOf (W := 1) (rm3 l Z aw hw [] (1 : Int32) o1 o2 o3 o4 o5 T2.heap n0 Z2 f3 f4 f5 f6 f7) hZ (hw _ (List.mem_of_getElem? (i := 30) rfl)) (hw _ (List.mem_of_getElem? (i := 29) rfl)) (by decide) (by decide)) (g := (mkF m 16 #[.val (.int p0), .val (.int (1 : Int32)), .val (.ref o1)] [(.int (1 : Int32)), (.ref o1)])) rfl (by rw [hml]; rfl) (argsL := [(.int (1 : Int32))]) (rest := [(.ref o1)]) (lenOf pd_1 rfl) rfl (by show 2 * 0 + _ ≤ _; exact Nat.le_of_eq rfl) (hb hby at_16) (fun _ _ => ⟨rfl, rfl, (by decide : 1 + 0 ≤ _), (by decide : 5 + 0 ≤ _)⟩)
    dsimp only [Pt.U, Pt.locs, Pt.cells, Pt.slots] at X21 l21 y21 z21 st21 hQ21
    subst l21 y21 z21
    obtain ⟨hv21, N21q, e21⟩ := hQ21
    rw [show own_from (1 : Int32) o1 o2 o3 o4 o5 = o1 from rfl] at hv21
    subst hv21
    have N21 := Fr.app N2 N21q
    obtain ⟨cq22, kq22, q22a, q22b, q22c⟩ := isOf hZ e21 f11
    obtain ⟨_, _, ⟨T22, L22, k22, n22⟩, -, X22, ⟨Lc22, hQ22, l22, y22, z22⟩, st22⟩ := X21.virtualBack hx (y := (⟨"com/example/countersign/countersign/protocol/ActivationStatus", "code", "()I"⟩ : MethodName)) (z := (⟨"com/example/countersign/countersign/protocol/ActivationStatus", "code", "()I"⟩ : MethodName)) hown (mvT hZ (hw _ (List.mem_of_getElem? (i := 32) rfl))) (mvT hZ (hw _ (List.mem_of_getElem? (i := 33) rfl))) (notFace_of_selects (args := #[]) (mvT hZ (hw _ (List.mem_of_getElem? (i := 35) rfl)))) (mvT hZ (hw _ (List.mem_of_getElem? (i := 35) rfl))) (mvT hZ (hw _ (List.mem_of_getElem? (i := 34) rfl))) (by decide) (backOf (W := 0) (rm4 l Z aw hw [] o1 (1 : Int32) T2.heap n0 Z2 f12) hZ (hw _ (List.mem_of_getElem? (i := 36) rfl)) (hw _ (List.mem_of_getElem? (i := 3) rfl)) (by decide) (by decide)) q22a q22c (g := (mkF m 23 #[.val (.int p0), .val (.int (1 : Int32)), .val (.ref o1)] [(.ref o1)])) rfl (by rw [hml]; rfl) (Steps.refl _) (argsL := []) (rest := []) (lenOf pd_2 rfl) rfl (by show 2 * 0 + _ ≤ _; exact Nat.le_of_eq rfl) (hb hby at_23) (fun _ _ => ⟨rfl, e21, (by decide : 1 + 0 ≤ _), (by decide : 5 + 0 ≤ _)⟩)
    dsimp only [Pt.U, Pt.locs, Pt.cells, Pt.slots] at X22 l22 y22 z22 st22 hQ22
    subst l22 y22 z22
    obtain ⟨rfl, N22q, e22⟩ := hQ22
    have N22 := Fr.app N21 N22q
    obtain ⟨fs, hr, hrun, hended, hW, hsame⟩ := X22.leave (v := some (.int (1 : Int32))) (fun h => by rw [Bd.returns] at h; cases h)
    refine ⟨_, _, pre1 _ ?_, hrun, hended, _, _, rfl, ?_, ⟨_, rfl⟩, hW, hsame.mono (by decide) (by decide)⟩
    · show Steps p.tables e below (s₁.setTop (mkF m 8 #[.val (.int p0), .unset, .unset] [(.int (1 : Int32))])) _
      refine XS.istoreN X0.here hx rfl (hb hby at_8) rfl (l' := #[.val (.int p0), .val (.int (1 : Int32)), .unset]) rfl ?_
      show Steps p.tables e below (s₁.setTop (mkF m 9 #[.val (.int p0), .val (.int (1 : Int32)), .unset] [])) _
      refine XS.iloadN X0.here hx rfl (hb hby at_9) rfl ?_
      show Steps p.tables e below (s₁.setTop (mkF m 10 #[.val (.int p0), .val (.int (1 : Int32)), .unset] [(.int (1 : Int32))])) _
      refine st2 _ ?_
      show Steps p.tables e below (T2.setTop (mkF m 13 #[.val (.int p0), .val (.int (1 : Int32)), .unset] [(.ref o1)])) _
      refine XS.astoreN X2.here hx rfl (hb hby at_13) rfl rfl (l' := #[.val (.int p0), .val (.int (1 : Int32)), .val (.ref o1)]) rfl ?_
      show Steps p.tables e below (T2.setTop (mkF m 14 #[.val (.int p0), .val (.int (1 : Int32)), .val (.ref o1)] [])) _
      refine XS.aloadN X2.here hx rfl (hb hby at_14) rfl rfl ?_
      show Steps p.tables e below (T2.setTop (mkF m 15 #[.val (.int p0), .val (.int (1 : Int32)), .val (.ref o1)] [(.ref o1)])) _
      refine XS.iloadN X2.here hx rfl (hb hby at_15) rfl ?_
      show Steps p.tables e below (T2.setTop (mkF m 16 #[.val (.int p0), .val (.int (1 : Int32)), .val (.ref o1)] [(.int (1 : Int32)), (.ref o1)])) _
      refine st21 _ ?_
      show Steps p.tables e below (T21.setTop (mkF m 19 #[.val (.int p0), .val (.int (1 : Int32)), .val (.ref o1)] [(.ref o1), (.ref o1)])) _
      refine Jvm.RoadKit.acmp (g := (mkF m 19 #[.val (.int p0), .val (.int (1 : Int32)), .val (.ref o1)] [(.ref o1), (.ref o1)])) X21 hx rfl rfl rfl (pc0 := 19) (pc' := 22) (same := true) rfl (hb hby at_19) rfl (decide_eq_true rfl) (by decide) (by decide) ?_
      show Steps p.tables e below (T21.setTop (mkF m 22 #[.val (.int p0), .val (.int (1 : Int32)), .val (.ref o1)] [])) _
      refine XS.aloadN X21.here hx rfl (hb hby at_22) rfl rfl ?_
      show Steps p.tables e below (T21.setTop (mkF m 23 #[.val (.int p0), .val (.int (1 : Int32)), .val (.ref o1)] [(.ref o1)])) _
      refine st22.trans ?_
      show Steps p.tables e below (T22.setTop (mkF m 26 #[.val (.int p0), .val (.int (1 : Int32)), .val (.ref o1)] [(.int (1 : Int32))])) _
      refine XS.iloadN X22.here hx rfl (hb hby at_26) rfl ?_
      show Steps p.tables e below (T22.setTop (mkF m 27 #[.val (.int p0), .val (.int (1 : Int32)), .val (.ref o1)] [(.int (1 : Int32)), (.int (1 : Int32))])) _
      refine XS.icmpNo X22.here hx rfl (hb hby at_27) rfl (teq (by decide : (1 : Int32) = (1 : Int32))).2 ?_
      show Steps p.tables e below (T22.setTop (mkF m 30 #[.val (.int p0), .val (.int (1 : Int32)), .val (.ref o1)] [])) _
      refine XS.iconst X22.here hx rfl (hb hby at_30) ?_
      show Steps p.tables e below (T22.setTop (mkF m 31 #[.val (.int p0), .val (.int (1 : Int32)), .val (.ref o1)] [(.int (1 : Int32))])) _
      refine XS.goto X22.here hx rfl (pc0 := 31) (pc' := 35) rfl (hb hby at_31) (by decide) (by decide) ?_
      show Steps p.tables e below (T22.setTop (mkF m 35 #[.val (.int p0), .val (.int (1 : Int32)), .val (.ref o1)] [(.int (1 : Int32))])) _
      exact retN X22 hx (t := .boolean) Bd.returns (by simp) (hb hby at_35) hr
    · show Q0 Z p0 wv kk o1 o2 o3 o4 o5 h0 n0 _ T22.heap _
      rw [e22]
      exact ⟨rfl, N22⟩
  · skip
    obtain ⟨_, _, ⟨T23, L23, k23, n23⟩, -, X23, ⟨Lc23, hQ23, l23, y23, z23⟩, st23⟩ := Jvm.LawKit.callS X0 hx (y := (⟨"com/example/countersign/countersign/protocol/ActivationStatus", "fromCode", "(I)Lcom/example/countersign/countersign/protocol/ActivationStatus;"⟩ : MethodName)) hown (mvT hZ (hw _ (List.mem_of_getElem? (i := 1) rfl))) (mvT hZ (hw _ (List.mem_of_getElem? (i := 2) rfl))) (mvT hZ (hw _ (List.mem_of_getElem? (i := 3) rfl))) (mvT hZ (hw _ (List.mem_of_getElem? (i := 4) rfl))) (by decide) (backOf (W := 0) (rm1 l Z aw hw [] (2 : Int32) wv kk o1 o2 o3 o4 o5 h0 n0 Z0 SV EV V0 E1 E2 E3 E4 E5 F1 F2 F3 F4 F5 (by decide)) hZ (hw _ (List.mem_of_getElem? (i := 4) rfl)) (hw _ (List.mem_of_getElem? (i := 3) rfl)) (by decide) (by decide)) (g := (mkF m 10 #[.val (.int p0), .val (.int (2 : Int32)), .unset] [(.int (2 : Int32))])) rfl (by rw [hml]; rfl) (argsL := [(.int (2 : Int32))]) (rest := []) (lenOf pd_1 rfl) rfl (by show 2 * 0 + _ ≤ _; exact Nat.le_of_eq rfl) (hb hby at_10) (fun _ _ => ⟨rfl, e0, (by decide : 0 + 1 ≤ _), (by decide : 0 + 5 ≤ _)⟩)
    dsimp only [Pt.U, Pt.locs, Pt.cells, Pt.slots] at X23 l23 y23 z23 st23 hQ23
    subst l23 y23 z23
    obtain ⟨hv23, N23q, K23q⟩ := hQ23
    rw [show own_from (2 : Int32) o1 o2 o3 o4 o5 = o2 from rfl] at hv23
    subst hv23
    have N23 := Fr.app N0 N23q
    have E23q := own_ext K23q
    have f24 := S_CREATED.ext E23q
    have f25 := S_PENDING_COMMIT.ext E23q
    have f26 := S_ACTIVE.ext E23q
    have f27 := S_BLOCKED.ext E23q
    have f28 := S_REMOVED.ext E23q
    have f29 := SV.ext E23q
    have f30 := EV.ext E23q
    have f31 := V0.ext E23q
    have f32 := E1.ext E23q
    have f33 := F1.ext E23q
    have f34 := E2.ext E23q
    have f35 := F2.ext E23q
    have f36 := E3.ext E23q
    have f37 := F3.ext E23q
    have f38 := E4.ext E23q
    have f39 := F4.ext E23q
    have f40 := E5.ext E23q
    have f41 := F5.ext E23q
    have Z23 : n0 ≤ T23.heap.size := Nat.le_trans Z0 E23q.1
    have K23 : Keep h0 T23.heap [] := (Keep.refl h0 []).ext E23q
    obtain ⟨_, _, ⟨T42, L42, k42, n42⟩, -, X42, ⟨Lc42, hQ42, l42, y42, z42⟩, st42⟩ := Jvm.LawKit.callS X23 hx (y := (⟨"com/example/countersign/countersign/protocol/ActivationStatusFromCodePinLaw", "expected", "(I)Lcom/example/countersign/countersign/protocol/ActivationStatus;"⟩ : MethodName)) hown (mvT hZ (hw _ (List.mem_of_getElem? (i := 27) rfl))) (mvT hZ (hw _ (List.mem_of_getElem? (i := 28) rfl))) (mvT hZ (hw _ (List.mem_of_getElem? (i := 29) rfl))) (mvT hZ (hw _ (List.mem_of_getElem? (i := 30) rfl))) (by decide) (backOf (W := 1) (rm3 l Z aw hw [] (2 : Int32) o1 o2 o3 o4 o5 T23.heap n0 Z23 f24 f25 f26 f27 f28) hZ (hw _ (List.mem_of_getElem? (i := 30) rfl)) (hw _ (List.mem_of_getElem? (i := 29) rfl)) (by decide) (by decide)) (g := (mkF m 16 #[.val (.int p0), .val (.int (2 : Int32)), .val (.ref o2)] [(.int (2 : Int32)), (.ref o2)])) rfl (by rw [hml]; rfl) (argsL := [(.int (2 : Int32))]) (rest := [(.ref o2)]) (lenOf pd_1 rfl) rfl (by show 2 * 0 + _ ≤ _; exact Nat.le_of_eq rfl) (hb hby at_16) (fun _ _ => ⟨rfl, rfl, (by decide : 1 + 0 ≤ _), (by decide : 5 + 0 ≤ _)⟩)
    dsimp only [Pt.U, Pt.locs, Pt.cells, Pt.slots] at X42 l42 y42 z42 st42 hQ42
    subst l42 y42 z42
    obtain ⟨hv42, N42q, e42⟩ := hQ42
    rw [show own_from (2 : Int32) o1 o2 o3 o4 o5 = o2 from rfl] at hv42
    subst hv42
    have N42 := Fr.app N23 N42q
    obtain ⟨cq43, kq43, q43a, q43b, q43c⟩ := isOf hZ e42 f34
    obtain ⟨_, _, ⟨T43, L43, k43, n43⟩, -, X43, ⟨Lc43, hQ43, l43, y43, z43⟩, st43⟩ := X42.virtualBack hx (y := (⟨"com/example/countersign/countersign/protocol/ActivationStatus", "code", "()I"⟩ : MethodName)) (z := (⟨"com/example/countersign/countersign/protocol/ActivationStatus", "code", "()I"⟩ : MethodName)) hown (mvT hZ (hw _ (List.mem_of_getElem? (i := 32) rfl))) (mvT hZ (hw _ (List.mem_of_getElem? (i := 33) rfl))) (notFace_of_selects (args := #[]) (mvT hZ (hw _ (List.mem_of_getElem? (i := 35) rfl)))) (mvT hZ (hw _ (List.mem_of_getElem? (i := 35) rfl))) (mvT hZ (hw _ (List.mem_of_getElem? (i := 34) rfl))) (by decide) (backOf (W := 0) (rm4 l Z aw hw [] o2 (2 : Int32) T23.heap n0 Z23 f35) hZ (hw _ (List.mem_of_getElem? (i := 36) rfl)) (hw _ (List.mem_of_getElem? (i := 3) rfl)) (by decide) (by decide)) q43a q43c (g := (mkF m 23 #[.val (.int p0), .val (.int (2 : Int32)), .val (.ref o2)] [(.ref o2)])) rfl (by rw [hml]; rfl) (Steps.refl _) (argsL := []) (rest := []) (lenOf pd_2 rfl) rfl (by show 2 * 0 + _ ≤ _; exact Nat.le_of_eq rfl) (hb hby at_23) (fun _ _ => ⟨rfl, e42, (by decide : 1 + 0 ≤ _), (by decide : 5 + 0 ≤ _)⟩)
    dsimp only [Pt.U, Pt.locs, Pt.cells, Pt.slots] at X43 l43 y43 z43 st43 hQ43
    subst l43 y43 z43
    obtain ⟨rfl, N43q, e43⟩ := hQ43
    have N43 := Fr.app N42 N43q
    obtain ⟨fs, hr, hrun, hended, hW, hsame⟩ := X43.leave (v := some (.int (1 : Int32))) (fun h => by rw [Bd.returns] at h; cases h)
    refine ⟨_, _, pre1 _ ?_, hrun, hended, _, _, rfl, ?_, ⟨_, rfl⟩, hW, hsame.mono (by decide) (by decide)⟩
    · show Steps p.tables e below (s₁.setTop (mkF m 8 #[.val (.int p0), .unset, .unset] [(.int (2 : Int32))])) _
      refine XS.istoreN X0.here hx rfl (hb hby at_8) rfl (l' := #[.val (.int p0), .val (.int (2 : Int32)), .unset]) rfl ?_
      show Steps p.tables e below (s₁.setTop (mkF m 9 #[.val (.int p0), .val (.int (2 : Int32)), .unset] [])) _
      refine XS.iloadN X0.here hx rfl (hb hby at_9) rfl ?_
      show Steps p.tables e below (s₁.setTop (mkF m 10 #[.val (.int p0), .val (.int (2 : Int32)), .unset] [(.int (2 : Int32))])) _
      refine st23 _ ?_
      show Steps p.tables e below (T23.setTop (mkF m 13 #[.val (.int p0), .val (.int (2 : Int32)), .unset] [(.ref o2)])) _
      refine XS.astoreN X23.here hx rfl (hb hby at_13) rfl rfl (l' := #[.val (.int p0), .val (.int (2 : Int32)), .val (.ref o2)]) rfl ?_
      show Steps p.tables e below (T23.setTop (mkF m 14 #[.val (.int p0), .val (.int (2 : Int32)), .val (.ref o2)] [])) _
      refine XS.aloadN X23.here hx rfl (hb hby at_14) rfl rfl ?_
      show Steps p.tables e below (T23.setTop (mkF m 15 #[.val (.int p0), .val (.int (2 : Int32)), .val (.ref o2)] [(.ref o2)])) _
      refine XS.iloadN X23.here hx rfl (hb hby at_15) rfl ?_
      show Steps p.tables e below (T23.setTop (mkF m 16 #[.val (.int p0), .val (.int (2 : Int32)), .val (.ref o2)] [(.int (2 : Int32)), (.ref o2)])) _
      refine st42 _ ?_
      show Steps p.tables e below (T42.setTop (mkF m 19 #[.val (.int p0), .val (.int (2 : Int32)), .val (.ref o2)] [(.ref o2), (.ref o2)])) _
      refine Jvm.RoadKit.acmp (g := (mkF m 19 #[.val (.int p0), .val (.int (2 : Int32)), .val (.ref o2)] [(.ref o2), (.ref o2)])) X42 hx rfl rfl rfl (pc0 := 19) (pc' := 22) (same := true) rfl (hb hby at_19) rfl (decide_eq_true rfl) (by decide) (by decide) ?_
      show Steps p.tables e below (T42.setTop (mkF m 22 #[.val (.int p0), .val (.int (2 : Int32)), .val (.ref o2)] [])) _
      refine XS.aloadN X42.here hx rfl (hb hby at_22) rfl rfl ?_
      show Steps p.tables e below (T42.setTop (mkF m 23 #[.val (.int p0), .val (.int (2 : Int32)), .val (.ref o2)] [(.ref o2)])) _
      refine st43.trans ?_
      show Steps p.tables e below (T43.setTop (mkF m 26 #[.val (.int p0), .val (.int (2 : Int32)), .val (.ref o2)] [(.int (2 : Int32))])) _
      refine XS.iloadN X43.here hx rfl (hb hby at_26) rfl ?_
      show Steps p.tables e below (T43.setTop (mkF m 27 #[.val (.int p0), .val (.int (2 : Int32)), .val (.ref o2)] [(.int (2 : Int32)), (.int (2 : Int32))])) _
      refine XS.icmpNo X43.here hx rfl (hb hby at_27) rfl (teq (by decide : (2 : Int32) = (2 : Int32))).2 ?_
      show Steps p.tables e below (T43.setTop (mkF m 30 #[.val (.int p0), .val (.int (2 : Int32)), .val (.ref o2)] [])) _
      refine XS.iconst X43.here hx rfl (hb hby at_30) ?_
      show Steps p.tables e below (T43.setTop (mkF m 31 #[.val (.int p0), .val (.int (2 : Int32)), .val (.ref o2)] [(.int (1 : Int32))])) _
      refine XS.goto X43.here hx rfl (pc0 := 31) (pc' := 35) rfl (hb hby at_31) (by decide) (by decide) ?_
      show Steps p.tables e below (T43.setTop (mkF m 35 #[.val (.int p0), .val (.int (2 : Int32)), .val (.ref o2)] [(.int (1 : Int32))])) _
      exact retN X43 hx (t := .boolean) Bd.returns (by simp) (hb hby at_35) hr
    · show Q0 Z p0 wv kk o1 o2 o3 o4 o5 h0 n0 _ T43.heap _
      rw [e43]
      exact ⟨rfl, N43⟩
  · skip
    obtain ⟨_, _, ⟨T44, L44, k44, n44⟩, -, X44, ⟨Lc44, hQ44, l44, y44, z44⟩, st44⟩ := Jvm.LawKit.callS X0 hx (y := (⟨"com/example/countersign/countersign/protocol/ActivationStatus", "fromCode", "(I)Lcom/example/countersign/countersign/protocol/ActivationStatus;"⟩ : MethodName)) hown (mvT hZ (hw _ (List.mem_of_getElem? (i := 1) rfl))) (mvT hZ (hw _ (List.mem_of_getElem? (i := 2) rfl))) (mvT hZ (hw _ (List.mem_of_getElem? (i := 3) rfl))) (mvT hZ (hw _ (List.mem_of_getElem? (i := 4) rfl))) (by decide) (backOf (W := 0) (rm1 l Z aw hw [] (3 : Int32) wv kk o1 o2 o3 o4 o5 h0 n0 Z0 SV EV V0 E1 E2 E3 E4 E5 F1 F2 F3 F4 F5 (by decide)) hZ (hw _ (List.mem_of_getElem? (i := 4) rfl)) (hw _ (List.mem_of_getElem? (i := 3) rfl)) (by decide) (by decide)) (g := (mkF m 10 #[.val (.int p0), .val (.int (3 : Int32)), .unset] [(.int (3 : Int32))])) rfl (by rw [hml]; rfl) (argsL := [(.int (3 : Int32))]) (rest := []) (lenOf pd_1 rfl) rfl (by show 2 * 0 + _ ≤ _; exact Nat.le_of_eq rfl) (hb hby at_10) (fun _ _ => ⟨rfl, e0, (by decide : 0 + 1 ≤ _), (by decide : 0 + 5 ≤ _)⟩)
    dsimp only [Pt.U, Pt.locs, Pt.cells, Pt.slots] at X44 l44 y44 z44 st44 hQ44
    subst l44 y44 z44
    obtain ⟨hv44, N44q, K44q⟩ := hQ44
    rw [show own_from (3 : Int32) o1 o2 o3 o4 o5 = o3 from rfl] at hv44
    subst hv44
    have N44 := Fr.app N0 N44q
    have E44q := own_ext K44q
    have f45 := S_CREATED.ext E44q
    have f46 := S_PENDING_COMMIT.ext E44q
    have f47 := S_ACTIVE.ext E44q
    have f48 := S_BLOCKED.ext E44q
    have f49 := S_REMOVED.ext E44q
    have f50 := SV.ext E44q
    have f51 := EV.ext E44q
    have f52 := V0.ext E44q
    have f53 := E1.ext E44q
    have f54 := F1.ext E44q
    have f55 := E2.ext E44q
    have f56 := F2.ext E44q
    have f57 := E3.ext E44q
    have f58 := F3.ext E44q
    have f59 := E4.ext E44q
    have f60 := F4.ext E44q
    have f61 := E5.ext E44q
    have f62 := F5.ext E44q
    have Z44 : n0 ≤ T44.heap.size := Nat.le_trans Z0 E44q.1
    have K44 : Keep h0 T44.heap [] := (Keep.refl h0 []).ext E44q
    obtain ⟨_, _, ⟨T63, L63, k63, n63⟩, -, X63, ⟨Lc63, hQ63, l63, y63, z63⟩, st63⟩ := Jvm.LawKit.callS X44 hx (y := (⟨"com/example/countersign/countersign/protocol/ActivationStatusFromCodePinLaw", "expected", "(I)Lcom/example/countersign/countersign/protocol/ActivationStatus;"⟩ : MethodName)) hown (mvT hZ (hw _ (List.mem_of_getElem? (i := 27) rfl))) (mvT hZ (hw _ (List.mem_of_getElem? (i := 28) rfl))) (mvT hZ (hw _ (List.mem_of_getElem? (i := 29) rfl))) (mvT hZ (hw _ (List.mem_of_getElem? (i := 30) rfl))) (by decide) (backOf (W := 1) (rm3 l Z aw hw [] (3 : Int32) o1 o2 o3 o4 o5 T44.heap n0 Z44 f45 f46 f47 f48 f49) hZ (hw _ (List.mem_of_getElem? (i := 30) rfl)) (hw _ (List.mem_of_getElem? (i := 29) rfl)) (by decide) (by decide)) (g := (mkF m 16 #[.val (.int p0), .val (.int (3 : Int32)), .val (.ref o3)] [(.int (3 : Int32)), (.ref o3)])) rfl (by rw [hml]; rfl) (argsL := [(.int (3 : Int32))]) (rest := [(.ref o3)]) (lenOf pd_1 rfl) rfl (by show 2 * 0 + _ ≤ _; exact Nat.le_of_eq rfl) (hb hby at_16) (fun _ _ => ⟨rfl, rfl, (by decide : 1 + 0 ≤ _), (by decide : 5 + 0 ≤ _)⟩)
    dsimp only [Pt.U, Pt.locs, Pt.cells, Pt.slots] at X63 l63 y63 z63 st63 hQ63
    subst l63 y63 z63
    obtain ⟨hv63, N63q, e63⟩ := hQ63
    rw [show own_from (3 : Int32) o1 o2 o3 o4 o5 = o3 from rfl] at hv63
    subst hv63
    have N63 := Fr.app N44 N63q
    obtain ⟨cq64, kq64, q64a, q64b, q64c⟩ := isOf hZ e63 f57
    obtain ⟨_, _, ⟨T64, L64, k64, n64⟩, -, X64, ⟨Lc64, hQ64, l64, y64, z64⟩, st64⟩ := X63.virtualBack hx (y := (⟨"com/example/countersign/countersign/protocol/ActivationStatus", "code", "()I"⟩ : MethodName)) (z := (⟨"com/example/countersign/countersign/protocol/ActivationStatus", "code", "()I"⟩ : MethodName)) hown (mvT hZ (hw _ (List.mem_of_getElem? (i := 32) rfl))) (mvT hZ (hw _ (List.mem_of_getElem? (i := 33) rfl))) (notFace_of_selects (args := #[]) (mvT hZ (hw _ (List.mem_of_getElem? (i := 35) rfl)))) (mvT hZ (hw _ (List.mem_of_getElem? (i := 35) rfl))) (mvT hZ (hw _ (List.mem_of_getElem? (i := 34) rfl))) (by decide) (backOf (W := 0) (rm4 l Z aw hw [] o3 (3 : Int32) T44.heap n0 Z44 f58) hZ (hw _ (List.mem_of_getElem? (i := 36) rfl)) (hw _ (List.mem_of_getElem? (i := 3) rfl)) (by decide) (by decide)) q64a q64c (g := (mkF m 23 #[.val (.int p0), .val (.int (3 : Int32)), .val (.ref o3)] [(.ref o3)])) rfl (by rw [hml]; rfl) (Steps.refl _) (argsL := []) (rest := []) (lenOf pd_2 rfl) rfl (by show 2 * 0 + _ ≤ _; exact Nat.le_of_eq rfl) (hb hby at_23) (fun _ _ => ⟨rfl, e63, (by decide : 1 + 0 ≤ _), (by decide : 5 + 0 ≤ _)⟩)
    dsimp only [Pt.U, Pt.locs, Pt.cells, Pt.slots] at X64 l64 y64 z64 st64 hQ64
    subst l64 y64 z64
    obtain ⟨rfl, N64q, e64⟩ := hQ64
    have N64 := Fr.app N63 N64q
    obtain ⟨fs, hr, hrun, hended, hW, hsame⟩ := X64.leave (v := some (.int (1 : Int32))) (fun h => by rw [Bd.returns] at h; cases h)
    refine ⟨_, _, pre1 _ ?_, hrun, hended, _, _, rfl, ?_, ⟨_, rfl⟩, hW, hsame.mono (by decide) (by decide)⟩
    · show Steps p.tables e below (s₁.setTop (mkF m 8 #[.val (.int p0), .unset, .unset] [(.int (3 : Int32))])) _
      refine XS.istoreN X0.here hx rfl (hb hby at_8) rfl (l' := #[.val (.int p0), .val (.int (3 : Int32)), .unset]) rfl ?_
      show Steps p.tables e below (s₁.setTop (mkF m 9 #[.val (.int p0), .val (.int (3 : Int32)), .unset] [])) _
      refine XS.iloadN X0.here hx rfl (hb hby at_9) rfl ?_
      show Steps p.tables e below (s₁.setTop (mkF m 10 #[.val (.int p0), .val (.int (3 : Int32)), .unset] [(.int (3 : Int32))])) _
      refine st44 _ ?_
      show Steps p.tables e below (T44.setTop (mkF m 13 #[.val (.int p0), .val (.int (3 : Int32)), .unset] [(.ref o3)])) _
      refine XS.astoreN X44.here hx rfl (hb hby at_13) rfl rfl (l' := #[.val (.int p0), .val (.int (3 : Int32)), .val (.ref o3)]) rfl ?_
      show Steps p.tables e below (T44.setTop (mkF m 14 #[.val (.int p0), .val (.int (3 : Int32)), .val (.ref o3)] [])) _
      refine XS.aloadN X44.here hx rfl (hb hby at_14) rfl rfl ?_
      show Steps p.tables e below (T44.setTop (mkF m 15 #[.val (.int p0), .val (.int (3 : Int32)), .val (.ref o3)] [(.ref o3)])) _
      refine XS.iloadN X44.here hx rfl (hb hby at_15) rfl ?_
      show Steps p.tables e below (T44.setTop (mkF m 16 #[.val (.int p0), .val (.int (3 : Int32)), .val (.ref o3)] [(.int (3 : Int32)), (.ref o3)])) _
      refine st63 _ ?_
      show Steps p.tables e below (T63.setTop (mkF m 19 #[.val (.int p0), .val (.int (3 : Int32)), .val (.ref o3)] [(.ref o3), (.ref o3)])) _
      refine Jvm.RoadKit.acmp (g := (mkF m 19 #[.val (.int p0), .val (.int (3 : Int32)), .val (.ref o3)] [(.ref o3), (.ref o3)])) X63 hx rfl rfl rfl (pc0 := 19) (pc' := 22) (same := true) rfl (hb hby at_19) rfl (decide_eq_true rfl) (by decide) (by decide) ?_
      show Steps p.tables e below (T63.setTop (mkF m 22 #[.val (.int p0), .val (.int (3 : Int32)), .val (.ref o3)] [])) _
      refine XS.aloadN X63.here hx rfl (hb hby at_22) rfl rfl ?_
      show Steps p.tables e below (T63.setTop (mkF m 23 #[.val (.int p0), .val (.int (3 : Int32)), .val (.ref o3)] [(.ref o3)])) _
      refine st64.trans ?_
      show Steps p.tables e below (T64.setTop (mkF m 26 #[.val (.int p0), .val (.int (3 : Int32)), .val (.ref o3)] [(.int (3 : Int32))])) _
      refine XS.iloadN X64.here hx rfl (hb hby at_26) rfl ?_
      show Steps p.tables e below (T64.setTop (mkF m 27 #[.val (.int p0), .val (.int (3 : Int32)), .val (.ref o3)] [(.int (3 : Int32)), (.int (3 : Int32))])) _
      refine XS.icmpNo X64.here hx rfl (hb hby at_27) rfl (teq (by decide : (3 : Int32) = (3 : Int32))).2 ?_
      show Steps p.tables e below (T64.setTop (mkF m 30 #[.val (.int p0), .val (.int (3 : Int32)), .val (.ref o3)] [])) _
      refine XS.iconst X64.here hx rfl (hb hby at_30) ?_
      show Steps p.tables e below (T64.setTop (mkF m 31 #[.val (.int p0), .val (.int (3 : Int32)), .val (.ref o3)] [(.int (1 : Int32))])) _
      refine XS.goto X64.here hx rfl (pc0 := 31) (pc' := 35) rfl (hb hby at_31) (by decide) (by decide) ?_
      show Steps p.tables e below (T64.setTop (mkF m 35 #[.val (.int p0), .val (.int (3 : Int32)), .val (.ref o3)] [(.int (1 : Int32))])) _
      exact retN X64 hx (t := .boolean) Bd.returns (by simp) (hb hby at_35) hr
    · show Q0 Z p0 wv kk o1 o2 o3 o4 o5 h0 n0 _ T64.heap _
      rw [e64]
      exact ⟨rfl, N64⟩
  · skip
    obtain ⟨_, _, ⟨T65, L65, k65, n65⟩, -, X65, ⟨Lc65, hQ65, l65, y65, z65⟩, st65⟩ := Jvm.LawKit.callS X0 hx (y := (⟨"com/example/countersign/countersign/protocol/ActivationStatus", "fromCode", "(I)Lcom/example/countersign/countersign/protocol/ActivationStatus;"⟩ : MethodName)) hown (mvT hZ (hw _ (List.mem_of_getElem? (i := 1) rfl))) (mvT hZ (hw _ (List.mem_of_getElem? (i := 2) rfl))) (mvT hZ (hw _ (List.mem_of_getElem? (i := 3) rfl))) (mvT hZ (hw _ (List.mem_of_getElem? (i := 4) rfl))) (by decide) (backOf (W := 0) (rm1 l Z aw hw [] (4 : Int32) wv kk o1 o2 o3 o4 o5 h0 n0 Z0 SV EV V0 E1 E2 E3 E4 E5 F1 F2 F3 F4 F5 (by decide)) hZ (hw _ (List.mem_of_getElem? (i := 4) rfl)) (hw _ (List.mem_of_getElem? (i := 3) rfl)) (by decide) (by decide)) (g := (mkF m 10 #[.val (.int p0), .val (.int (4 : Int32)), .unset] [(.int (4 : Int32))])) rfl (by rw [hml]; rfl) (argsL := [(.int (4 : Int32))]) (rest := []) (lenOf pd_1 rfl) rfl (by show 2 * 0 + _ ≤ _; exact Nat.le_of_eq rfl) (hb hby at_10) (fun _ _ => ⟨rfl, e0, (by decide : 0 + 1 ≤ _), (by decide : 0 + 5 ≤ _)⟩)
    dsimp only [Pt.U, Pt.locs, Pt.cells, Pt.slots] at X65 l65 y65 z65 st65 hQ65
    subst l65 y65 z65
    obtain ⟨hv65, N65q, K65q⟩ := hQ65
    rw [show own_from (4 : Int32) o1 o2 o3 o4 o5 = o4 from rfl] at hv65
    subst hv65
    have N65 := Fr.app N0 N65q
    have E65q := own_ext K65q
    have f66 := S_CREATED.ext E65q
    have f67 := S_PENDING_COMMIT.ext E65q
    have f68 := S_ACTIVE.ext E65q
    have f69 := S_BLOCKED.ext E65q
    have f70 := S_REMOVED.ext E65q
    have f71 := SV.ext E65q
    have f72 := EV.ext E65q
    have f73 := V0.ext E65q
    have f74 := E1.ext E65q
    have f75 := F1.ext E65q
    have f76 := E2.ext E65q
    have f77 := F2.ext E65q
    have f78 := E3.ext E65q
    have f79 := F3.ext E65q
    have f80 := E4.ext E65q
    have f81 := F4.ext E65q
    have f82 := E5.ext E65q
    have f83 := F5.ext E65q
    have Z65 : n0 ≤ T65.heap.size := Nat.le_trans Z0 E65q.1
    have K65 : Keep h0 T65.heap [] := (Keep.refl h0 []).ext E65q
    obtain ⟨_, _, ⟨T84, L84, k84, n84⟩, -, X84, ⟨Lc84, hQ84, l84, y84, z84⟩, st84⟩ := Jvm.LawKit.callS X65 hx (y := (⟨"com/example/countersign/countersign/protocol/ActivationStatusFromCodePinLaw", "expected", "(I)Lcom/example/countersign/countersign/protocol/ActivationStatus;"⟩ : MethodName)) hown (mvT hZ (hw _ (List.mem_of_getElem? (i := 27) rfl))) (mvT hZ (hw _ (List.mem_of_getElem? (i := 28) rfl))) (mvT hZ (hw _ (List.mem_of_getElem? (i := 29) rfl))) (mvT hZ (hw _ (List.mem_of_getElem? (i := 30) rfl))) (by decide) (backOf (W := 1) (rm3 l Z aw hw [] (4 : Int32) o1 o2 o3 o4 o5 T65.heap n0 Z65 f66 f67 f68 f69 f70) hZ (hw _ (List.mem_of_getElem? (i := 30) rfl)) (hw _ (List.mem_of_getElem? (i := 29) rfl)) (by decide) (by decide)) (g := (mkF m 16 #[.val (.int p0), .val (.int (4 : Int32)), .val (.ref o4)] [(.int (4 : Int32)), (.ref o4)])) rfl (by rw [hml]; rfl) (argsL := [(.int (4 : Int32))]) (rest := [(.ref o4)]) (lenOf pd_1 rfl) rfl (by show 2 * 0 + _ ≤ _; exact Nat.le_of_eq rfl) (hb hby at_16) (fun _ _ => ⟨rfl, rfl, (by decide : 1 + 0 ≤ _), (by decide : 5 + 0 ≤ _)⟩)
    dsimp only [Pt.U, Pt.locs, Pt.cells, Pt.slots] at X84 l84 y84 z84 st84 hQ84
    subst l84 y84 z84
    obtain ⟨hv84, N84q, e84⟩ := hQ84
    rw [show own_from (4 : Int32) o1 o2 o3 o4 o5 = o4 from rfl] at hv84
    subst hv84
    have N84 := Fr.app N65 N84q
    obtain ⟨cq85, kq85, q85a, q85b, q85c⟩ := isOf hZ e84 f80
    obtain ⟨_, _, ⟨T85, L85, k85, n85⟩, -, X85, ⟨Lc85, hQ85, l85, y85, z85⟩, st85⟩ := X84.virtualBack hx (y := (⟨"com/example/countersign/countersign/protocol/ActivationStatus", "code", "()I"⟩ : MethodName)) (z := (⟨"com/example/countersign/countersign/protocol/ActivationStatus", "code", "()I"⟩ : MethodName)) hown (mvT hZ (hw _ (List.mem_of_getElem? (i := 32) rfl))) (mvT hZ (hw _ (List.mem_of_getElem? (i := 33) rfl))) (notFace_of_selects (args := #[]) (mvT hZ (hw _ (List.mem_of_getElem? (i := 35) rfl)))) (mvT hZ (hw _ (List.mem_of_getElem? (i := 35) rfl))) (mvT hZ (hw _ (List.mem_of_getElem? (i := 34) rfl))) (by decide) (backOf (W := 0) (rm4 l Z aw hw [] o4 (4 : Int32) T65.heap n0 Z65 f81) hZ (hw _ (List.mem_of_getElem? (i := 36) rfl)) (hw _ (List.mem_of_getElem? (i := 3) rfl)) (by decide) (by decide)) q85a q85c (g := (mkF m 23 #[.val (.int p0), .val (.int (4 : Int32)), .val (.ref o4)] [(.ref o4)])) rfl (by rw [hml]; rfl) (Steps.refl _) (argsL := []) (rest := []) (lenOf pd_2 rfl) rfl (by show 2 * 0 + _ ≤ _; exact Nat.le_of_eq rfl) (hb hby at_23) (fun _ _ => ⟨rfl, e84, (by decide : 1 + 0 ≤ _), (by decide : 5 + 0 ≤ _)⟩)
    dsimp only [Pt.U, Pt.locs, Pt.cells, Pt.slots] at X85 l85 y85 z85 st85 hQ85
    subst l85 y85 z85
    obtain ⟨rfl, N85q, e85⟩ := hQ85
    have N85 := Fr.app N84 N85q
    obtain ⟨fs, hr, hrun, hended, hW, hsame⟩ := X85.leave (v := some (.int (1 : Int32))) (fun h => by rw [Bd.returns] at h; cases h)
    refine ⟨_, _, pre1 _ ?_, hrun, hended, _, _, rfl, ?_, ⟨_, rfl⟩, hW, hsame.mono (by decide) (by decide)⟩
    · show Steps p.tables e below (s₁.setTop (mkF m 8 #[.val (.int p0), .unset, .unset] [(.int (4 : Int32))])) _
      refine XS.istoreN X0.here hx rfl (hb hby at_8) rfl (l' := #[.val (.int p0), .val (.int (4 : Int32)), .unset]) rfl ?_
      show Steps p.tables e below (s₁.setTop (mkF m 9 #[.val (.int p0), .val (.int (4 : Int32)), .unset] [])) _
      refine XS.iloadN X0.here hx rfl (hb hby at_9) rfl ?_
      show Steps p.tables e below (s₁.setTop (mkF m 10 #[.val (.int p0), .val (.int (4 : Int32)), .unset] [(.int (4 : Int32))])) _
      refine st65 _ ?_
      show Steps p.tables e below (T65.setTop (mkF m 13 #[.val (.int p0), .val (.int (4 : Int32)), .unset] [(.ref o4)])) _
      refine XS.astoreN X65.here hx rfl (hb hby at_13) rfl rfl (l' := #[.val (.int p0), .val (.int (4 : Int32)), .val (.ref o4)]) rfl ?_
      show Steps p.tables e below (T65.setTop (mkF m 14 #[.val (.int p0), .val (.int (4 : Int32)), .val (.ref o4)] [])) _
      refine XS.aloadN X65.here hx rfl (hb hby at_14) rfl rfl ?_
      show Steps p.tables e below (T65.setTop (mkF m 15 #[.val (.int p0), .val (.int (4 : Int32)), .val (.ref o4)] [(.ref o4)])) _
      refine XS.iloadN X65.here hx rfl (hb hby at_15) rfl ?_
      show Steps p.tables e below (T65.setTop (mkF m 16 #[.val (.int p0), .val (.int (4 : Int32)), .val (.ref o4)] [(.int (4 : Int32)), (.ref o4)])) _
      refine st84 _ ?_
      show Steps p.tables e below (T84.setTop (mkF m 19 #[.val (.int p0), .val (.int (4 : Int32)), .val (.ref o4)] [(.ref o4), (.ref o4)])) _
      refine Jvm.RoadKit.acmp (g := (mkF m 19 #[.val (.int p0), .val (.int (4 : Int32)), .val (.ref o4)] [(.ref o4), (.ref o4)])) X84 hx rfl rfl rfl (pc0 := 19) (pc' := 22) (same := true) rfl (hb hby at_19) rfl (decide_eq_true rfl) (by decide) (by decide) ?_
      show Steps p.tables e below (T84.setTop (mkF m 22 #[.val (.int p0), .val (.int (4 : Int32)), .val (.ref o4)] [])) _
      refine XS.aloadN X84.here hx rfl (hb hby at_22) rfl rfl ?_
      show Steps p.tables e below (T84.setTop (mkF m 23 #[.val (.int p0), .val (.int (4 : Int32)), .val (.ref o4)] [(.ref o4)])) _
      refine st85.trans ?_
      show Steps p.tables e below (T85.setTop (mkF m 26 #[.val (.int p0), .val (.int (4 : Int32)), .val (.ref o4)] [(.int (4 : Int32))])) _
      refine XS.iloadN X85.here hx rfl (hb hby at_26) rfl ?_
      show Steps p.tables e below (T85.setTop (mkF m 27 #[.val (.int p0), .val (.int (4 : Int32)), .val (.ref o4)] [(.int (4 : Int32)), (.int (4 : Int32))])) _
      refine XS.icmpNo X85.here hx rfl (hb hby at_27) rfl (teq (by decide : (4 : Int32) = (4 : Int32))).2 ?_
      show Steps p.tables e below (T85.setTop (mkF m 30 #[.val (.int p0), .val (.int (4 : Int32)), .val (.ref o4)] [])) _
      refine XS.iconst X85.here hx rfl (hb hby at_30) ?_
      show Steps p.tables e below (T85.setTop (mkF m 31 #[.val (.int p0), .val (.int (4 : Int32)), .val (.ref o4)] [(.int (1 : Int32))])) _
      refine XS.goto X85.here hx rfl (pc0 := 31) (pc' := 35) rfl (hb hby at_31) (by decide) (by decide) ?_
      show Steps p.tables e below (T85.setTop (mkF m 35 #[.val (.int p0), .val (.int (4 : Int32)), .val (.ref o4)] [(.int (1 : Int32))])) _
      exact retN X85 hx (t := .boolean) Bd.returns (by simp) (hb hby at_35) hr
    · show Q0 Z p0 wv kk o1 o2 o3 o4 o5 h0 n0 _ T85.heap _
      rw [e85]
      exact ⟨rfl, N85⟩
  · skip
    obtain ⟨_, _, ⟨T86, L86, k86, n86⟩, -, X86, ⟨Lc86, hQ86, l86, y86, z86⟩, st86⟩ := Jvm.LawKit.callS X0 hx (y := (⟨"com/example/countersign/countersign/protocol/ActivationStatus", "fromCode", "(I)Lcom/example/countersign/countersign/protocol/ActivationStatus;"⟩ : MethodName)) hown (mvT hZ (hw _ (List.mem_of_getElem? (i := 1) rfl))) (mvT hZ (hw _ (List.mem_of_getElem? (i := 2) rfl))) (mvT hZ (hw _ (List.mem_of_getElem? (i := 3) rfl))) (mvT hZ (hw _ (List.mem_of_getElem? (i := 4) rfl))) (by decide) (backOf (W := 0) (rm1 l Z aw hw [] (5 : Int32) wv kk o1 o2 o3 o4 o5 h0 n0 Z0 SV EV V0 E1 E2 E3 E4 E5 F1 F2 F3 F4 F5 (by decide)) hZ (hw _ (List.mem_of_getElem? (i := 4) rfl)) (hw _ (List.mem_of_getElem? (i := 3) rfl)) (by decide) (by decide)) (g := (mkF m 10 #[.val (.int p0), .val (.int (5 : Int32)), .unset] [(.int (5 : Int32))])) rfl (by rw [hml]; rfl) (argsL := [(.int (5 : Int32))]) (rest := []) (lenOf pd_1 rfl) rfl (by show 2 * 0 + _ ≤ _; exact Nat.le_of_eq rfl) (hb hby at_10) (fun _ _ => ⟨rfl, e0, (by decide : 0 + 1 ≤ _), (by decide : 0 + 5 ≤ _)⟩)
    dsimp only [Pt.U, Pt.locs, Pt.cells, Pt.slots] at X86 l86 y86 z86 st86 hQ86
    subst l86 y86 z86
    obtain ⟨hv86, N86q, K86q⟩ := hQ86
    rw [show own_from (5 : Int32) o1 o2 o3 o4 o5 = o5 from rfl] at hv86
    subst hv86
    have N86 := Fr.app N0 N86q
    have E86q := own_ext K86q
    have f87 := S_CREATED.ext E86q
    have f88 := S_PENDING_COMMIT.ext E86q
    have f89 := S_ACTIVE.ext E86q
    have f90 := S_BLOCKED.ext E86q
    have f91 := S_REMOVED.ext E86q
    have f92 := SV.ext E86q
    have f93 := EV.ext E86q
    have f94 := V0.ext E86q
    have f95 := E1.ext E86q
    have f96 := F1.ext E86q
    have f97 := E2.ext E86q
    have f98 := F2.ext E86q
    have f99 := E3.ext E86q
    have f100 := F3.ext E86q
    have f101 := E4.ext E86q
    have f102 := F4.ext E86q
    have f103 := E5.ext E86q
    have f104 := F5.ext E86q
    have Z86 : n0 ≤ T86.heap.size := Nat.le_trans Z0 E86q.1
    have K86 : Keep h0 T86.heap [] := (Keep.refl h0 []).ext E86q
    obtain ⟨_, _, ⟨T105, L105, k105, n105⟩, -, X105, ⟨Lc105, hQ105, l105, y105, z105⟩, st105⟩ := Jvm.LawKit.callS X86 hx (y := (⟨"com/example/countersign/countersign/protocol/ActivationStatusFromCodePinLaw", "expected", "(I)Lcom/example/countersign/countersign/protocol/ActivationStatus;"⟩ : MethodName)) hown (mvT hZ (hw _ (List.mem_of_getElem? (i := 27) rfl))) (mvT hZ (hw _ (List.mem_of_getElem? (i := 28) rfl))) (mvT hZ (hw _ (List.mem_of_getElem? (i := 29) rfl))) (mvT hZ (hw _ (List.mem_of_getElem? (i := 30) rfl))) (by decide) (backOf (W := 1) (rm3 l Z aw hw [] (5 : Int32) o1 o2 o3 o4 o5 T86.heap n0 Z86 f87 f88 f89 f90 f91) hZ (hw _ (List.mem_of_getElem? (i := 30) rfl)) (hw _ (List.mem_of_getElem? (i := 29) rfl)) (by decide) (by decide)) (g := (mkF m 16 #[.val (.int p0), .val (.int (5 : Int32)), .val (.ref o5)] [(.int (5 : Int32)), (.ref o5)])) rfl (by rw [hml]; rfl) (argsL := [(.int (5 : Int32))]) (rest := [(.ref o5)]) (lenOf pd_1 rfl) rfl (by show 2 * 0 + _ ≤ _; exact Nat.le_of_eq rfl) (hb hby at_16) (fun _ _ => ⟨rfl, rfl, (by decide : 1 + 0 ≤ _), (by decide : 5 + 0 ≤ _)⟩)
    dsimp only [Pt.U, Pt.locs, Pt.cells, Pt.slots] at X105 l105 y105 z105 st105 hQ105
    subst l105 y105 z105
    obtain ⟨hv105, N105q, e105⟩ := hQ105
    rw [show own_from (5 : Int32) o1 o2 o3 o4 o5 = o5 from rfl] at hv105
    subst hv105
    have N105 := Fr.app N86 N105q
    obtain ⟨cq106, kq106, q106a, q106b, q106c⟩ := isOf hZ e105 f103
    obtain ⟨_, _, ⟨T106, L106, k106, n106⟩, -, X106, ⟨Lc106, hQ106, l106, y106, z106⟩, st106⟩ := X105.virtualBack hx (y := (⟨"com/example/countersign/countersign/protocol/ActivationStatus", "code", "()I"⟩ : MethodName)) (z := (⟨"com/example/countersign/countersign/protocol/ActivationStatus", "code", "()I"⟩ : MethodName)) hown (mvT hZ (hw _ (List.mem_of_getElem? (i := 32) rfl))) (mvT hZ (hw _ (List.mem_of_getElem? (i := 33) rfl))) (notFace_of_selects (args := #[]) (mvT hZ (hw _ (List.mem_of_getElem? (i := 35) rfl)))) (mvT hZ (hw _ (List.mem_of_getElem? (i := 35) rfl))) (mvT hZ (hw _ (List.mem_of_getElem? (i := 34) rfl))) (by decide) (backOf (W := 0) (rm4 l Z aw hw [] o5 (5 : Int32) T86.heap n0 Z86 f104) hZ (hw _ (List.mem_of_getElem? (i := 36) rfl)) (hw _ (List.mem_of_getElem? (i := 3) rfl)) (by decide) (by decide)) q106a q106c (g := (mkF m 23 #[.val (.int p0), .val (.int (5 : Int32)), .val (.ref o5)] [(.ref o5)])) rfl (by rw [hml]; rfl) (Steps.refl _) (argsL := []) (rest := []) (lenOf pd_2 rfl) rfl (by show 2 * 0 + _ ≤ _; exact Nat.le_of_eq rfl) (hb hby at_23) (fun _ _ => ⟨rfl, e105, (by decide : 1 + 0 ≤ _), (by decide : 5 + 0 ≤ _)⟩)
    dsimp only [Pt.U, Pt.locs, Pt.cells, Pt.slots] at X106 l106 y106 z106 st106 hQ106
    subst l106 y106 z106
    obtain ⟨rfl, N106q, e106⟩ := hQ106
    have N106 := Fr.app N105 N106q
    obtain ⟨fs, hr, hrun, hended, hW, hsame⟩ := X106.leave (v := some (.int (1 : Int32))) (fun h => by rw [Bd.returns] at h; cases h)
    refine ⟨_, _, pre1 _ ?_, hrun, hended, _, _, rfl, ?_, ⟨_, rfl⟩, hW, hsame.mono (by decide) (by decide)⟩
    · show Steps p.tables e below (s₁.setTop (mkF m 8 #[.val (.int p0), .unset, .unset] [(.int (5 : Int32))])) _
      refine XS.istoreN X0.here hx rfl (hb hby at_8) rfl (l' := #[.val (.int p0), .val (.int (5 : Int32)), .unset]) rfl ?_
      show Steps p.tables e below (s₁.setTop (mkF m 9 #[.val (.int p0), .val (.int (5 : Int32)), .unset] [])) _
      refine XS.iloadN X0.here hx rfl (hb hby at_9) rfl ?_
      show Steps p.tables e below (s₁.setTop (mkF m 10 #[.val (.int p0), .val (.int (5 : Int32)), .unset] [(.int (5 : Int32))])) _
      refine st86 _ ?_
      show Steps p.tables e below (T86.setTop (mkF m 13 #[.val (.int p0), .val (.int (5 : Int32)), .unset] [(.ref o5)])) _
      refine XS.astoreN X86.here hx rfl (hb hby at_13) rfl rfl (l' := #[.val (.int p0), .val (.int (5 : Int32)), .val (.ref o5)]) rfl ?_
      show Steps p.tables e below (T86.setTop (mkF m 14 #[.val (.int p0), .val (.int (5 : Int32)), .val (.ref o5)] [])) _
      refine XS.aloadN X86.here hx rfl (hb hby at_14) rfl rfl ?_
      show Steps p.tables e below (T86.setTop (mkF m 15 #[.val (.int p0), .val (.int (5 : Int32)), .val (.ref o5)] [(.ref o5)])) _
      refine XS.iloadN X86.here hx rfl (hb hby at_15) rfl ?_
      show Steps p.tables e below (T86.setTop (mkF m 16 #[.val (.int p0), .val (.int (5 : Int32)), .val (.ref o5)] [(.int (5 : Int32)), (.ref o5)])) _
      refine st105 _ ?_
      show Steps p.tables e below (T105.setTop (mkF m 19 #[.val (.int p0), .val (.int (5 : Int32)), .val (.ref o5)] [(.ref o5), (.ref o5)])) _
      refine Jvm.RoadKit.acmp (g := (mkF m 19 #[.val (.int p0), .val (.int (5 : Int32)), .val (.ref o5)] [(.ref o5), (.ref o5)])) X105 hx rfl rfl rfl (pc0 := 19) (pc' := 22) (same := true) rfl (hb hby at_19) rfl (decide_eq_true rfl) (by decide) (by decide) ?_
      show Steps p.tables e below (T105.setTop (mkF m 22 #[.val (.int p0), .val (.int (5 : Int32)), .val (.ref o5)] [])) _
      refine XS.aloadN X105.here hx rfl (hb hby at_22) rfl rfl ?_
      show Steps p.tables e below (T105.setTop (mkF m 23 #[.val (.int p0), .val (.int (5 : Int32)), .val (.ref o5)] [(.ref o5)])) _
      refine st106.trans ?_
      show Steps p.tables e below (T106.setTop (mkF m 26 #[.val (.int p0), .val (.int (5 : Int32)), .val (.ref o5)] [(.int (5 : Int32))])) _
      refine XS.iloadN X106.here hx rfl (hb hby at_26) rfl ?_
      show Steps p.tables e below (T106.setTop (mkF m 27 #[.val (.int p0), .val (.int (5 : Int32)), .val (.ref o5)] [(.int (5 : Int32)), (.int (5 : Int32))])) _
      refine XS.icmpNo X106.here hx rfl (hb hby at_27) rfl (teq (by decide : (5 : Int32) = (5 : Int32))).2 ?_
      show Steps p.tables e below (T106.setTop (mkF m 30 #[.val (.int p0), .val (.int (5 : Int32)), .val (.ref o5)] [])) _
      refine XS.iconst X106.here hx rfl (hb hby at_30) ?_
      show Steps p.tables e below (T106.setTop (mkF m 31 #[.val (.int p0), .val (.int (5 : Int32)), .val (.ref o5)] [(.int (1 : Int32))])) _
      refine XS.goto X106.here hx rfl (pc0 := 31) (pc' := 35) rfl (hb hby at_31) (by decide) (by decide) ?_
      show Steps p.tables e below (T106.setTop (mkF m 35 #[.val (.int p0), .val (.int (5 : Int32)), .val (.ref o5)] [(.int (1 : Int32))])) _
      exact retN X106 hx (t := .boolean) Bd.returns (by simp) (hb hby at_35) hr
    · show Q0 Z p0 wv kk o1 o2 o3 o4 o5 h0 n0 _ T106.heap _
      rw [e106]
      exact ⟨rfl, N106⟩
set_option maxRecDepth 65536 in
set_option maxHeartbeats 40000000 in
theorem comes_1 {Post : Tables → Env → Array Value → State → Outcome → State → Prop} (hpost : ∀ tb e args s v u, (limb_1_1.after args s (.returned v) u = true ∧ limb_1_2.after args s (.returned v) u = true ∧ True) → FrameEnd s (.returned v) u (Jvm.fieldLocs frame_1_writes args s ++ Jvm.arrayLocs frame_1_arrays args s ++ Jvm.staticLocs frame_1_statics s) 16 128 → Post tb e args s (.returned v) u) :
    ArmFor flags0 classFile x code maxLocals ret World_1 tables_1 room_1 Calls_1 rest_1 Pre_1 Post := by
  intro l hfl _ _ p e ha hc hk s m args below hf hA hF happ hP
  obtain ⟨hcalls, hrest, hpre⟩ := hP
  obtain ⟨-, -, -, hnamed, -, -, -, hat⟩ := (Spec.applies_iff hf).mp happ
  obtain ⟨hg, hn⟩ := and_e (Cond.before_iff.mp (show (Jvm.Cond.and given_1 narrow_1).before args s = true from hpre))
  obtain ⟨hga, hgb⟩ := and_e hg
  obtain ⟨w0, rfl⟩ : ∃ w0 : Value, args = #[w0] := by
    have hs : args.size = 1 := by simpa [Cond.value, given_1] using hga
    obtain ⟨L⟩ := args
    match L, hs with
    | [w0], _ => exact ⟨w0, rfl⟩
  have hw := fun d (hd : d ∈ tables_1) => atoms_spec (ws := Jvm.Cond.code x code maxLocals ret :: tables_1) hat d (List.mem_cons_of_mem _ hd)
  have hfit : Fit s := fun {y c} hc i hi => by
    obtain ⟨ha, rfl⟩ := Array.getElem?_eq_some_iff.mp hc
    have q := List.all_eq_true.mp ((Array.all_eq_true_iff_forall_mem.mp hF) _ (Array.getElem_mem ha)) i (List.mem_range.mpr hi)
    simpa [Array.getElem?_eq_getElem hi] using q
  obtain ⟨i0, ei0⟩ := is_v hgb
  obtain rfl : w0 = (.int i0) := Option.some.inj ei0
  obtain ⟨hna, hnb⟩ := and_e hn
  obtain ⟨hnba, hnbb⟩ := and_e hnb
  obtain ⟨hnbba, hnbbb⟩ := and_e hnbb
  obtain ⟨hnbbba, hnbbbb⟩ := and_e hnbbb
  obtain ⟨hnbbbba, hnbbbbb⟩ := and_e hnbbbb
  obtain ⟨hnbbbbba, hnbbbbbb⟩ := and_e hnbbbbb
  obtain ⟨hnbbbbbba, hnbbbbbbb⟩ := and_e hnbbbbbb
  obtain ⟨hnbbbbbbba, hnbbbbbbbb⟩ := and_e hnbbbbbbb
  obtain ⟨hnbbbbbbbba, hnbbbbbbbbb⟩ := and_e hnbbbbbbbb
  obtain ⟨hnbbbbbbbbba, hnbbbbbbbbbb⟩ := and_e hnbbbbbbbbb
  obtain ⟨hnbbbbbbbbbba, hnbbbbbbbbbbb⟩ := and_e hnbbbbbbbbbb
  obtain ⟨hnbbbbbbbbbbba, hnbbbbbbbbbbbb⟩ := and_e hnbbbbbbbbbbb
  obtain ⟨hnbbbbbbbbbbbba, hnbbbbbbbbbbbbb⟩ := and_e hnbbbbbbbbbbbb
  obtain ⟨hnbbbbbbbbbbbbba, hnbbbbbbbbbbbbbb⟩ := and_e hnbbbbbbbbbbbbb
  obtain ⟨hnbbbbbbbbbbbbbba, hnbbbbbbbbbbbbbbb⟩ := and_e hnbbbbbbbbbbbbbb
  obtain ⟨hnbbbbbbbbbbbbbbba, hnbbbbbbbbbbbbbbbb⟩ := and_e hnbbbbbbbbbbbbbbb
  obtain ⟨hnbbbbbbbbbbbbbbbba, hnbbbbbbbbbbbbbbbbb⟩ := and_e hnbbbbbbbbbbbbbbbb
  obtain ⟨w__VALUES, S__VALUES, E__VALUES, ev__VALUES⟩ := own_exa (a0 := #[]) (hw _ (List.mem_of_getElem? (i := 3) rfl)) (hw _ (List.mem_of_getElem? (i := 9) rfl)) hnba
  obtain ⟨w_CREATED, S_CREATED, E_CREATED, ev_CREATED⟩ := own_exa (a0 := #[]) (hw _ (List.mem_of_getElem? (i := 3) rfl)) (hw _ (List.mem_of_getElem? (i := 17) rfl)) hnbbba
  obtain ⟨w_PENDING_COMMIT, S_PENDING_COMMIT, E_PENDING_COMMIT, ev_PENDING_COMMIT⟩ := own_exa (a0 := #[]) (hw _ (List.mem_of_getElem? (i := 3) rfl)) (hw _ (List.mem_of_getElem? (i := 18) rfl)) hnbbbbba
  obtain ⟨w_ACTIVE, S_ACTIVE, E_ACTIVE, ev_ACTIVE⟩ := own_exa (a0 := #[]) (hw _ (List.mem_of_getElem? (i := 3) rfl)) (hw _ (List.mem_of_getElem? (i := 19) rfl)) hnbbbbbbba
  obtain ⟨w_BLOCKED, S_BLOCKED, E_BLOCKED, ev_BLOCKED⟩ := own_exa (a0 := #[]) (hw _ (List.mem_of_getElem? (i := 3) rfl)) (hw _ (List.mem_of_getElem? (i := 20) rfl)) hnbbbbbbbbba
  obtain ⟨w_REMOVED, S_REMOVED, E_REMOVED, ev_REMOVED⟩ := own_exa (a0 := #[]) (hw _ (List.mem_of_getElem? (i := 3) rfl)) (hw _ (List.mem_of_getElem? (i := 21) rfl)) hnbbbbbbbbbbba
  have F_CREATED_code := own_fldI ev_CREATED hnbbbbbbbbbbbbba
  have F_PENDING_COMMIT_code := own_fldI ev_PENDING_COMMIT hnbbbbbbbbbbbbbba
  have F_ACTIVE_code := own_fldI ev_ACTIVE hnbbbbbbbbbbbbbbba
  have F_BLOCKED_code := own_fldI ev_BLOCKED hnbbbbbbbbbbbbbbbba
  have F_REMOVED_code := own_fldI ev_REMOVED hnbbbbbbbbbbbbbbbbb
  obtain ⟨clv, Arv0⟩ := Arr.start ev__VALUES hna
  obtain ⟨hl1, hl2⟩ := own_len ev__VALUES Arv0.1 hnbba
  have el0 : clv.slots[0]? = some (.ref w_CREATED) := own_elemR ev__VALUES ev_CREATED Arv0.1 hnbbbba
  have el1 : clv.slots[1]? = some (.ref w_PENDING_COMMIT) := own_elemR ev__VALUES ev_PENDING_COMMIT Arv0.1 hnbbbbbba
  have el2 : clv.slots[2]? = some (.ref w_ACTIVE) := own_elemR ev__VALUES ev_ACTIVE Arv0.1 hnbbbbbbbba
  have el3 : clv.slots[3]? = some (.ref w_BLOCKED) := own_elemR ev__VALUES ev_BLOCKED Arv0.1 hnbbbbbbbbbba
  have el4 : clv.slots[4]? = some (.ref w_REMOVED) := own_elemR ev__VALUES ev_REMOVED Arv0.1 hnbbbbbbbbbbbba
  have VV : Arv s s.heap w__VALUES clv.cls (.object "com/example/countersign/countersign/protocol/ActivationStatus") (5 : Int32) [(.ref w_CREATED), (.ref w_PENDING_COMMIT), (.ref w_ACTIVE), (.ref w_BLOCKED), (.ref w_REMOVED)] .null := Arv.start hfit Arv0 hl1 hl2 (by decide) rfl ⟨el0, el1, el2, el3, el4, trivial⟩
  obtain ⟨n, o, h1, h2, h3, _, L, rfl, ⟨rfl, N⟩, hq⟩ := rm0 l s _ hw tables_1 i0 w__VALUES clv.cls w_CREATED w_PENDING_COMMIT w_ACTIVE w_BLOCKED w_REMOVED s.heap s.heap.size (Nat.le_refl _) S_CREATED S_PENDING_COMMIT S_ACTIVE S_BLOCKED S_REMOVED S__VALUES E__VALUES VV E_CREATED E_PENDING_COMMIT E_ACTIVE E_BLOCKED E_REMOVED F_CREATED_code F_PENDING_COMMIT_code F_ACTIVE_code F_BLOCKED_code F_REMOVED_code p e ha hc hk s m _ below hf ((Spec.applies_iff_loose hf).mp happ).1 ⟨rfl, State.Warmed39.refl s, rfl⟩ trivial
  refine ⟨n, _, h1, h2, h3, hpost _ _ _ _ _ _ ⟨Cond.after_iff.mpr rfl, Cond.after_iff.mpr (eq_i res_at (Term.int_eval (1)) rfl), trivial⟩ ⟨hq.1, hq.2.1, (hq.2.2.sift fun y hy => Or.inr (N y hy)).mono (by decide) (by decide)⟩⟩
theorem main_1_1 : Claimed_1_1 := comes_1 fun _ _ _ _ _ _ h hF => ⟨h.1, hF⟩
theorem main_1_2 : Claimed_1_2 := comes_1 fun _ _ _ _ _ _ h hF => ⟨h.2.1, hF⟩
end Jvm.Pilot.@@N@@
namespace Jvm.Pilot.@@N@@
open Jvm Jvm.ClassFile Sem Op Lib Jvm.Free Jvm.Stand Jvm.Pilot.@@N@@.Jvm.D
/-! MADE BY PROGRAM (witnessworld.py) out of the Statement's table words and the real class files: 13 classes; the members and pool entries that the words name. The judged class is class 1, her method 1. -/
namespace start1
open Jvm.ClassFile
def u (s : String) : CpInfo := .utf8 (stringToUtf16 s)
/-- a pool by its gaps: so many unusable entries, then the entry; so many at the end -/
def gap : Nat → List CpInfo → List CpInfo
  | 0, r => r
  | n + 1, r => .unusable :: gap n r
def poolList (es : List (Nat × CpInfo)) (last : Nat) : List CpInfo := es.foldr (fun e r => gap e.1 (e.2 :: r)) (gap last [])
def pool (es : List (Nat × CpInfo)) (last : Nat) : Array CpInfo := ⟨poolList es last⟩
def fileOf (pool : Array CpInfo) (this : Nat) (attrs : Array Attribute := #[]) (ms : Array MethodInfo := #[]) (fl : Nat := 33) (sup : Nat := 0) (ifs : Array Nat := #[]) (fds : Array FieldInfo := #[]) : ClassFile where
  minorVersion := 0
  majorVersion := 65
  constantPool := pool
  accessFlags := fl
  thisClass := this
  superClass := sup
  interfaces := ifs
  fields := fds
  methods := ms
  attributes := attrs
def plain (name : String) (sup : Option ClassId) : Class where
  name := name
  kind := .ordinary
  loader := none
  accessFlags := 33
  super := sup
  interfaces := #[]
  cf := none
  fields := #[]
  methods := #[]
  instanceTypes := #[]
  staticTypes := #[]
  resolved := #[]
  callSites := []
  init := .initialized
  statics := none
  mirror := none

def pool0 : Array CpInfo := pool [(5, u "<init>"), (0, u "()V"), (1, .class_ 10), (1, u "java/lang/Object"), (85, u "clone"), (0, u "()Ljava/lang/Object;")] 26

def k0m0 : Method := { name := "<init>", desc := "()V", sig := { parameters := [], returnType := none }, accessFlags := 1, code := none }
def k0m1 : Method := { name := "clone", desc := "()Ljava/lang/Object;", sig := { parameters := [], returnType := some (.object "java/lang/Object") }, accessFlags := 260, code := none }
/-- java/lang/Object -/
def k0 : Class := { plain "java/lang/Object" none with
  accessFlags := 33
  interfaces := #[]
  cf := some (fileOf pool0 8 #[] #[{ accessFlags := 1, nameIndex := 5, descriptorIndex := 6, attributes := #[] }, { accessFlags := 260, nameIndex := 96, descriptorIndex := 97, attributes := #[] }] 33 0 #[] #[])
  fields := #[]
  methods := #[k0m0, k0m1]
  instanceTypes := #[]
  staticTypes := #[]
  resolved := Array.replicate 124 none
  statics := none }

def pool1 : Array CpInfo := pool [(2, .class_ 4), (1, u "java/lang/Object"), (0, u "<init>"), (0, u "()V"), (0, .integer 2147483647), (0, .methodref 9 10), (0, .class_ 11), (0, .nameAndType 12 13), (0, u "com/example/countersign/countersign/protocol/ActivationStatus"), (0, u "fromCode"), (0, u "(I)Lcom/example/countersign/countersign/protocol/ActivationStatus;"), (0, .methodref 15 16), (0, .class_ 17), (0, .nameAndType 18 13), (0, u "com/example/countersign/countersign/protocol/ActivationStatusFromCodePinLaw"), (0, u "expected"), (0, .methodref 9 20), (0, .nameAndType 21 22), (0, u "code"), (0, u "()I"), (0, .fieldref 9 24), (0, .nameAndType 25 26), (0, u "CREATED"), (0, u "Lcom/example/countersign/countersign/protocol/ActivationStatus;"), (0, .fieldref 9 28), (0, .nameAndType 29 26), (0, u "PENDING_COMMIT"), (0, .fieldref 9 31), (0, .nameAndType 32 26), (0, u "ACTIVE"), (0, .fieldref 9 34), (0, .nameAndType 35 26), (0, u "BLOCKED"), (0, .fieldref 9 37), (0, .nameAndType 38 26), (0, u "REMOVED"), (2, u "law"), (0, u "(I)Z")] 3

def k1m0 : Method := { name := "<init>", desc := "()V", sig := { parameters := [], returnType := none }, accessFlags := 1, code := none }
def k1c1 : Code := { maxStack := 2, maxLocals := 3, code := code, exceptionTable := #[], attributes := #[] }
def k1m1 : Method := { name := "law", desc := "(I)Z", sig := { parameters := [.int], returnType := some .boolean }, accessFlags := 9, code := some k1c1 }
def k1c2 : Code := { maxStack := 2, maxLocals := 1, code := method_3_code, exceptionTable := #[], attributes := #[] }
def k1m2 : Method := { name := "expected", desc := "(I)Lcom/example/countersign/countersign/protocol/ActivationStatus;", sig := { parameters := [.int], returnType := some (.object "com/example/countersign/countersign/protocol/ActivationStatus") }, accessFlags := 10, code := some k1c2 }
/-- com/example/countersign/countersign/protocol/ActivationStatusFromCodePinLaw -/
def k1 : Class := { plain "com/example/countersign/countersign/protocol/ActivationStatusFromCodePinLaw" (some 0) with
  accessFlags := 49
  interfaces := #[]
  cf := some (fileOf pool1 15 #[] #[{ accessFlags := 1, nameIndex := 5, descriptorIndex := 6, attributes := #[] }, { accessFlags := 9, nameIndex := 41, descriptorIndex := 42, attributes := #[] }, { accessFlags := 10, nameIndex := 18, descriptorIndex := 13, attributes := #[] }] 49 2 #[] #[])
  fields := #[]
  methods := #[k1m0, k1m1, k1m2]
  instanceTypes := #[]
  staticTypes := #[]
  resolved := Array.replicate 46 none
  statics := none }

def pool2 : Array CpInfo := pool [(1, .class_ 2), (0, u "java/lang/constant/Constable"), (0, .class_ 4), (0, u "java/lang/Object")] 6

/-- java/lang/constant/Constable -/
def k2 : Class := { plain "java/lang/constant/Constable" (some 0) with
  accessFlags := 1537
  interfaces := #[]
  cf := some (fileOf pool2 1 #[] #[] 1537 3 #[] #[])
  fields := #[]
  methods := #[]
  instanceTypes := #[]
  staticTypes := #[]
  resolved := Array.replicate 11 none
  statics := none }

def pool3 : Array CpInfo := pool [(1, .class_ 2), (0, u "java/lang/Comparable"), (0, .class_ 4), (0, u "java/lang/Object")] 7

/-- java/lang/Comparable -/
def k3 : Class := { plain "java/lang/Comparable" (some 0) with
  accessFlags := 1537
  interfaces := #[]
  cf := some (fileOf pool3 1 #[] #[] 1537 3 #[] #[])
  fields := #[]
  methods := #[]
  instanceTypes := #[]
  staticTypes := #[]
  resolved := Array.replicate 12 none
  statics := none }

def pool4 : Array CpInfo := pool [(1, .class_ 2), (0, u "java/io/Serializable"), (0, .class_ 4), (0, u "java/lang/Object")] 2

/-- java/io/Serializable -/
def k4 : Class := { plain "java/io/Serializable" (some 0) with
  accessFlags := 1537
  interfaces := #[]
  cf := some (fileOf pool4 1 #[] #[] 1537 3 #[] #[])
  fields := #[]
  methods := #[]
  instanceTypes := #[]
  staticTypes := #[]
  resolved := Array.replicate 7 none
  statics := none }

def pool5 : Array CpInfo := pool [(2, .class_ 4), (1, u "java/lang/Enum"), (0, u "name"), (0, u "Ljava/lang/String;"), (2, u "ordinal"), (0, u "I"), (1, .class_ 14), (1, u "java/lang/Object"), (4, u "hash"), (86, .class_ 108), (1, u "java/lang/Enum$EnumDesc"), (2, .class_ 112), (0, u "java/lang/constant/Constable"), (0, .class_ 114), (0, u "java/lang/Comparable"), (0, .class_ 116), (0, u "java/io/Serializable")] 87

/-- java/lang/Enum -/
def k5 : Class := { plain "java/lang/Enum" (some 0) with
  accessFlags := 1057
  interfaces := #[2, 3, 4]
  cf := some (fileOf pool5 2 #[.nestMembers #[106]] #[] 1057 12 #[111, 113, 115] #[{ accessFlags := 18, nameIndex := 5, descriptorIndex := 6, attributes := #[] }, { accessFlags := 18, nameIndex := 9, descriptorIndex := 10, attributes := #[] }, { accessFlags := 2, nameIndex := 19, descriptorIndex := 10, attributes := #[] }])
  fields := #[{ name := "name", type := (.object "java/lang/String"), accessFlags := 18, slot := 0, constantValue := 0 }, { name := "ordinal", type := .int, accessFlags := 18, slot := 1, constantValue := 0 }, { name := "hash", type := .int, accessFlags := 2, slot := 2, constantValue := 0 }]
  methods := #[]
  instanceTypes := #[(.object "java/lang/String"), .int, .int]
  staticTypes := #[]
  resolved := Array.replicate 204 none
  statics := none }

def pool6 : Array CpInfo := pool [(1, .class_ 2), (0, u "com/example/countersign/countersign/protocol/ActivationStatus"), (2, u "CREATED"), (0, u "Lcom/example/countersign/countersign/protocol/ActivationStatus;"), (2, u "PENDING_COMMIT"), (2, u "ACTIVE"), (2, u "BLOCKED"), (2, u "REMOVED"), (0, .fieldref 1 20), (0, .nameAndType 21 22), (0, u "$VALUES"), (0, u "[Lcom/example/countersign/countersign/protocol/ActivationStatus;"), (0, .methodref 24 25), (0, .class_ 22), (0, .nameAndType 26 27), (0, u "clone"), (0, u "()Ljava/lang/Object;"), (1, .class_ 31), (1, u "java/lang/Enum"), (6, .fieldref 1 39), (0, .nameAndType 40 41), (0, u "code"), (0, u "I"), (0, .methodref 1 43), (0, .nameAndType 44 45), (0, u "values"), (0, u "()[Lcom/example/countersign/countersign/protocol/ActivationStatus;"), (26, u "fromCode"), (0, u "(I)Lcom/example/countersign/countersign/protocol/ActivationStatus;"), (1, u "()I")] 20

def k6c0 : Code := { maxStack := 1, maxLocals := 0, code := prog_9_method_1_code, exceptionTable := #[], attributes := #[] }
def k6m0 : Method := { name := "values", desc := "()[Lcom/example/countersign/countersign/protocol/ActivationStatus;", sig := { parameters := [], returnType := some (.array (.object "com/example/countersign/countersign/protocol/ActivationStatus")) }, accessFlags := 9, code := some k6c0 }
def k6c1 : Code := { maxStack := 3, maxLocals := 5, code := prog_9_method_4_code, exceptionTable := #[], attributes := #[] }
def k6m1 : Method := { name := "fromCode", desc := "(I)Lcom/example/countersign/countersign/protocol/ActivationStatus;", sig := { parameters := [.int], returnType := some (.object "com/example/countersign/countersign/protocol/ActivationStatus") }, accessFlags := 9, code := some k6c1 }
def k6c2 : Code := { maxStack := 1, maxLocals := 1, code := prog_9_method_5_code, exceptionTable := #[], attributes := #[] }
def k6m2 : Method := { name := "code", desc := "()I", sig := { parameters := [], returnType := some .int }, accessFlags := 1, code := some k6c2 }
/-- com/example/countersign/countersign/protocol/ActivationStatus -/
def k6 : Class := { plain "com/example/countersign/countersign/protocol/ActivationStatus" (some 5) with
  accessFlags := 16433
  interfaces := #[]
  cf := some (fileOf pool6 1 #[] #[{ accessFlags := 9, nameIndex := 44, descriptorIndex := 45, attributes := #[] }, { accessFlags := 9, nameIndex := 72, descriptorIndex := 73, attributes := #[] }, { accessFlags := 1, nameIndex := 40, descriptorIndex := 75, attributes := #[] }] 16433 29 #[] #[{ accessFlags := 16409, nameIndex := 5, descriptorIndex := 6, attributes := #[] }, { accessFlags := 16409, nameIndex := 9, descriptorIndex := 6, attributes := #[] }, { accessFlags := 16409, nameIndex := 12, descriptorIndex := 6, attributes := #[] }, { accessFlags := 16409, nameIndex := 15, descriptorIndex := 6, attributes := #[] }, { accessFlags := 16409, nameIndex := 18, descriptorIndex := 6, attributes := #[] }, { accessFlags := 18, nameIndex := 40, descriptorIndex := 41, attributes := #[] }, { accessFlags := 4122, nameIndex := 21, descriptorIndex := 22, attributes := #[] }])
  fields := #[{ name := "CREATED", type := (.object "com/example/countersign/countersign/protocol/ActivationStatus"), accessFlags := 16409, slot := 0, constantValue := 0 }, { name := "PENDING_COMMIT", type := (.object "com/example/countersign/countersign/protocol/ActivationStatus"), accessFlags := 16409, slot := 1, constantValue := 0 }, { name := "ACTIVE", type := (.object "com/example/countersign/countersign/protocol/ActivationStatus"), accessFlags := 16409, slot := 2, constantValue := 0 }, { name := "BLOCKED", type := (.object "com/example/countersign/countersign/protocol/ActivationStatus"), accessFlags := 16409, slot := 3, constantValue := 0 }, { name := "REMOVED", type := (.object "com/example/countersign/countersign/protocol/ActivationStatus"), accessFlags := 16409, slot := 4, constantValue := 0 }, { name := "code", type := .int, accessFlags := 18, slot := 3, constantValue := 0 }, { name := "$VALUES", type := (.array (.object "com/example/countersign/countersign/protocol/ActivationStatus")), accessFlags := 4122, slot := 5, constantValue := 0 }]
  methods := #[k6m0, k6m1, k6m2]
  instanceTypes := #[(.object "java/lang/String"), .int, .int, .int]
  staticTypes := #[(.object "com/example/countersign/countersign/protocol/ActivationStatus"), (.object "com/example/countersign/countersign/protocol/ActivationStatus"), (.object "com/example/countersign/countersign/protocol/ActivationStatus"), (.object "com/example/countersign/countersign/protocol/ActivationStatus"), (.object "com/example/countersign/countersign/protocol/ActivationStatus"), (.array (.object "com/example/countersign/countersign/protocol/ActivationStatus"))]
  resolved := Array.replicate 96 none
  statics := some 0 }

def pool7 : Array CpInfo := pool [(1, .class_ 2), (0, u "java/lang/Cloneable"), (0, .class_ 4), (0, u "java/lang/Object")] 2

/-- java/lang/Cloneable -/
def k7 : Class := { plain "java/lang/Cloneable" (some 0) with
  accessFlags := 1537
  interfaces := #[]
  cf := some (fileOf pool7 1 #[] #[] 1537 3 #[] #[])
  fields := #[]
  methods := #[]
  instanceTypes := #[]
  staticTypes := #[]
  resolved := Array.replicate 7 none
  statics := none }

/-- the primitive byte -/
def k8 : Class := { plain "byte" none with kind := .primitive 'B', accessFlags := 0x411 }
/-- [B -/
def k9 : Class := { plain "[B" (some 0) with kind := .array 8 .byte, interfaces := #[7, 4], accessFlags := 1041 }

/-- the primitive int -/
def k10 : Class := { plain "int" none with kind := .primitive 'I', accessFlags := 0x411 }
/-- [I -/
def k11 : Class := { plain "[I" (some 0) with kind := .array 10 .int, interfaces := #[7, 4], accessFlags := 1041 }

/-- [Lcom/example/countersign/countersign/protocol/ActivationStatus; -/
def k12 : Class := { plain "[Lcom/example/countersign/countersign/protocol/ActivationStatus;" (some 0) with kind := .array 6 (.object "com/example/countersign/countersign/protocol/ActivationStatus"), interfaces := #[7, 4], accessFlags := 1041 }

def heap : Heap := #[{ cls := 6, slots := #[.ref 2, .ref 3, .ref 4, .ref 5, .ref 6, .ref 1], vm := .statics 6 },
  { cls := 12, slots := #[.ref 2, .ref 3, .ref 4, .ref 5, .ref 6], vm := .none },
  { cls := 6, slots := #[.null, .int 0, .int 0, .int 1], vm := .none },
  { cls := 6, slots := #[.null, .int 1, .int 0, .int 2], vm := .none },
  { cls := 6, slots := #[.null, .int 2, .int 0, .int 3], vm := .none },
  { cls := 6, slots := #[.null, .int 3, .int 0, .int 4], vm := .none },
  { cls := 6, slots := #[.null, .int 4, .int 0, .int 5], vm := .none }]
def classes : Array Class := #[k0, k1, k2, k3, k4, k5, k6, k7, k8, k9, k10, k11, k12]
def interned : List (Array UInt16 × Addr) := []
def slotsUsed : Nat := 31
def theMethod : MethodId := ⟨1, 1⟩
def args0 : Array Value := #[.int 5]
def aboutOver (below : List Frame) : State where
  vm := { classes := classes, interned := interned.toArray }
  heap := heap
  slotsUsed := slotsUsed
  threads := #[{ frames := .invoking theMethod args0 :: below }]
def below0 : List Frame := [.native { method := ⟨0, 0⟩, args := #[] }]
def about1 : State := aboutOver below0
def p0 : Program := .bare "" "" ""
def e0 : Env := launch0.env 0 0 0
theorem w_frames : about1.frames = Frame.invoking theMethod args0 :: below0 := rfl
set_option maxRecDepth 65536 in
theorem w_args : argsFit about1.vm theMethod args0 = true := by decide +kernel
set_option maxRecDepth 65536 in
theorem w_heap : heapFits about1 = true := by decide +kernel
set_option maxRecDepth 65536 in
theorem w_runnable : about1.curStatus? = some .runnable := by decide +kernel
set_option maxRecDepth 65536 in
theorem w_alone : about1.alone = true := by decide +kernel
set_option maxRecDepth 65536 in
theorem w_named : about1.methodNamed? x = some theMethod := by decide +kernel
set_option maxRecDepth 65536 in
theorem w_hears : about1.hears theMethod below0 = true := by decide +kernel
set_option maxRecDepth 65536 in
theorem w_ripe : about1.ripe theMethod args0 below0 = true := by decide +kernel
theorem w_running : about1.status = .running := rfl
set_option maxRecDepth 65536 in
theorem w_room : about1.hasRoom e0.platform room_1 = true :=
  launch0.hasRoom_least _ room_1 (by decide +kernel) (by decide +kernel) (by decide +kernel) (by decide +kernel) (by decide +kernel) (by decide +kernel)
theorem allAtoms_all (ts : List Jvm.Cond) (a : Array Jvm.Value) (st : Jvm.State) : (allAtoms ts).before a st = ts.all (fun c => c.before a st) := by
  induction ts with
  | nil => rfl
  | cons c t ih =>
    show (Jvm.Cond.and c (allAtoms t)).before a st = _
    rw [Jvm.Cond.before_and, ih, List.all_cons]
def words1 : List Jvm.Cond := Jvm.Cond.code x code maxLocals ret :: tables_1
/-- a 'code' word, met by the world's own term for the bytes: nothing is compared byte by byte -/
theorem code_word {y : MethodName} {bytes : ByteArray} {mx : Nat} {rt : Option FieldType} {a : Array Value} {s : State} {m : MethodId} {meth : Method} {c : Code} (h1 : s.methodNamed? y = some m) (h2 : s.vm.method? m = some meth) (h3 : meth.code = some c) (h4 : c.code = bytes)
    (h5 : (c.maxLocals == mx && c.exceptionTable.isEmpty && decide (c.maxStack ≤ mostOperands) && decide (meth.sig.returnType = rt) && !meth.locks && decide (parseMethodDescriptor y.desc = some meth.sig)) = true) : (Jvm.Cond.code y bytes mx rt).before a s = true := by
  simp only [Bool.and_eq_true, beq_iff_eq, Bool.not_eq_true', decide_eq_true_eq] at h5
  obtain ⟨⟨⟨⟨⟨g1, g2⟩, g3⟩, g4⟩, g5⟩, g6⟩ := h5
  simp [Cond.before, Cond.holds, Cond.value, h1, h2, h3, h4, g1, g2, g3, g4, g5, g6]
def isCode : Jvm.Cond → Bool
  | .code _ _ _ _ => true
  | _ => false
theorem all_split {L : List Jvm.Cond} {P : Jvm.Cond → Bool} (h1 : L.all (fun c => isCode c || P c) = true) (h2 : ∀ c ∈ L.filter isCode, P c = true) : L.all P = true := by
  refine List.all_eq_true.mpr fun c hc => ?_
  have h := List.all_eq_true.mp h1 c hc
  rcases Bool.eq_false_or_eq_true (isCode c) with hi | hi
  · exact h2 c (List.mem_filter.mpr ⟨hc, hi⟩)
  · simpa [hi] using h
set_option maxRecDepth 65536 in
theorem w_c0 : (Jvm.Cond.code x code maxLocals ret).before args0 about1 = true := code_word (m := ⟨1, 1⟩) (meth := k1m1) (c := k1c1) (by decide +kernel) rfl rfl rfl (by decide +kernel)
set_option maxRecDepth 65536 in
theorem w_c1 : (Jvm.Cond.code ({ cls := "com/example/countersign/countersign/protocol/ActivationStatus", name := "fromCode", desc := "(I)Lcom/example/countersign/countersign/protocol/ActivationStatus;" } : Jvm.MethodName) prog_9_method_4_code (5 : Nat) (Option.some (Jvm.ClassFile.FieldType.object "com/example/countersign/countersign/protocol/ActivationStatus"))).before args0 about1 = true := code_word (m := ⟨6, 1⟩) (meth := k6m1) (c := k6c1) (by decide +kernel) rfl rfl rfl (by decide +kernel)
set_option maxRecDepth 65536 in
theorem w_c2 : (Jvm.Cond.code ({ cls := "com/example/countersign/countersign/protocol/ActivationStatus", name := "values", desc := "()[Lcom/example/countersign/countersign/protocol/ActivationStatus;" } : Jvm.MethodName) prog_9_method_1_code (0 : Nat) (Option.some (Jvm.ClassFile.FieldType.array (Jvm.ClassFile.FieldType.object "com/example/countersign/countersign/protocol/ActivationStatus")))).before args0 about1 = true := code_word (m := ⟨6, 0⟩) (meth := k6m0) (c := k6c0) (by decide +kernel) rfl rfl rfl (by decide +kernel)
set_option maxRecDepth 65536 in
theorem w_c3 : (Jvm.Cond.code ({ cls := "com/example/countersign/countersign/protocol/ActivationStatusFromCodePinLaw", name := "expected", desc := "(I)Lcom/example/countersign/countersign/protocol/ActivationStatus;" } : Jvm.MethodName) method_3_code (1 : Nat) (Option.some (Jvm.ClassFile.FieldType.object "com/example/countersign/countersign/protocol/ActivationStatus"))).before args0 about1 = true := code_word (m := ⟨1, 2⟩) (meth := k1m2) (c := k1c2) (by decide +kernel) rfl rfl rfl (by decide +kernel)
set_option maxRecDepth 65536 in
theorem w_c4 : (Jvm.Cond.code ({ cls := "com/example/countersign/countersign/protocol/ActivationStatus", name := "code", desc := "()I" } : Jvm.MethodName) prog_9_method_5_code (1 : Nat) (Option.some Jvm.ClassFile.FieldType.int)).before args0 about1 = true := code_word (m := ⟨6, 2⟩) (meth := k6m2) (c := k6c2) (by decide +kernel) rfl rfl rfl (by decide +kernel)
def codes1 : List Jvm.Cond := [Jvm.Cond.code x code maxLocals ret, Jvm.Cond.code ({ cls := "com/example/countersign/countersign/protocol/ActivationStatus", name := "fromCode", desc := "(I)Lcom/example/countersign/countersign/protocol/ActivationStatus;" } : Jvm.MethodName) prog_9_method_4_code (5 : Nat) (Option.some (Jvm.ClassFile.FieldType.object "com/example/countersign/countersign/protocol/ActivationStatus")), Jvm.Cond.code ({ cls := "com/example/countersign/countersign/protocol/ActivationStatus", name := "values", desc := "()[Lcom/example/countersign/countersign/protocol/ActivationStatus;" } : Jvm.MethodName) prog_9_method_1_code (0 : Nat) (Option.some (Jvm.ClassFile.FieldType.array (Jvm.ClassFile.FieldType.object "com/example/countersign/countersign/protocol/ActivationStatus"))), Jvm.Cond.code ({ cls := "com/example/countersign/countersign/protocol/ActivationStatusFromCodePinLaw", name := "expected", desc := "(I)Lcom/example/countersign/countersign/protocol/ActivationStatus;" } : Jvm.MethodName) method_3_code (1 : Nat) (Option.some (Jvm.ClassFile.FieldType.object "com/example/countersign/countersign/protocol/ActivationStatus")), Jvm.Cond.code ({ cls := "com/example/countersign/countersign/protocol/ActivationStatus", name := "code", desc := "()I" } : Jvm.MethodName) prog_9_method_5_code (1 : Nat) (Option.some Jvm.ClassFile.FieldType.int)]
set_option maxRecDepth 65536 in
theorem codes_eq : words1.filter isCode = codes1 := rfl
theorem w_codes : ∀ c ∈ words1.filter isCode, c.before args0 about1 = true := by
  rw [codes_eq]
  intro c hc
  simp only [codes1, List.mem_cons, List.not_mem_nil, or_false] at hc
  rcases hc with rfl | rfl | rfl | rfl | rfl
  · exact w_c0
  · exact w_c1
  · exact w_c2
  · exact w_c3
  · exact w_c4
set_option maxRecDepth 65536 in
theorem w_t1 : (words1.take 24).all (fun c => isCode c || c.before args0 about1) = true := by decide +kernel
set_option maxRecDepth 65536 in
theorem w_t2 : (words1.drop 24).all (fun c => isCode c || c.before args0 about1) = true := by decide +kernel
theorem w_tables : (allAtoms (Jvm.Cond.code x code maxLocals ret :: tables_1)).before args0 about1 = true := by
  rw [allAtoms_all]
  show words1.all (fun c => c.before args0 about1) = true
  refine all_split ?_ w_codes
  rw [← List.take_append_drop 24 words1, List.all_append, w_t1, w_t2]
  rfl
set_option maxRecDepth 65536 in
theorem w_case : (Jvm.Cond.and given_1 narrow_1).before args0 about1 = true := by decide +kernel
theorem w_applies : (headSpec (Jvm.Cond.code x code maxLocals ret :: tables_1) room_1).applies x e0.platform about1 = true :=
  (Spec.applies_iff w_frames).mpr ⟨w_running, w_runnable, w_alone, w_named, w_hears, w_ripe, w_room, w_tables⟩
theorem atStart : AtStart classFile x code maxLocals ret World_1 tables_1 room_1 Calls_1 rest_1 Pre_1 launch0 p0 e0 about1 theMethod args0 below0 :=
  ⟨lists_1, trivial, launch0.admits_env _ _ _, launch0.least_env, fairChoices_fair.cas, fairChoices_fair.clock, w_frames, w_args, w_heap, w_applies, trivial, trivial, w_case⟩
end start1
theorem witness_1 : WitnessClaimed_1 := ⟨start1.p0, start1.e0, start1.about1, start1.theMethod, start1.args0, start1.below0, start1.atStart⟩
end Jvm.Pilot.@@N@@
