import JvmDerived
import JvmDerived.Pilot.@@N@@Statement
import JvmDerived.Pilot.@@N@@Code
set_option linter.unusedVariables false
set_option linter.unusedSimpArgs false
namespace Jvm.RoadKit
open Sem ClassFile Op Lib Jvm.Stand Jvm.Free Jvm.LawKit
section New
variable {p : Program} {l : Launch} {e : Env} {R : Room} {s : State} {m : MethodId} {args : Array Value} {below : List Frame} {meth : Method} {c : Code} {T : State} {locs : List Loc} {cells slots : Nat}
theorem retI (X : Stand p l e R s m args below meth c T locs cells slots) (hx : p.tables.exec = Jvm.exec) {pc : Nat} {Ls : Array Slot} {z : Int32} {rest : List Value} (hret : meth.sig.returnType = some .int) (hd : decode c.code pc = .ok (.ireturn, 1)) {fs : List Frame}
    (hl : ∀ (f : JFrame) (acts : List Action), f.method = m → f.locked = none → f.entered = [] → (doReturn e (T.setTop f) acts (some (.int z))).1 = T.setFrames fs) : Steps p.tables e below (T.setTop (mkF m pc Ls (.int z :: rest))) (T.setFrames fs) := by
  have hm' : T.vm.method? m = some meth := X.method'
  have hn : narrow .int (.int z) = .int z := rfl
  show Steps p.tables e below (T.setTop { method := m, pc := pc, locals := Ls, stack := _ :: rest, locked := none }) _
  jvm_step X.here [X.here.top, hx, hd, hm', hret, hn]
  first | (intro acts; rw [hl _ acts rfl rfl rfl]) | rw [hl _ _ rfl rfl rfl]
  exact Steps.refl _
end New
end Jvm.RoadKit
namespace Jvm.Pilot.@@N@@
open Jvm Jvm.ClassFile Sem Op Lib Jvm.Free Jvm.Stand Jvm.LawKit Jvm.RoadKit Bundle Jvm.Pilot.@@N@@.Jvm.D

theorem own_exa {args a0 : Array Value} {s : State} {C n d K : String} (wi : (Jvm.Cond.initialized C).before args s = true) (wl : (Jvm.Cond.laysStatic C n d).before args s = true) (h : (Jvm.Cond.exactly (Jvm.Term.static C n d) K).value args s none s [] = some true) : ∃ a, Sta s s.heap C n d (.ref a) ∧ Exa s s.heap a K ∧ (Jvm.Term.static C n d).eval args s none [] s = some (.ref a) := by
  obtain ⟨a, ev⟩ := exa_v h
  exact ⟨a, Sta.start ev (Or.inr ⟨wi, wl⟩), Exa.start ev h, ev⟩
theorem own_fldI {args : Array Value} {s : State} {a : Addr} {t : Jvm.Term} {C n d : String} {k : Int32} (ev : t.eval args s none [] s = some (.ref a)) (h : (Jvm.Cond.eq (Jvm.Term.field t C n d) (Jvm.Term.int k)).value args s none s [] = some true) : Fld s s.heap a C n d (.int k) := by
  obtain ⟨x, y, ex, ey, -, ky⟩ := cmp_v (Or.inl h)
  obtain rfl : Value.int k = y := Option.some.inj ey
  obtain ⟨z, rfl⟩ := ky
  have hz : z = k := by simpa [Cond.value, ex, ey] using h
  subst hz
  exact Fld.start ((fld_at ev).symm.trans ex)

theorem own_sta_keep {Z : State} {h h' : Heap} {C n d : String} {v : Value} {ws : List Addr} (F : Sta Z h C n d v) (K : Keep h h' ws) (nos : ∀ x ∈ ws, ∀ cell : Cell, h[x]? = some cell → cell.vm.isStatics = false) : Sta Z h' C n d v := by
  obtain ⟨cf, i, k, f, st, cell, h1, h2, h3, h4, h5, h6, h7⟩ := F
  exact ⟨cf, i, k, f, st, cell, h1, h2, h3, h4, K.2.1 _ _ h5 (fun q => by rw [nos _ q _ h5] at h6; cases h6), h6, h7⟩
theorem own_ext {h h' : Heap} (K : Keep h h' []) : Ext h h' := ⟨K.1, fun a c q => K.2.1 a c q nin0⟩
theorem own_arrAt {args : Array Value} {s : State} {a : Addr} {cl : Cell} {t : Jvm.Term} {v : Value} (ev : t.eval args s none [] s = some (.ref a)) (hc : s.heap[a]? = some cl) (h : (Jvm.Term.length t).eval args s none [] s = some v) : cl.slots.size < 2 ^ 31 ∧ v = .int cl.slots.size.toInt32 := by
  obtain ⟨a', c', e1, e2, e3⟩ := Term.length_spec h
  cases ev.symm.trans e1
  have e4 := e2
  simp only [State.arrayAt?, hc, Option.bind_eq_bind, Option.bind_some] at e4
  obtain rfl : c' = cl := by
    cases hk : s.vm.classes[cl.cls]? with
    | none => simp [hk] at e4
    | some k => simp only [hk, Option.bind_some] at e4; split at e4 <;> first | (split at e4 <;> first | (cases e4; rfl; done) | (cases e4; done)) | (cases e4; rfl; done) | (cases e4; done)
  refine ⟨?_, e3⟩
  simp only [Term.eval, ev, e2, Option.bind_eq_bind, Option.bind_some] at h
  split at h
  · assumption
  · cases h
theorem own_len {args : Array Value} {s : State} {a : Addr} {cl : Cell} {t : Jvm.Term} {k : Int32} (ev : t.eval args s none [] s = some (.ref a)) (hc : s.heap[a]? = some cl) (h : (Jvm.Cond.eq (Jvm.Term.length t) (Jvm.Term.int k)).value args s none s [] = some true) : cl.slots.size < 2 ^ 31 ∧ cl.slots.size.toInt32 = k := by
  obtain ⟨x, y, ex, ey, -, ky⟩ := cmp_v (Or.inl h)
  obtain rfl : Value.int k = y := Option.some.inj ey
  obtain ⟨h1, rfl⟩ := own_arrAt ev hc ex
  refine ⟨h1, ?_⟩
  simpa [Cond.value, ex, ey] using h
theorem own_elemI {args : Array Value} {s : State} {a : Addr} {cl : Cell} {t : Jvm.Term} {j k : Int32} (ev : t.eval args s none [] s = some (.ref a)) (hc : s.heap[a]? = some cl) (h : (Jvm.Cond.eq (Jvm.Term.elem t (Jvm.Term.int j)) (Jvm.Term.int k)).value args s none s [] = some true) : cl.slots[j.toNatClampNeg]? = some (.int k) := by
  obtain ⟨x, y, ex, ey, -, ky⟩ := cmp_v (Or.inl h)
  obtain rfl : Value.int k = y := Option.some.inj ey
  obtain ⟨z, rfl⟩ := ky
  have hz : z = k := by simpa [Cond.value, ex, ey] using h
  subst hz
  exact (elem_in ex ev rfl hc).2
theorem own_elemJ {args : Array Value} {s : State} {a : Addr} {cl : Cell} {t : Jvm.Term} {j : Int32} {k : Int64} (ev : t.eval args s none [] s = some (.ref a)) (hc : s.heap[a]? = some cl) (h : (Jvm.Cond.eq (Jvm.Term.elem t (Jvm.Term.int j)) (Jvm.Term.long k)).value args s none s [] = some true) : cl.slots[j.toNatClampNeg]? = some (.long k) := by
  obtain ⟨x, y, ex, ey, -, ky⟩ := cmp_v (Or.inl h)
  obtain rfl : Value.long k = y := Option.some.inj ey
  obtain ⟨z, rfl⟩ := ky
  have hz : z = k := by simpa [Cond.value, ex, ey] using h
  subst hz
  exact (elem_in ex ev rfl hc).2
theorem own_elemR {args : Array Value} {s : State} {a b : Addr} {cl : Cell} {t u : Jvm.Term} {j : Int32} (ev : t.eval args s none [] s = some (.ref a)) (eu : u.eval args s none [] s = some (.ref b)) (hc : s.heap[a]? = some cl) (h : (Jvm.Cond.eq (Jvm.Term.elem t (Jvm.Term.int j)) u).value args s none s [] = some true) : cl.slots[j.toNatClampNeg]? = some (.ref b) := by
  obtain ⟨x, y, ex, ey, -, ky⟩ := cmp_v (Or.inl h)
  cases eu.symm.trans ey
  have hr : x.isRef = true := ky.2
  rw [eq_R ex ey hr rfl] at h
  have hz : x = .ref b := by simpa using h
  subst hz
  exact (elem_in ex ev rfl hc).2

def own_opens (a wF : Addr) : Int32 := if a = wF then 0 else 1
def own_of (p q : Int32) (wD wA wF : Addr) : Addr := if p = (0 : Int32) then (if q = (0 : Int32) then wF else wA) else wD
theorem own_opens_no {a wF : Addr} (h : a ≠ wF) : own_opens a wF = (1 : Int32) := if_neg h
theorem own_opens_yes {wF : Addr} : own_opens wF wF = (0 : Int32) := if_pos rfl
theorem d3_0 : decode prog_52_method_7_code 0 = .ok (.aload_n 0, 1) := by decide +kernel
theorem d3_1 : decode prog_52_method_7_code 1 = .ok (.getstatic 10, 3) := by decide +kernel
theorem d3_4 : decode prog_52_method_7_code 4 = .ok (.if_acmp .eq 7, 3) := by decide +kernel
theorem d3_11 : decode prog_52_method_7_code 11 = .ok (.iconst 0, 1) := by decide +kernel
theorem d3_12 : decode prog_52_method_7_code 12 = .ok (.ireturn, 1) := by decide +kernel
theorem d3_7 : decode prog_52_method_7_code 7 = .ok (.iconst 1, 1) := by decide +kernel
theorem d3_8 : decode prog_52_method_7_code 8 = .ok (.goto 4, 3) := by decide +kernel
theorem ef_rm3 (m : MethodId) (x0 : Addr) : entryFrame m #[(.ref x0)] 1 = mkF m 0 #[.val (.ref x0)] [] := by first | (simp [entryFrame, mkF, argsToLocals, Value.category]; done) | rfl
theorem pn_0 : plainName "com/example/lattice_sash/latticesash/OwnFileView$Type" = true := by first | (simp [plainName, overriddenIn]; done) | decide +kernel
def Q3 (Z : State) (a0 : Addr) (wD : Addr) (wA : Addr) (wF : Addr) (h0 : Heap) (n0 : Nat) (v : Option Value) (h : Heap) (L : List Loc) : Prop := v = some (.int (own_opens a0 wF)) ∧ Fr n0 L ∧ h = h0
set_option maxRecDepth 65536 in
set_option maxHeartbeats 40000000 in
theorem rm3 (l : Launch) (Z : State) (aw : Array Value) (hw : ∀ d ∈ tables_1, d.before aw Z = true) (ws : List Jvm.Cond) (a0 : Addr) (wD : Addr) (wA : Addr) (wF : Addr) (h0 : Heap) (n0 : Nat) (Z0 : n0 ≤ h0.size) (S_FOLDER : Sta Z h0 "com/example/lattice_sash/latticesash/OwnFileView$Type" "FOLDER" "Lcom/example/lattice_sash/latticesash/OwnFileView$Type;" (.ref wD)) (S_ARCHIVE : Sta Z h0 "com/example/lattice_sash/latticesash/OwnFileView$Type" "ARCHIVE" "Lcom/example/lattice_sash/latticesash/OwnFileView$Type;" (.ref wA)) (S_FILE : Sta Z h0 "com/example/lattice_sash/latticesash/OwnFileView$Type" "FILE" "Lcom/example/lattice_sash/latticesash/OwnFileView$Type;" (.ref wF)) :
    MetFree l (⟨"com/example/lattice_sash/latticesash/OwnFileView$Type", "opens", "()Z"⟩ : MethodName) (head1 (Jvm.Cond.code (⟨"com/example/lattice_sash/latticesash/OwnFileView$Type", "opens", "()Z"⟩ : MethodName) prog_52_method_7_code 1 (some .boolean) :: ws) ({ frames := 0, cells := 0, slots := 0, locals := 0 } : Room)) (fun a U => a = #[(.ref a0)] ∧ Z.Warmed39 U.vm ∧ U.heap = h0) (fun _ _ _ _ _ => True) (fun _ U oc U' => ∃ v L, oc = .returned v ∧ Q3 Z a0 wD wA wF h0 n0 v U'.heap L ∧ FrameEnd U oc U' L ({ frames := 0, cells := 0, slots := 0, locals := 0 } : Room).cells ({ frames := 0, cells := 0, slots := 0, locals := 0 } : Room).slots) := by
  refine MetFree.of_bodySF (plainFor_of_name pn_0) hisR ?_
  intro p e s m args below meth c s₁ Bd hml0 hP hK
  obtain ⟨rfl, hZ, hh⟩ := hP
  have hx := Bd.exec
  have hby := Bd.bytes
  have hml : c.maxLocals = 1 := hml0
  have hown : s.vm.findClass "com/example/lattice_sash/latticesash/OwnFileView$Type" = some m.cls := findClass_of_methodNamed Bd.named
  have hnm := (name_of_methodNamed Bd.named Bd.method).1
  have X0 : Stand p l e ({ frames := 0, cells := 0, slots := 0, locals := 0 } : Room) s m #[(.ref a0)] below meth c s₁ [] 0 0 := Stand.of_body Bd
  have e0 : s₁.heap = h0 := by rw [← hh, Bd.state]; rfl
  have N0 := Fr.nil n0
  have pre0 : ∀ t, Steps p.tables e below (s₁.setTop (mkF m 0 #[.val (.ref a0)] [])) t → Steps p.tables e below (s₁.setTop (entryFrame m #[(.ref a0)] 1)) t := fun t k => castTop (ef_rm3 m a0) k
  obtain ⟨T1, X1, e1, st1⟩ := getS2 X0 hx hZ hown (host := "") (Or.inl (hw _ (List.mem_of_getElem? (i := 4) rfl))) Via.refl e0 S_FILE (g := (mkF m 1 #[.val (.ref a0)] [(.ref a0)])) rfl (hb hby d3_1)
  have pre2 : ∀ t, Steps p.tables e below (T1.setTop (mkF m 4 #[.val (.ref a0)] [(.ref wF), (.ref a0)])) t → Steps p.tables e below (s₁.setTop (entryFrame m #[(.ref a0)] 1)) t := fun t k => by
    refine pre0 t ?_
    show Steps p.tables e below (s₁.setTop (mkF m 0 #[.val (.ref a0)] [])) _
    refine XS.aloadN X0.here hx rfl (hb hby d3_0) rfl rfl ?_
    show Steps p.tables e below (s₁.setTop (mkF m 1 #[.val (.ref a0)] [(.ref a0)])) _
    refine st1 _ ?_
    exact k
  by_cases hc3 : a0 = wF
  · obtain ⟨fs, hr, hrun, hended, hW, hsame⟩ := X1.leave (v := some (.int (0 : Int32))) (fun h => by rw [Bd.returns] at h; cases h)
    refine ⟨_, _, pre2 _ ?_, hrun, hended, _, _, rfl, ?_, ⟨_, rfl⟩, hW, hsame.mono (by decide) (by decide)⟩
    · show Steps p.tables e below (T1.setTop (mkF m 4 #[.val (.ref a0)] [(.ref wF), (.ref a0)])) _
      refine Jvm.RoadKit.acmp (g := (mkF m 4 #[.val (.ref a0)] [(.ref wF), (.ref a0)])) X1 hx rfl rfl rfl (pc0 := 4) (pc' := 11) (same := true) rfl (hb hby d3_4) rfl (decide_eq_true (congrArg Value.ref hc3)) (by decide) (by decide) ?_
      show Steps p.tables e below (T1.setTop (mkF m 11 #[.val (.ref a0)] [])) _
      refine XS.iconst X1.here hx rfl (hb hby d3_11) ?_
      show Steps p.tables e below (T1.setTop (mkF m 12 #[.val (.ref a0)] [(.int (0 : Int32))])) _
      exact retN X1 hx (t := .boolean) Bd.returns (by simp) (hb hby d3_12) hr
    · show Q3 Z a0 wD wA wF h0 n0 _ T1.heap _
      rw [e1]
      exact ⟨by rw [own_opens, if_pos hc3], N0, rfl⟩
  · obtain ⟨fs, hr, hrun, hended, hW, hsame⟩ := X1.leave (v := some (.int (1 : Int32))) (fun h => by rw [Bd.returns] at h; cases h)
    refine ⟨_, _, pre2 _ ?_, hrun, hended, _, _, rfl, ?_, ⟨_, rfl⟩, hW, hsame.mono (by decide) (by decide)⟩
    · show Steps p.tables e below (T1.setTop (mkF m 4 #[.val (.ref a0)] [(.ref wF), (.ref a0)])) _
      refine Jvm.RoadKit.acmp (g := (mkF m 4 #[.val (.ref a0)] [(.ref wF), (.ref a0)])) X1 hx rfl rfl rfl (pc0 := 4) (pc' := 7) (same := false) rfl (hb hby d3_4) rfl (decide_eq_false fun q => hc3 (Value.ref.inj q)) (by decide) (by decide) ?_
      show Steps p.tables e below (T1.setTop (mkF m 7 #[.val (.ref a0)] [])) _
      refine XS.iconst X1.here hx rfl (hb hby d3_7) ?_
      show Steps p.tables e below (T1.setTop (mkF m 8 #[.val (.ref a0)] [(.int (1 : Int32))])) _
      refine XS.goto X1.here hx rfl (pc0 := 8) (pc' := 12) rfl (hb hby d3_8) (by decide) (by decide) ?_
      show Steps p.tables e below (T1.setTop (mkF m 12 #[.val (.ref a0)] [(.int (1 : Int32))])) _
      exact retN X1 hx (t := .boolean) Bd.returns (by simp) (hb hby d3_12) hr
    · show Q3 Z a0 wD wA wF h0 n0 _ T1.heap _
      rw [e1]
      exact ⟨by rw [own_opens, if_neg hc3], N0, rfl⟩
theorem d1_0 : decode prog_52_method_4_code 0 = .ok (.iload_n 0, 1) := by decide +kernel
theorem d1_1 : decode prog_52_method_4_code 1 = .ok (.ifCond .eq 7, 3) := by decide +kernel
theorem d1_8 : decode prog_52_method_4_code 8 = .ok (.iload_n 1, 1) := by decide +kernel
theorem d1_9 : decode prog_52_method_4_code 9 = .ok (.ifCond .eq 9, 3) := by decide +kernel
theorem d1_18 : decode prog_52_method_4_code 18 = .ok (.getstatic 10, 3) := by decide +kernel
theorem d1_21 : decode prog_52_method_4_code 21 = .ok (.areturn, 1) := by decide +kernel
theorem d1_12 : decode prog_52_method_4_code 12 = .ok (.getstatic 7, 3) := by decide +kernel
theorem d1_15 : decode prog_52_method_4_code 15 = .ok (.goto 6, 3) := by decide +kernel
theorem d1_4 : decode prog_52_method_4_code 4 = .ok (.getstatic 3, 3) := by decide +kernel
theorem d1_7 : decode prog_52_method_4_code 7 = .ok (.areturn, 1) := by decide +kernel
theorem ef_rm1 (m : MethodId) (x0 : Int32) (x1 : Int32) : entryFrame m #[(.int x0), (.int x1)] 2 = mkF m 0 #[.val (.int x0), .val (.int x1)] [] := by first | (simp [entryFrame, mkF, argsToLocals, Value.category]; done) | rfl
def Q1 (Z : State) (p0 : Int32) (p1 : Int32) (wD : Addr) (wA : Addr) (wF : Addr) (h0 : Heap) (n0 : Nat) (v : Option Value) (h : Heap) (L : List Loc) : Prop := v = some (.ref (own_of p0 p1 wD wA wF)) ∧ Fr n0 L ∧ h = h0
set_option maxRecDepth 65536 in
set_option maxHeartbeats 40000000 in
theorem rm1 (l : Launch) (Z : State) (aw : Array Value) (hw : ∀ d ∈ tables_1, d.before aw Z = true) (ws : List Jvm.Cond) (p0 : Int32) (p1 : Int32) (wD : Addr) (wA : Addr) (wF : Addr) (h0 : Heap) (n0 : Nat) (Z0 : n0 ≤ h0.size) (S_FOLDER : Sta Z h0 "com/example/lattice_sash/latticesash/OwnFileView$Type" "FOLDER" "Lcom/example/lattice_sash/latticesash/OwnFileView$Type;" (.ref wD)) (S_ARCHIVE : Sta Z h0 "com/example/lattice_sash/latticesash/OwnFileView$Type" "ARCHIVE" "Lcom/example/lattice_sash/latticesash/OwnFileView$Type;" (.ref wA)) (S_FILE : Sta Z h0 "com/example/lattice_sash/latticesash/OwnFileView$Type" "FILE" "Lcom/example/lattice_sash/latticesash/OwnFileView$Type;" (.ref wF)) :
    MetFree l (⟨"com/example/lattice_sash/latticesash/OwnFileView$Type", "of", "(ZZ)Lcom/example/lattice_sash/latticesash/OwnFileView$Type;"⟩ : MethodName) (head1 (Jvm.Cond.code (⟨"com/example/lattice_sash/latticesash/OwnFileView$Type", "of", "(ZZ)Lcom/example/lattice_sash/latticesash/OwnFileView$Type;"⟩ : MethodName) prog_52_method_4_code 2 (some (.object "com/example/lattice_sash/latticesash/OwnFileView$Type")) :: ws) ({ frames := 0, cells := 0, slots := 0, locals := 0 } : Room)) (fun a U => a = #[(.int p0), (.int p1)] ∧ Z.Warmed39 U.vm ∧ U.heap = h0) (fun _ _ _ _ _ => True) (fun _ U oc U' => ∃ v L, oc = .returned v ∧ Q1 Z p0 p1 wD wA wF h0 n0 v U'.heap L ∧ FrameEnd U oc U' L ({ frames := 0, cells := 0, slots := 0, locals := 0 } : Room).cells ({ frames := 0, cells := 0, slots := 0, locals := 0 } : Room).slots) := by
  refine MetFree.of_bodySF (plainFor_of_name pn_0) hisR ?_
  intro p e s m args below meth c s₁ Bd hml0 hP hK
  obtain ⟨rfl, hZ, hh⟩ := hP
  have hx := Bd.exec
  have hby := Bd.bytes
  have hml : c.maxLocals = 2 := hml0
  have hown : s.vm.findClass "com/example/lattice_sash/latticesash/OwnFileView$Type" = some m.cls := findClass_of_methodNamed Bd.named
  have hnm := (name_of_methodNamed Bd.named Bd.method).1
  have X0 : Stand p l e ({ frames := 0, cells := 0, slots := 0, locals := 0 } : Room) s m #[(.int p0), (.int p1)] below meth c s₁ [] 0 0 := Stand.of_body Bd
  have e0 : s₁.heap = h0 := by rw [← hh, Bd.state]; rfl
  have N0 := Fr.nil n0
  have pre0 : ∀ t, Steps p.tables e below (s₁.setTop (mkF m 0 #[.val (.int p0), .val (.int p1)] [])) t → Steps p.tables e below (s₁.setTop (entryFrame m #[(.int p0), (.int p1)] 2)) t := fun t k => castTop (ef_rm1 m p0 p1) k
  have pre1 : ∀ t, Steps p.tables e below (s₁.setTop (mkF m 1 #[.val (.int p0), .val (.int p1)] [(.int p0)])) t → Steps p.tables e below (s₁.setTop (entryFrame m #[(.int p0), (.int p1)] 2)) t := fun t k => by
    refine pre0 t ?_
    show Steps p.tables e below (s₁.setTop (mkF m 0 #[.val (.int p0), .val (.int p1)] [])) _
    refine XS.iloadN X0.here hx rfl (hb hby d1_0) rfl ?_
    exact k
  by_cases hc2 : p0 = (0 : Int32)
  · have pre3 : ∀ t, Steps p.tables e below (s₁.setTop (mkF m 9 #[.val (.int p0), .val (.int p1)] [(.int p1)])) t → Steps p.tables e below (s₁.setTop (entryFrame m #[(.int p0), (.int p1)] 2)) t := fun t k => by
      refine pre1 t ?_
      show Steps p.tables e below (s₁.setTop (mkF m 1 #[.val (.int p0), .val (.int p1)] [(.int p0)])) _
      refine XS.ifYes X0.here hx rfl (pc0 := 1) (pc' := 8) rfl (hb hby d1_1) rfl ((if0 _ _).trans (teq hc2).1) (by decide) (by decide) ?_
      show Steps p.tables e below (s₁.setTop (mkF m 8 #[.val (.int p0), .val (.int p1)] [])) _
      refine XS.iloadN X0.here hx rfl (hb hby d1_8) rfl ?_
      exact k
    by_cases hc4 : p1 = (0 : Int32)
    · obtain ⟨T5, X5, e5, st5⟩ := getS2 X0 hx hZ hown (host := "") (Or.inl (hw _ (List.mem_of_getElem? (i := 4) rfl))) Via.refl e0 S_FILE (g := (mkF m 18 #[.val (.int p0), .val (.int p1)] [])) rfl (hb hby d1_18)
      obtain ⟨fs, hr, hrun, hended, hW, hsame⟩ := X5.leave (v := some (.ref wF)) (fun h => by rw [Bd.returns] at h; cases h)
      refine ⟨_, _, pre3 _ ?_, hrun, hended, _, _, rfl, ?_, ⟨_, rfl⟩, hW, hsame.mono (by decide) (by decide)⟩
      · show Steps p.tables e below (s₁.setTop (mkF m 9 #[.val (.int p0), .val (.int p1)] [(.int p1)])) _
        refine XS.ifYes X0.here hx rfl (pc0 := 9) (pc' := 18) rfl (hb hby d1_9) rfl ((if0 _ _).trans (teq hc4).1) (by decide) (by decide) ?_
        show Steps p.tables e below (s₁.setTop (mkF m 18 #[.val (.int p0), .val (.int p1)] [])) _
        refine st5 _ ?_
        show Steps p.tables e below (T5.setTop (mkF m 21 #[.val (.int p0), .val (.int p1)] [(.ref wF)])) _
        jvm_step X5.here [X5.here.top, hx, (hb hby d1_21), X5.method', Bd.returns, Value.isRef, FieldType.isReference]
        first | (intro acts; rw [hr _ acts rfl rfl rfl]) | rw [hr _ _ rfl rfl rfl]
        exact Steps.refl _
      · show Q1 Z p0 p1 wD wA wF h0 n0 _ T5.heap _
        rw [e5]
        exact ⟨by rw [own_of, if_pos hc2, if_pos hc4], N0, rfl⟩
    · obtain ⟨T6, X6, e6, st6⟩ := getS2 X0 hx hZ hown (host := "") (Or.inl (hw _ (List.mem_of_getElem? (i := 45) rfl))) Via.refl e0 S_ARCHIVE (g := (mkF m 12 #[.val (.int p0), .val (.int p1)] [])) rfl (hb hby d1_12)
      obtain ⟨fs, hr, hrun, hended, hW, hsame⟩ := X6.leave (v := some (.ref wA)) (fun h => by rw [Bd.returns] at h; cases h)
      refine ⟨_, _, pre3 _ ?_, hrun, hended, _, _, rfl, ?_, ⟨_, rfl⟩, hW, hsame.mono (by decide) (by decide)⟩
      · show Steps p.tables e below (s₁.setTop (mkF m 9 #[.val (.int p0), .val (.int p1)] [(.int p1)])) _
        refine XS.ifNo X0.here hx rfl (hb hby d1_9) rfl ((if0 _ _).trans (feq hc4).1) ?_
        show Steps p.tables e below (s₁.setTop (mkF m 12 #[.val (.int p0), .val (.int p1)] [])) _
        refine st6 _ ?_
        show Steps p.tables e below (T6.setTop (mkF m 15 #[.val (.int p0), .val (.int p1)] [(.ref wA)])) _
        refine XS.goto X6.here hx rfl (pc0 := 15) (pc' := 21) rfl (hb hby d1_15) (by decide) (by decide) ?_
        show Steps p.tables e below (T6.setTop (mkF m 21 #[.val (.int p0), .val (.int p1)] [(.ref wA)])) _
        jvm_step X6.here [X6.here.top, hx, (hb hby d1_21), X6.method', Bd.returns, Value.isRef, FieldType.isReference]
        first | (intro acts; rw [hr _ acts rfl rfl rfl]) | rw [hr _ _ rfl rfl rfl]
        exact Steps.refl _
      · show Q1 Z p0 p1 wD wA wF h0 n0 _ T6.heap _
        rw [e6]
        exact ⟨by rw [own_of, if_pos hc2, if_neg hc4], N0, rfl⟩
  · obtain ⟨T7, X7, e7, st7⟩ := getS2 X0 hx hZ hown (host := "") (Or.inl (hw _ (List.mem_of_getElem? (i := 41) rfl))) Via.refl e0 S_FOLDER (g := (mkF m 4 #[.val (.int p0), .val (.int p1)] [])) rfl (hb hby d1_4)
    obtain ⟨fs, hr, hrun, hended, hW, hsame⟩ := X7.leave (v := some (.ref wD)) (fun h => by rw [Bd.returns] at h; cases h)
    refine ⟨_, _, pre1 _ ?_, hrun, hended, _, _, rfl, ?_, ⟨_, rfl⟩, hW, hsame.mono (by decide) (by decide)⟩
    · show Steps p.tables e below (s₁.setTop (mkF m 1 #[.val (.int p0), .val (.int p1)] [(.int p0)])) _
      refine XS.ifNo X0.here hx rfl (hb hby d1_1) rfl ((if0 _ _).trans (feq hc2).1) ?_
      show Steps p.tables e below (s₁.setTop (mkF m 4 #[.val (.int p0), .val (.int p1)] [])) _
      refine st7 _ ?_
      show Steps p.tables e below (T7.setTop (mkF m 7 #[.val (.int p0), .val (.int p1)] [(.ref wD)])) _
      jvm_step X7.here [X7.here.top, hx, (hb hby d1_7), X7.method', Bd.returns, Value.isRef, FieldType.isReference]
      first | (intro acts; rw [hr _ acts rfl rfl rfl]) | rw [hr _ _ rfl rfl rfl]
      exact Steps.refl _
    · show Q1 Z p0 p1 wD wA wF h0 n0 _ T7.heap _
      rw [e7]
      exact ⟨by rw [own_of, if_neg hc2], N0, rfl⟩
theorem d2_0 : decode prog_52_method_5_code 0 = .ok (.aload_n 0, 1) := by decide +kernel
theorem d2_1 : decode prog_52_method_5_code 1 = .ok (.getfield 32, 3) := by decide +kernel
theorem d2_4 : decode prog_52_method_5_code 4 = .ok (.areturn, 1) := by decide +kernel
theorem ef_rm2 (m : MethodId) (x0 : Addr) : entryFrame m #[(.ref x0)] 1 = mkF m 0 #[.val (.ref x0)] [] := by first | (simp [entryFrame, mkF, argsToLocals, Value.category]; done) | rfl
def Q2 (Z : State) (a0 : Addr) (sy : Addr) (h0 : Heap) (n0 : Nat) (v : Option Value) (h : Heap) (L : List Loc) : Prop := v = some (.ref sy) ∧ Fr n0 L ∧ h = h0
set_option maxRecDepth 65536 in
set_option maxHeartbeats 40000000 in
theorem rm2 (l : Launch) (Z : State) (aw : Array Value) (hw : ∀ d ∈ tables_1, d.before aw Z = true) (ws : List Jvm.Cond) (a0 : Addr) (sy : Addr) (h0 : Heap) (n0 : Nat) (Z0 : n0 ≤ h0.size) (F : Fld Z h0 a0 "com/example/lattice_sash/latticesash/OwnFileView$Type" "description" "Ljava/lang/String;" (.ref sy)) :
    MetFree l (⟨"com/example/lattice_sash/latticesash/OwnFileView$Type", "description", "()Ljava/lang/String;"⟩ : MethodName) (head1 (Jvm.Cond.code (⟨"com/example/lattice_sash/latticesash/OwnFileView$Type", "description", "()Ljava/lang/String;"⟩ : MethodName) prog_52_method_5_code 1 (some (.object "java/lang/String")) :: ws) ({ frames := 0, cells := 0, slots := 0, locals := 0 } : Room)) (fun a U => a = #[(.ref a0)] ∧ Z.Warmed39 U.vm ∧ U.heap = h0) (fun _ _ _ _ _ => True) (fun _ U oc U' => ∃ v L, oc = .returned v ∧ Q2 Z a0 sy h0 n0 v U'.heap L ∧ FrameEnd U oc U' L ({ frames := 0, cells := 0, slots := 0, locals := 0 } : Room).cells ({ frames := 0, cells := 0, slots := 0, locals := 0 } : Room).slots) := by
  refine MetFree.of_bodySF (plainFor_of_name pn_0) hisR ?_
  intro p e s m args below meth c s₁ Bd hml0 hP hK
  obtain ⟨rfl, hZ, hh⟩ := hP
  have hx := Bd.exec
  have hby := Bd.bytes
  have hml : c.maxLocals = 1 := hml0
  have hown : s.vm.findClass "com/example/lattice_sash/latticesash/OwnFileView$Type" = some m.cls := findClass_of_methodNamed Bd.named
  have hnm := (name_of_methodNamed Bd.named Bd.method).1
  have X0 : Stand p l e ({ frames := 0, cells := 0, slots := 0, locals := 0 } : Room) s m #[(.ref a0)] below meth c s₁ [] 0 0 := Stand.of_body Bd
  have e0 : s₁.heap = h0 := by rw [← hh, Bd.state]; rfl
  have N0 := Fr.nil n0
  have pre0 : ∀ t, Steps p.tables e below (s₁.setTop (mkF m 0 #[.val (.ref a0)] [])) t → Steps p.tables e below (s₁.setTop (entryFrame m #[(.ref a0)] 1)) t := fun t k => castTop (ef_rm2 m a0) k
  obtain ⟨T1, X1, e1, st1⟩ := getF X0 hx hZ hown (host := "") (Or.inl (hw _ (List.mem_of_getElem? (i := 11) rfl))) Via.refl e0 F (g := (mkF m 1 #[.val (.ref a0)] [(.ref a0)])) rfl rfl (hb hby d2_1)
  obtain ⟨fs, hr, hrun, hended, hW, hsame⟩ := X1.leave (v := some (.ref sy)) (fun h => by rw [Bd.returns] at h; cases h)
  refine ⟨_, _, pre0 _ ?_, hrun, hended, _, _, rfl, ?_, ⟨_, rfl⟩, hW, hsame.mono (by decide) (by decide)⟩
  · show Steps p.tables e below (s₁.setTop (mkF m 0 #[.val (.ref a0)] [])) _
    refine XS.aloadN X0.here hx rfl (hb hby d2_0) rfl rfl ?_
    show Steps p.tables e below (s₁.setTop (mkF m 1 #[.val (.ref a0)] [(.ref a0)])) _
    refine st1 _ ?_
    show Steps p.tables e below (T1.setTop (mkF m 4 #[.val (.ref a0)] [(.ref sy)])) _
    jvm_step X1.here [X1.here.top, hx, (hb hby d2_4), X1.method', Bd.returns, Value.isRef, FieldType.isReference]
    first | (intro acts; rw [hr _ acts rfl rfl rfl]) | rw [hr _ _ rfl rfl rfl]
    exact Steps.refl _
  · show Q2 Z a0 sy h0 n0 _ T1.heap _
    rw [e1]
    exact ⟨rfl, N0, rfl⟩
theorem d5_0 : decode jdk_43_method_13_code 0 = .ok (.aload_n 0, 1) := by decide +kernel
theorem d5_1 : decode jdk_43_method_13_code 1 = .ok (.arraylength, 1) := by decide +kernel
theorem d5_2 : decode jdk_43_method_13_code 2 = .ok (.aload_n 1, 1) := by decide +kernel
theorem d5_3 : decode jdk_43_method_13_code 3 = .ok (.arraylength, 1) := by decide +kernel
theorem d5_4 : decode jdk_43_method_13_code 4 = .ok (.if_icmp .ne 30, 3) := by decide +kernel
theorem d5_7 : decode jdk_43_method_13_code 7 = .ok (.iconst 0, 1) := by decide +kernel
theorem d5_8 : decode jdk_43_method_13_code 8 = .ok (.istore_n 2, 1) := by decide +kernel
theorem d5_9 : decode jdk_43_method_13_code 9 = .ok (.iload_n 2, 1) := by decide +kernel
theorem d5_10 : decode jdk_43_method_13_code 10 = .ok (.aload_n 0, 1) := by decide +kernel
theorem d5_11 : decode jdk_43_method_13_code 11 = .ok (.arraylength, 1) := by decide +kernel
theorem d5_12 : decode jdk_43_method_13_code 12 = .ok (.if_icmp .ge 20, 3) := by decide +kernel
theorem d5_15 : decode jdk_43_method_13_code 15 = .ok (.aload_n 0, 1) := by decide +kernel
theorem d5_16 : decode jdk_43_method_13_code 16 = .ok (.iload_n 2, 1) := by decide +kernel
theorem d5_17 : decode jdk_43_method_13_code 17 = .ok (.baload, 1) := by decide +kernel
theorem d5_18 : decode jdk_43_method_13_code 18 = .ok (.aload_n 1, 1) := by decide +kernel
theorem d5_19 : decode jdk_43_method_13_code 19 = .ok (.iload_n 2, 1) := by decide +kernel
theorem d5_20 : decode jdk_43_method_13_code 20 = .ok (.baload, 1) := by decide +kernel
theorem d5_21 : decode jdk_43_method_13_code 21 = .ok (.if_icmp .eq 5, 3) := by decide +kernel
theorem d5_26 : decode jdk_43_method_13_code 26 = .ok (.iinc 2 1, 3) := by decide +kernel
theorem d5_29 : decode jdk_43_method_13_code 29 = .ok (.goto (-20), 3) := by decide +kernel
theorem d5_32 : decode jdk_43_method_13_code 32 = .ok (.iconst 1, 1) := by decide +kernel
theorem d5_33 : decode jdk_43_method_13_code 33 = .ok (.ireturn, 1) := by decide +kernel
theorem ef_rml4 (m : MethodId) (x0 : Addr) (x1 : Addr) : entryFrame m #[(.ref x0), (.ref x1)] 3 = mkF m 0 #[.val (.ref x0), .val (.ref x1), .unset] [] := by first | (simp [entryFrame, mkF, argsToLocals, Value.category]; done) | rfl
theorem pn_1 : plainName "java/lang/StringLatin1" = true := by first | (simp [plainName, overriddenIn]; done) | decide +kernel
def Q_rml4 (Z : State) (b0 : Addr) (b1 : Addr) (kk0 : ClassId) (kk1 : ClassId) (c0 : Int32) (c1 : Int32) (c2 : Int32) (c3 : Int32) (h0 : Heap) (n0 : Nat) (v : Option Value) (h : Heap) (L : List Loc) : Prop := v = some (.int (1)) ∧ Fr n0 L ∧ h = h0
set_option maxRecDepth 65536 in
set_option maxHeartbeats 40000000 in
theorem rml4 (l : Launch) (Z : State) (aw : Array Value) (hw : ∀ d ∈ tables_1, d.before aw Z = true) (ws : List Jvm.Cond) (b0 : Addr) (b1 : Addr) (kk0 : ClassId) (kk1 : ClassId) (c0 : Int32) (c1 : Int32) (c2 : Int32) (c3 : Int32) (h0 : Heap) (n0 : Nat) (Z0 : n0 ≤ h0.size) (A0 : Arv Z h0 b0 kk0 .byte (4 : Int32) [(.int c0), (.int c1), (.int c2), (.int c3)] (.int (0 : Int32))) (A1 : Arv Z h0 b1 kk1 .byte (4 : Int32) [(.int c0), (.int c1), (.int c2), (.int c3)] (.int (0 : Int32))) :
    MetFree l (⟨"java/lang/StringLatin1", "equals", "([B[B)Z"⟩ : MethodName) (head1 (Jvm.Cond.code (⟨"java/lang/StringLatin1", "equals", "([B[B)Z"⟩ : MethodName) jdk_43_method_13_code 3 (some .boolean) :: ws) ({ frames := 0, cells := 0, slots := 0, locals := 0 } : Room)) (fun a U => a = #[(.ref b0), (.ref b1)] ∧ Z.Warmed39 U.vm ∧ U.heap = h0) (fun _ _ _ _ _ => True) (fun _ U oc U' => ∃ v L, oc = .returned v ∧ Q_rml4 Z b0 b1 kk0 kk1 c0 c1 c2 c3 h0 n0 v U'.heap L ∧ FrameEnd U oc U' L ({ frames := 0, cells := 0, slots := 0, locals := 0 } : Room).cells ({ frames := 0, cells := 0, slots := 0, locals := 0 } : Room).slots) := by
  refine MetFree.of_bodySF (plainFor_of_name pn_1) hisR ?_
  intro p e s m args below meth c s₁ Bd hml0 hP hK
  obtain ⟨rfl, hZ, hh⟩ := hP
  have hx := Bd.exec
  have hby := Bd.bytes
  have hml : c.maxLocals = 3 := hml0
  have hown : s.vm.findClass "java/lang/StringLatin1" = some m.cls := findClass_of_methodNamed Bd.named
  have hnm := (name_of_methodNamed Bd.named Bd.method).1
  have X0 : Stand p l e ({ frames := 0, cells := 0, slots := 0, locals := 0 } : Room) s m #[(.ref b0), (.ref b1)] below meth c s₁ [] 0 0 := Stand.of_body Bd
  have e0 : s₁.heap = h0 := by rw [← hh, Bd.state]; rfl
  have N0 := Fr.nil n0
  have pre0 : ∀ t, Steps p.tables e below (s₁.setTop (mkF m 0 #[.val (.ref b0), .val (.ref b1), .unset] [])) t → Steps p.tables e below (s₁.setTop (entryFrame m #[(.ref b0), (.ref b1)] 3)) t := fun t k => castTop (ef_rml4 m b0 b1) k
  obtain ⟨cl1, Ar1, q1, S1, M1, H1, G1⟩ := id A0
  obtain ⟨cl2, Ar2, q2, S2, M2, H2, G2⟩ := id A1
  obtain ⟨cl3, Ar3, q3, S3, M3, H3, G3⟩ := id A0
  obtain ⟨cl4, Ar4, q4, S4, M4, H4, G4⟩ := id A0
  obtain ⟨cl5, Ar5, q5, S5, M5, H5, G5⟩ := id A1
  obtain ⟨cl6, Ar6, q6, S6, M6, H6, G6⟩ := id A0
  obtain ⟨cl7, Ar7, q7, S7, M7, H7, G7⟩ := id A0
  obtain ⟨cl8, Ar8, q8, S8, M8, H8, G8⟩ := id A1
  obtain ⟨cl9, Ar9, q9, S9, M9, H9, G9⟩ := id A0
  obtain ⟨cl10, Ar10, q10, S10, M10, H10, G10⟩ := id A0
  obtain ⟨cl11, Ar11, q11, S11, M11, H11, G11⟩ := id A1
  obtain ⟨cl12, Ar12, q12, S12, M12, H12, G12⟩ := id A0
  obtain ⟨cl13, Ar13, q13, S13, M13, H13, G13⟩ := id A0
  obtain ⟨cl14, Ar14, q14, S14, M14, H14, G14⟩ := id A1
  obtain ⟨cl15, Ar15, q15, S15, M15, H15, G15⟩ := id A0
  obtain ⟨fs, hr, hrun, hended, hW, hsame⟩ := X0.leave (v := some (.int (1 : Int32))) (fun h => by rw [Bd.returns] at h; cases h)
  refine ⟨_, _, pre0 _ ?_, hrun, hended, _, _, rfl, ?_, ⟨_, rfl⟩, hW, hsame.mono (by decide) (by decide)⟩
  · show Steps p.tables e below (s₁.setTop (mkF m 0 #[.val (.ref b0), .val (.ref b1), .unset] [])) _
    refine XS.aloadN X0.here hx rfl (hb hby d5_0) rfl rfl ?_
    show Steps p.tables e below (s₁.setTop (mkF m 1 #[.val (.ref b0), .val (.ref b1), .unset] [(.ref b0)])) _
    refine X0.arraylength hx (by rw [e0]; exact Ar1.1) (State.isArrayOf_alike hZ.alike Ar1.2.1) (g := (mkF m 1 #[.val (.ref b0), .val (.ref b1), .unset] [(.ref b0)])) rfl rfl (hb hby d5_1) _ ?_
    rw [len_of S1 M1]
    show Steps p.tables e below (s₁.setTop (mkF m 2 #[.val (.ref b0), .val (.ref b1), .unset] [(.int (4 : Int32))])) _
    refine XS.aloadN X0.here hx rfl (hb hby d5_2) rfl rfl ?_
    show Steps p.tables e below (s₁.setTop (mkF m 3 #[.val (.ref b0), .val (.ref b1), .unset] [(.ref b1), (.int (4 : Int32))])) _
    refine X0.arraylength hx (by rw [e0]; exact Ar2.1) (State.isArrayOf_alike hZ.alike Ar2.2.1) (g := (mkF m 3 #[.val (.ref b0), .val (.ref b1), .unset] [(.ref b1), (.int (4 : Int32))])) rfl rfl (hb hby d5_3) _ ?_
    rw [len_of S2 M2]
    show Steps p.tables e below (s₁.setTop (mkF m 4 #[.val (.ref b0), .val (.ref b1), .unset] [(.int (4 : Int32)), (.int (4 : Int32))])) _
    refine XS.icmpNo X0.here hx rfl (hb hby d5_4) rfl (teq (by decide : (4 : Int32) = (4 : Int32))).2 ?_
    show Steps p.tables e below (s₁.setTop (mkF m 7 #[.val (.ref b0), .val (.ref b1), .unset] [])) _
    refine XS.iconst X0.here hx rfl (hb hby d5_7) ?_
    show Steps p.tables e below (s₁.setTop (mkF m 8 #[.val (.ref b0), .val (.ref b1), .unset] [(.int (0 : Int32))])) _
    refine XS.istoreN X0.here hx rfl (hb hby d5_8) rfl (l' := #[.val (.ref b0), .val (.ref b1), .val (.int (0 : Int32))]) rfl ?_
    show Steps p.tables e below (s₁.setTop (mkF m 9 #[.val (.ref b0), .val (.ref b1), .val (.int (0 : Int32))] [])) _
    refine XS.iloadN X0.here hx rfl (hb hby d5_9) rfl ?_
    show Steps p.tables e below (s₁.setTop (mkF m 10 #[.val (.ref b0), .val (.ref b1), .val (.int (0 : Int32))] [(.int (0 : Int32))])) _
    refine XS.aloadN X0.here hx rfl (hb hby d5_10) rfl rfl ?_
    show Steps p.tables e below (s₁.setTop (mkF m 11 #[.val (.ref b0), .val (.ref b1), .val (.int (0 : Int32))] [(.ref b0), (.int (0 : Int32))])) _
    refine X0.arraylength hx (by rw [e0]; exact Ar3.1) (State.isArrayOf_alike hZ.alike Ar3.2.1) (g := (mkF m 11 #[.val (.ref b0), .val (.ref b1), .val (.int (0 : Int32))] [(.ref b0), (.int (0 : Int32))])) rfl rfl (hb hby d5_11) _ ?_
    rw [len_of S3 M3]
    show Steps p.tables e below (s₁.setTop (mkF m 12 #[.val (.ref b0), .val (.ref b1), .val (.int (0 : Int32))] [(.int (4 : Int32)), (.int (0 : Int32))])) _
    refine XS.icmpNo X0.here hx rfl (hb hby d5_12) rfl (tlt (by decide : (0 : Int32) < (4 : Int32))).2.1 ?_
    show Steps p.tables e below (s₁.setTop (mkF m 15 #[.val (.ref b0), .val (.ref b1), .val (.int (0 : Int32))] [])) _
    refine XS.aloadN X0.here hx rfl (hb hby d5_15) rfl rfl ?_
    show Steps p.tables e below (s₁.setTop (mkF m 16 #[.val (.ref b0), .val (.ref b1), .val (.int (0 : Int32))] [(.ref b0)])) _
    refine XS.iloadN X0.here hx rfl (hb hby d5_16) rfl ?_
    show Steps p.tables e below (s₁.setTop (mkF m 17 #[.val (.ref b0), .val (.ref b1), .val (.int (0 : Int32))] [(.int (0 : Int32)), (.ref b0)])) _
    have hin4 : ¬ ((0 : Int32) < 0 ∨ cl4.slots.size ≤ ((0 : Int32)).toNatClampNeg) := (inb_of S4 ⟨by decide, by decide⟩)
    refine X0.baloadBytes hx (j := (0 : Int32)) (v := (.int c0)) (by rw [e0]; exact Ar4.1) (State.isArrayOf_alike hZ.alike Ar4.2.1) Ar4.2.2 hin4 (H4.at hin4 rfl) (g := (mkF m 17 #[.val (.ref b0), .val (.ref b1), .val (.int (0 : Int32))] [(.int (0 : Int32)), (.ref b0)])) rfl rfl (hb hby d5_17) _ ?_
    show Steps p.tables e below (s₁.setTop (mkF m 18 #[.val (.ref b0), .val (.ref b1), .val (.int (0 : Int32))] [(.int c0)])) _
    refine XS.aloadN X0.here hx rfl (hb hby d5_18) rfl rfl ?_
    show Steps p.tables e below (s₁.setTop (mkF m 19 #[.val (.ref b0), .val (.ref b1), .val (.int (0 : Int32))] [(.ref b1), (.int c0)])) _
    refine XS.iloadN X0.here hx rfl (hb hby d5_19) rfl ?_
    show Steps p.tables e below (s₁.setTop (mkF m 20 #[.val (.ref b0), .val (.ref b1), .val (.int (0 : Int32))] [(.int (0 : Int32)), (.ref b1), (.int c0)])) _
    have hin5 : ¬ ((0 : Int32) < 0 ∨ cl5.slots.size ≤ ((0 : Int32)).toNatClampNeg) := (inb_of S5 ⟨by decide, by decide⟩)
    refine X0.baloadBytes hx (j := (0 : Int32)) (v := (.int c0)) (by rw [e0]; exact Ar5.1) (State.isArrayOf_alike hZ.alike Ar5.2.1) Ar5.2.2 hin5 (H5.at hin5 rfl) (g := (mkF m 20 #[.val (.ref b0), .val (.ref b1), .val (.int (0 : Int32))] [(.int (0 : Int32)), (.ref b1), (.int c0)])) rfl rfl (hb hby d5_20) _ ?_
    show Steps p.tables e below (s₁.setTop (mkF m 21 #[.val (.ref b0), .val (.ref b1), .val (.int (0 : Int32))] [(.int c0), (.int c0)])) _
    refine XS.icmpYes X0.here hx rfl (pc0 := 21) (pc' := 26) rfl (hb hby d5_21) rfl (teq (rfl : c0 = c0)).1 (by decide) (by decide) ?_
    show Steps p.tables e below (s₁.setTop (mkF m 26 #[.val (.ref b0), .val (.ref b1), .val (.int (0 : Int32))] [])) _
    refine XS.iinc X0.here hx rfl (hb hby d5_26) rfl (l' := #[.val (.ref b0), .val (.ref b1), .val (.int (1 : Int32))]) rfl ?_
    show Steps p.tables e below (s₁.setTop (mkF m 29 #[.val (.ref b0), .val (.ref b1), .val (.int (1 : Int32))] [])) _
    refine XS.goto X0.here hx rfl (pc0 := 29) (pc' := 9) rfl (hb hby d5_29) (by decide) (by decide) ?_
    show Steps p.tables e below (s₁.setTop (mkF m 9 #[.val (.ref b0), .val (.ref b1), .val (.int (1 : Int32))] [])) _
    refine XS.iloadN X0.here hx rfl (hb hby d5_9) rfl ?_
    show Steps p.tables e below (s₁.setTop (mkF m 10 #[.val (.ref b0), .val (.ref b1), .val (.int (1 : Int32))] [(.int (1 : Int32))])) _
    refine XS.aloadN X0.here hx rfl (hb hby d5_10) rfl rfl ?_
    show Steps p.tables e below (s₁.setTop (mkF m 11 #[.val (.ref b0), .val (.ref b1), .val (.int (1 : Int32))] [(.ref b0), (.int (1 : Int32))])) _
    refine X0.arraylength hx (by rw [e0]; exact Ar6.1) (State.isArrayOf_alike hZ.alike Ar6.2.1) (g := (mkF m 11 #[.val (.ref b0), .val (.ref b1), .val (.int (1 : Int32))] [(.ref b0), (.int (1 : Int32))])) rfl rfl (hb hby d5_11) _ ?_
    rw [len_of S6 M6]
    show Steps p.tables e below (s₁.setTop (mkF m 12 #[.val (.ref b0), .val (.ref b1), .val (.int (1 : Int32))] [(.int (4 : Int32)), (.int (1 : Int32))])) _
    refine XS.icmpNo X0.here hx rfl (hb hby d5_12) rfl (tlt (by decide : (1 : Int32) < (4 : Int32))).2.1 ?_
    show Steps p.tables e below (s₁.setTop (mkF m 15 #[.val (.ref b0), .val (.ref b1), .val (.int (1 : Int32))] [])) _
    refine XS.aloadN X0.here hx rfl (hb hby d5_15) rfl rfl ?_
    show Steps p.tables e below (s₁.setTop (mkF m 16 #[.val (.ref b0), .val (.ref b1), .val (.int (1 : Int32))] [(.ref b0)])) _
    refine XS.iloadN X0.here hx rfl (hb hby d5_16) rfl ?_
    show Steps p.tables e below (s₁.setTop (mkF m 17 #[.val (.ref b0), .val (.ref b1), .val (.int (1 : Int32))] [(.int (1 : Int32)), (.ref b0)])) _
    have hin7 : ¬ ((1 : Int32) < 0 ∨ cl7.slots.size ≤ ((1 : Int32)).toNatClampNeg) := (inb_of S7 ⟨by decide, by decide⟩)
    refine X0.baloadBytes hx (j := (1 : Int32)) (v := (.int c1)) (by rw [e0]; exact Ar7.1) (State.isArrayOf_alike hZ.alike Ar7.2.1) Ar7.2.2 hin7 (H7.at hin7 rfl) (g := (mkF m 17 #[.val (.ref b0), .val (.ref b1), .val (.int (1 : Int32))] [(.int (1 : Int32)), (.ref b0)])) rfl rfl (hb hby d5_17) _ ?_
    show Steps p.tables e below (s₁.setTop (mkF m 18 #[.val (.ref b0), .val (.ref b1), .val (.int (1 : Int32))] [(.int c1)])) _
    refine XS.aloadN X0.here hx rfl (hb hby d5_18) rfl rfl ?_
    show Steps p.tables e below (s₁.setTop (mkF m 19 #[.val (.ref b0), .val (.ref b1), .val (.int (1 : Int32))] [(.ref b1), (.int c1)])) _
    refine XS.iloadN X0.here hx rfl (hb hby d5_19) rfl ?_
    show Steps p.tables e below (s₁.setTop (mkF m 20 #[.val (.ref b0), .val (.ref b1), .val (.int (1 : Int32))] [(.int (1 : Int32)), (.ref b1), (.int c1)])) _
    have hin8 : ¬ ((1 : Int32) < 0 ∨ cl8.slots.size ≤ ((1 : Int32)).toNatClampNeg) := (inb_of S8 ⟨by decide, by decide⟩)
    refine X0.baloadBytes hx (j := (1 : Int32)) (v := (.int c1)) (by rw [e0]; exact Ar8.1) (State.isArrayOf_alike hZ.alike Ar8.2.1) Ar8.2.2 hin8 (H8.at hin8 rfl) (g := (mkF m 20 #[.val (.ref b0), .val (.ref b1), .val (.int (1 : Int32))] [(.int (1 : Int32)), (.ref b1), (.int c1)])) rfl rfl (hb hby d5_20) _ ?_
    show Steps p.tables e below (s₁.setTop (mkF m 21 #[.val (.ref b0), .val (.ref b1), .val (.int (1 : Int32))] [(.int c1), (.int c1)])) _
    refine XS.icmpYes X0.here hx rfl (pc0 := 21) (pc' := 26) rfl (hb hby d5_21) rfl (teq (rfl : c1 = c1)).1 (by decide) (by decide) ?_
    show Steps p.tables e below (s₁.setTop (mkF m 26 #[.val (.ref b0), .val (.ref b1), .val (.int (1 : Int32))] [])) _
    refine XS.iinc X0.here hx rfl (hb hby d5_26) rfl (l' := #[.val (.ref b0), .val (.ref b1), .val (.int (2 : Int32))]) rfl ?_
    show Steps p.tables e below (s₁.setTop (mkF m 29 #[.val (.ref b0), .val (.ref b1), .val (.int (2 : Int32))] [])) _
    refine XS.goto X0.here hx rfl (pc0 := 29) (pc' := 9) rfl (hb hby d5_29) (by decide) (by decide) ?_
    show Steps p.tables e below (s₁.setTop (mkF m 9 #[.val (.ref b0), .val (.ref b1), .val (.int (2 : Int32))] [])) _
    refine XS.iloadN X0.here hx rfl (hb hby d5_9) rfl ?_
    show Steps p.tables e below (s₁.setTop (mkF m 10 #[.val (.ref b0), .val (.ref b1), .val (.int (2 : Int32))] [(.int (2 : Int32))])) _
    refine XS.aloadN X0.here hx rfl (hb hby d5_10) rfl rfl ?_
    show Steps p.tables e below (s₁.setTop (mkF m 11 #[.val (.ref b0), .val (.ref b1), .val (.int (2 : Int32))] [(.ref b0), (.int (2 : Int32))])) _
    refine X0.arraylength hx (by rw [e0]; exact Ar9.1) (State.isArrayOf_alike hZ.alike Ar9.2.1) (g := (mkF m 11 #[.val (.ref b0), .val (.ref b1), .val (.int (2 : Int32))] [(.ref b0), (.int (2 : Int32))])) rfl rfl (hb hby d5_11) _ ?_
    rw [len_of S9 M9]
    show Steps p.tables e below (s₁.setTop (mkF m 12 #[.val (.ref b0), .val (.ref b1), .val (.int (2 : Int32))] [(.int (4 : Int32)), (.int (2 : Int32))])) _
    refine XS.icmpNo X0.here hx rfl (hb hby d5_12) rfl (tlt (by decide : (2 : Int32) < (4 : Int32))).2.1 ?_
    show Steps p.tables e below (s₁.setTop (mkF m 15 #[.val (.ref b0), .val (.ref b1), .val (.int (2 : Int32))] [])) _
    refine XS.aloadN X0.here hx rfl (hb hby d5_15) rfl rfl ?_
    show Steps p.tables e below (s₁.setTop (mkF m 16 #[.val (.ref b0), .val (.ref b1), .val (.int (2 : Int32))] [(.ref b0)])) _
    refine XS.iloadN X0.here hx rfl (hb hby d5_16) rfl ?_
    show Steps p.tables e below (s₁.setTop (mkF m 17 #[.val (.ref b0), .val (.ref b1), .val (.int (2 : Int32))] [(.int (2 : Int32)), (.ref b0)])) _
    have hin10 : ¬ ((2 : Int32) < 0 ∨ cl10.slots.size ≤ ((2 : Int32)).toNatClampNeg) := (inb_of S10 ⟨by decide, by decide⟩)
    refine X0.baloadBytes hx (j := (2 : Int32)) (v := (.int c2)) (by rw [e0]; exact Ar10.1) (State.isArrayOf_alike hZ.alike Ar10.2.1) Ar10.2.2 hin10 (H10.at hin10 rfl) (g := (mkF m 17 #[.val (.ref b0), .val (.ref b1), .val (.int (2 : Int32))] [(.int (2 : Int32)), (.ref b0)])) rfl rfl (hb hby d5_17) _ ?_
    show Steps p.tables e below (s₁.setTop (mkF m 18 #[.val (.ref b0), .val (.ref b1), .val (.int (2 : Int32))] [(.int c2)])) _
    refine XS.aloadN X0.here hx rfl (hb hby d5_18) rfl rfl ?_
    show Steps p.tables e below (s₁.setTop (mkF m 19 #[.val (.ref b0), .val (.ref b1), .val (.int (2 : Int32))] [(.ref b1), (.int c2)])) _
    refine XS.iloadN X0.here hx rfl (hb hby d5_19) rfl ?_
    show Steps p.tables e below (s₁.setTop (mkF m 20 #[.val (.ref b0), .val (.ref b1), .val (.int (2 : Int32))] [(.int (2 : Int32)), (.ref b1), (.int c2)])) _
    have hin11 : ¬ ((2 : Int32) < 0 ∨ cl11.slots.size ≤ ((2 : Int32)).toNatClampNeg) := (inb_of S11 ⟨by decide, by decide⟩)
    refine X0.baloadBytes hx (j := (2 : Int32)) (v := (.int c2)) (by rw [e0]; exact Ar11.1) (State.isArrayOf_alike hZ.alike Ar11.2.1) Ar11.2.2 hin11 (H11.at hin11 rfl) (g := (mkF m 20 #[.val (.ref b0), .val (.ref b1), .val (.int (2 : Int32))] [(.int (2 : Int32)), (.ref b1), (.int c2)])) rfl rfl (hb hby d5_20) _ ?_
    show Steps p.tables e below (s₁.setTop (mkF m 21 #[.val (.ref b0), .val (.ref b1), .val (.int (2 : Int32))] [(.int c2), (.int c2)])) _
    refine XS.icmpYes X0.here hx rfl (pc0 := 21) (pc' := 26) rfl (hb hby d5_21) rfl (teq (rfl : c2 = c2)).1 (by decide) (by decide) ?_
    show Steps p.tables e below (s₁.setTop (mkF m 26 #[.val (.ref b0), .val (.ref b1), .val (.int (2 : Int32))] [])) _
    refine XS.iinc X0.here hx rfl (hb hby d5_26) rfl (l' := #[.val (.ref b0), .val (.ref b1), .val (.int (3 : Int32))]) rfl ?_
    show Steps p.tables e below (s₁.setTop (mkF m 29 #[.val (.ref b0), .val (.ref b1), .val (.int (3 : Int32))] [])) _
    refine XS.goto X0.here hx rfl (pc0 := 29) (pc' := 9) rfl (hb hby d5_29) (by decide) (by decide) ?_
    show Steps p.tables e below (s₁.setTop (mkF m 9 #[.val (.ref b0), .val (.ref b1), .val (.int (3 : Int32))] [])) _
    refine XS.iloadN X0.here hx rfl (hb hby d5_9) rfl ?_
    show Steps p.tables e below (s₁.setTop (mkF m 10 #[.val (.ref b0), .val (.ref b1), .val (.int (3 : Int32))] [(.int (3 : Int32))])) _
    refine XS.aloadN X0.here hx rfl (hb hby d5_10) rfl rfl ?_
    show Steps p.tables e below (s₁.setTop (mkF m 11 #[.val (.ref b0), .val (.ref b1), .val (.int (3 : Int32))] [(.ref b0), (.int (3 : Int32))])) _
    refine X0.arraylength hx (by rw [e0]; exact Ar12.1) (State.isArrayOf_alike hZ.alike Ar12.2.1) (g := (mkF m 11 #[.val (.ref b0), .val (.ref b1), .val (.int (3 : Int32))] [(.ref b0), (.int (3 : Int32))])) rfl rfl (hb hby d5_11) _ ?_
    rw [len_of S12 M12]
    show Steps p.tables e below (s₁.setTop (mkF m 12 #[.val (.ref b0), .val (.ref b1), .val (.int (3 : Int32))] [(.int (4 : Int32)), (.int (3 : Int32))])) _
    refine XS.icmpNo X0.here hx rfl (hb hby d5_12) rfl (tlt (by decide : (3 : Int32) < (4 : Int32))).2.1 ?_
    show Steps p.tables e below (s₁.setTop (mkF m 15 #[.val (.ref b0), .val (.ref b1), .val (.int (3 : Int32))] [])) _
    refine XS.aloadN X0.here hx rfl (hb hby d5_15) rfl rfl ?_
    show Steps p.tables e below (s₁.setTop (mkF m 16 #[.val (.ref b0), .val (.ref b1), .val (.int (3 : Int32))] [(.ref b0)])) _
    refine XS.iloadN X0.here hx rfl (hb hby d5_16) rfl ?_
    show Steps p.tables e below (s₁.setTop (mkF m 17 #[.val (.ref b0), .val (.ref b1), .val (.int (3 : Int32))] [(.int (3 : Int32)), (.ref b0)])) _
    have hin13 : ¬ ((3 : Int32) < 0 ∨ cl13.slots.size ≤ ((3 : Int32)).toNatClampNeg) := (inb_of S13 ⟨by decide, by decide⟩)
    refine X0.baloadBytes hx (j := (3 : Int32)) (v := (.int c3)) (by rw [e0]; exact Ar13.1) (State.isArrayOf_alike hZ.alike Ar13.2.1) Ar13.2.2 hin13 (H13.at hin13 rfl) (g := (mkF m 17 #[.val (.ref b0), .val (.ref b1), .val (.int (3 : Int32))] [(.int (3 : Int32)), (.ref b0)])) rfl rfl (hb hby d5_17) _ ?_
    show Steps p.tables e below (s₁.setTop (mkF m 18 #[.val (.ref b0), .val (.ref b1), .val (.int (3 : Int32))] [(.int c3)])) _
    refine XS.aloadN X0.here hx rfl (hb hby d5_18) rfl rfl ?_
    show Steps p.tables e below (s₁.setTop (mkF m 19 #[.val (.ref b0), .val (.ref b1), .val (.int (3 : Int32))] [(.ref b1), (.int c3)])) _
    refine XS.iloadN X0.here hx rfl (hb hby d5_19) rfl ?_
    show Steps p.tables e below (s₁.setTop (mkF m 20 #[.val (.ref b0), .val (.ref b1), .val (.int (3 : Int32))] [(.int (3 : Int32)), (.ref b1), (.int c3)])) _
    have hin14 : ¬ ((3 : Int32) < 0 ∨ cl14.slots.size ≤ ((3 : Int32)).toNatClampNeg) := (inb_of S14 ⟨by decide, by decide⟩)
    refine X0.baloadBytes hx (j := (3 : Int32)) (v := (.int c3)) (by rw [e0]; exact Ar14.1) (State.isArrayOf_alike hZ.alike Ar14.2.1) Ar14.2.2 hin14 (H14.at hin14 rfl) (g := (mkF m 20 #[.val (.ref b0), .val (.ref b1), .val (.int (3 : Int32))] [(.int (3 : Int32)), (.ref b1), (.int c3)])) rfl rfl (hb hby d5_20) _ ?_
    show Steps p.tables e below (s₁.setTop (mkF m 21 #[.val (.ref b0), .val (.ref b1), .val (.int (3 : Int32))] [(.int c3), (.int c3)])) _
    refine XS.icmpYes X0.here hx rfl (pc0 := 21) (pc' := 26) rfl (hb hby d5_21) rfl (teq (rfl : c3 = c3)).1 (by decide) (by decide) ?_
    show Steps p.tables e below (s₁.setTop (mkF m 26 #[.val (.ref b0), .val (.ref b1), .val (.int (3 : Int32))] [])) _
    refine XS.iinc X0.here hx rfl (hb hby d5_26) rfl (l' := #[.val (.ref b0), .val (.ref b1), .val (.int (4 : Int32))]) rfl ?_
    show Steps p.tables e below (s₁.setTop (mkF m 29 #[.val (.ref b0), .val (.ref b1), .val (.int (4 : Int32))] [])) _
    refine XS.goto X0.here hx rfl (pc0 := 29) (pc' := 9) rfl (hb hby d5_29) (by decide) (by decide) ?_
    show Steps p.tables e below (s₁.setTop (mkF m 9 #[.val (.ref b0), .val (.ref b1), .val (.int (4 : Int32))] [])) _
    refine XS.iloadN X0.here hx rfl (hb hby d5_9) rfl ?_
    show Steps p.tables e below (s₁.setTop (mkF m 10 #[.val (.ref b0), .val (.ref b1), .val (.int (4 : Int32))] [(.int (4 : Int32))])) _
    refine XS.aloadN X0.here hx rfl (hb hby d5_10) rfl rfl ?_
    show Steps p.tables e below (s₁.setTop (mkF m 11 #[.val (.ref b0), .val (.ref b1), .val (.int (4 : Int32))] [(.ref b0), (.int (4 : Int32))])) _
    refine X0.arraylength hx (by rw [e0]; exact Ar15.1) (State.isArrayOf_alike hZ.alike Ar15.2.1) (g := (mkF m 11 #[.val (.ref b0), .val (.ref b1), .val (.int (4 : Int32))] [(.ref b0), (.int (4 : Int32))])) rfl rfl (hb hby d5_11) _ ?_
    rw [len_of S15 M15]
    show Steps p.tables e below (s₁.setTop (mkF m 12 #[.val (.ref b0), .val (.ref b1), .val (.int (4 : Int32))] [(.int (4 : Int32)), (.int (4 : Int32))])) _
    refine XS.icmpYes X0.here hx rfl (pc0 := 12) (pc' := 32) rfl (hb hby d5_12) rfl (flt (by decide : ¬ ((4 : Int32) < (4 : Int32)))).2.1 (by decide) (by decide) ?_
    show Steps p.tables e below (s₁.setTop (mkF m 32 #[.val (.ref b0), .val (.ref b1), .val (.int (4 : Int32))] [])) _
    refine XS.iconst X0.here hx rfl (hb hby d5_32) ?_
    show Steps p.tables e below (s₁.setTop (mkF m 33 #[.val (.ref b0), .val (.ref b1), .val (.int (4 : Int32))] [(.int (1 : Int32))])) _
    exact retN X0 hx (t := .boolean) Bd.returns (by simp) (hb hby d5_33) hr
  · show Q_rml4 Z b0 b1 kk0 kk1 c0 c1 c2 c3 h0 n0 _ s₁.heap _
    rw [e0]
    exact ⟨rfl, N0, rfl⟩
theorem d4_0 : decode jdk_42_method_66_code 0 = .ok (.aload_n 0, 1) := by decide +kernel
theorem d4_1 : decode jdk_42_method_66_code 1 = .ok (.aload_n 1, 1) := by decide +kernel
theorem d4_2 : decode jdk_42_method_66_code 2 = .ok (.if_acmp .ne 5, 3) := by decide +kernel
theorem d4_5 : decode jdk_42_method_66_code 5 = .ok (.iconst 1, 1) := by decide +kernel
theorem d4_6 : decode jdk_42_method_66_code 6 = .ok (.ireturn, 1) := by decide +kernel
theorem d4_7 : decode jdk_42_method_66_code 7 = .ok (.aload_n 1, 1) := by decide +kernel
theorem d4_8 : decode jdk_42_method_66_code 8 = .ok (.instanceof 10, 3) := by decide +kernel
theorem d4_11 : decode jdk_42_method_66_code 11 = .ok (.ifCond .eq 43, 3) := by decide +kernel
theorem d4_14 : decode jdk_42_method_66_code 14 = .ok (.aload_n 1, 1) := by decide +kernel
theorem d4_15 : decode jdk_42_method_66_code 15 = .ok (.checkcast 10, 3) := by decide +kernel
theorem d4_18 : decode jdk_42_method_66_code 18 = .ok (.astore_n 2, 1) := by decide +kernel
theorem d4_19 : decode jdk_42_method_66_code 19 = .ok (.getstatic 38, 3) := by decide +kernel
theorem d4_22 : decode jdk_42_method_66_code 22 = .ok (.ifCond .eq 14, 3) := by decide +kernel
theorem d4_25 : decode jdk_42_method_66_code 25 = .ok (.aload_n 0, 1) := by decide +kernel
theorem d4_26 : decode jdk_42_method_66_code 26 = .ok (.getfield 15, 3) := by decide +kernel
theorem d4_29 : decode jdk_42_method_66_code 29 = .ok (.aload_n 2, 1) := by decide +kernel
theorem d4_30 : decode jdk_42_method_66_code 30 = .ok (.getfield 15, 3) := by decide +kernel
theorem d4_33 : decode jdk_42_method_66_code 33 = .ok (.if_icmp .ne 21, 3) := by decide +kernel
theorem d4_36 : decode jdk_42_method_66_code 36 = .ok (.aload_n 0, 1) := by decide +kernel
theorem d4_37 : decode jdk_42_method_66_code 37 = .ok (.getfield 9, 3) := by decide +kernel
theorem d4_40 : decode jdk_42_method_66_code 40 = .ok (.aload_n 2, 1) := by decide +kernel
theorem d4_41 : decode jdk_42_method_66_code 41 = .ok (.getfield 9, 3) := by decide +kernel
theorem d4_44 : decode jdk_42_method_66_code 44 = .ok (.invokestatic 541, 3) := by decide +kernel
theorem pd_0 : parseMethodDescriptor "([B[B)Z" = some ⟨[(.array .byte), (.array .byte)], some .boolean⟩ := by decide +kernel
theorem d4_47 : decode jdk_42_method_66_code 47 = .ok (.ifCond .eq 7, 3) := by decide +kernel
theorem d4_50 : decode jdk_42_method_66_code 50 = .ok (.iconst 1, 1) := by decide +kernel
theorem d4_51 : decode jdk_42_method_66_code 51 = .ok (.goto 4, 3) := by decide +kernel
theorem d4_55 : decode jdk_42_method_66_code 55 = .ok (.ireturn, 1) := by decide +kernel
theorem ef_rme4 (m : MethodId) (x0 : Addr) (x1 : Addr) : entryFrame m #[(.ref x0), (.ref x1)] 3 = mkF m 0 #[.val (.ref x0), .val (.ref x1), .unset] [] := by first | (simp [entryFrame, mkF, argsToLocals, Value.category]; done) | rfl
theorem pn_2 : plainName "java/lang/String" = true := by first | (simp [plainName, overriddenIn]; done) | decide +kernel
def Q_rme4 (Z : State) (a0 : Addr) (a1 : Addr) (b0 : Addr) (b1 : Addr) (kk0 : ClassId) (kk1 : ClassId) (cs : Int32) (c0 : Int32) (c1 : Int32) (c2 : Int32) (c3 : Int32) (h0 : Heap) (n0 : Nat) (v : Option Value) (h : Heap) (L : List Loc) : Prop := v = some (.int (1)) ∧ Fr n0 L ∧ h = h0
set_option maxRecDepth 65536 in
set_option maxHeartbeats 40000000 in
theorem rme4 (l : Launch) (Z : State) (aw : Array Value) (hw : ∀ d ∈ tables_1, d.before aw Z = true) (ws : List Jvm.Cond) (a0 : Addr) (a1 : Addr) (b0 : Addr) (b1 : Addr) (kk0 : ClassId) (kk1 : ClassId) (cs : Int32) (c0 : Int32) (c1 : Int32) (c2 : Int32) (c3 : Int32) (h0 : Heap) (n0 : Nat) (Z0 : n0 ≤ h0.size) (E0 : Exa Z h0 a0 "java/lang/String") (C0 : Fld Z h0 a0 "java/lang/String" "coder" "B" (.int (0 : Int32))) (V0 : Fld Z h0 a0 "java/lang/String" "value" "[B" (.ref b0)) (A0 : Arv Z h0 b0 kk0 .byte (4 : Int32) [(.int c0), (.int c1), (.int c2), (.int c3)] (.int (0 : Int32))) (E1 : Exa Z h0 a1 "java/lang/String") (C1 : Fld Z h0 a1 "java/lang/String" "coder" "B" (.int (0 : Int32))) (V1 : Fld Z h0 a1 "java/lang/String" "value" "[B" (.ref b1)) (A1 : Arv Z h0 b1 kk1 .byte (4 : Int32) [(.int c0), (.int c1), (.int c2), (.int c3)] (.int (0 : Int32))) (SC : Sta Z h0 "java/lang/String" "COMPACT_STRINGS" "Z" (.int cs)) (hcs : ¬ cs = (0 : Int32)) :
    MetFree l (⟨"java/lang/String", "equals", "(Ljava/lang/Object;)Z"⟩ : MethodName) (head1 (Jvm.Cond.code (⟨"java/lang/String", "equals", "(Ljava/lang/Object;)Z"⟩ : MethodName) jdk_42_method_66_code 3 (some .boolean) :: ws) ({ frames := 1, cells := 0, slots := 0, locals := 14 } : Room)) (fun a U => a = #[(.ref a0), (.ref a1)] ∧ Z.Warmed39 U.vm ∧ U.heap = h0) (fun _ _ _ _ _ => True) (fun _ U oc U' => ∃ v L, oc = .returned v ∧ Q_rme4 Z a0 a1 b0 b1 kk0 kk1 cs c0 c1 c2 c3 h0 n0 v U'.heap L ∧ FrameEnd U oc U' L ({ frames := 1, cells := 0, slots := 0, locals := 14 } : Room).cells ({ frames := 1, cells := 0, slots := 0, locals := 14 } : Room).slots) := by
  refine MetFree.of_bodySF (plainFor_of_name pn_2) hisR ?_
  intro p e s m args below meth c s₁ Bd hml0 hP hK
  obtain ⟨rfl, hZ, hh⟩ := hP
  have hx := Bd.exec
  have hby := Bd.bytes
  have hml : c.maxLocals = 3 := hml0
  have hown : s.vm.findClass "java/lang/String" = some m.cls := findClass_of_methodNamed Bd.named
  have hnm := (name_of_methodNamed Bd.named Bd.method).1
  have X0 : Stand p l e ({ frames := 1, cells := 0, slots := 0, locals := 14 } : Room) s m #[(.ref a0), (.ref a1)] below meth c s₁ [] 0 0 := Stand.of_body Bd
  have e0 : s₁.heap = h0 := by rw [← hh, Bd.state]; rfl
  have N0 := Fr.nil n0
  have pre0 : ∀ t, Steps p.tables e below (s₁.setTop (mkF m 0 #[.val (.ref a0), .val (.ref a1), .unset] [])) t → Steps p.tables e below (s₁.setTop (entryFrame m #[(.ref a0), (.ref a1)] 3)) t := fun t k => castTop (ef_rme4 m a0 a1) k
  have pre1 : ∀ t, Steps p.tables e below (s₁.setTop (mkF m 2 #[.val (.ref a0), .val (.ref a1), .unset] [(.ref a1), (.ref a0)])) t → Steps p.tables e below (s₁.setTop (entryFrame m #[(.ref a0), (.ref a1)] 3)) t := fun t k => by
    refine pre0 t ?_
    show Steps p.tables e below (s₁.setTop (mkF m 0 #[.val (.ref a0), .val (.ref a1), .unset] [])) _
    refine XS.aloadN X0.here hx rfl (hb hby d4_0) rfl rfl ?_
    show Steps p.tables e below (s₁.setTop (mkF m 1 #[.val (.ref a0), .val (.ref a1), .unset] [(.ref a0)])) _
    refine XS.aloadN X0.here hx rfl (hb hby d4_1) rfl rfl ?_
    exact k
  by_cases hc2 : a0 = a1
  · obtain ⟨fs, hr, hrun, hended, hW, hsame⟩ := X0.leave (v := some (.int (1 : Int32))) (fun h => by rw [Bd.returns] at h; cases h)
    refine ⟨_, _, pre1 _ ?_, hrun, hended, _, _, rfl, ?_, ⟨_, rfl⟩, hW, hsame.mono (by decide) (by decide)⟩
    · show Steps p.tables e below (s₁.setTop (mkF m 2 #[.val (.ref a0), .val (.ref a1), .unset] [(.ref a1), (.ref a0)])) _
      refine Jvm.RoadKit.acmp (g := (mkF m 2 #[.val (.ref a0), .val (.ref a1), .unset] [(.ref a1), (.ref a0)])) X0 hx rfl rfl rfl (pc0 := 2) (pc' := 5) (same := true) rfl (hb hby d4_2) rfl (decide_eq_true (congrArg Value.ref hc2)) (by decide) (by decide) ?_
      show Steps p.tables e below (s₁.setTop (mkF m 5 #[.val (.ref a0), .val (.ref a1), .unset] [])) _
      refine XS.iconst X0.here hx rfl (hb hby d4_5) ?_
      show Steps p.tables e below (s₁.setTop (mkF m 6 #[.val (.ref a0), .val (.ref a1), .unset] [(.int (1 : Int32))])) _
      exact retN X0 hx (t := .boolean) Bd.returns (by simp) (hb hby d4_6) hr
    · show Q_rme4 Z a0 a1 b0 b1 kk0 kk1 cs c0 c1 c2 c3 h0 n0 _ s₁.heap _
      rw [e0]
      exact ⟨rfl, N0, rfl⟩
  · obtain ⟨T3, X3, e3, st3⟩ := instY X0 hx hZ hown (hw _ (List.mem_of_getElem? (i := 32) rfl)) e0 (Ins.self E1) (g := (mkF m 8 #[.val (.ref a0), .val (.ref a1), .unset] [(.ref a1)])) rfl rfl (hb hby d4_8)
    obtain ⟨T4, X4, e4, st4⟩ := castY X3 hx hZ hown (hw _ (List.mem_of_getElem? (i := 32) rfl)) e3 (Ins.self E1) (g := (mkF m 15 #[.val (.ref a0), .val (.ref a1), .unset] [(.ref a1)])) rfl rfl (hb hby d4_15)
    obtain ⟨T5, X5, e5, st5⟩ := getS2 X4 hx hZ hown (host := "") (Or.inl (hw _ (List.mem_of_getElem? (i := 34) rfl))) Via.refl e4 SC (g := (mkF m 19 #[.val (.ref a0), .val (.ref a1), .val (.ref a1)] [])) rfl (hb hby d4_19)
    obtain ⟨T6, X6, e6, st6⟩ := getF X5 hx hZ hown (host := "") (Or.inl (hw _ (List.mem_of_getElem? (i := 35) rfl))) Via.refl e5 C0 (g := (mkF m 26 #[.val (.ref a0), .val (.ref a1), .val (.ref a1)] [(.ref a0)])) rfl rfl (hb hby d4_26)
    obtain ⟨T7, X7, e7, st7⟩ := getF X6 hx hZ hown (host := "") (Or.inl (hw _ (List.mem_of_getElem? (i := 35) rfl))) Via.refl e6 C1 (g := (mkF m 30 #[.val (.ref a0), .val (.ref a1), .val (.ref a1)] [(.ref a1), (.int (0 : Int32))])) rfl rfl (hb hby d4_30)
    obtain ⟨T8, X8, e8, st8⟩ := getF X7 hx hZ hown (host := "") (Or.inl (hw _ (List.mem_of_getElem? (i := 36) rfl))) Via.refl e7 V0 (g := (mkF m 37 #[.val (.ref a0), .val (.ref a1), .val (.ref a1)] [(.ref a0)])) rfl rfl (hb hby d4_37)
    obtain ⟨T9, X9, e9, st9⟩ := getF X8 hx hZ hown (host := "") (Or.inl (hw _ (List.mem_of_getElem? (i := 36) rfl))) Via.refl e8 V1 (g := (mkF m 41 #[.val (.ref a0), .val (.ref a1), .val (.ref a1)] [(.ref a1), (.ref b0)])) rfl rfl (hb hby d4_41)
    obtain ⟨_, _, ⟨T10, L10, k10, n10⟩, -, X10, ⟨Lc10, hQ10, l10, y10, z10⟩, st10⟩ := Jvm.LawKit.callS X9 hx (y := (⟨"java/lang/StringLatin1", "equals", "([B[B)Z"⟩ : MethodName)) hown (mvT hZ (hw _ (List.mem_of_getElem? (i := 37) rfl))) (mvT hZ (hw _ (List.mem_of_getElem? (i := 38) rfl))) (mvT hZ (hw _ (List.mem_of_getElem? (i := 39) rfl))) (mvT hZ (hw _ (List.mem_of_getElem? (i := 40) rfl))) (by decide) (backOf (W := 0) (rml4 l Z aw hw [] b0 b1 kk0 kk1 c0 c1 c2 c3 h0 n0 Z0 A0 A1) hZ (hw _ (List.mem_of_getElem? (i := 40) rfl)) (hw _ (List.mem_of_getElem? (i := 39) rfl)) (by decide) (by decide)) (g := (mkF m 44 #[.val (.ref a0), .val (.ref a1), .val (.ref a1)] [(.ref b1), (.ref b0)])) rfl (by rw [hml]; rfl) (argsL := [(.ref b0), (.ref b1)]) (rest := []) (lenOf pd_0 rfl) rfl (by show 2 * 0 + _ ≤ _; exact Nat.le_of_eq rfl) (hb hby d4_44) (fun _ _ => ⟨rfl, e9, (by decide : 0 + 0 ≤ _), (by decide : 0 + 0 ≤ _)⟩)
    dsimp only [Pt.U, Pt.locs, Pt.cells, Pt.slots] at X10 l10 y10 z10 st10 hQ10
    subst l10 y10 z10
    obtain ⟨rfl, N10q, e10⟩ := hQ10
    have N10 := Fr.app N0 N10q
    obtain ⟨fs, hr, hrun, hended, hW, hsame⟩ := X10.leave (v := some (.int (1 : Int32))) (fun h => by rw [Bd.returns] at h; cases h)
    refine ⟨_, _, pre1 _ ?_, hrun, hended, _, _, rfl, ?_, ⟨_, rfl⟩, hW, hsame.mono (by decide) (by decide)⟩
    · show Steps p.tables e below (s₁.setTop (mkF m 2 #[.val (.ref a0), .val (.ref a1), .unset] [(.ref a1), (.ref a0)])) _
      refine Jvm.RoadKit.acmp (g := (mkF m 2 #[.val (.ref a0), .val (.ref a1), .unset] [(.ref a1), (.ref a0)])) X0 hx rfl rfl rfl (pc0 := 2) (pc' := 7) (same := false) rfl (hb hby d4_2) rfl (decide_eq_false fun q => hc2 (Value.ref.inj q)) (by decide) (by decide) ?_
      show Steps p.tables e below (s₁.setTop (mkF m 7 #[.val (.ref a0), .val (.ref a1), .unset] [])) _
      refine XS.aloadN X0.here hx rfl (hb hby d4_7) rfl rfl ?_
      show Steps p.tables e below (s₁.setTop (mkF m 8 #[.val (.ref a0), .val (.ref a1), .unset] [(.ref a1)])) _
      refine st3 _ ?_
      show Steps p.tables e below (T3.setTop (mkF m 11 #[.val (.ref a0), .val (.ref a1), .unset] [(.int (1 : Int32))])) _
      refine XS.ifNo X3.here hx rfl (hb hby d4_11) rfl ((if0 _ _).trans (feq (by decide : ¬ ((1 : Int32) = (0 : Int32)))).1) ?_
      show Steps p.tables e below (T3.setTop (mkF m 14 #[.val (.ref a0), .val (.ref a1), .unset] [])) _
      refine XS.aloadN X3.here hx rfl (hb hby d4_14) rfl rfl ?_
      show Steps p.tables e below (T3.setTop (mkF m 15 #[.val (.ref a0), .val (.ref a1), .unset] [(.ref a1)])) _
      refine st4 _ ?_
      show Steps p.tables e below (T4.setTop (mkF m 18 #[.val (.ref a0), .val (.ref a1), .unset] [(.ref a1)])) _
      refine XS.astoreN X4.here hx rfl (hb hby d4_18) rfl rfl (l' := #[.val (.ref a0), .val (.ref a1), .val (.ref a1)]) rfl ?_
      show Steps p.tables e below (T4.setTop (mkF m 19 #[.val (.ref a0), .val (.ref a1), .val (.ref a1)] [])) _
      refine st5 _ ?_
      show Steps p.tables e below (T5.setTop (mkF m 22 #[.val (.ref a0), .val (.ref a1), .val (.ref a1)] [(.int cs)])) _
      refine XS.ifNo X5.here hx rfl (hb hby d4_22) rfl ((if0 _ _).trans (feq hcs).1) ?_
      show Steps p.tables e below (T5.setTop (mkF m 25 #[.val (.ref a0), .val (.ref a1), .val (.ref a1)] [])) _
      refine XS.aloadN X5.here hx rfl (hb hby d4_25) rfl rfl ?_
      show Steps p.tables e below (T5.setTop (mkF m 26 #[.val (.ref a0), .val (.ref a1), .val (.ref a1)] [(.ref a0)])) _
      refine st6 _ ?_
      show Steps p.tables e below (T6.setTop (mkF m 29 #[.val (.ref a0), .val (.ref a1), .val (.ref a1)] [(.int (0 : Int32))])) _
      refine XS.aloadN X6.here hx rfl (hb hby d4_29) rfl rfl ?_
      show Steps p.tables e below (T6.setTop (mkF m 30 #[.val (.ref a0), .val (.ref a1), .val (.ref a1)] [(.ref a1), (.int (0 : Int32))])) _
      refine st7 _ ?_
      show Steps p.tables e below (T7.setTop (mkF m 33 #[.val (.ref a0), .val (.ref a1), .val (.ref a1)] [(.int (0 : Int32)), (.int (0 : Int32))])) _
      refine XS.icmpNo X7.here hx rfl (hb hby d4_33) rfl (teq (by decide : (0 : Int32) = (0 : Int32))).2 ?_
      show Steps p.tables e below (T7.setTop (mkF m 36 #[.val (.ref a0), .val (.ref a1), .val (.ref a1)] [])) _
      refine XS.aloadN X7.here hx rfl (hb hby d4_36) rfl rfl ?_
      show Steps p.tables e below (T7.setTop (mkF m 37 #[.val (.ref a0), .val (.ref a1), .val (.ref a1)] [(.ref a0)])) _
      refine st8 _ ?_
      show Steps p.tables e below (T8.setTop (mkF m 40 #[.val (.ref a0), .val (.ref a1), .val (.ref a1)] [(.ref b0)])) _
      refine XS.aloadN X8.here hx rfl (hb hby d4_40) rfl rfl ?_
      show Steps p.tables e below (T8.setTop (mkF m 41 #[.val (.ref a0), .val (.ref a1), .val (.ref a1)] [(.ref a1), (.ref b0)])) _
      refine st9 _ ?_
      show Steps p.tables e below (T9.setTop (mkF m 44 #[.val (.ref a0), .val (.ref a1), .val (.ref a1)] [(.ref b1), (.ref b0)])) _
      refine st10 _ ?_
      show Steps p.tables e below (T10.setTop (mkF m 47 #[.val (.ref a0), .val (.ref a1), .val (.ref a1)] [(.int (1 : Int32))])) _
      refine XS.ifNo X10.here hx rfl (hb hby d4_47) rfl ((if0 _ _).trans (feq (by decide : ¬ ((1 : Int32) = (0 : Int32)))).1) ?_
      show Steps p.tables e below (T10.setTop (mkF m 50 #[.val (.ref a0), .val (.ref a1), .val (.ref a1)] [])) _
      refine XS.iconst X10.here hx rfl (hb hby d4_50) ?_
      show Steps p.tables e below (T10.setTop (mkF m 51 #[.val (.ref a0), .val (.ref a1), .val (.ref a1)] [(.int (1 : Int32))])) _
      refine XS.goto X10.here hx rfl (pc0 := 51) (pc' := 55) rfl (hb hby d4_51) (by decide) (by decide) ?_
      show Steps p.tables e below (T10.setTop (mkF m 55 #[.val (.ref a0), .val (.ref a1), .val (.ref a1)] [(.int (1 : Int32))])) _
      exact retN X10 hx (t := .boolean) Bd.returns (by simp) (hb hby d4_55) hr
    · show Q_rme4 Z a0 a1 b0 b1 kk0 kk1 cs c0 c1 c2 c3 h0 n0 _ T10.heap _
      rw [e10]
      exact ⟨rfl, N10, rfl⟩
theorem ef_rml6 (m : MethodId) (x0 : Addr) (x1 : Addr) : entryFrame m #[(.ref x0), (.ref x1)] 3 = mkF m 0 #[.val (.ref x0), .val (.ref x1), .unset] [] := by first | (simp [entryFrame, mkF, argsToLocals, Value.category]; done) | rfl
def Q_rml6 (Z : State) (b0 : Addr) (b1 : Addr) (kk0 : ClassId) (kk1 : ClassId) (c0 : Int32) (c1 : Int32) (c2 : Int32) (c3 : Int32) (c4 : Int32) (c5 : Int32) (h0 : Heap) (n0 : Nat) (v : Option Value) (h : Heap) (L : List Loc) : Prop := v = some (.int (1)) ∧ Fr n0 L ∧ h = h0
set_option maxRecDepth 65536 in
set_option maxHeartbeats 40000000 in
theorem rml6 (l : Launch) (Z : State) (aw : Array Value) (hw : ∀ d ∈ tables_1, d.before aw Z = true) (ws : List Jvm.Cond) (b0 : Addr) (b1 : Addr) (kk0 : ClassId) (kk1 : ClassId) (c0 : Int32) (c1 : Int32) (c2 : Int32) (c3 : Int32) (c4 : Int32) (c5 : Int32) (h0 : Heap) (n0 : Nat) (Z0 : n0 ≤ h0.size) (A0 : Arv Z h0 b0 kk0 .byte (6 : Int32) [(.int c0), (.int c1), (.int c2), (.int c3), (.int c4), (.int c5)] (.int (0 : Int32))) (A1 : Arv Z h0 b1 kk1 .byte (6 : Int32) [(.int c0), (.int c1), (.int c2), (.int c3), (.int c4), (.int c5)] (.int (0 : Int32))) :
    MetFree l (⟨"java/lang/StringLatin1", "equals", "([B[B)Z"⟩ : MethodName) (head1 (Jvm.Cond.code (⟨"java/lang/StringLatin1", "equals", "([B[B)Z"⟩ : MethodName) jdk_43_method_13_code 3 (some .boolean) :: ws) ({ frames := 0, cells := 0, slots := 0, locals := 0 } : Room)) (fun a U => a = #[(.ref b0), (.ref b1)] ∧ Z.Warmed39 U.vm ∧ U.heap = h0) (fun _ _ _ _ _ => True) (fun _ U oc U' => ∃ v L, oc = .returned v ∧ Q_rml6 Z b0 b1 kk0 kk1 c0 c1 c2 c3 c4 c5 h0 n0 v U'.heap L ∧ FrameEnd U oc U' L ({ frames := 0, cells := 0, slots := 0, locals := 0 } : Room).cells ({ frames := 0, cells := 0, slots := 0, locals := 0 } : Room).slots) := by
  refine MetFree.of_bodySF (plainFor_of_name pn_1) hisR ?_
  intro p e s m args below meth c s₁ Bd hml0 hP hK
  obtain ⟨rfl, hZ, hh⟩ := hP
  have hx := Bd.exec
  have hby := Bd.bytes
  have hml : c.maxLocals = 3 := hml0
  have hown : s.vm.findClass "java/lang/StringLatin1" = some m.cls := findClass_of_methodNamed Bd.named
  have hnm := (name_of_methodNamed Bd.named Bd.method).1
  have X0 : Stand p l e ({ frames := 0, cells := 0, slots := 0, locals := 0 } : Room) s m #[(.ref b0), (.ref b1)] below meth c s₁ [] 0 0 := Stand.of_body Bd
  have e0 : s₁.heap = h0 := by rw [← hh, Bd.state]; rfl
  have N0 := Fr.nil n0
  have pre0 : ∀ t, Steps p.tables e below (s₁.setTop (mkF m 0 #[.val (.ref b0), .val (.ref b1), .unset] [])) t → Steps p.tables e below (s₁.setTop (entryFrame m #[(.ref b0), (.ref b1)] 3)) t := fun t k => castTop (ef_rml6 m b0 b1) k
  obtain ⟨cl1, Ar1, q1, S1, M1, H1, G1⟩ := id A0
  obtain ⟨cl2, Ar2, q2, S2, M2, H2, G2⟩ := id A1
  obtain ⟨cl3, Ar3, q3, S3, M3, H3, G3⟩ := id A0
  obtain ⟨cl4, Ar4, q4, S4, M4, H4, G4⟩ := id A0
  obtain ⟨cl5, Ar5, q5, S5, M5, H5, G5⟩ := id A1
  obtain ⟨cl6, Ar6, q6, S6, M6, H6, G6⟩ := id A0
  obtain ⟨cl7, Ar7, q7, S7, M7, H7, G7⟩ := id A0
  obtain ⟨cl8, Ar8, q8, S8, M8, H8, G8⟩ := id A1
  obtain ⟨cl9, Ar9, q9, S9, M9, H9, G9⟩ := id A0
  obtain ⟨cl10, Ar10, q10, S10, M10, H10, G10⟩ := id A0
  obtain ⟨cl11, Ar11, q11, S11, M11, H11, G11⟩ := id A1
  obtain ⟨cl12, Ar12, q12, S12, M12, H12, G12⟩ := id A0
  obtain ⟨cl13, Ar13, q13, S13, M13, H13, G13⟩ := id A0
  obtain ⟨cl14, Ar14, q14, S14, M14, H14, G14⟩ := id A1
  obtain ⟨cl15, Ar15, q15, S15, M15, H15, G15⟩ := id A0
  obtain ⟨cl16, Ar16, q16, S16, M16, H16, G16⟩ := id A0
  obtain ⟨cl17, Ar17, q17, S17, M17, H17, G17⟩ := id A1
  obtain ⟨cl18, Ar18, q18, S18, M18, H18, G18⟩ := id A0
  obtain ⟨cl19, Ar19, q19, S19, M19, H19, G19⟩ := id A0
  obtain ⟨cl20, Ar20, q20, S20, M20, H20, G20⟩ := id A1
  obtain ⟨cl21, Ar21, q21, S21, M21, H21, G21⟩ := id A0
  obtain ⟨fs, hr, hrun, hended, hW, hsame⟩ := X0.leave (v := some (.int (1 : Int32))) (fun h => by rw [Bd.returns] at h; cases h)
  refine ⟨_, _, pre0 _ ?_, hrun, hended, _, _, rfl, ?_, ⟨_, rfl⟩, hW, hsame.mono (by decide) (by decide)⟩
  · show Steps p.tables e below (s₁.setTop (mkF m 0 #[.val (.ref b0), .val (.ref b1), .unset] [])) _
    refine XS.aloadN X0.here hx rfl (hb hby d5_0) rfl rfl ?_
    show Steps p.tables e below (s₁.setTop (mkF m 1 #[.val (.ref b0), .val (.ref b1), .unset] [(.ref b0)])) _
    refine X0.arraylength hx (by rw [e0]; exact Ar1.1) (State.isArrayOf_alike hZ.alike Ar1.2.1) (g := (mkF m 1 #[.val (.ref b0), .val (.ref b1), .unset] [(.ref b0)])) rfl rfl (hb hby d5_1) _ ?_
    rw [len_of S1 M1]
    show Steps p.tables e below (s₁.setTop (mkF m 2 #[.val (.ref b0), .val (.ref b1), .unset] [(.int (6 : Int32))])) _
    refine XS.aloadN X0.here hx rfl (hb hby d5_2) rfl rfl ?_
    show Steps p.tables e below (s₁.setTop (mkF m 3 #[.val (.ref b0), .val (.ref b1), .unset] [(.ref b1), (.int (6 : Int32))])) _
    refine X0.arraylength hx (by rw [e0]; exact Ar2.1) (State.isArrayOf_alike hZ.alike Ar2.2.1) (g := (mkF m 3 #[.val (.ref b0), .val (.ref b1), .unset] [(.ref b1), (.int (6 : Int32))])) rfl rfl (hb hby d5_3) _ ?_
    rw [len_of S2 M2]
    show Steps p.tables e below (s₁.setTop (mkF m 4 #[.val (.ref b0), .val (.ref b1), .unset] [(.int (6 : Int32)), (.int (6 : Int32))])) _
    refine XS.icmpNo X0.here hx rfl (hb hby d5_4) rfl (teq (by decide : (6 : Int32) = (6 : Int32))).2 ?_
    show Steps p.tables e below (s₁.setTop (mkF m 7 #[.val (.ref b0), .val (.ref b1), .unset] [])) _
    refine XS.iconst X0.here hx rfl (hb hby d5_7) ?_
    show Steps p.tables e below (s₁.setTop (mkF m 8 #[.val (.ref b0), .val (.ref b1), .unset] [(.int (0 : Int32))])) _
    refine XS.istoreN X0.here hx rfl (hb hby d5_8) rfl (l' := #[.val (.ref b0), .val (.ref b1), .val (.int (0 : Int32))]) rfl ?_
    show Steps p.tables e below (s₁.setTop (mkF m 9 #[.val (.ref b0), .val (.ref b1), .val (.int (0 : Int32))] [])) _
    refine XS.iloadN X0.here hx rfl (hb hby d5_9) rfl ?_
    show Steps p.tables e below (s₁.setTop (mkF m 10 #[.val (.ref b0), .val (.ref b1), .val (.int (0 : Int32))] [(.int (0 : Int32))])) _
    refine XS.aloadN X0.here hx rfl (hb hby d5_10) rfl rfl ?_
    show Steps p.tables e below (s₁.setTop (mkF m 11 #[.val (.ref b0), .val (.ref b1), .val (.int (0 : Int32))] [(.ref b0), (.int (0 : Int32))])) _
    refine X0.arraylength hx (by rw [e0]; exact Ar3.1) (State.isArrayOf_alike hZ.alike Ar3.2.1) (g := (mkF m 11 #[.val (.ref b0), .val (.ref b1), .val (.int (0 : Int32))] [(.ref b0), (.int (0 : Int32))])) rfl rfl (hb hby d5_11) _ ?_
    rw [len_of S3 M3]
    show Steps p.tables e below (s₁.setTop (mkF m 12 #[.val (.ref b0), .val (.ref b1), .val (.int (0 : Int32))] [(.int (6 : Int32)), (.int (0 : Int32))])) _
    refine XS.icmpNo X0.here hx rfl (hb hby d5_12) rfl (tlt (by decide : (0 : Int32) < (6 : Int32))).2.1 ?_
    show Steps p.tables e below (s₁.setTop (mkF m 15 #[.val (.ref b0), .val (.ref b1), .val (.int (0 : Int32))] [])) _
    refine XS.aloadN X0.here hx rfl (hb hby d5_15) rfl rfl ?_
    show Steps p.tables e below (s₁.setTop (mkF m 16 #[.val (.ref b0), .val (.ref b1), .val (.int (0 : Int32))] [(.ref b0)])) _
    refine XS.iloadN X0.here hx rfl (hb hby d5_16) rfl ?_
    show Steps p.tables e below (s₁.setTop (mkF m 17 #[.val (.ref b0), .val (.ref b1), .val (.int (0 : Int32))] [(.int (0 : Int32)), (.ref b0)])) _
    have hin4 : ¬ ((0 : Int32) < 0 ∨ cl4.slots.size ≤ ((0 : Int32)).toNatClampNeg) := (inb_of S4 ⟨by decide, by decide⟩)
    refine X0.baloadBytes hx (j := (0 : Int32)) (v := (.int c0)) (by rw [e0]; exact Ar4.1) (State.isArrayOf_alike hZ.alike Ar4.2.1) Ar4.2.2 hin4 (H4.at hin4 rfl) (g := (mkF m 17 #[.val (.ref b0), .val (.ref b1), .val (.int (0 : Int32))] [(.int (0 : Int32)), (.ref b0)])) rfl rfl (hb hby d5_17) _ ?_
    show Steps p.tables e below (s₁.setTop (mkF m 18 #[.val (.ref b0), .val (.ref b1), .val (.int (0 : Int32))] [(.int c0)])) _
    refine XS.aloadN X0.here hx rfl (hb hby d5_18) rfl rfl ?_
    show Steps p.tables e below (s₁.setTop (mkF m 19 #[.val (.ref b0), .val (.ref b1), .val (.int (0 : Int32))] [(.ref b1), (.int c0)])) _
    refine XS.iloadN X0.here hx rfl (hb hby d5_19) rfl ?_
    show Steps p.tables e below (s₁.setTop (mkF m 20 #[.val (.ref b0), .val (.ref b1), .val (.int (0 : Int32))] [(.int (0 : Int32)), (.ref b1), (.int c0)])) _
    have hin5 : ¬ ((0 : Int32) < 0 ∨ cl5.slots.size ≤ ((0 : Int32)).toNatClampNeg) := (inb_of S5 ⟨by decide, by decide⟩)
    refine X0.baloadBytes hx (j := (0 : Int32)) (v := (.int c0)) (by rw [e0]; exact Ar5.1) (State.isArrayOf_alike hZ.alike Ar5.2.1) Ar5.2.2 hin5 (H5.at hin5 rfl) (g := (mkF m 20 #[.val (.ref b0), .val (.ref b1), .val (.int (0 : Int32))] [(.int (0 : Int32)), (.ref b1), (.int c0)])) rfl rfl (hb hby d5_20) _ ?_
    show Steps p.tables e below (s₁.setTop (mkF m 21 #[.val (.ref b0), .val (.ref b1), .val (.int (0 : Int32))] [(.int c0), (.int c0)])) _
    refine XS.icmpYes X0.here hx rfl (pc0 := 21) (pc' := 26) rfl (hb hby d5_21) rfl (teq (rfl : c0 = c0)).1 (by decide) (by decide) ?_
    show Steps p.tables e below (s₁.setTop (mkF m 26 #[.val (.ref b0), .val (.ref b1), .val (.int (0 : Int32))] [])) _
    refine XS.iinc X0.here hx rfl (hb hby d5_26) rfl (l' := #[.val (.ref b0), .val (.ref b1), .val (.int (1 : Int32))]) rfl ?_
    show Steps p.tables e below (s₁.setTop (mkF m 29 #[.val (.ref b0), .val (.ref b1), .val (.int (1 : Int32))] [])) _
    refine XS.goto X0.here hx rfl (pc0 := 29) (pc' := 9) rfl (hb hby d5_29) (by decide) (by decide) ?_
    show Steps p.tables e below (s₁.setTop (mkF m 9 #[.val (.ref b0), .val (.ref b1), .val (.int (1 : Int32))] [])) _
    refine XS.iloadN X0.here hx rfl (hb hby d5_9) rfl ?_
    show Steps p.tables e below (s₁.setTop (mkF m 10 #[.val (.ref b0), .val (.ref b1), .val (.int (1 : Int32))] [(.int (1 : Int32))])) _
    refine XS.aloadN X0.here hx rfl (hb hby d5_10) rfl rfl ?_
    show Steps p.tables e below (s₁.setTop (mkF m 11 #[.val (.ref b0), .val (.ref b1), .val (.int (1 : Int32))] [(.ref b0), (.int (1 : Int32))])) _
    refine X0.arraylength hx (by rw [e0]; exact Ar6.1) (State.isArrayOf_alike hZ.alike Ar6.2.1) (g := (mkF m 11 #[.val (.ref b0), .val (.ref b1), .val (.int (1 : Int32))] [(.ref b0), (.int (1 : Int32))])) rfl rfl (hb hby d5_11) _ ?_
    rw [len_of S6 M6]
    show Steps p.tables e below (s₁.setTop (mkF m 12 #[.val (.ref b0), .val (.ref b1), .val (.int (1 : Int32))] [(.int (6 : Int32)), (.int (1 : Int32))])) _
    refine XS.icmpNo X0.here hx rfl (hb hby d5_12) rfl (tlt (by decide : (1 : Int32) < (6 : Int32))).2.1 ?_
    show Steps p.tables e below (s₁.setTop (mkF m 15 #[.val (.ref b0), .val (.ref b1), .val (.int (1 : Int32))] [])) _
    refine XS.aloadN X0.here hx rfl (hb hby d5_15) rfl rfl ?_
    show Steps p.tables e below (s₁.setTop (mkF m 16 #[.val (.ref b0), .val (.ref b1), .val (.int (1 : Int32))] [(.ref b0)])) _
    refine XS.iloadN X0.here hx rfl (hb hby d5_16) rfl ?_
    show Steps p.tables e below (s₁.setTop (mkF m 17 #[.val (.ref b0), .val (.ref b1), .val (.int (1 : Int32))] [(.int (1 : Int32)), (.ref b0)])) _
    have hin7 : ¬ ((1 : Int32) < 0 ∨ cl7.slots.size ≤ ((1 : Int32)).toNatClampNeg) := (inb_of S7 ⟨by decide, by decide⟩)
    refine X0.baloadBytes hx (j := (1 : Int32)) (v := (.int c1)) (by rw [e0]; exact Ar7.1) (State.isArrayOf_alike hZ.alike Ar7.2.1) Ar7.2.2 hin7 (H7.at hin7 rfl) (g := (mkF m 17 #[.val (.ref b0), .val (.ref b1), .val (.int (1 : Int32))] [(.int (1 : Int32)), (.ref b0)])) rfl rfl (hb hby d5_17) _ ?_
    show Steps p.tables e below (s₁.setTop (mkF m 18 #[.val (.ref b0), .val (.ref b1), .val (.int (1 : Int32))] [(.int c1)])) _
    refine XS.aloadN X0.here hx rfl (hb hby d5_18) rfl rfl ?_
    show Steps p.tables e below (s₁.setTop (mkF m 19 #[.val (.ref b0), .val (.ref b1), .val (.int (1 : Int32))] [(.ref b1), (.int c1)])) _
    refine XS.iloadN X0.here hx rfl (hb hby d5_19) rfl ?_
    show Steps p.tables e below (s₁.setTop (mkF m 20 #[.val (.ref b0), .val (.ref b1), .val (.int (1 : Int32))] [(.int (1 : Int32)), (.ref b1), (.int c1)])) _
    have hin8 : ¬ ((1 : Int32) < 0 ∨ cl8.slots.size ≤ ((1 : Int32)).toNatClampNeg) := (inb_of S8 ⟨by decide, by decide⟩)
    refine X0.baloadBytes hx (j := (1 : Int32)) (v := (.int c1)) (by rw [e0]; exact Ar8.1) (State.isArrayOf_alike hZ.alike Ar8.2.1) Ar8.2.2 hin8 (H8.at hin8 rfl) (g := (mkF m 20 #[.val (.ref b0), .val (.ref b1), .val (.int (1 : Int32))] [(.int (1 : Int32)), (.ref b1), (.int c1)])) rfl rfl (hb hby d5_20) _ ?_
    show Steps p.tables e below (s₁.setTop (mkF m 21 #[.val (.ref b0), .val (.ref b1), .val (.int (1 : Int32))] [(.int c1), (.int c1)])) _
    refine XS.icmpYes X0.here hx rfl (pc0 := 21) (pc' := 26) rfl (hb hby d5_21) rfl (teq (rfl : c1 = c1)).1 (by decide) (by decide) ?_
    show Steps p.tables e below (s₁.setTop (mkF m 26 #[.val (.ref b0), .val (.ref b1), .val (.int (1 : Int32))] [])) _
    refine XS.iinc X0.here hx rfl (hb hby d5_26) rfl (l' := #[.val (.ref b0), .val (.ref b1), .val (.int (2 : Int32))]) rfl ?_
    show Steps p.tables e below (s₁.setTop (mkF m 29 #[.val (.ref b0), .val (.ref b1), .val (.int (2 : Int32))] [])) _
    refine XS.goto X0.here hx rfl (pc0 := 29) (pc' := 9) rfl (hb hby d5_29) (by decide) (by decide) ?_
    show Steps p.tables e below (s₁.setTop (mkF m 9 #[.val (.ref b0), .val (.ref b1), .val (.int (2 : Int32))] [])) _
    refine XS.iloadN X0.here hx rfl (hb hby d5_9) rfl ?_
    show Steps p.tables e below (s₁.setTop (mkF m 10 #[.val (.ref b0), .val (.ref b1), .val (.int (2 : Int32))] [(.int (2 : Int32))])) _
    refine XS.aloadN X0.here hx rfl (hb hby d5_10) rfl rfl ?_
    show Steps p.tables e below (s₁.setTop (mkF m 11 #[.val (.ref b0), .val (.ref b1), .val (.int (2 : Int32))] [(.ref b0), (.int (2 : Int32))])) _
    refine X0.arraylength hx (by rw [e0]; exact Ar9.1) (State.isArrayOf_alike hZ.alike Ar9.2.1) (g := (mkF m 11 #[.val (.ref b0), .val (.ref b1), .val (.int (2 : Int32))] [(.ref b0), (.int (2 : Int32))])) rfl rfl (hb hby d5_11) _ ?_
    rw [len_of S9 M9]
    show Steps p.tables e below (s₁.setTop (mkF m 12 #[.val (.ref b0), .val (.ref b1), .val (.int (2 : Int32))] [(.int (6 : Int32)), (.int (2 : Int32))])) _
    refine XS.icmpNo X0.here hx rfl (hb hby d5_12) rfl (tlt (by decide : (2 : Int32) < (6 : Int32))).2.1 ?_
    show Steps p.tables e below (s₁.setTop (mkF m 15 #[.val (.ref b0), .val (.ref b1), .val (.int (2 : Int32))] [])) _
    refine XS.aloadN X0.here hx rfl (hb hby d5_15) rfl rfl ?_
    show Steps p.tables e below (s₁.setTop (mkF m 16 #[.val (.ref b0), .val (.ref b1), .val (.int (2 : Int32))] [(.ref b0)])) _
    refine XS.iloadN X0.here hx rfl (hb hby d5_16) rfl ?_
    show Steps p.tables e below (s₁.setTop (mkF m 17 #[.val (.ref b0), .val (.ref b1), .val (.int (2 : Int32))] [(.int (2 : Int32)), (.ref b0)])) _
    have hin10 : ¬ ((2 : Int32) < 0 ∨ cl10.slots.size ≤ ((2 : Int32)).toNatClampNeg) := (inb_of S10 ⟨by decide, by decide⟩)
    refine X0.baloadBytes hx (j := (2 : Int32)) (v := (.int c2)) (by rw [e0]; exact Ar10.1) (State.isArrayOf_alike hZ.alike Ar10.2.1) Ar10.2.2 hin10 (H10.at hin10 rfl) (g := (mkF m 17 #[.val (.ref b0), .val (.ref b1), .val (.int (2 : Int32))] [(.int (2 : Int32)), (.ref b0)])) rfl rfl (hb hby d5_17) _ ?_
    show Steps p.tables e below (s₁.setTop (mkF m 18 #[.val (.ref b0), .val (.ref b1), .val (.int (2 : Int32))] [(.int c2)])) _
    refine XS.aloadN X0.here hx rfl (hb hby d5_18) rfl rfl ?_
    show Steps p.tables e below (s₁.setTop (mkF m 19 #[.val (.ref b0), .val (.ref b1), .val (.int (2 : Int32))] [(.ref b1), (.int c2)])) _
    refine XS.iloadN X0.here hx rfl (hb hby d5_19) rfl ?_
    show Steps p.tables e below (s₁.setTop (mkF m 20 #[.val (.ref b0), .val (.ref b1), .val (.int (2 : Int32))] [(.int (2 : Int32)), (.ref b1), (.int c2)])) _
    have hin11 : ¬ ((2 : Int32) < 0 ∨ cl11.slots.size ≤ ((2 : Int32)).toNatClampNeg) := (inb_of S11 ⟨by decide, by decide⟩)
    refine X0.baloadBytes hx (j := (2 : Int32)) (v := (.int c2)) (by rw [e0]; exact Ar11.1) (State.isArrayOf_alike hZ.alike Ar11.2.1) Ar11.2.2 hin11 (H11.at hin11 rfl) (g := (mkF m 20 #[.val (.ref b0), .val (.ref b1), .val (.int (2 : Int32))] [(.int (2 : Int32)), (.ref b1), (.int c2)])) rfl rfl (hb hby d5_20) _ ?_
    show Steps p.tables e below (s₁.setTop (mkF m 21 #[.val (.ref b0), .val (.ref b1), .val (.int (2 : Int32))] [(.int c2), (.int c2)])) _
    refine XS.icmpYes X0.here hx rfl (pc0 := 21) (pc' := 26) rfl (hb hby d5_21) rfl (teq (rfl : c2 = c2)).1 (by decide) (by decide) ?_
    show Steps p.tables e below (s₁.setTop (mkF m 26 #[.val (.ref b0), .val (.ref b1), .val (.int (2 : Int32))] [])) _
    refine XS.iinc X0.here hx rfl (hb hby d5_26) rfl (l' := #[.val (.ref b0), .val (.ref b1), .val (.int (3 : Int32))]) rfl ?_
    show Steps p.tables e below (s₁.setTop (mkF m 29 #[.val (.ref b0), .val (.ref b1), .val (.int (3 : Int32))] [])) _
    refine XS.goto X0.here hx rfl (pc0 := 29) (pc' := 9) rfl (hb hby d5_29) (by decide) (by decide) ?_
    show Steps p.tables e below (s₁.setTop (mkF m 9 #[.val (.ref b0), .val (.ref b1), .val (.int (3 : Int32))] [])) _
    refine XS.iloadN X0.here hx rfl (hb hby d5_9) rfl ?_
    show Steps p.tables e below (s₁.setTop (mkF m 10 #[.val (.ref b0), .val (.ref b1), .val (.int (3 : Int32))] [(.int (3 : Int32))])) _
    refine XS.aloadN X0.here hx rfl (hb hby d5_10) rfl rfl ?_
    show Steps p.tables e below (s₁.setTop (mkF m 11 #[.val (.ref b0), .val (.ref b1), .val (.int (3 : Int32))] [(.ref b0), (.int (3 : Int32))])) _
    refine X0.arraylength hx (by rw [e0]; exact Ar12.1) (State.isArrayOf_alike hZ.alike Ar12.2.1) (g := (mkF m 11 #[.val (.ref b0), .val (.ref b1), .val (.int (3 : Int32))] [(.ref b0), (.int (3 : Int32))])) rfl rfl (hb hby d5_11) _ ?_
    rw [len_of S12 M12]
    show Steps p.tables e below (s₁.setTop (mkF m 12 #[.val (.ref b0), .val (.ref b1), .val (.int (3 : Int32))] [(.int (6 : Int32)), (.int (3 : Int32))])) _
    refine XS.icmpNo X0.here hx rfl (hb hby d5_12) rfl (tlt (by decide : (3 : Int32) < (6 : Int32))).2.1 ?_
    show Steps p.tables e below (s₁.setTop (mkF m 15 #[.val (.ref b0), .val (.ref b1), .val (.int (3 : Int32))] [])) _
    refine XS.aloadN X0.here hx rfl (hb hby d5_15) rfl rfl ?_
    show Steps p.tables e below (s₁.setTop (mkF m 16 #[.val (.ref b0), .val (.ref b1), .val (.int (3 : Int32))] [(.ref b0)])) _
    refine XS.iloadN X0.here hx rfl (hb hby d5_16) rfl ?_
    show Steps p.tables e below (s₁.setTop (mkF m 17 #[.val (.ref b0), .val (.ref b1), .val (.int (3 : Int32))] [(.int (3 : Int32)), (.ref b0)])) _
    have hin13 : ¬ ((3 : Int32) < 0 ∨ cl13.slots.size ≤ ((3 : Int32)).toNatClampNeg) := (inb_of S13 ⟨by decide, by decide⟩)
    refine X0.baloadBytes hx (j := (3 : Int32)) (v := (.int c3)) (by rw [e0]; exact Ar13.1) (State.isArrayOf_alike hZ.alike Ar13.2.1) Ar13.2.2 hin13 (H13.at hin13 rfl) (g := (mkF m 17 #[.val (.ref b0), .val (.ref b1), .val (.int (3 : Int32))] [(.int (3 : Int32)), (.ref b0)])) rfl rfl (hb hby d5_17) _ ?_
    show Steps p.tables e below (s₁.setTop (mkF m 18 #[.val (.ref b0), .val (.ref b1), .val (.int (3 : Int32))] [(.int c3)])) _
    refine XS.aloadN X0.here hx rfl (hb hby d5_18) rfl rfl ?_
    show Steps p.tables e below (s₁.setTop (mkF m 19 #[.val (.ref b0), .val (.ref b1), .val (.int (3 : Int32))] [(.ref b1), (.int c3)])) _
    refine XS.iloadN X0.here hx rfl (hb hby d5_19) rfl ?_
    show Steps p.tables e below (s₁.setTop (mkF m 20 #[.val (.ref b0), .val (.ref b1), .val (.int (3 : Int32))] [(.int (3 : Int32)), (.ref b1), (.int c3)])) _
    have hin14 : ¬ ((3 : Int32) < 0 ∨ cl14.slots.size ≤ ((3 : Int32)).toNatClampNeg) := (inb_of S14 ⟨by decide, by decide⟩)
    refine X0.baloadBytes hx (j := (3 : Int32)) (v := (.int c3)) (by rw [e0]; exact Ar14.1) (State.isArrayOf_alike hZ.alike Ar14.2.1) Ar14.2.2 hin14 (H14.at hin14 rfl) (g := (mkF m 20 #[.val (.ref b0), .val (.ref b1), .val (.int (3 : Int32))] [(.int (3 : Int32)), (.ref b1), (.int c3)])) rfl rfl (hb hby d5_20) _ ?_
    show Steps p.tables e below (s₁.setTop (mkF m 21 #[.val (.ref b0), .val (.ref b1), .val (.int (3 : Int32))] [(.int c3), (.int c3)])) _
    refine XS.icmpYes X0.here hx rfl (pc0 := 21) (pc' := 26) rfl (hb hby d5_21) rfl (teq (rfl : c3 = c3)).1 (by decide) (by decide) ?_
    show Steps p.tables e below (s₁.setTop (mkF m 26 #[.val (.ref b0), .val (.ref b1), .val (.int (3 : Int32))] [])) _
    refine XS.iinc X0.here hx rfl (hb hby d5_26) rfl (l' := #[.val (.ref b0), .val (.ref b1), .val (.int (4 : Int32))]) rfl ?_
    show Steps p.tables e below (s₁.setTop (mkF m 29 #[.val (.ref b0), .val (.ref b1), .val (.int (4 : Int32))] [])) _
    refine XS.goto X0.here hx rfl (pc0 := 29) (pc' := 9) rfl (hb hby d5_29) (by decide) (by decide) ?_
    show Steps p.tables e below (s₁.setTop (mkF m 9 #[.val (.ref b0), .val (.ref b1), .val (.int (4 : Int32))] [])) _
    refine XS.iloadN X0.here hx rfl (hb hby d5_9) rfl ?_
    show Steps p.tables e below (s₁.setTop (mkF m 10 #[.val (.ref b0), .val (.ref b1), .val (.int (4 : Int32))] [(.int (4 : Int32))])) _
    refine XS.aloadN X0.here hx rfl (hb hby d5_10) rfl rfl ?_
    show Steps p.tables e below (s₁.setTop (mkF m 11 #[.val (.ref b0), .val (.ref b1), .val (.int (4 : Int32))] [(.ref b0), (.int (4 : Int32))])) _
    refine X0.arraylength hx (by rw [e0]; exact Ar15.1) (State.isArrayOf_alike hZ.alike Ar15.2.1) (g := (mkF m 11 #[.val (.ref b0), .val (.ref b1), .val (.int (4 : Int32))] [(.ref b0), (.int (4 : Int32))])) rfl rfl (hb hby d5_11) _ ?_
    rw [len_of S15 M15]
    show Steps p.tables e below (s₁.setTop (mkF m 12 #[.val (.ref b0), .val (.ref b1), .val (.int (4 : Int32))] [(.int (6 : Int32)), (.int (4 : Int32))])) _
    refine XS.icmpNo X0.here hx rfl (hb hby d5_12) rfl (tlt (by decide : (4 : Int32) < (6 : Int32))).2.1 ?_
    show Steps p.tables e below (s₁.setTop (mkF m 15 #[.val (.ref b0), .val (.ref b1), .val (.int (4 : Int32))] [])) _
    refine XS.aloadN X0.here hx rfl (hb hby d5_15) rfl rfl ?_
    show Steps p.tables e below (s₁.setTop (mkF m 16 #[.val (.ref b0), .val (.ref b1), .val (.int (4 : Int32))] [(.ref b0)])) _
    refine XS.iloadN X0.here hx rfl (hb hby d5_16) rfl ?_
    show Steps p.tables e below (s₁.setTop (mkF m 17 #[.val (.ref b0), .val (.ref b1), .val (.int (4 : Int32))] [(.int (4 : Int32)), (.ref b0)])) _
    have hin16 : ¬ ((4 : Int32) < 0 ∨ cl16.slots.size ≤ ((4 : Int32)).toNatClampNeg) := (inb_of S16 ⟨by decide, by decide⟩)
    refine X0.baloadBytes hx (j := (4 : Int32)) (v := (.int c4)) (by rw [e0]; exact Ar16.1) (State.isArrayOf_alike hZ.alike Ar16.2.1) Ar16.2.2 hin16 (H16.at hin16 rfl) (g := (mkF m 17 #[.val (.ref b0), .val (.ref b1), .val (.int (4 : Int32))] [(.int (4 : Int32)), (.ref b0)])) rfl rfl (hb hby d5_17) _ ?_
    show Steps p.tables e below (s₁.setTop (mkF m 18 #[.val (.ref b0), .val (.ref b1), .val (.int (4 : Int32))] [(.int c4)])) _
    refine XS.aloadN X0.here hx rfl (hb hby d5_18) rfl rfl ?_
    show Steps p.tables e below (s₁.setTop (mkF m 19 #[.val (.ref b0), .val (.ref b1), .val (.int (4 : Int32))] [(.ref b1), (.int c4)])) _
    refine XS.iloadN X0.here hx rfl (hb hby d5_19) rfl ?_
    show Steps p.tables e below (s₁.setTop (mkF m 20 #[.val (.ref b0), .val (.ref b1), .val (.int (4 : Int32))] [(.int (4 : Int32)), (.ref b1), (.int c4)])) _
    have hin17 : ¬ ((4 : Int32) < 0 ∨ cl17.slots.size ≤ ((4 : Int32)).toNatClampNeg) := (inb_of S17 ⟨by decide, by decide⟩)
    refine X0.baloadBytes hx (j := (4 : Int32)) (v := (.int c4)) (by rw [e0]; exact Ar17.1) (State.isArrayOf_alike hZ.alike Ar17.2.1) Ar17.2.2 hin17 (H17.at hin17 rfl) (g := (mkF m 20 #[.val (.ref b0), .val (.ref b1), .val (.int (4 : Int32))] [(.int (4 : Int32)), (.ref b1), (.int c4)])) rfl rfl (hb hby d5_20) _ ?_
    show Steps p.tables e below (s₁.setTop (mkF m 21 #[.val (.ref b0), .val (.ref b1), .val (.int (4 : Int32))] [(.int c4), (.int c4)])) _
    refine XS.icmpYes X0.here hx rfl (pc0 := 21) (pc' := 26) rfl (hb hby d5_21) rfl (teq (rfl : c4 = c4)).1 (by decide) (by decide) ?_
    show Steps p.tables e below (s₁.setTop (mkF m 26 #[.val (.ref b0), .val (.ref b1), .val (.int (4 : Int32))] [])) _
    refine XS.iinc X0.here hx rfl (hb hby d5_26) rfl (l' := #[.val (.ref b0), .val (.ref b1), .val (.int (5 : Int32))]) rfl ?_
    show Steps p.tables e below (s₁.setTop (mkF m 29 #[.val (.ref b0), .val (.ref b1), .val (.int (5 : Int32))] [])) _
    refine XS.goto X0.here hx rfl (pc0 := 29) (pc' := 9) rfl (hb hby d5_29) (by decide) (by decide) ?_
    show Steps p.tables e below (s₁.setTop (mkF m 9 #[.val (.ref b0), .val (.ref b1), .val (.int (5 : Int32))] [])) _
    refine XS.iloadN X0.here hx rfl (hb hby d5_9) rfl ?_
    show Steps p.tables e below (s₁.setTop (mkF m 10 #[.val (.ref b0), .val (.ref b1), .val (.int (5 : Int32))] [(.int (5 : Int32))])) _
    refine XS.aloadN X0.here hx rfl (hb hby d5_10) rfl rfl ?_
    show Steps p.tables e below (s₁.setTop (mkF m 11 #[.val (.ref b0), .val (.ref b1), .val (.int (5 : Int32))] [(.ref b0), (.int (5 : Int32))])) _
    refine X0.arraylength hx (by rw [e0]; exact Ar18.1) (State.isArrayOf_alike hZ.alike Ar18.2.1) (g := (mkF m 11 #[.val (.ref b0), .val (.ref b1), .val (.int (5 : Int32))] [(.ref b0), (.int (5 : Int32))])) rfl rfl (hb hby d5_11) _ ?_
    rw [len_of S18 M18]
    show Steps p.tables e below (s₁.setTop (mkF m 12 #[.val (.ref b0), .val (.ref b1), .val (.int (5 : Int32))] [(.int (6 : Int32)), (.int (5 : Int32))])) _
    refine XS.icmpNo X0.here hx rfl (hb hby d5_12) rfl (tlt (by decide : (5 : Int32) < (6 : Int32))).2.1 ?_
    show Steps p.tables e below (s₁.setTop (mkF m 15 #[.val (.ref b0), .val (.ref b1), .val (.int (5 : Int32))] [])) _
    refine XS.aloadN X0.here hx rfl (hb hby d5_15) rfl rfl ?_
    show Steps p.tables e below (s₁.setTop (mkF m 16 #[.val (.ref b0), .val (.ref b1), .val (.int (5 : Int32))] [(.ref b0)])) _
    refine XS.iloadN X0.here hx rfl (hb hby d5_16) rfl ?_
    show Steps p.tables e below (s₁.setTop (mkF m 17 #[.val (.ref b0), .val (.ref b1), .val (.int (5 : Int32))] [(.int (5 : Int32)), (.ref b0)])) _
    have hin19 : ¬ ((5 : Int32) < 0 ∨ cl19.slots.size ≤ ((5 : Int32)).toNatClampNeg) := (inb_of S19 ⟨by decide, by decide⟩)
    refine X0.baloadBytes hx (j := (5 : Int32)) (v := (.int c5)) (by rw [e0]; exact Ar19.1) (State.isArrayOf_alike hZ.alike Ar19.2.1) Ar19.2.2 hin19 (H19.at hin19 rfl) (g := (mkF m 17 #[.val (.ref b0), .val (.ref b1), .val (.int (5 : Int32))] [(.int (5 : Int32)), (.ref b0)])) rfl rfl (hb hby d5_17) _ ?_
    show Steps p.tables e below (s₁.setTop (mkF m 18 #[.val (.ref b0), .val (.ref b1), .val (.int (5 : Int32))] [(.int c5)])) _
    refine XS.aloadN X0.here hx rfl (hb hby d5_18) rfl rfl ?_
    show Steps p.tables e below (s₁.setTop (mkF m 19 #[.val (.ref b0), .val (.ref b1), .val (.int (5 : Int32))] [(.ref b1), (.int c5)])) _
    refine XS.iloadN X0.here hx rfl (hb hby d5_19) rfl ?_
    show Steps p.tables e below (s₁.setTop (mkF m 20 #[.val (.ref b0), .val (.ref b1), .val (.int (5 : Int32))] [(.int (5 : Int32)), (.ref b1), (.int c5)])) _
    have hin20 : ¬ ((5 : Int32) < 0 ∨ cl20.slots.size ≤ ((5 : Int32)).toNatClampNeg) := (inb_of S20 ⟨by decide, by decide⟩)
    refine X0.baloadBytes hx (j := (5 : Int32)) (v := (.int c5)) (by rw [e0]; exact Ar20.1) (State.isArrayOf_alike hZ.alike Ar20.2.1) Ar20.2.2 hin20 (H20.at hin20 rfl) (g := (mkF m 20 #[.val (.ref b0), .val (.ref b1), .val (.int (5 : Int32))] [(.int (5 : Int32)), (.ref b1), (.int c5)])) rfl rfl (hb hby d5_20) _ ?_
    show Steps p.tables e below (s₁.setTop (mkF m 21 #[.val (.ref b0), .val (.ref b1), .val (.int (5 : Int32))] [(.int c5), (.int c5)])) _
    refine XS.icmpYes X0.here hx rfl (pc0 := 21) (pc' := 26) rfl (hb hby d5_21) rfl (teq (rfl : c5 = c5)).1 (by decide) (by decide) ?_
    show Steps p.tables e below (s₁.setTop (mkF m 26 #[.val (.ref b0), .val (.ref b1), .val (.int (5 : Int32))] [])) _
    refine XS.iinc X0.here hx rfl (hb hby d5_26) rfl (l' := #[.val (.ref b0), .val (.ref b1), .val (.int (6 : Int32))]) rfl ?_
    show Steps p.tables e below (s₁.setTop (mkF m 29 #[.val (.ref b0), .val (.ref b1), .val (.int (6 : Int32))] [])) _
    refine XS.goto X0.here hx rfl (pc0 := 29) (pc' := 9) rfl (hb hby d5_29) (by decide) (by decide) ?_
    show Steps p.tables e below (s₁.setTop (mkF m 9 #[.val (.ref b0), .val (.ref b1), .val (.int (6 : Int32))] [])) _
    refine XS.iloadN X0.here hx rfl (hb hby d5_9) rfl ?_
    show Steps p.tables e below (s₁.setTop (mkF m 10 #[.val (.ref b0), .val (.ref b1), .val (.int (6 : Int32))] [(.int (6 : Int32))])) _
    refine XS.aloadN X0.here hx rfl (hb hby d5_10) rfl rfl ?_
    show Steps p.tables e below (s₁.setTop (mkF m 11 #[.val (.ref b0), .val (.ref b1), .val (.int (6 : Int32))] [(.ref b0), (.int (6 : Int32))])) _
    refine X0.arraylength hx (by rw [e0]; exact Ar21.1) (State.isArrayOf_alike hZ.alike Ar21.2.1) (g := (mkF m 11 #[.val (.ref b0), .val (.ref b1), .val (.int (6 : Int32))] [(.ref b0), (.int (6 : Int32))])) rfl rfl (hb hby d5_11) _ ?_
    rw [len_of S21 M21]
    show Steps p.tables e below (s₁.setTop (mkF m 12 #[.val (.ref b0), .val (.ref b1), .val (.int (6 : Int32))] [(.int (6 : Int32)), (.int (6 : Int32))])) _
    refine XS.icmpYes X0.here hx rfl (pc0 := 12) (pc' := 32) rfl (hb hby d5_12) rfl (flt (by decide : ¬ ((6 : Int32) < (6 : Int32)))).2.1 (by decide) (by decide) ?_
    show Steps p.tables e below (s₁.setTop (mkF m 32 #[.val (.ref b0), .val (.ref b1), .val (.int (6 : Int32))] [])) _
    refine XS.iconst X0.here hx rfl (hb hby d5_32) ?_
    show Steps p.tables e below (s₁.setTop (mkF m 33 #[.val (.ref b0), .val (.ref b1), .val (.int (6 : Int32))] [(.int (1 : Int32))])) _
    exact retN X0 hx (t := .boolean) Bd.returns (by simp) (hb hby d5_33) hr
  · show Q_rml6 Z b0 b1 kk0 kk1 c0 c1 c2 c3 c4 c5 h0 n0 _ s₁.heap _
    rw [e0]
    exact ⟨rfl, N0, rfl⟩
theorem ef_rme6 (m : MethodId) (x0 : Addr) (x1 : Addr) : entryFrame m #[(.ref x0), (.ref x1)] 3 = mkF m 0 #[.val (.ref x0), .val (.ref x1), .unset] [] := by first | (simp [entryFrame, mkF, argsToLocals, Value.category]; done) | rfl
def Q_rme6 (Z : State) (a0 : Addr) (a1 : Addr) (b0 : Addr) (b1 : Addr) (kk0 : ClassId) (kk1 : ClassId) (cs : Int32) (c0 : Int32) (c1 : Int32) (c2 : Int32) (c3 : Int32) (c4 : Int32) (c5 : Int32) (h0 : Heap) (n0 : Nat) (v : Option Value) (h : Heap) (L : List Loc) : Prop := v = some (.int (1)) ∧ Fr n0 L ∧ h = h0
set_option maxRecDepth 65536 in
set_option maxHeartbeats 40000000 in
theorem rme6 (l : Launch) (Z : State) (aw : Array Value) (hw : ∀ d ∈ tables_1, d.before aw Z = true) (ws : List Jvm.Cond) (a0 : Addr) (a1 : Addr) (b0 : Addr) (b1 : Addr) (kk0 : ClassId) (kk1 : ClassId) (cs : Int32) (c0 : Int32) (c1 : Int32) (c2 : Int32) (c3 : Int32) (c4 : Int32) (c5 : Int32) (h0 : Heap) (n0 : Nat) (Z0 : n0 ≤ h0.size) (E0 : Exa Z h0 a0 "java/lang/String") (C0 : Fld Z h0 a0 "java/lang/String" "coder" "B" (.int (0 : Int32))) (V0 : Fld Z h0 a0 "java/lang/String" "value" "[B" (.ref b0)) (A0 : Arv Z h0 b0 kk0 .byte (6 : Int32) [(.int c0), (.int c1), (.int c2), (.int c3), (.int c4), (.int c5)] (.int (0 : Int32))) (E1 : Exa Z h0 a1 "java/lang/String") (C1 : Fld Z h0 a1 "java/lang/String" "coder" "B" (.int (0 : Int32))) (V1 : Fld Z h0 a1 "java/lang/String" "value" "[B" (.ref b1)) (A1 : Arv Z h0 b1 kk1 .byte (6 : Int32) [(.int c0), (.int c1), (.int c2), (.int c3), (.int c4), (.int c5)] (.int (0 : Int32))) (SC : Sta Z h0 "java/lang/String" "COMPACT_STRINGS" "Z" (.int cs)) (hcs : ¬ cs = (0 : Int32)) :
    MetFree l (⟨"java/lang/String", "equals", "(Ljava/lang/Object;)Z"⟩ : MethodName) (head1 (Jvm.Cond.code (⟨"java/lang/String", "equals", "(Ljava/lang/Object;)Z"⟩ : MethodName) jdk_42_method_66_code 3 (some .boolean) :: ws) ({ frames := 1, cells := 0, slots := 0, locals := 14 } : Room)) (fun a U => a = #[(.ref a0), (.ref a1)] ∧ Z.Warmed39 U.vm ∧ U.heap = h0) (fun _ _ _ _ _ => True) (fun _ U oc U' => ∃ v L, oc = .returned v ∧ Q_rme6 Z a0 a1 b0 b1 kk0 kk1 cs c0 c1 c2 c3 c4 c5 h0 n0 v U'.heap L ∧ FrameEnd U oc U' L ({ frames := 1, cells := 0, slots := 0, locals := 14 } : Room).cells ({ frames := 1, cells := 0, slots := 0, locals := 14 } : Room).slots) := by
  refine MetFree.of_bodySF (plainFor_of_name pn_2) hisR ?_
  intro p e s m args below meth c s₁ Bd hml0 hP hK
  obtain ⟨rfl, hZ, hh⟩ := hP
  have hx := Bd.exec
  have hby := Bd.bytes
  have hml : c.maxLocals = 3 := hml0
  have hown : s.vm.findClass "java/lang/String" = some m.cls := findClass_of_methodNamed Bd.named
  have hnm := (name_of_methodNamed Bd.named Bd.method).1
  have X0 : Stand p l e ({ frames := 1, cells := 0, slots := 0, locals := 14 } : Room) s m #[(.ref a0), (.ref a1)] below meth c s₁ [] 0 0 := Stand.of_body Bd
  have e0 : s₁.heap = h0 := by rw [← hh, Bd.state]; rfl
  have N0 := Fr.nil n0
  have pre0 : ∀ t, Steps p.tables e below (s₁.setTop (mkF m 0 #[.val (.ref a0), .val (.ref a1), .unset] [])) t → Steps p.tables e below (s₁.setTop (entryFrame m #[(.ref a0), (.ref a1)] 3)) t := fun t k => castTop (ef_rme6 m a0 a1) k
  have pre1 : ∀ t, Steps p.tables e below (s₁.setTop (mkF m 2 #[.val (.ref a0), .val (.ref a1), .unset] [(.ref a1), (.ref a0)])) t → Steps p.tables e below (s₁.setTop (entryFrame m #[(.ref a0), (.ref a1)] 3)) t := fun t k => by
    refine pre0 t ?_
    show Steps p.tables e below (s₁.setTop (mkF m 0 #[.val (.ref a0), .val (.ref a1), .unset] [])) _
    refine XS.aloadN X0.here hx rfl (hb hby d4_0) rfl rfl ?_
    show Steps p.tables e below (s₁.setTop (mkF m 1 #[.val (.ref a0), .val (.ref a1), .unset] [(.ref a0)])) _
    refine XS.aloadN X0.here hx rfl (hb hby d4_1) rfl rfl ?_
    exact k
  by_cases hc2 : a0 = a1
  · obtain ⟨fs, hr, hrun, hended, hW, hsame⟩ := X0.leave (v := some (.int (1 : Int32))) (fun h => by rw [Bd.returns] at h; cases h)
    refine ⟨_, _, pre1 _ ?_, hrun, hended, _, _, rfl, ?_, ⟨_, rfl⟩, hW, hsame.mono (by decide) (by decide)⟩
    · show Steps p.tables e below (s₁.setTop (mkF m 2 #[.val (.ref a0), .val (.ref a1), .unset] [(.ref a1), (.ref a0)])) _
      refine Jvm.RoadKit.acmp (g := (mkF m 2 #[.val (.ref a0), .val (.ref a1), .unset] [(.ref a1), (.ref a0)])) X0 hx rfl rfl rfl (pc0 := 2) (pc' := 5) (same := true) rfl (hb hby d4_2) rfl (decide_eq_true (congrArg Value.ref hc2)) (by decide) (by decide) ?_
      show Steps p.tables e below (s₁.setTop (mkF m 5 #[.val (.ref a0), .val (.ref a1), .unset] [])) _
      refine XS.iconst X0.here hx rfl (hb hby d4_5) ?_
      show Steps p.tables e below (s₁.setTop (mkF m 6 #[.val (.ref a0), .val (.ref a1), .unset] [(.int (1 : Int32))])) _
      exact retN X0 hx (t := .boolean) Bd.returns (by simp) (hb hby d4_6) hr
    · show Q_rme6 Z a0 a1 b0 b1 kk0 kk1 cs c0 c1 c2 c3 c4 c5 h0 n0 _ s₁.heap _
      rw [e0]
      exact ⟨rfl, N0, rfl⟩
  · obtain ⟨T3, X3, e3, st3⟩ := instY X0 hx hZ hown (hw _ (List.mem_of_getElem? (i := 32) rfl)) e0 (Ins.self E1) (g := (mkF m 8 #[.val (.ref a0), .val (.ref a1), .unset] [(.ref a1)])) rfl rfl (hb hby d4_8)
    obtain ⟨T4, X4, e4, st4⟩ := castY X3 hx hZ hown (hw _ (List.mem_of_getElem? (i := 32) rfl)) e3 (Ins.self E1) (g := (mkF m 15 #[.val (.ref a0), .val (.ref a1), .unset] [(.ref a1)])) rfl rfl (hb hby d4_15)
    obtain ⟨T5, X5, e5, st5⟩ := getS2 X4 hx hZ hown (host := "") (Or.inl (hw _ (List.mem_of_getElem? (i := 34) rfl))) Via.refl e4 SC (g := (mkF m 19 #[.val (.ref a0), .val (.ref a1), .val (.ref a1)] [])) rfl (hb hby d4_19)
    obtain ⟨T6, X6, e6, st6⟩ := getF X5 hx hZ hown (host := "") (Or.inl (hw _ (List.mem_of_getElem? (i := 35) rfl))) Via.refl e5 C0 (g := (mkF m 26 #[.val (.ref a0), .val (.ref a1), .val (.ref a1)] [(.ref a0)])) rfl rfl (hb hby d4_26)
    obtain ⟨T7, X7, e7, st7⟩ := getF X6 hx hZ hown (host := "") (Or.inl (hw _ (List.mem_of_getElem? (i := 35) rfl))) Via.refl e6 C1 (g := (mkF m 30 #[.val (.ref a0), .val (.ref a1), .val (.ref a1)] [(.ref a1), (.int (0 : Int32))])) rfl rfl (hb hby d4_30)
    obtain ⟨T8, X8, e8, st8⟩ := getF X7 hx hZ hown (host := "") (Or.inl (hw _ (List.mem_of_getElem? (i := 36) rfl))) Via.refl e7 V0 (g := (mkF m 37 #[.val (.ref a0), .val (.ref a1), .val (.ref a1)] [(.ref a0)])) rfl rfl (hb hby d4_37)
    obtain ⟨T9, X9, e9, st9⟩ := getF X8 hx hZ hown (host := "") (Or.inl (hw _ (List.mem_of_getElem? (i := 36) rfl))) Via.refl e8 V1 (g := (mkF m 41 #[.val (.ref a0), .val (.ref a1), .val (.ref a1)] [(.ref a1), (.ref b0)])) rfl rfl (hb hby d4_41)
    obtain ⟨_, _, ⟨T10, L10, k10, n10⟩, -, X10, ⟨Lc10, hQ10, l10, y10, z10⟩, st10⟩ := Jvm.LawKit.callS X9 hx (y := (⟨"java/lang/StringLatin1", "equals", "([B[B)Z"⟩ : MethodName)) hown (mvT hZ (hw _ (List.mem_of_getElem? (i := 37) rfl))) (mvT hZ (hw _ (List.mem_of_getElem? (i := 38) rfl))) (mvT hZ (hw _ (List.mem_of_getElem? (i := 39) rfl))) (mvT hZ (hw _ (List.mem_of_getElem? (i := 40) rfl))) (by decide) (backOf (W := 0) (rml6 l Z aw hw [] b0 b1 kk0 kk1 c0 c1 c2 c3 c4 c5 h0 n0 Z0 A0 A1) hZ (hw _ (List.mem_of_getElem? (i := 40) rfl)) (hw _ (List.mem_of_getElem? (i := 39) rfl)) (by decide) (by decide)) (g := (mkF m 44 #[.val (.ref a0), .val (.ref a1), .val (.ref a1)] [(.ref b1), (.ref b0)])) rfl (by rw [hml]; rfl) (argsL := [(.ref b0), (.ref b1)]) (rest := []) (lenOf pd_0 rfl) rfl (by show 2 * 0 + _ ≤ _; exact Nat.le_of_eq rfl) (hb hby d4_44) (fun _ _ => ⟨rfl, e9, (by decide : 0 + 0 ≤ _), (by decide : 0 + 0 ≤ _)⟩)
    dsimp only [Pt.U, Pt.locs, Pt.cells, Pt.slots] at X10 l10 y10 z10 st10 hQ10
    subst l10 y10 z10
    obtain ⟨rfl, N10q, e10⟩ := hQ10
    have N10 := Fr.app N0 N10q
    obtain ⟨fs, hr, hrun, hended, hW, hsame⟩ := X10.leave (v := some (.int (1 : Int32))) (fun h => by rw [Bd.returns] at h; cases h)
    refine ⟨_, _, pre1 _ ?_, hrun, hended, _, _, rfl, ?_, ⟨_, rfl⟩, hW, hsame.mono (by decide) (by decide)⟩
    · show Steps p.tables e below (s₁.setTop (mkF m 2 #[.val (.ref a0), .val (.ref a1), .unset] [(.ref a1), (.ref a0)])) _
      refine Jvm.RoadKit.acmp (g := (mkF m 2 #[.val (.ref a0), .val (.ref a1), .unset] [(.ref a1), (.ref a0)])) X0 hx rfl rfl rfl (pc0 := 2) (pc' := 7) (same := false) rfl (hb hby d4_2) rfl (decide_eq_false fun q => hc2 (Value.ref.inj q)) (by decide) (by decide) ?_
      show Steps p.tables e below (s₁.setTop (mkF m 7 #[.val (.ref a0), .val (.ref a1), .unset] [])) _
      refine XS.aloadN X0.here hx rfl (hb hby d4_7) rfl rfl ?_
      show Steps p.tables e below (s₁.setTop (mkF m 8 #[.val (.ref a0), .val (.ref a1), .unset] [(.ref a1)])) _
      refine st3 _ ?_
      show Steps p.tables e below (T3.setTop (mkF m 11 #[.val (.ref a0), .val (.ref a1), .unset] [(.int (1 : Int32))])) _
      refine XS.ifNo X3.here hx rfl (hb hby d4_11) rfl ((if0 _ _).trans (feq (by decide : ¬ ((1 : Int32) = (0 : Int32)))).1) ?_
      show Steps p.tables e below (T3.setTop (mkF m 14 #[.val (.ref a0), .val (.ref a1), .unset] [])) _
      refine XS.aloadN X3.here hx rfl (hb hby d4_14) rfl rfl ?_
      show Steps p.tables e below (T3.setTop (mkF m 15 #[.val (.ref a0), .val (.ref a1), .unset] [(.ref a1)])) _
      refine st4 _ ?_
      show Steps p.tables e below (T4.setTop (mkF m 18 #[.val (.ref a0), .val (.ref a1), .unset] [(.ref a1)])) _
      refine XS.astoreN X4.here hx rfl (hb hby d4_18) rfl rfl (l' := #[.val (.ref a0), .val (.ref a1), .val (.ref a1)]) rfl ?_
      show Steps p.tables e below (T4.setTop (mkF m 19 #[.val (.ref a0), .val (.ref a1), .val (.ref a1)] [])) _
      refine st5 _ ?_
      show Steps p.tables e below (T5.setTop (mkF m 22 #[.val (.ref a0), .val (.ref a1), .val (.ref a1)] [(.int cs)])) _
      refine XS.ifNo X5.here hx rfl (hb hby d4_22) rfl ((if0 _ _).trans (feq hcs).1) ?_
      show Steps p.tables e below (T5.setTop (mkF m 25 #[.val (.ref a0), .val (.ref a1), .val (.ref a1)] [])) _
      refine XS.aloadN X5.here hx rfl (hb hby d4_25) rfl rfl ?_
      show Steps p.tables e below (T5.setTop (mkF m 26 #[.val (.ref a0), .val (.ref a1), .val (.ref a1)] [(.ref a0)])) _
      refine st6 _ ?_
      show Steps p.tables e below (T6.setTop (mkF m 29 #[.val (.ref a0), .val (.ref a1), .val (.ref a1)] [(.int (0 : Int32))])) _
      refine XS.aloadN X6.here hx rfl (hb hby d4_29) rfl rfl ?_
      show Steps p.tables e below (T6.setTop (mkF m 30 #[.val (.ref a0), .val (.ref a1), .val (.ref a1)] [(.ref a1), (.int (0 : Int32))])) _
      refine st7 _ ?_
      show Steps p.tables e below (T7.setTop (mkF m 33 #[.val (.ref a0), .val (.ref a1), .val (.ref a1)] [(.int (0 : Int32)), (.int (0 : Int32))])) _
      refine XS.icmpNo X7.here hx rfl (hb hby d4_33) rfl (teq (by decide : (0 : Int32) = (0 : Int32))).2 ?_
      show Steps p.tables e below (T7.setTop (mkF m 36 #[.val (.ref a0), .val (.ref a1), .val (.ref a1)] [])) _
      refine XS.aloadN X7.here hx rfl (hb hby d4_36) rfl rfl ?_
      show Steps p.tables e below (T7.setTop (mkF m 37 #[.val (.ref a0), .val (.ref a1), .val (.ref a1)] [(.ref a0)])) _
      refine st8 _ ?_
      show Steps p.tables e below (T8.setTop (mkF m 40 #[.val (.ref a0), .val (.ref a1), .val (.ref a1)] [(.ref b0)])) _
      refine XS.aloadN X8.here hx rfl (hb hby d4_40) rfl rfl ?_
      show Steps p.tables e below (T8.setTop (mkF m 41 #[.val (.ref a0), .val (.ref a1), .val (.ref a1)] [(.ref a1), (.ref b0)])) _
      refine st9 _ ?_
      show Steps p.tables e below (T9.setTop (mkF m 44 #[.val (.ref a0), .val (.ref a1), .val (.ref a1)] [(.ref b1), (.ref b0)])) _
      refine st10 _ ?_
      show Steps p.tables e below (T10.setTop (mkF m 47 #[.val (.ref a0), .val (.ref a1), .val (.ref a1)] [(.int (1 : Int32))])) _
      refine XS.ifNo X10.here hx rfl (hb hby d4_47) rfl ((if0 _ _).trans (feq (by decide : ¬ ((1 : Int32) = (0 : Int32)))).1) ?_
      show Steps p.tables e below (T10.setTop (mkF m 50 #[.val (.ref a0), .val (.ref a1), .val (.ref a1)] [])) _
      refine XS.iconst X10.here hx rfl (hb hby d4_50) ?_
      show Steps p.tables e below (T10.setTop (mkF m 51 #[.val (.ref a0), .val (.ref a1), .val (.ref a1)] [(.int (1 : Int32))])) _
      refine XS.goto X10.here hx rfl (pc0 := 51) (pc' := 55) rfl (hb hby d4_51) (by decide) (by decide) ?_
      show Steps p.tables e below (T10.setTop (mkF m 55 #[.val (.ref a0), .val (.ref a1), .val (.ref a1)] [(.int (1 : Int32))])) _
      exact retN X10 hx (t := .boolean) Bd.returns (by simp) (hb hby d4_55) hr
    · show Q_rme6 Z a0 a1 b0 b1 kk0 kk1 cs c0 c1 c2 c3 c4 c5 h0 n0 _ T10.heap _
      rw [e10]
      exact ⟨rfl, N10, rfl⟩
theorem ef_rml7 (m : MethodId) (x0 : Addr) (x1 : Addr) : entryFrame m #[(.ref x0), (.ref x1)] 3 = mkF m 0 #[.val (.ref x0), .val (.ref x1), .unset] [] := by first | (simp [entryFrame, mkF, argsToLocals, Value.category]; done) | rfl
def Q_rml7 (Z : State) (b0 : Addr) (b1 : Addr) (kk0 : ClassId) (kk1 : ClassId) (c0 : Int32) (c1 : Int32) (c2 : Int32) (c3 : Int32) (c4 : Int32) (c5 : Int32) (c6 : Int32) (h0 : Heap) (n0 : Nat) (v : Option Value) (h : Heap) (L : List Loc) : Prop := v = some (.int (1)) ∧ Fr n0 L ∧ h = h0
set_option maxRecDepth 65536 in
set_option maxHeartbeats 40000000 in
theorem rml7 (l : Launch) (Z : State) (aw : Array Value) (hw : ∀ d ∈ tables_1, d.before aw Z = true) (ws : List Jvm.Cond) (b0 : Addr) (b1 : Addr) (kk0 : ClassId) (kk1 : ClassId) (c0 : Int32) (c1 : Int32) (c2 : Int32) (c3 : Int32) (c4 : Int32) (c5 : Int32) (c6 : Int32) (h0 : Heap) (n0 : Nat) (Z0 : n0 ≤ h0.size) (A0 : Arv Z h0 b0 kk0 .byte (7 : Int32) [(.int c0), (.int c1), (.int c2), (.int c3), (.int c4), (.int c5), (.int c6)] (.int (0 : Int32))) (A1 : Arv Z h0 b1 kk1 .byte (7 : Int32) [(.int c0), (.int c1), (.int c2), (.int c3), (.int c4), (.int c5), (.int c6)] (.int (0 : Int32))) :
    MetFree l (⟨"java/lang/StringLatin1", "equals", "([B[B)Z"⟩ : MethodName) (head1 (Jvm.Cond.code (⟨"java/lang/StringLatin1", "equals", "([B[B)Z"⟩ : MethodName) jdk_43_method_13_code 3 (some .boolean) :: ws) ({ frames := 0, cells := 0, slots := 0, locals := 0 } : Room)) (fun a U => a = #[(.ref b0), (.ref b1)] ∧ Z.Warmed39 U.vm ∧ U.heap = h0) (fun _ _ _ _ _ => True) (fun _ U oc U' => ∃ v L, oc = .returned v ∧ Q_rml7 Z b0 b1 kk0 kk1 c0 c1 c2 c3 c4 c5 c6 h0 n0 v U'.heap L ∧ FrameEnd U oc U' L ({ frames := 0, cells := 0, slots := 0, locals := 0 } : Room).cells ({ frames := 0, cells := 0, slots := 0, locals := 0 } : Room).slots) := by
  refine MetFree.of_bodySF (plainFor_of_name pn_1) hisR ?_
  intro p e s m args below meth c s₁ Bd hml0 hP hK
  obtain ⟨rfl, hZ, hh⟩ := hP
  have hx := Bd.exec
  have hby := Bd.bytes
  have hml : c.maxLocals = 3 := hml0
  have hown : s.vm.findClass "java/lang/StringLatin1" = some m.cls := findClass_of_methodNamed Bd.named
  have hnm := (name_of_methodNamed Bd.named Bd.method).1
  have X0 : Stand p l e ({ frames := 0, cells := 0, slots := 0, locals := 0 } : Room) s m #[(.ref b0), (.ref b1)] below meth c s₁ [] 0 0 := Stand.of_body Bd
  have e0 : s₁.heap = h0 := by rw [← hh, Bd.state]; rfl
  have N0 := Fr.nil n0
  have pre0 : ∀ t, Steps p.tables e below (s₁.setTop (mkF m 0 #[.val (.ref b0), .val (.ref b1), .unset] [])) t → Steps p.tables e below (s₁.setTop (entryFrame m #[(.ref b0), (.ref b1)] 3)) t := fun t k => castTop (ef_rml7 m b0 b1) k
  obtain ⟨cl1, Ar1, q1, S1, M1, H1, G1⟩ := id A0
  obtain ⟨cl2, Ar2, q2, S2, M2, H2, G2⟩ := id A1
  obtain ⟨cl3, Ar3, q3, S3, M3, H3, G3⟩ := id A0
  obtain ⟨cl4, Ar4, q4, S4, M4, H4, G4⟩ := id A0
  obtain ⟨cl5, Ar5, q5, S5, M5, H5, G5⟩ := id A1
  obtain ⟨cl6, Ar6, q6, S6, M6, H6, G6⟩ := id A0
  obtain ⟨cl7, Ar7, q7, S7, M7, H7, G7⟩ := id A0
  obtain ⟨cl8, Ar8, q8, S8, M8, H8, G8⟩ := id A1
  obtain ⟨cl9, Ar9, q9, S9, M9, H9, G9⟩ := id A0
  obtain ⟨cl10, Ar10, q10, S10, M10, H10, G10⟩ := id A0
  obtain ⟨cl11, Ar11, q11, S11, M11, H11, G11⟩ := id A1
  obtain ⟨cl12, Ar12, q12, S12, M12, H12, G12⟩ := id A0
  obtain ⟨cl13, Ar13, q13, S13, M13, H13, G13⟩ := id A0
  obtain ⟨cl14, Ar14, q14, S14, M14, H14, G14⟩ := id A1
  obtain ⟨cl15, Ar15, q15, S15, M15, H15, G15⟩ := id A0
  obtain ⟨cl16, Ar16, q16, S16, M16, H16, G16⟩ := id A0
  obtain ⟨cl17, Ar17, q17, S17, M17, H17, G17⟩ := id A1
  obtain ⟨cl18, Ar18, q18, S18, M18, H18, G18⟩ := id A0
  obtain ⟨cl19, Ar19, q19, S19, M19, H19, G19⟩ := id A0
  obtain ⟨cl20, Ar20, q20, S20, M20, H20, G20⟩ := id A1
  obtain ⟨cl21, Ar21, q21, S21, M21, H21, G21⟩ := id A0
  obtain ⟨cl22, Ar22, q22, S22, M22, H22, G22⟩ := id A0
  obtain ⟨cl23, Ar23, q23, S23, M23, H23, G23⟩ := id A1
  obtain ⟨cl24, Ar24, q24, S24, M24, H24, G24⟩ := id A0
  obtain ⟨fs, hr, hrun, hended, hW, hsame⟩ := X0.leave (v := some (.int (1 : Int32))) (fun h => by rw [Bd.returns] at h; cases h)
  refine ⟨_, _, pre0 _ ?_, hrun, hended, _, _, rfl, ?_, ⟨_, rfl⟩, hW, hsame.mono (by decide) (by decide)⟩
  · show Steps p.tables e below (s₁.setTop (mkF m 0 #[.val (.ref b0), .val (.ref b1), .unset] [])) _
    refine XS.aloadN X0.here hx rfl (hb hby d5_0) rfl rfl ?_
    show Steps p.tables e below (s₁.setTop (mkF m 1 #[.val (.ref b0), .val (.ref b1), .unset] [(.ref b0)])) _
    refine X0.arraylength hx (by rw [e0]; exact Ar1.1) (State.isArrayOf_alike hZ.alike Ar1.2.1) (g := (mkF m 1 #[.val (.ref b0), .val (.ref b1), .unset] [(.ref b0)])) rfl rfl (hb hby d5_1) _ ?_
    rw [len_of S1 M1]
    show Steps p.tables e below (s₁.setTop (mkF m 2 #[.val (.ref b0), .val (.ref b1), .unset] [(.int (7 : Int32))])) _
    refine XS.aloadN X0.here hx rfl (hb hby d5_2) rfl rfl ?_
    show Steps p.tables e below (s₁.setTop (mkF m 3 #[.val (.ref b0), .val (.ref b1), .unset] [(.ref b1), (.int (7 : Int32))])) _
    refine X0.arraylength hx (by rw [e0]; exact Ar2.1) (State.isArrayOf_alike hZ.alike Ar2.2.1) (g := (mkF m 3 #[.val (.ref b0), .val (.ref b1), .unset] [(.ref b1), (.int (7 : Int32))])) rfl rfl (hb hby d5_3) _ ?_
    rw [len_of S2 M2]
    show Steps p.tables e below (s₁.setTop (mkF m 4 #[.val (.ref b0), .val (.ref b1), .unset] [(.int (7 : Int32)), (.int (7 : Int32))])) _
    refine XS.icmpNo X0.here hx rfl (hb hby d5_4) rfl (teq (by decide : (7 : Int32) = (7 : Int32))).2 ?_
    show Steps p.tables e below (s₁.setTop (mkF m 7 #[.val (.ref b0), .val (.ref b1), .unset] [])) _
    refine XS.iconst X0.here hx rfl (hb hby d5_7) ?_
    show Steps p.tables e below (s₁.setTop (mkF m 8 #[.val (.ref b0), .val (.ref b1), .unset] [(.int (0 : Int32))])) _
    refine XS.istoreN X0.here hx rfl (hb hby d5_8) rfl (l' := #[.val (.ref b0), .val (.ref b1), .val (.int (0 : Int32))]) rfl ?_
    show Steps p.tables e below (s₁.setTop (mkF m 9 #[.val (.ref b0), .val (.ref b1), .val (.int (0 : Int32))] [])) _
    refine XS.iloadN X0.here hx rfl (hb hby d5_9) rfl ?_
    show Steps p.tables e below (s₁.setTop (mkF m 10 #[.val (.ref b0), .val (.ref b1), .val (.int (0 : Int32))] [(.int (0 : Int32))])) _
    refine XS.aloadN X0.here hx rfl (hb hby d5_10) rfl rfl ?_
    show Steps p.tables e below (s₁.setTop (mkF m 11 #[.val (.ref b0), .val (.ref b1), .val (.int (0 : Int32))] [(.ref b0), (.int (0 : Int32))])) _
    refine X0.arraylength hx (by rw [e0]; exact Ar3.1) (State.isArrayOf_alike hZ.alike Ar3.2.1) (g := (mkF m 11 #[.val (.ref b0), .val (.ref b1), .val (.int (0 : Int32))] [(.ref b0), (.int (0 : Int32))])) rfl rfl (hb hby d5_11) _ ?_
    rw [len_of S3 M3]
    show Steps p.tables e below (s₁.setTop (mkF m 12 #[.val (.ref b0), .val (.ref b1), .val (.int (0 : Int32))] [(.int (7 : Int32)), (.int (0 : Int32))])) _
    refine XS.icmpNo X0.here hx rfl (hb hby d5_12) rfl (tlt (by decide : (0 : Int32) < (7 : Int32))).2.1 ?_
    show Steps p.tables e below (s₁.setTop (mkF m 15 #[.val (.ref b0), .val (.ref b1), .val (.int (0 : Int32))] [])) _
    refine XS.aloadN X0.here hx rfl (hb hby d5_15) rfl rfl ?_
    show Steps p.tables e below (s₁.setTop (mkF m 16 #[.val (.ref b0), .val (.ref b1), .val (.int (0 : Int32))] [(.ref b0)])) _
    refine XS.iloadN X0.here hx rfl (hb hby d5_16) rfl ?_
    show Steps p.tables e below (s₁.setTop (mkF m 17 #[.val (.ref b0), .val (.ref b1), .val (.int (0 : Int32))] [(.int (0 : Int32)), (.ref b0)])) _
    have hin4 : ¬ ((0 : Int32) < 0 ∨ cl4.slots.size ≤ ((0 : Int32)).toNatClampNeg) := (inb_of S4 ⟨by decide, by decide⟩)
    refine X0.baloadBytes hx (j := (0 : Int32)) (v := (.int c0)) (by rw [e0]; exact Ar4.1) (State.isArrayOf_alike hZ.alike Ar4.2.1) Ar4.2.2 hin4 (H4.at hin4 rfl) (g := (mkF m 17 #[.val (.ref b0), .val (.ref b1), .val (.int (0 : Int32))] [(.int (0 : Int32)), (.ref b0)])) rfl rfl (hb hby d5_17) _ ?_
    show Steps p.tables e below (s₁.setTop (mkF m 18 #[.val (.ref b0), .val (.ref b1), .val (.int (0 : Int32))] [(.int c0)])) _
    refine XS.aloadN X0.here hx rfl (hb hby d5_18) rfl rfl ?_
    show Steps p.tables e below (s₁.setTop (mkF m 19 #[.val (.ref b0), .val (.ref b1), .val (.int (0 : Int32))] [(.ref b1), (.int c0)])) _
    refine XS.iloadN X0.here hx rfl (hb hby d5_19) rfl ?_
    show Steps p.tables e below (s₁.setTop (mkF m 20 #[.val (.ref b0), .val (.ref b1), .val (.int (0 : Int32))] [(.int (0 : Int32)), (.ref b1), (.int c0)])) _
    have hin5 : ¬ ((0 : Int32) < 0 ∨ cl5.slots.size ≤ ((0 : Int32)).toNatClampNeg) := (inb_of S5 ⟨by decide, by decide⟩)
    refine X0.baloadBytes hx (j := (0 : Int32)) (v := (.int c0)) (by rw [e0]; exact Ar5.1) (State.isArrayOf_alike hZ.alike Ar5.2.1) Ar5.2.2 hin5 (H5.at hin5 rfl) (g := (mkF m 20 #[.val (.ref b0), .val (.ref b1), .val (.int (0 : Int32))] [(.int (0 : Int32)), (.ref b1), (.int c0)])) rfl rfl (hb hby d5_20) _ ?_
    show Steps p.tables e below (s₁.setTop (mkF m 21 #[.val (.ref b0), .val (.ref b1), .val (.int (0 : Int32))] [(.int c0), (.int c0)])) _
    refine XS.icmpYes X0.here hx rfl (pc0 := 21) (pc' := 26) rfl (hb hby d5_21) rfl (teq (rfl : c0 = c0)).1 (by decide) (by decide) ?_
    show Steps p.tables e below (s₁.setTop (mkF m 26 #[.val (.ref b0), .val (.ref b1), .val (.int (0 : Int32))] [])) _
    refine XS.iinc X0.here hx rfl (hb hby d5_26) rfl (l' := #[.val (.ref b0), .val (.ref b1), .val (.int (1 : Int32))]) rfl ?_
    show Steps p.tables e below (s₁.setTop (mkF m 29 #[.val (.ref b0), .val (.ref b1), .val (.int (1 : Int32))] [])) _
    refine XS.goto X0.here hx rfl (pc0 := 29) (pc' := 9) rfl (hb hby d5_29) (by decide) (by decide) ?_
    show Steps p.tables e below (s₁.setTop (mkF m 9 #[.val (.ref b0), .val (.ref b1), .val (.int (1 : Int32))] [])) _
    refine XS.iloadN X0.here hx rfl (hb hby d5_9) rfl ?_
    show Steps p.tables e below (s₁.setTop (mkF m 10 #[.val (.ref b0), .val (.ref b1), .val (.int (1 : Int32))] [(.int (1 : Int32))])) _
    refine XS.aloadN X0.here hx rfl (hb hby d5_10) rfl rfl ?_
    show Steps p.tables e below (s₁.setTop (mkF m 11 #[.val (.ref b0), .val (.ref b1), .val (.int (1 : Int32))] [(.ref b0), (.int (1 : Int32))])) _
    refine X0.arraylength hx (by rw [e0]; exact Ar6.1) (State.isArrayOf_alike hZ.alike Ar6.2.1) (g := (mkF m 11 #[.val (.ref b0), .val (.ref b1), .val (.int (1 : Int32))] [(.ref b0), (.int (1 : Int32))])) rfl rfl (hb hby d5_11) _ ?_
    rw [len_of S6 M6]
    show Steps p.tables e below (s₁.setTop (mkF m 12 #[.val (.ref b0), .val (.ref b1), .val (.int (1 : Int32))] [(.int (7 : Int32)), (.int (1 : Int32))])) _
    refine XS.icmpNo X0.here hx rfl (hb hby d5_12) rfl (tlt (by decide : (1 : Int32) < (7 : Int32))).2.1 ?_
    show Steps p.tables e below (s₁.setTop (mkF m 15 #[.val (.ref b0), .val (.ref b1), .val (.int (1 : Int32))] [])) _
    refine XS.aloadN X0.here hx rfl (hb hby d5_15) rfl rfl ?_
    show Steps p.tables e below (s₁.setTop (mkF m 16 #[.val (.ref b0), .val (.ref b1), .val (.int (1 : Int32))] [(.ref b0)])) _
    refine XS.iloadN X0.here hx rfl (hb hby d5_16) rfl ?_
    show Steps p.tables e below (s₁.setTop (mkF m 17 #[.val (.ref b0), .val (.ref b1), .val (.int (1 : Int32))] [(.int (1 : Int32)), (.ref b0)])) _
    have hin7 : ¬ ((1 : Int32) < 0 ∨ cl7.slots.size ≤ ((1 : Int32)).toNatClampNeg) := (inb_of S7 ⟨by decide, by decide⟩)
    refine X0.baloadBytes hx (j := (1 : Int32)) (v := (.int c1)) (by rw [e0]; exact Ar7.1) (State.isArrayOf_alike hZ.alike Ar7.2.1) Ar7.2.2 hin7 (H7.at hin7 rfl) (g := (mkF m 17 #[.val (.ref b0), .val (.ref b1), .val (.int (1 : Int32))] [(.int (1 : Int32)), (.ref b0)])) rfl rfl (hb hby d5_17) _ ?_
    show Steps p.tables e below (s₁.setTop (mkF m 18 #[.val (.ref b0), .val (.ref b1), .val (.int (1 : Int32))] [(.int c1)])) _
    refine XS.aloadN X0.here hx rfl (hb hby d5_18) rfl rfl ?_
    show Steps p.tables e below (s₁.setTop (mkF m 19 #[.val (.ref b0), .val (.ref b1), .val (.int (1 : Int32))] [(.ref b1), (.int c1)])) _
    refine XS.iloadN X0.here hx rfl (hb hby d5_19) rfl ?_
    show Steps p.tables e below (s₁.setTop (mkF m 20 #[.val (.ref b0), .val (.ref b1), .val (.int (1 : Int32))] [(.int (1 : Int32)), (.ref b1), (.int c1)])) _
    have hin8 : ¬ ((1 : Int32) < 0 ∨ cl8.slots.size ≤ ((1 : Int32)).toNatClampNeg) := (inb_of S8 ⟨by decide, by decide⟩)
    refine X0.baloadBytes hx (j := (1 : Int32)) (v := (.int c1)) (by rw [e0]; exact Ar8.1) (State.isArrayOf_alike hZ.alike Ar8.2.1) Ar8.2.2 hin8 (H8.at hin8 rfl) (g := (mkF m 20 #[.val (.ref b0), .val (.ref b1), .val (.int (1 : Int32))] [(.int (1 : Int32)), (.ref b1), (.int c1)])) rfl rfl (hb hby d5_20) _ ?_
    show Steps p.tables e below (s₁.setTop (mkF m 21 #[.val (.ref b0), .val (.ref b1), .val (.int (1 : Int32))] [(.int c1), (.int c1)])) _
    refine XS.icmpYes X0.here hx rfl (pc0 := 21) (pc' := 26) rfl (hb hby d5_21) rfl (teq (rfl : c1 = c1)).1 (by decide) (by decide) ?_
    show Steps p.tables e below (s₁.setTop (mkF m 26 #[.val (.ref b0), .val (.ref b1), .val (.int (1 : Int32))] [])) _
    refine XS.iinc X0.here hx rfl (hb hby d5_26) rfl (l' := #[.val (.ref b0), .val (.ref b1), .val (.int (2 : Int32))]) rfl ?_
    show Steps p.tables e below (s₁.setTop (mkF m 29 #[.val (.ref b0), .val (.ref b1), .val (.int (2 : Int32))] [])) _
    refine XS.goto X0.here hx rfl (pc0 := 29) (pc' := 9) rfl (hb hby d5_29) (by decide) (by decide) ?_
    show Steps p.tables e below (s₁.setTop (mkF m 9 #[.val (.ref b0), .val (.ref b1), .val (.int (2 : Int32))] [])) _
    refine XS.iloadN X0.here hx rfl (hb hby d5_9) rfl ?_
    show Steps p.tables e below (s₁.setTop (mkF m 10 #[.val (.ref b0), .val (.ref b1), .val (.int (2 : Int32))] [(.int (2 : Int32))])) _
    refine XS.aloadN X0.here hx rfl (hb hby d5_10) rfl rfl ?_
    show Steps p.tables e below (s₁.setTop (mkF m 11 #[.val (.ref b0), .val (.ref b1), .val (.int (2 : Int32))] [(.ref b0), (.int (2 : Int32))])) _
    refine X0.arraylength hx (by rw [e0]; exact Ar9.1) (State.isArrayOf_alike hZ.alike Ar9.2.1) (g := (mkF m 11 #[.val (.ref b0), .val (.ref b1), .val (.int (2 : Int32))] [(.ref b0), (.int (2 : Int32))])) rfl rfl (hb hby d5_11) _ ?_
    rw [len_of S9 M9]
    show Steps p.tables e below (s₁.setTop (mkF m 12 #[.val (.ref b0), .val (.ref b1), .val (.int (2 : Int32))] [(.int (7 : Int32)), (.int (2 : Int32))])) _
    refine XS.icmpNo X0.here hx rfl (hb hby d5_12) rfl (tlt (by decide : (2 : Int32) < (7 : Int32))).2.1 ?_
    show Steps p.tables e below (s₁.setTop (mkF m 15 #[.val (.ref b0), .val (.ref b1), .val (.int (2 : Int32))] [])) _
    refine XS.aloadN X0.here hx rfl (hb hby d5_15) rfl rfl ?_
    show Steps p.tables e below (s₁.setTop (mkF m 16 #[.val (.ref b0), .val (.ref b1), .val (.int (2 : Int32))] [(.ref b0)])) _
    refine XS.iloadN X0.here hx rfl (hb hby d5_16) rfl ?_
    show Steps p.tables e below (s₁.setTop (mkF m 17 #[.val (.ref b0), .val (.ref b1), .val (.int (2 : Int32))] [(.int (2 : Int32)), (.ref b0)])) _
    have hin10 : ¬ ((2 : Int32) < 0 ∨ cl10.slots.size ≤ ((2 : Int32)).toNatClampNeg) := (inb_of S10 ⟨by decide, by decide⟩)
    refine X0.baloadBytes hx (j := (2 : Int32)) (v := (.int c2)) (by rw [e0]; exact Ar10.1) (State.isArrayOf_alike hZ.alike Ar10.2.1) Ar10.2.2 hin10 (H10.at hin10 rfl) (g := (mkF m 17 #[.val (.ref b0), .val (.ref b1), .val (.int (2 : Int32))] [(.int (2 : Int32)), (.ref b0)])) rfl rfl (hb hby d5_17) _ ?_
    show Steps p.tables e below (s₁.setTop (mkF m 18 #[.val (.ref b0), .val (.ref b1), .val (.int (2 : Int32))] [(.int c2)])) _
    refine XS.aloadN X0.here hx rfl (hb hby d5_18) rfl rfl ?_
    show Steps p.tables e below (s₁.setTop (mkF m 19 #[.val (.ref b0), .val (.ref b1), .val (.int (2 : Int32))] [(.ref b1), (.int c2)])) _
    refine XS.iloadN X0.here hx rfl (hb hby d5_19) rfl ?_
    show Steps p.tables e below (s₁.setTop (mkF m 20 #[.val (.ref b0), .val (.ref b1), .val (.int (2 : Int32))] [(.int (2 : Int32)), (.ref b1), (.int c2)])) _
    have hin11 : ¬ ((2 : Int32) < 0 ∨ cl11.slots.size ≤ ((2 : Int32)).toNatClampNeg) := (inb_of S11 ⟨by decide, by decide⟩)
    refine X0.baloadBytes hx (j := (2 : Int32)) (v := (.int c2)) (by rw [e0]; exact Ar11.1) (State.isArrayOf_alike hZ.alike Ar11.2.1) Ar11.2.2 hin11 (H11.at hin11 rfl) (g := (mkF m 20 #[.val (.ref b0), .val (.ref b1), .val (.int (2 : Int32))] [(.int (2 : Int32)), (.ref b1), (.int c2)])) rfl rfl (hb hby d5_20) _ ?_
    show Steps p.tables e below (s₁.setTop (mkF m 21 #[.val (.ref b0), .val (.ref b1), .val (.int (2 : Int32))] [(.int c2), (.int c2)])) _
    refine XS.icmpYes X0.here hx rfl (pc0 := 21) (pc' := 26) rfl (hb hby d5_21) rfl (teq (rfl : c2 = c2)).1 (by decide) (by decide) ?_
    show Steps p.tables e below (s₁.setTop (mkF m 26 #[.val (.ref b0), .val (.ref b1), .val (.int (2 : Int32))] [])) _
    refine XS.iinc X0.here hx rfl (hb hby d5_26) rfl (l' := #[.val (.ref b0), .val (.ref b1), .val (.int (3 : Int32))]) rfl ?_
    show Steps p.tables e below (s₁.setTop (mkF m 29 #[.val (.ref b0), .val (.ref b1), .val (.int (3 : Int32))] [])) _
    refine XS.goto X0.here hx rfl (pc0 := 29) (pc' := 9) rfl (hb hby d5_29) (by decide) (by decide) ?_
    show Steps p.tables e below (s₁.setTop (mkF m 9 #[.val (.ref b0), .val (.ref b1), .val (.int (3 : Int32))] [])) _
    refine XS.iloadN X0.here hx rfl (hb hby d5_9) rfl ?_
    show Steps p.tables e below (s₁.setTop (mkF m 10 #[.val (.ref b0), .val (.ref b1), .val (.int (3 : Int32))] [(.int (3 : Int32))])) _
    refine XS.aloadN X0.here hx rfl (hb hby d5_10) rfl rfl ?_
    show Steps p.tables e below (s₁.setTop (mkF m 11 #[.val (.ref b0), .val (.ref b1), .val (.int (3 : Int32))] [(.ref b0), (.int (3 : Int32))])) _
    refine X0.arraylength hx (by rw [e0]; exact Ar12.1) (State.isArrayOf_alike hZ.alike Ar12.2.1) (g := (mkF m 11 #[.val (.ref b0), .val (.ref b1), .val (.int (3 : Int32))] [(.ref b0), (.int (3 : Int32))])) rfl rfl (hb hby d5_11) _ ?_
    rw [len_of S12 M12]
    show Steps p.tables e below (s₁.setTop (mkF m 12 #[.val (.ref b0), .val (.ref b1), .val (.int (3 : Int32))] [(.int (7 : Int32)), (.int (3 : Int32))])) _
    refine XS.icmpNo X0.here hx rfl (hb hby d5_12) rfl (tlt (by decide : (3 : Int32) < (7 : Int32))).2.1 ?_
    show Steps p.tables e below (s₁.setTop (mkF m 15 #[.val (.ref b0), .val (.ref b1), .val (.int (3 : Int32))] [])) _
    refine XS.aloadN X0.here hx rfl (hb hby d5_15) rfl rfl ?_
    show Steps p.tables e below (s₁.setTop (mkF m 16 #[.val (.ref b0), .val (.ref b1), .val (.int (3 : Int32))] [(.ref b0)])) _
    refine XS.iloadN X0.here hx rfl (hb hby d5_16) rfl ?_
    show Steps p.tables e below (s₁.setTop (mkF m 17 #[.val (.ref b0), .val (.ref b1), .val (.int (3 : Int32))] [(.int (3 : Int32)), (.ref b0)])) _
    have hin13 : ¬ ((3 : Int32) < 0 ∨ cl13.slots.size ≤ ((3 : Int32)).toNatClampNeg) := (inb_of S13 ⟨by decide, by decide⟩)
    refine X0.baloadBytes hx (j := (3 : Int32)) (v := (.int c3)) (by rw [e0]; exact Ar13.1) (State.isArrayOf_alike hZ.alike Ar13.2.1) Ar13.2.2 hin13 (H13.at hin13 rfl) (g := (mkF m 17 #[.val (.ref b0), .val (.ref b1), .val (.int (3 : Int32))] [(.int (3 : Int32)), (.ref b0)])) rfl rfl (hb hby d5_17) _ ?_
    show Steps p.tables e below (s₁.setTop (mkF m 18 #[.val (.ref b0), .val (.ref b1), .val (.int (3 : Int32))] [(.int c3)])) _
    refine XS.aloadN X0.here hx rfl (hb hby d5_18) rfl rfl ?_
    show Steps p.tables e below (s₁.setTop (mkF m 19 #[.val (.ref b0), .val (.ref b1), .val (.int (3 : Int32))] [(.ref b1), (.int c3)])) _
    refine XS.iloadN X0.here hx rfl (hb hby d5_19) rfl ?_
    show Steps p.tables e below (s₁.setTop (mkF m 20 #[.val (.ref b0), .val (.ref b1), .val (.int (3 : Int32))] [(.int (3 : Int32)), (.ref b1), (.int c3)])) _
    have hin14 : ¬ ((3 : Int32) < 0 ∨ cl14.slots.size ≤ ((3 : Int32)).toNatClampNeg) := (inb_of S14 ⟨by decide, by decide⟩)
    refine X0.baloadBytes hx (j := (3 : Int32)) (v := (.int c3)) (by rw [e0]; exact Ar14.1) (State.isArrayOf_alike hZ.alike Ar14.2.1) Ar14.2.2 hin14 (H14.at hin14 rfl) (g := (mkF m 20 #[.val (.ref b0), .val (.ref b1), .val (.int (3 : Int32))] [(.int (3 : Int32)), (.ref b1), (.int c3)])) rfl rfl (hb hby d5_20) _ ?_
    show Steps p.tables e below (s₁.setTop (mkF m 21 #[.val (.ref b0), .val (.ref b1), .val (.int (3 : Int32))] [(.int c3), (.int c3)])) _
    refine XS.icmpYes X0.here hx rfl (pc0 := 21) (pc' := 26) rfl (hb hby d5_21) rfl (teq (rfl : c3 = c3)).1 (by decide) (by decide) ?_
    show Steps p.tables e below (s₁.setTop (mkF m 26 #[.val (.ref b0), .val (.ref b1), .val (.int (3 : Int32))] [])) _
    refine XS.iinc X0.here hx rfl (hb hby d5_26) rfl (l' := #[.val (.ref b0), .val (.ref b1), .val (.int (4 : Int32))]) rfl ?_
    show Steps p.tables e below (s₁.setTop (mkF m 29 #[.val (.ref b0), .val (.ref b1), .val (.int (4 : Int32))] [])) _
    refine XS.goto X0.here hx rfl (pc0 := 29) (pc' := 9) rfl (hb hby d5_29) (by decide) (by decide) ?_
    show Steps p.tables e below (s₁.setTop (mkF m 9 #[.val (.ref b0), .val (.ref b1), .val (.int (4 : Int32))] [])) _
    refine XS.iloadN X0.here hx rfl (hb hby d5_9) rfl ?_
    show Steps p.tables e below (s₁.setTop (mkF m 10 #[.val (.ref b0), .val (.ref b1), .val (.int (4 : Int32))] [(.int (4 : Int32))])) _
    refine XS.aloadN X0.here hx rfl (hb hby d5_10) rfl rfl ?_
    show Steps p.tables e below (s₁.setTop (mkF m 11 #[.val (.ref b0), .val (.ref b1), .val (.int (4 : Int32))] [(.ref b0), (.int (4 : Int32))])) _
    refine X0.arraylength hx (by rw [e0]; exact Ar15.1) (State.isArrayOf_alike hZ.alike Ar15.2.1) (g := (mkF m 11 #[.val (.ref b0), .val (.ref b1), .val (.int (4 : Int32))] [(.ref b0), (.int (4 : Int32))])) rfl rfl (hb hby d5_11) _ ?_
    rw [len_of S15 M15]
    show Steps p.tables e below (s₁.setTop (mkF m 12 #[.val (.ref b0), .val (.ref b1), .val (.int (4 : Int32))] [(.int (7 : Int32)), (.int (4 : Int32))])) _
    refine XS.icmpNo X0.here hx rfl (hb hby d5_12) rfl (tlt (by decide : (4 : Int32) < (7 : Int32))).2.1 ?_
    show Steps p.tables e below (s₁.setTop (mkF m 15 #[.val (.ref b0), .val (.ref b1), .val (.int (4 : Int32))] [])) _
    refine XS.aloadN X0.here hx rfl (hb hby d5_15) rfl rfl ?_
    show Steps p.tables e below (s₁.setTop (mkF m 16 #[.val (.ref b0), .val (.ref b1), .val (.int (4 : Int32))] [(.ref b0)])) _
    refine XS.iloadN X0.here hx rfl (hb hby d5_16) rfl ?_
    show Steps p.tables e below (s₁.setTop (mkF m 17 #[.val (.ref b0), .val (.ref b1), .val (.int (4 : Int32))] [(.int (4 : Int32)), (.ref b0)])) _
    have hin16 : ¬ ((4 : Int32) < 0 ∨ cl16.slots.size ≤ ((4 : Int32)).toNatClampNeg) := (inb_of S16 ⟨by decide, by decide⟩)
    refine X0.baloadBytes hx (j := (4 : Int32)) (v := (.int c4)) (by rw [e0]; exact Ar16.1) (State.isArrayOf_alike hZ.alike Ar16.2.1) Ar16.2.2 hin16 (H16.at hin16 rfl) (g := (mkF m 17 #[.val (.ref b0), .val (.ref b1), .val (.int (4 : Int32))] [(.int (4 : Int32)), (.ref b0)])) rfl rfl (hb hby d5_17) _ ?_
    show Steps p.tables e below (s₁.setTop (mkF m 18 #[.val (.ref b0), .val (.ref b1), .val (.int (4 : Int32))] [(.int c4)])) _
    refine XS.aloadN X0.here hx rfl (hb hby d5_18) rfl rfl ?_
    show Steps p.tables e below (s₁.setTop (mkF m 19 #[.val (.ref b0), .val (.ref b1), .val (.int (4 : Int32))] [(.ref b1), (.int c4)])) _
    refine XS.iloadN X0.here hx rfl (hb hby d5_19) rfl ?_
    show Steps p.tables e below (s₁.setTop (mkF m 20 #[.val (.ref b0), .val (.ref b1), .val (.int (4 : Int32))] [(.int (4 : Int32)), (.ref b1), (.int c4)])) _
    have hin17 : ¬ ((4 : Int32) < 0 ∨ cl17.slots.size ≤ ((4 : Int32)).toNatClampNeg) := (inb_of S17 ⟨by decide, by decide⟩)
    refine X0.baloadBytes hx (j := (4 : Int32)) (v := (.int c4)) (by rw [e0]; exact Ar17.1) (State.isArrayOf_alike hZ.alike Ar17.2.1) Ar17.2.2 hin17 (H17.at hin17 rfl) (g := (mkF m 20 #[.val (.ref b0), .val (.ref b1), .val (.int (4 : Int32))] [(.int (4 : Int32)), (.ref b1), (.int c4)])) rfl rfl (hb hby d5_20) _ ?_
    show Steps p.tables e below (s₁.setTop (mkF m 21 #[.val (.ref b0), .val (.ref b1), .val (.int (4 : Int32))] [(.int c4), (.int c4)])) _
    refine XS.icmpYes X0.here hx rfl (pc0 := 21) (pc' := 26) rfl (hb hby d5_21) rfl (teq (rfl : c4 = c4)).1 (by decide) (by decide) ?_
    show Steps p.tables e below (s₁.setTop (mkF m 26 #[.val (.ref b0), .val (.ref b1), .val (.int (4 : Int32))] [])) _
    refine XS.iinc X0.here hx rfl (hb hby d5_26) rfl (l' := #[.val (.ref b0), .val (.ref b1), .val (.int (5 : Int32))]) rfl ?_
    show Steps p.tables e below (s₁.setTop (mkF m 29 #[.val (.ref b0), .val (.ref b1), .val (.int (5 : Int32))] [])) _
    refine XS.goto X0.here hx rfl (pc0 := 29) (pc' := 9) rfl (hb hby d5_29) (by decide) (by decide) ?_
    show Steps p.tables e below (s₁.setTop (mkF m 9 #[.val (.ref b0), .val (.ref b1), .val (.int (5 : Int32))] [])) _
    refine XS.iloadN X0.here hx rfl (hb hby d5_9) rfl ?_
    show Steps p.tables e below (s₁.setTop (mkF m 10 #[.val (.ref b0), .val (.ref b1), .val (.int (5 : Int32))] [(.int (5 : Int32))])) _
    refine XS.aloadN X0.here hx rfl (hb hby d5_10) rfl rfl ?_
    show Steps p.tables e below (s₁.setTop (mkF m 11 #[.val (.ref b0), .val (.ref b1), .val (.int (5 : Int32))] [(.ref b0), (.int (5 : Int32))])) _
    refine X0.arraylength hx (by rw [e0]; exact Ar18.1) (State.isArrayOf_alike hZ.alike Ar18.2.1) (g := (mkF m 11 #[.val (.ref b0), .val (.ref b1), .val (.int (5 : Int32))] [(.ref b0), (.int (5 : Int32))])) rfl rfl (hb hby d5_11) _ ?_
    rw [len_of S18 M18]
    show Steps p.tables e below (s₁.setTop (mkF m 12 #[.val (.ref b0), .val (.ref b1), .val (.int (5 : Int32))] [(.int (7 : Int32)), (.int (5 : Int32))])) _
    refine XS.icmpNo X0.here hx rfl (hb hby d5_12) rfl (tlt (by decide : (5 : Int32) < (7 : Int32))).2.1 ?_
    show Steps p.tables e below (s₁.setTop (mkF m 15 #[.val (.ref b0), .val (.ref b1), .val (.int (5 : Int32))] [])) _
    refine XS.aloadN X0.here hx rfl (hb hby d5_15) rfl rfl ?_
    show Steps p.tables e below (s₁.setTop (mkF m 16 #[.val (.ref b0), .val (.ref b1), .val (.int (5 : Int32))] [(.ref b0)])) _
    refine XS.iloadN X0.here hx rfl (hb hby d5_16) rfl ?_
    show Steps p.tables e below (s₁.setTop (mkF m 17 #[.val (.ref b0), .val (.ref b1), .val (.int (5 : Int32))] [(.int (5 : Int32)), (.ref b0)])) _
    have hin19 : ¬ ((5 : Int32) < 0 ∨ cl19.slots.size ≤ ((5 : Int32)).toNatClampNeg) := (inb_of S19 ⟨by decide, by decide⟩)
    refine X0.baloadBytes hx (j := (5 : Int32)) (v := (.int c5)) (by rw [e0]; exact Ar19.1) (State.isArrayOf_alike hZ.alike Ar19.2.1) Ar19.2.2 hin19 (H19.at hin19 rfl) (g := (mkF m 17 #[.val (.ref b0), .val (.ref b1), .val (.int (5 : Int32))] [(.int (5 : Int32)), (.ref b0)])) rfl rfl (hb hby d5_17) _ ?_
    show Steps p.tables e below (s₁.setTop (mkF m 18 #[.val (.ref b0), .val (.ref b1), .val (.int (5 : Int32))] [(.int c5)])) _
    refine XS.aloadN X0.here hx rfl (hb hby d5_18) rfl rfl ?_
    show Steps p.tables e below (s₁.setTop (mkF m 19 #[.val (.ref b0), .val (.ref b1), .val (.int (5 : Int32))] [(.ref b1), (.int c5)])) _
    refine XS.iloadN X0.here hx rfl (hb hby d5_19) rfl ?_
    show Steps p.tables e below (s₁.setTop (mkF m 20 #[.val (.ref b0), .val (.ref b1), .val (.int (5 : Int32))] [(.int (5 : Int32)), (.ref b1), (.int c5)])) _
    have hin20 : ¬ ((5 : Int32) < 0 ∨ cl20.slots.size ≤ ((5 : Int32)).toNatClampNeg) := (inb_of S20 ⟨by decide, by decide⟩)
    refine X0.baloadBytes hx (j := (5 : Int32)) (v := (.int c5)) (by rw [e0]; exact Ar20.1) (State.isArrayOf_alike hZ.alike Ar20.2.1) Ar20.2.2 hin20 (H20.at hin20 rfl) (g := (mkF m 20 #[.val (.ref b0), .val (.ref b1), .val (.int (5 : Int32))] [(.int (5 : Int32)), (.ref b1), (.int c5)])) rfl rfl (hb hby d5_20) _ ?_
    show Steps p.tables e below (s₁.setTop (mkF m 21 #[.val (.ref b0), .val (.ref b1), .val (.int (5 : Int32))] [(.int c5), (.int c5)])) _
    refine XS.icmpYes X0.here hx rfl (pc0 := 21) (pc' := 26) rfl (hb hby d5_21) rfl (teq (rfl : c5 = c5)).1 (by decide) (by decide) ?_
    show Steps p.tables e below (s₁.setTop (mkF m 26 #[.val (.ref b0), .val (.ref b1), .val (.int (5 : Int32))] [])) _
    refine XS.iinc X0.here hx rfl (hb hby d5_26) rfl (l' := #[.val (.ref b0), .val (.ref b1), .val (.int (6 : Int32))]) rfl ?_
    show Steps p.tables e below (s₁.setTop (mkF m 29 #[.val (.ref b0), .val (.ref b1), .val (.int (6 : Int32))] [])) _
    refine XS.goto X0.here hx rfl (pc0 := 29) (pc' := 9) rfl (hb hby d5_29) (by decide) (by decide) ?_
    show Steps p.tables e below (s₁.setTop (mkF m 9 #[.val (.ref b0), .val (.ref b1), .val (.int (6 : Int32))] [])) _
    refine XS.iloadN X0.here hx rfl (hb hby d5_9) rfl ?_
    show Steps p.tables e below (s₁.setTop (mkF m 10 #[.val (.ref b0), .val (.ref b1), .val (.int (6 : Int32))] [(.int (6 : Int32))])) _
    refine XS.aloadN X0.here hx rfl (hb hby d5_10) rfl rfl ?_
    show Steps p.tables e below (s₁.setTop (mkF m 11 #[.val (.ref b0), .val (.ref b1), .val (.int (6 : Int32))] [(.ref b0), (.int (6 : Int32))])) _
    refine X0.arraylength hx (by rw [e0]; exact Ar21.1) (State.isArrayOf_alike hZ.alike Ar21.2.1) (g := (mkF m 11 #[.val (.ref b0), .val (.ref b1), .val (.int (6 : Int32))] [(.ref b0), (.int (6 : Int32))])) rfl rfl (hb hby d5_11) _ ?_
    rw [len_of S21 M21]
    show Steps p.tables e below (s₁.setTop (mkF m 12 #[.val (.ref b0), .val (.ref b1), .val (.int (6 : Int32))] [(.int (7 : Int32)), (.int (6 : Int32))])) _
    refine XS.icmpNo X0.here hx rfl (hb hby d5_12) rfl (tlt (by decide : (6 : Int32) < (7 : Int32))).2.1 ?_
    show Steps p.tables e below (s₁.setTop (mkF m 15 #[.val (.ref b0), .val (.ref b1), .val (.int (6 : Int32))] [])) _
    refine XS.aloadN X0.here hx rfl (hb hby d5_15) rfl rfl ?_
    show Steps p.tables e below (s₁.setTop (mkF m 16 #[.val (.ref b0), .val (.ref b1), .val (.int (6 : Int32))] [(.ref b0)])) _
    refine XS.iloadN X0.here hx rfl (hb hby d5_16) rfl ?_
    show Steps p.tables e below (s₁.setTop (mkF m 17 #[.val (.ref b0), .val (.ref b1), .val (.int (6 : Int32))] [(.int (6 : Int32)), (.ref b0)])) _
    have hin22 : ¬ ((6 : Int32) < 0 ∨ cl22.slots.size ≤ ((6 : Int32)).toNatClampNeg) := (inb_of S22 ⟨by decide, by decide⟩)
    refine X0.baloadBytes hx (j := (6 : Int32)) (v := (.int c6)) (by rw [e0]; exact Ar22.1) (State.isArrayOf_alike hZ.alike Ar22.2.1) Ar22.2.2 hin22 (H22.at hin22 rfl) (g := (mkF m 17 #[.val (.ref b0), .val (.ref b1), .val (.int (6 : Int32))] [(.int (6 : Int32)), (.ref b0)])) rfl rfl (hb hby d5_17) _ ?_
    show Steps p.tables e below (s₁.setTop (mkF m 18 #[.val (.ref b0), .val (.ref b1), .val (.int (6 : Int32))] [(.int c6)])) _
    refine XS.aloadN X0.here hx rfl (hb hby d5_18) rfl rfl ?_
    show Steps p.tables e below (s₁.setTop (mkF m 19 #[.val (.ref b0), .val (.ref b1), .val (.int (6 : Int32))] [(.ref b1), (.int c6)])) _
    refine XS.iloadN X0.here hx rfl (hb hby d5_19) rfl ?_
    show Steps p.tables e below (s₁.setTop (mkF m 20 #[.val (.ref b0), .val (.ref b1), .val (.int (6 : Int32))] [(.int (6 : Int32)), (.ref b1), (.int c6)])) _
    have hin23 : ¬ ((6 : Int32) < 0 ∨ cl23.slots.size ≤ ((6 : Int32)).toNatClampNeg) := (inb_of S23 ⟨by decide, by decide⟩)
    refine X0.baloadBytes hx (j := (6 : Int32)) (v := (.int c6)) (by rw [e0]; exact Ar23.1) (State.isArrayOf_alike hZ.alike Ar23.2.1) Ar23.2.2 hin23 (H23.at hin23 rfl) (g := (mkF m 20 #[.val (.ref b0), .val (.ref b1), .val (.int (6 : Int32))] [(.int (6 : Int32)), (.ref b1), (.int c6)])) rfl rfl (hb hby d5_20) _ ?_
    show Steps p.tables e below (s₁.setTop (mkF m 21 #[.val (.ref b0), .val (.ref b1), .val (.int (6 : Int32))] [(.int c6), (.int c6)])) _
    refine XS.icmpYes X0.here hx rfl (pc0 := 21) (pc' := 26) rfl (hb hby d5_21) rfl (teq (rfl : c6 = c6)).1 (by decide) (by decide) ?_
    show Steps p.tables e below (s₁.setTop (mkF m 26 #[.val (.ref b0), .val (.ref b1), .val (.int (6 : Int32))] [])) _
    refine XS.iinc X0.here hx rfl (hb hby d5_26) rfl (l' := #[.val (.ref b0), .val (.ref b1), .val (.int (7 : Int32))]) rfl ?_
    show Steps p.tables e below (s₁.setTop (mkF m 29 #[.val (.ref b0), .val (.ref b1), .val (.int (7 : Int32))] [])) _
    refine XS.goto X0.here hx rfl (pc0 := 29) (pc' := 9) rfl (hb hby d5_29) (by decide) (by decide) ?_
    show Steps p.tables e below (s₁.setTop (mkF m 9 #[.val (.ref b0), .val (.ref b1), .val (.int (7 : Int32))] [])) _
    refine XS.iloadN X0.here hx rfl (hb hby d5_9) rfl ?_
    show Steps p.tables e below (s₁.setTop (mkF m 10 #[.val (.ref b0), .val (.ref b1), .val (.int (7 : Int32))] [(.int (7 : Int32))])) _
    refine XS.aloadN X0.here hx rfl (hb hby d5_10) rfl rfl ?_
    show Steps p.tables e below (s₁.setTop (mkF m 11 #[.val (.ref b0), .val (.ref b1), .val (.int (7 : Int32))] [(.ref b0), (.int (7 : Int32))])) _
    refine X0.arraylength hx (by rw [e0]; exact Ar24.1) (State.isArrayOf_alike hZ.alike Ar24.2.1) (g := (mkF m 11 #[.val (.ref b0), .val (.ref b1), .val (.int (7 : Int32))] [(.ref b0), (.int (7 : Int32))])) rfl rfl (hb hby d5_11) _ ?_
    rw [len_of S24 M24]
    show Steps p.tables e below (s₁.setTop (mkF m 12 #[.val (.ref b0), .val (.ref b1), .val (.int (7 : Int32))] [(.int (7 : Int32)), (.int (7 : Int32))])) _
    refine XS.icmpYes X0.here hx rfl (pc0 := 12) (pc' := 32) rfl (hb hby d5_12) rfl (flt (by decide : ¬ ((7 : Int32) < (7 : Int32)))).2.1 (by decide) (by decide) ?_
    show Steps p.tables e below (s₁.setTop (mkF m 32 #[.val (.ref b0), .val (.ref b1), .val (.int (7 : Int32))] [])) _
    refine XS.iconst X0.here hx rfl (hb hby d5_32) ?_
    show Steps p.tables e below (s₁.setTop (mkF m 33 #[.val (.ref b0), .val (.ref b1), .val (.int (7 : Int32))] [(.int (1 : Int32))])) _
    exact retN X0 hx (t := .boolean) Bd.returns (by simp) (hb hby d5_33) hr
  · show Q_rml7 Z b0 b1 kk0 kk1 c0 c1 c2 c3 c4 c5 c6 h0 n0 _ s₁.heap _
    rw [e0]
    exact ⟨rfl, N0, rfl⟩
theorem ef_rme7 (m : MethodId) (x0 : Addr) (x1 : Addr) : entryFrame m #[(.ref x0), (.ref x1)] 3 = mkF m 0 #[.val (.ref x0), .val (.ref x1), .unset] [] := by first | (simp [entryFrame, mkF, argsToLocals, Value.category]; done) | rfl
def Q_rme7 (Z : State) (a0 : Addr) (a1 : Addr) (b0 : Addr) (b1 : Addr) (kk0 : ClassId) (kk1 : ClassId) (cs : Int32) (c0 : Int32) (c1 : Int32) (c2 : Int32) (c3 : Int32) (c4 : Int32) (c5 : Int32) (c6 : Int32) (h0 : Heap) (n0 : Nat) (v : Option Value) (h : Heap) (L : List Loc) : Prop := v = some (.int (1)) ∧ Fr n0 L ∧ h = h0
set_option maxRecDepth 65536 in
set_option maxHeartbeats 40000000 in
theorem rme7 (l : Launch) (Z : State) (aw : Array Value) (hw : ∀ d ∈ tables_1, d.before aw Z = true) (ws : List Jvm.Cond) (a0 : Addr) (a1 : Addr) (b0 : Addr) (b1 : Addr) (kk0 : ClassId) (kk1 : ClassId) (cs : Int32) (c0 : Int32) (c1 : Int32) (c2 : Int32) (c3 : Int32) (c4 : Int32) (c5 : Int32) (c6 : Int32) (h0 : Heap) (n0 : Nat) (Z0 : n0 ≤ h0.size) (E0 : Exa Z h0 a0 "java/lang/String") (C0 : Fld Z h0 a0 "java/lang/String" "coder" "B" (.int (0 : Int32))) (V0 : Fld Z h0 a0 "java/lang/String" "value" "[B" (.ref b0)) (A0 : Arv Z h0 b0 kk0 .byte (7 : Int32) [(.int c0), (.int c1), (.int c2), (.int c3), (.int c4), (.int c5), (.int c6)] (.int (0 : Int32))) (E1 : Exa Z h0 a1 "java/lang/String") (C1 : Fld Z h0 a1 "java/lang/String" "coder" "B" (.int (0 : Int32))) (V1 : Fld Z h0 a1 "java/lang/String" "value" "[B" (.ref b1)) (A1 : Arv Z h0 b1 kk1 .byte (7 : Int32) [(.int c0), (.int c1), (.int c2), (.int c3), (.int c4), (.int c5), (.int c6)] (.int (0 : Int32))) (SC : Sta Z h0 "java/lang/String" "COMPACT_STRINGS" "Z" (.int cs)) (hcs : ¬ cs = (0 : Int32)) :
    MetFree l (⟨"java/lang/String", "equals", "(Ljava/lang/Object;)Z"⟩ : MethodName) (head1 (Jvm.Cond.code (⟨"java/lang/String", "equals", "(Ljava/lang/Object;)Z"⟩ : MethodName) jdk_42_method_66_code 3 (some .boolean) :: ws) ({ frames := 1, cells := 0, slots := 0, locals := 14 } : Room)) (fun a U => a = #[(.ref a0), (.ref a1)] ∧ Z.Warmed39 U.vm ∧ U.heap = h0) (fun _ _ _ _ _ => True) (fun _ U oc U' => ∃ v L, oc = .returned v ∧ Q_rme7 Z a0 a1 b0 b1 kk0 kk1 cs c0 c1 c2 c3 c4 c5 c6 h0 n0 v U'.heap L ∧ FrameEnd U oc U' L ({ frames := 1, cells := 0, slots := 0, locals := 14 } : Room).cells ({ frames := 1, cells := 0, slots := 0, locals := 14 } : Room).slots) := by
  refine MetFree.of_bodySF (plainFor_of_name pn_2) hisR ?_
  intro p e s m args below meth c s₁ Bd hml0 hP hK
  obtain ⟨rfl, hZ, hh⟩ := hP
  have hx := Bd.exec
  have hby := Bd.bytes
  have hml : c.maxLocals = 3 := hml0
  have hown : s.vm.findClass "java/lang/String" = some m.cls := findClass_of_methodNamed Bd.named
  have hnm := (name_of_methodNamed Bd.named Bd.method).1
  have X0 : Stand p l e ({ frames := 1, cells := 0, slots := 0, locals := 14 } : Room) s m #[(.ref a0), (.ref a1)] below meth c s₁ [] 0 0 := Stand.of_body Bd
  have e0 : s₁.heap = h0 := by rw [← hh, Bd.state]; rfl
  have N0 := Fr.nil n0
  have pre0 : ∀ t, Steps p.tables e below (s₁.setTop (mkF m 0 #[.val (.ref a0), .val (.ref a1), .unset] [])) t → Steps p.tables e below (s₁.setTop (entryFrame m #[(.ref a0), (.ref a1)] 3)) t := fun t k => castTop (ef_rme7 m a0 a1) k
  have pre1 : ∀ t, Steps p.tables e below (s₁.setTop (mkF m 2 #[.val (.ref a0), .val (.ref a1), .unset] [(.ref a1), (.ref a0)])) t → Steps p.tables e below (s₁.setTop (entryFrame m #[(.ref a0), (.ref a1)] 3)) t := fun t k => by
    refine pre0 t ?_
    show Steps p.tables e below (s₁.setTop (mkF m 0 #[.val (.ref a0), .val (.ref a1), .unset] [])) _
    refine XS.aloadN X0.here hx rfl (hb hby d4_0) rfl rfl ?_
    show Steps p.tables e below (s₁.setTop (mkF m 1 #[.val (.ref a0), .val (.ref a1), .unset] [(.ref a0)])) _
    refine XS.aloadN X0.here hx rfl (hb hby d4_1) rfl rfl ?_
    exact k
  by_cases hc2 : a0 = a1
  · obtain ⟨fs, hr, hrun, hended, hW, hsame⟩ := X0.leave (v := some (.int (1 : Int32))) (fun h => by rw [Bd.returns] at h; cases h)
    refine ⟨_, _, pre1 _ ?_, hrun, hended, _, _, rfl, ?_, ⟨_, rfl⟩, hW, hsame.mono (by decide) (by decide)⟩
    · show Steps p.tables e below (s₁.setTop (mkF m 2 #[.val (.ref a0), .val (.ref a1), .unset] [(.ref a1), (.ref a0)])) _
      refine Jvm.RoadKit.acmp (g := (mkF m 2 #[.val (.ref a0), .val (.ref a1), .unset] [(.ref a1), (.ref a0)])) X0 hx rfl rfl rfl (pc0 := 2) (pc' := 5) (same := true) rfl (hb hby d4_2) rfl (decide_eq_true (congrArg Value.ref hc2)) (by decide) (by decide) ?_
      show Steps p.tables e below (s₁.setTop (mkF m 5 #[.val (.ref a0), .val (.ref a1), .unset] [])) _
      refine XS.iconst X0.here hx rfl (hb hby d4_5) ?_
      show Steps p.tables e below (s₁.setTop (mkF m 6 #[.val (.ref a0), .val (.ref a1), .unset] [(.int (1 : Int32))])) _
      exact retN X0 hx (t := .boolean) Bd.returns (by simp) (hb hby d4_6) hr
    · show Q_rme7 Z a0 a1 b0 b1 kk0 kk1 cs c0 c1 c2 c3 c4 c5 c6 h0 n0 _ s₁.heap _
      rw [e0]
      exact ⟨rfl, N0, rfl⟩
  · obtain ⟨T3, X3, e3, st3⟩ := instY X0 hx hZ hown (hw _ (List.mem_of_getElem? (i := 32) rfl)) e0 (Ins.self E1) (g := (mkF m 8 #[.val (.ref a0), .val (.ref a1), .unset] [(.ref a1)])) rfl rfl (hb hby d4_8)
    obtain ⟨T4, X4, e4, st4⟩ := castY X3 hx hZ hown (hw _ (List.mem_of_getElem? (i := 32) rfl)) e3 (Ins.self E1) (g := (mkF m 15 #[.val (.ref a0), .val (.ref a1), .unset] [(.ref a1)])) rfl rfl (hb hby d4_15)
    obtain ⟨T5, X5, e5, st5⟩ := getS2 X4 hx hZ hown (host := "") (Or.inl (hw _ (List.mem_of_getElem? (i := 34) rfl))) Via.refl e4 SC (g := (mkF m 19 #[.val (.ref a0), .val (.ref a1), .val (.ref a1)] [])) rfl (hb hby d4_19)
    obtain ⟨T6, X6, e6, st6⟩ := getF X5 hx hZ hown (host := "") (Or.inl (hw _ (List.mem_of_getElem? (i := 35) rfl))) Via.refl e5 C0 (g := (mkF m 26 #[.val (.ref a0), .val (.ref a1), .val (.ref a1)] [(.ref a0)])) rfl rfl (hb hby d4_26)
    obtain ⟨T7, X7, e7, st7⟩ := getF X6 hx hZ hown (host := "") (Or.inl (hw _ (List.mem_of_getElem? (i := 35) rfl))) Via.refl e6 C1 (g := (mkF m 30 #[.val (.ref a0), .val (.ref a1), .val (.ref a1)] [(.ref a1), (.int (0 : Int32))])) rfl rfl (hb hby d4_30)
    obtain ⟨T8, X8, e8, st8⟩ := getF X7 hx hZ hown (host := "") (Or.inl (hw _ (List.mem_of_getElem? (i := 36) rfl))) Via.refl e7 V0 (g := (mkF m 37 #[.val (.ref a0), .val (.ref a1), .val (.ref a1)] [(.ref a0)])) rfl rfl (hb hby d4_37)
    obtain ⟨T9, X9, e9, st9⟩ := getF X8 hx hZ hown (host := "") (Or.inl (hw _ (List.mem_of_getElem? (i := 36) rfl))) Via.refl e8 V1 (g := (mkF m 41 #[.val (.ref a0), .val (.ref a1), .val (.ref a1)] [(.ref a1), (.ref b0)])) rfl rfl (hb hby d4_41)
    obtain ⟨_, _, ⟨T10, L10, k10, n10⟩, -, X10, ⟨Lc10, hQ10, l10, y10, z10⟩, st10⟩ := Jvm.LawKit.callS X9 hx (y := (⟨"java/lang/StringLatin1", "equals", "([B[B)Z"⟩ : MethodName)) hown (mvT hZ (hw _ (List.mem_of_getElem? (i := 37) rfl))) (mvT hZ (hw _ (List.mem_of_getElem? (i := 38) rfl))) (mvT hZ (hw _ (List.mem_of_getElem? (i := 39) rfl))) (mvT hZ (hw _ (List.mem_of_getElem? (i := 40) rfl))) (by decide) (backOf (W := 0) (rml7 l Z aw hw [] b0 b1 kk0 kk1 c0 c1 c2 c3 c4 c5 c6 h0 n0 Z0 A0 A1) hZ (hw _ (List.mem_of_getElem? (i := 40) rfl)) (hw _ (List.mem_of_getElem? (i := 39) rfl)) (by decide) (by decide)) (g := (mkF m 44 #[.val (.ref a0), .val (.ref a1), .val (.ref a1)] [(.ref b1), (.ref b0)])) rfl (by rw [hml]; rfl) (argsL := [(.ref b0), (.ref b1)]) (rest := []) (lenOf pd_0 rfl) rfl (by show 2 * 0 + _ ≤ _; exact Nat.le_of_eq rfl) (hb hby d4_44) (fun _ _ => ⟨rfl, e9, (by decide : 0 + 0 ≤ _), (by decide : 0 + 0 ≤ _)⟩)
    dsimp only [Pt.U, Pt.locs, Pt.cells, Pt.slots] at X10 l10 y10 z10 st10 hQ10
    subst l10 y10 z10
    obtain ⟨rfl, N10q, e10⟩ := hQ10
    have N10 := Fr.app N0 N10q
    obtain ⟨fs, hr, hrun, hended, hW, hsame⟩ := X10.leave (v := some (.int (1 : Int32))) (fun h => by rw [Bd.returns] at h; cases h)
    refine ⟨_, _, pre1 _ ?_, hrun, hended, _, _, rfl, ?_, ⟨_, rfl⟩, hW, hsame.mono (by decide) (by decide)⟩
    · show Steps p.tables e below (s₁.setTop (mkF m 2 #[.val (.ref a0), .val (.ref a1), .unset] [(.ref a1), (.ref a0)])) _
      refine Jvm.RoadKit.acmp (g := (mkF m 2 #[.val (.ref a0), .val (.ref a1), .unset] [(.ref a1), (.ref a0)])) X0 hx rfl rfl rfl (pc0 := 2) (pc' := 7) (same := false) rfl (hb hby d4_2) rfl (decide_eq_false fun q => hc2 (Value.ref.inj q)) (by decide) (by decide) ?_
      show Steps p.tables e below (s₁.setTop (mkF m 7 #[.val (.ref a0), .val (.ref a1), .unset] [])) _
      refine XS.aloadN X0.here hx rfl (hb hby d4_7) rfl rfl ?_
      show Steps p.tables e below (s₁.setTop (mkF m 8 #[.val (.ref a0), .val (.ref a1), .unset] [(.ref a1)])) _
      refine st3 _ ?_
      show Steps p.tables e below (T3.setTop (mkF m 11 #[.val (.ref a0), .val (.ref a1), .unset] [(.int (1 : Int32))])) _
      refine XS.ifNo X3.here hx rfl (hb hby d4_11) rfl ((if0 _ _).trans (feq (by decide : ¬ ((1 : Int32) = (0 : Int32)))).1) ?_
      show Steps p.tables e below (T3.setTop (mkF m 14 #[.val (.ref a0), .val (.ref a1), .unset] [])) _
      refine XS.aloadN X3.here hx rfl (hb hby d4_14) rfl rfl ?_
      show Steps p.tables e below (T3.setTop (mkF m 15 #[.val (.ref a0), .val (.ref a1), .unset] [(.ref a1)])) _
      refine st4 _ ?_
      show Steps p.tables e below (T4.setTop (mkF m 18 #[.val (.ref a0), .val (.ref a1), .unset] [(.ref a1)])) _
      refine XS.astoreN X4.here hx rfl (hb hby d4_18) rfl rfl (l' := #[.val (.ref a0), .val (.ref a1), .val (.ref a1)]) rfl ?_
      show Steps p.tables e below (T4.setTop (mkF m 19 #[.val (.ref a0), .val (.ref a1), .val (.ref a1)] [])) _
      refine st5 _ ?_
      show Steps p.tables e below (T5.setTop (mkF m 22 #[.val (.ref a0), .val (.ref a1), .val (.ref a1)] [(.int cs)])) _
      refine XS.ifNo X5.here hx rfl (hb hby d4_22) rfl ((if0 _ _).trans (feq hcs).1) ?_
      show Steps p.tables e below (T5.setTop (mkF m 25 #[.val (.ref a0), .val (.ref a1), .val (.ref a1)] [])) _
      refine XS.aloadN X5.here hx rfl (hb hby d4_25) rfl rfl ?_
      show Steps p.tables e below (T5.setTop (mkF m 26 #[.val (.ref a0), .val (.ref a1), .val (.ref a1)] [(.ref a0)])) _
      refine st6 _ ?_
      show Steps p.tables e below (T6.setTop (mkF m 29 #[.val (.ref a0), .val (.ref a1), .val (.ref a1)] [(.int (0 : Int32))])) _
      refine XS.aloadN X6.here hx rfl (hb hby d4_29) rfl rfl ?_
      show Steps p.tables e below (T6.setTop (mkF m 30 #[.val (.ref a0), .val (.ref a1), .val (.ref a1)] [(.ref a1), (.int (0 : Int32))])) _
      refine st7 _ ?_
      show Steps p.tables e below (T7.setTop (mkF m 33 #[.val (.ref a0), .val (.ref a1), .val (.ref a1)] [(.int (0 : Int32)), (.int (0 : Int32))])) _
      refine XS.icmpNo X7.here hx rfl (hb hby d4_33) rfl (teq (by decide : (0 : Int32) = (0 : Int32))).2 ?_
      show Steps p.tables e below (T7.setTop (mkF m 36 #[.val (.ref a0), .val (.ref a1), .val (.ref a1)] [])) _
      refine XS.aloadN X7.here hx rfl (hb hby d4_36) rfl rfl ?_
      show Steps p.tables e below (T7.setTop (mkF m 37 #[.val (.ref a0), .val (.ref a1), .val (.ref a1)] [(.ref a0)])) _
      refine st8 _ ?_
      show Steps p.tables e below (T8.setTop (mkF m 40 #[.val (.ref a0), .val (.ref a1), .val (.ref a1)] [(.ref b0)])) _
      refine XS.aloadN X8.here hx rfl (hb hby d4_40) rfl rfl ?_
      show Steps p.tables e below (T8.setTop (mkF m 41 #[.val (.ref a0), .val (.ref a1), .val (.ref a1)] [(.ref a1), (.ref b0)])) _
      refine st9 _ ?_
      show Steps p.tables e below (T9.setTop (mkF m 44 #[.val (.ref a0), .val (.ref a1), .val (.ref a1)] [(.ref b1), (.ref b0)])) _
      refine st10 _ ?_
      show Steps p.tables e below (T10.setTop (mkF m 47 #[.val (.ref a0), .val (.ref a1), .val (.ref a1)] [(.int (1 : Int32))])) _
      refine XS.ifNo X10.here hx rfl (hb hby d4_47) rfl ((if0 _ _).trans (feq (by decide : ¬ ((1 : Int32) = (0 : Int32)))).1) ?_
      show Steps p.tables e below (T10.setTop (mkF m 50 #[.val (.ref a0), .val (.ref a1), .val (.ref a1)] [])) _
      refine XS.iconst X10.here hx rfl (hb hby d4_50) ?_
      show Steps p.tables e below (T10.setTop (mkF m 51 #[.val (.ref a0), .val (.ref a1), .val (.ref a1)] [(.int (1 : Int32))])) _
      refine XS.goto X10.here hx rfl (pc0 := 51) (pc' := 55) rfl (hb hby d4_51) (by decide) (by decide) ?_
      show Steps p.tables e below (T10.setTop (mkF m 55 #[.val (.ref a0), .val (.ref a1), .val (.ref a1)] [(.int (1 : Int32))])) _
      exact retN X10 hx (t := .boolean) Bd.returns (by simp) (hb hby d4_55) hr
    · show Q_rme7 Z a0 a1 b0 b1 kk0 kk1 cs c0 c1 c2 c3 c4 c5 c6 h0 n0 _ T10.heap _
      rw [e10]
      exact ⟨rfl, N10, rfl⟩
theorem pd_1 : parseMethodDescriptor "(ZZ)Lcom/example/lattice_sash/latticesash/OwnFileView$Type;" = some ⟨[.boolean, .boolean], some (.object "com/example/lattice_sash/latticesash/OwnFileView$Type")⟩ := by decide +kernel
theorem pd_2 : parseMethodDescriptor "()Ljava/lang/String;" = some ⟨[], some (.object "java/lang/String")⟩ := by decide +kernel
theorem pd_3 : parseMethodDescriptor "()Z" = some ⟨[], some .boolean⟩ := by decide +kernel
theorem pd_4 : parseMethodDescriptor "(Ljava/lang/Object;)Z" = some ⟨[(.object "java/lang/Object")], some .boolean⟩ := by decide +kernel
theorem ef_rm0 (m : MethodId) (x0 : Int32) : entryFrame m #[(.int x0)] maxLocals = mkF m 0 #[.val (.int x0), .unset, .unset, .unset, .unset, .unset] [] := by first | (simp [entryFrame, mkF, argsToLocals, Value.category, maxLocals]; done) | rfl
theorem pn_3 : plainName "com/example/lattice_sash/latticesash/TypeOfPinLaw" = true := by first | (simp [plainName, overriddenIn]; done) | decide +kernel
def Q0 (Z : State) (p0 : Int32) (wD : Addr) (wA : Addr) (wF : Addr) (cs : Int32) (sD : Addr) (bD : Addr) (kD : ClassId) (sA : Addr) (bA : Addr) (kA : ClassId) (sF : Addr) (bF : Addr) (kF : ClassId) (h0 : Heap) (n0 : Nat) (v : Option Value) (h : Heap) (L : List Loc) : Prop := v = some (.int 1) ∧ Fr n0 L
set_option maxRecDepth 65536 in
set_option maxHeartbeats 40000000 in
theorem rm0 (l : Launch) (Z : State) (aw : Array Value) (hw : ∀ d ∈ tables_1, d.before aw Z = true) (ws : List Jvm.Cond) (p0 : Int32) (wD : Addr) (wA : Addr) (wF : Addr) (cs : Int32) (sD : Addr) (bD : Addr) (kD : ClassId) (sA : Addr) (bA : Addr) (kA : ClassId) (sF : Addr) (bF : Addr) (kF : ClassId) (h0 : Heap) (n0 : Nat) (Z0 : n0 ≤ h0.size) (S_FOLDER : Sta Z h0 "com/example/lattice_sash/latticesash/OwnFileView$Type" "FOLDER" "Lcom/example/lattice_sash/latticesash/OwnFileView$Type;" (.ref wD)) (S_ARCHIVE : Sta Z h0 "com/example/lattice_sash/latticesash/OwnFileView$Type" "ARCHIVE" "Lcom/example/lattice_sash/latticesash/OwnFileView$Type;" (.ref wA)) (S_FILE : Sta Z h0 "com/example/lattice_sash/latticesash/OwnFileView$Type" "FILE" "Lcom/example/lattice_sash/latticesash/OwnFileView$Type;" (.ref wF)) (SC : Sta Z h0 "java/lang/String" "COMPACT_STRINGS" "Z" (.int cs)) (hcs : ¬ cs = (0 : Int32)) (nDF : wD ≠ wF) (nAF : wA ≠ wF) (nDA : wD ≠ wA) (EwD : Exa Z h0 wD "com/example/lattice_sash/latticesash/OwnFileView$Type") (FwD : Fld Z h0 wD "com/example/lattice_sash/latticesash/OwnFileView$Type" "description" "Ljava/lang/String;" (.ref sD)) (EsD : Exa Z h0 sD "java/lang/String") (CsD : Fld Z h0 sD "java/lang/String" "coder" "B" (.int (0 : Int32))) (VsD : Fld Z h0 sD "java/lang/String" "value" "[B" (.ref bD)) (AsD : Arv Z h0 bD kD .byte (6 : Int32) [(.int (70 : Int32)), (.int (111 : Int32)), (.int (108 : Int32)), (.int (100 : Int32)), (.int (101 : Int32)), (.int (114 : Int32))] (.int (0 : Int32))) (EwA : Exa Z h0 wA "com/example/lattice_sash/latticesash/OwnFileView$Type") (FwA : Fld Z h0 wA "com/example/lattice_sash/latticesash/OwnFileView$Type" "description" "Ljava/lang/String;" (.ref sA)) (EsA : Exa Z h0 sA "java/lang/String") (CsA : Fld Z h0 sA "java/lang/String" "coder" "B" (.int (0 : Int32))) (VsA : Fld Z h0 sA "java/lang/String" "value" "[B" (.ref bA)) (AsA : Arv Z h0 bA kA .byte (7 : Int32) [(.int (65 : Int32)), (.int (114 : Int32)), (.int (99 : Int32)), (.int (104 : Int32)), (.int (105 : Int32)), (.int (118 : Int32)), (.int (101 : Int32))] (.int (0 : Int32))) (EwF : Exa Z h0 wF "com/example/lattice_sash/latticesash/OwnFileView$Type") (FwF : Fld Z h0 wF "com/example/lattice_sash/latticesash/OwnFileView$Type" "description" "Ljava/lang/String;" (.ref sF)) (EsF : Exa Z h0 sF "java/lang/String") (CsF : Fld Z h0 sF "java/lang/String" "coder" "B" (.int (0 : Int32))) (VsF : Fld Z h0 sF "java/lang/String" "value" "[B" (.ref bF)) (AsF : Arv Z h0 bF kF .byte (4 : Int32) [(.int (70 : Int32)), (.int (105 : Int32)), (.int (108 : Int32)), (.int (101 : Int32))] (.int (0 : Int32))) :
    MetFree l x (head1 (Jvm.Cond.code x code maxLocals ret :: ws) room_1) (fun a U => a = #[(.int p0)] ∧ Z.Warmed39 U.vm ∧ U.heap = h0 ∧ CHv Z consts_1 U.vm h0) (fun _ _ _ _ _ => True) (fun _ U oc U' => ∃ v L, oc = .returned v ∧ Q0 Z p0 wD wA wF cs sD bD kD sA bA kA sF bF kF h0 n0 v U'.heap L ∧ ReturnedEndW U oc U' L room_1.cells room_1.slots) := by
  refine MetFree.of_bodySF (plainFor_of_name pn_3) hisR ?_
  intro p e s m args below meth c s₁ Bd hml0 hP hK
  obtain ⟨rfl, hZ, hh, hCH⟩ := hP
  have hx := Bd.exec
  have hby := Bd.bytes
  have hml : c.maxLocals = 6 := hml0
  have hown : s.vm.findClass "com/example/lattice_sash/latticesash/TypeOfPinLaw" = some m.cls := findClass_of_methodNamed Bd.named
  have hnm := (name_of_methodNamed Bd.named Bd.method).1
  have X0 : Stand p l e room_1 s m #[(.int p0)] below meth c s₁ [] 0 0 := Stand.of_body Bd
  have e0 : s₁.heap = h0 := by rw [← hh, Bd.state]; rfl
  have N0 := Fr.nil n0
  have hS0 : s.Since s.vm 0 := (State.WarmedH.refl s).since 0
  have hEL : EW Z aw consts_1 := (EW.cons (hw _ (List.mem_of_getElem? (i := 44) rfl)) (by decide) (EW.cons (hw _ (List.mem_of_getElem? (i := 48) rfl)) (by decide) (EW.cons (hw _ (List.mem_of_getElem? (i := 19) rfl)) (by decide) EW.nil)))
  have hwS : ∀ d ∈ Bundle.stringAtoms, d.before aw Z = true := by
    intro d hd
    simp only [Bundle.stringAtoms, List.mem_cons, List.not_mem_nil, or_false] at hd
    rcases hd with rfl | rfl | rfl | rfl | rfl | rfl | rfl
    · exact (hw _ (List.mem_of_getElem? (i := 20) rfl))
    · exact (hw _ (List.mem_of_getElem? (i := 21) rfl))
    · exact (hw _ (List.mem_of_getElem? (i := 22) rfl))
    · exact (hw _ (List.mem_of_getElem? (i := 23) rfl))
    · exact (hw _ (List.mem_of_getElem? (i := 24) rfl))
    · exact (hw _ (List.mem_of_getElem? (i := 25) rfl))
    · exact (hw _ (List.mem_of_getElem? (i := 26) rfl))
  have pre0 : ∀ t, Steps p.tables e below (s₁.setTop (mkF m 0 #[.val (.int p0), .unset, .unset, .unset, .unset, .unset] [])) t → Steps p.tables e below (s₁.setTop (entryFrame m #[(.int p0)] maxLocals)) t := fun t k => castTop (ef_rm0 m p0) k
  have pre1 : ∀ t, Steps p.tables e below (s₁.setTop (mkF m 3 #[.val (.int p0), .unset, .unset, .unset, .unset, .unset] [(.int (p0 &&& (1 : Int32)))])) t → Steps p.tables e below (s₁.setTop (entryFrame m #[(.int p0)] maxLocals)) t := fun t k => by
    refine pre0 t ?_
    show Steps p.tables e below (s₁.setTop (mkF m 0 #[.val (.int p0), .unset, .unset, .unset, .unset, .unset] [])) _
    refine XS.iloadN X0.here hx rfl (hb hby at_0) rfl ?_
    show Steps p.tables e below (s₁.setTop (mkF m 1 #[.val (.int p0), .unset, .unset, .unset, .unset, .unset] [(.int p0)])) _
    refine XS.iconst X0.here hx rfl (hb hby at_1) ?_
    show Steps p.tables e below (s₁.setTop (mkF m 2 #[.val (.int p0), .unset, .unset, .unset, .unset, .unset] [(.int (1 : Int32)), (.int p0)])) _
    refine XS.iand X0.here hx rfl (hb hby at_2) rfl ?_
    exact k
  by_cases hc2 : (p0 &&& (1 : Int32)) = (0 : Int32)
  · have pre3 : ∀ t, Steps p.tables e below (s₁.setTop (mkF m 15 #[.val (.int p0), .val (.int (0 : Int32)), .unset, .unset, .unset, .unset] [(.int (p0 &&& (2 : Int32)))])) t → Steps p.tables e below (s₁.setTop (entryFrame m #[(.int p0)] maxLocals)) t := fun t k => by
      refine pre1 t ?_
      show Steps p.tables e below (s₁.setTop (mkF m 3 #[.val (.int p0), .unset, .unset, .unset, .unset, .unset] [(.int (p0 &&& (1 : Int32)))])) _
      refine XS.ifYes X0.here hx rfl (pc0 := 3) (pc' := 10) rfl (hb hby at_3) rfl ((if0 _ _).trans (teq hc2).1) (by decide) (by decide) ?_
      show Steps p.tables e below (s₁.setTop (mkF m 10 #[.val (.int p0), .unset, .unset, .unset, .unset, .unset] [])) _
      refine XS.iconst X0.here hx rfl (hb hby at_10) ?_
      show Steps p.tables e below (s₁.setTop (mkF m 11 #[.val (.int p0), .unset, .unset, .unset, .unset, .unset] [(.int (0 : Int32))])) _
      refine XS.istoreN X0.here hx rfl (hb hby at_11) rfl (l' := #[.val (.int p0), .val (.int (0 : Int32)), .unset, .unset, .unset, .unset]) rfl ?_
      show Steps p.tables e below (s₁.setTop (mkF m 12 #[.val (.int p0), .val (.int (0 : Int32)), .unset, .unset, .unset, .unset] [])) _
      refine XS.iloadN X0.here hx rfl (hb hby at_12) rfl ?_
      show Steps p.tables e below (s₁.setTop (mkF m 13 #[.val (.int p0), .val (.int (0 : Int32)), .unset, .unset, .unset, .unset] [(.int p0)])) _
      refine XS.iconst X0.here hx rfl (hb hby at_13) ?_
      show Steps p.tables e below (s₁.setTop (mkF m 14 #[.val (.int p0), .val (.int (0 : Int32)), .unset, .unset, .unset, .unset] [(.int (2 : Int32)), (.int p0)])) _
      refine XS.iand X0.here hx rfl (hb hby at_14) rfl ?_
      exact k
    by_cases hc4 : (p0 &&& (2 : Int32)) = (0 : Int32)
    · obtain ⟨_, _, ⟨T5, L5, k5, n5⟩, -, X5, ⟨Lc5, hQ5, l5, y5, z5⟩, st5⟩ := Jvm.LawKit.callS X0 hx (y := (⟨"com/example/lattice_sash/latticesash/OwnFileView$Type", "of", "(ZZ)Lcom/example/lattice_sash/latticesash/OwnFileView$Type;"⟩ : MethodName)) hown (mvT hZ (hw _ (List.mem_of_getElem? (i := 0) rfl))) (mvT hZ (hw _ (List.mem_of_getElem? (i := 1) rfl))) (mvT hZ (hw _ (List.mem_of_getElem? (i := 2) rfl))) (mvT hZ (hw _ (List.mem_of_getElem? (i := 3) rfl))) (by decide) (backOf (W := 0) (rm1 l Z aw hw [] (0 : Int32) (0 : Int32) wD wA wF h0 n0 Z0 S_FOLDER S_ARCHIVE S_FILE) hZ (hw _ (List.mem_of_getElem? (i := 3) rfl)) (hw _ (List.mem_of_getElem? (i := 2) rfl)) (by decide) (by decide)) (g := (mkF m 26 #[.val (.int p0), .val (.int (0 : Int32)), .val (.int (0 : Int32)), .unset, .unset, .unset] [(.int (0 : Int32)), (.int (0 : Int32))])) rfl (by rw [hml]; rfl) (argsL := [(.int (0 : Int32)), (.int (0 : Int32))]) (rest := []) (lenOf pd_1 rfl) rfl (by show 2 * 0 + _ ≤ _; exact Nat.le_of_eq rfl) (hb hby at_26) (fun _ _ => ⟨rfl, e0, (by decide : 0 + 0 ≤ _), (by decide : 0 + 0 ≤ _)⟩)
      dsimp only [Pt.U, Pt.locs, Pt.cells, Pt.slots] at X5 l5 y5 z5 st5 hQ5
      subst l5 y5 z5
      obtain ⟨hv5, N5q, e5⟩ := hQ5
      rw [show own_of (0 : Int32) (0 : Int32) wD wA wF = wF from rfl] at hv5
      subst hv5
      have N5 := Fr.app N0 N5q
      obtain ⟨cq6, kq6, q6a, q6b, q6c⟩ := isOf hZ e5 EwF
      obtain ⟨_, _, ⟨T6, L6, k6, n6⟩, -, X6, ⟨Lc6, hQ6, l6, y6, z6⟩, st6⟩ := X5.virtualBack hx (y := (⟨"com/example/lattice_sash/latticesash/OwnFileView$Type", "description", "()Ljava/lang/String;"⟩ : MethodName)) (z := (⟨"com/example/lattice_sash/latticesash/OwnFileView$Type", "description", "()Ljava/lang/String;"⟩ : MethodName)) hown (mvT hZ (hw _ (List.mem_of_getElem? (i := 6) rfl))) (mvT hZ (hw _ (List.mem_of_getElem? (i := 7) rfl))) (notFace_of_selects (args := #[]) (mvT hZ (hw _ (List.mem_of_getElem? (i := 9) rfl)))) (mvT hZ (hw _ (List.mem_of_getElem? (i := 9) rfl))) (mvT hZ (hw _ (List.mem_of_getElem? (i := 8) rfl))) (by decide) (backOf (W := 0) (rm2 l Z aw hw [] wF sF h0 n0 Z0 FwF) hZ (hw _ (List.mem_of_getElem? (i := 10) rfl)) (hw _ (List.mem_of_getElem? (i := 2) rfl)) (by decide) (by decide)) q6a q6c (g := (mkF m 37 #[.val (.int p0), .val (.int (0 : Int32)), .val (.int (0 : Int32)), .val (.ref wF), .unset, .unset] [(.ref wF)])) rfl (by rw [hml]; rfl) (Steps.refl _) (argsL := []) (rest := []) (lenOf pd_2 rfl) rfl (by show 2 * 0 + _ ≤ _; exact Nat.le_of_eq rfl) (hb hby at_37) (fun _ _ => ⟨rfl, e5, (by decide : 0 + 0 ≤ _), (by decide : 0 + 0 ≤ _)⟩)
      dsimp only [Pt.U, Pt.locs, Pt.cells, Pt.slots] at X6 l6 y6 z6 st6 hQ6
      subst l6 y6 z6
      obtain ⟨rfl, N6q, e6⟩ := hQ6
      have N6 := Fr.app N5 N6q
      obtain ⟨cq7, kq7, q7a, q7b, q7c⟩ := isOf hZ e6 EwF
      obtain ⟨_, _, ⟨T7, L7, k7, n7⟩, -, X7, ⟨Lc7, hQ7, l7, y7, z7⟩, st7⟩ := X6.virtualBack hx (y := (⟨"com/example/lattice_sash/latticesash/OwnFileView$Type", "opens", "()Z"⟩ : MethodName)) (z := (⟨"com/example/lattice_sash/latticesash/OwnFileView$Type", "opens", "()Z"⟩ : MethodName)) hown (mvT hZ (hw _ (List.mem_of_getElem? (i := 13) rfl))) (mvT hZ (hw _ (List.mem_of_getElem? (i := 14) rfl))) (notFace_of_selects (args := #[]) (mvT hZ (hw _ (List.mem_of_getElem? (i := 16) rfl)))) (mvT hZ (hw _ (List.mem_of_getElem? (i := 16) rfl))) (mvT hZ (hw _ (List.mem_of_getElem? (i := 15) rfl))) (by decide) (backOf (W := 0) (rm3 l Z aw hw [] wF wD wA wF h0 n0 Z0 S_FOLDER S_ARCHIVE S_FILE) hZ (hw _ (List.mem_of_getElem? (i := 17) rfl)) (hw _ (List.mem_of_getElem? (i := 2) rfl)) (by decide) (by decide)) q7a q7c (g := (mkF m 43 #[.val (.int p0), .val (.int (0 : Int32)), .val (.int (0 : Int32)), .val (.ref wF), .val (.ref sF), .unset] [(.ref wF)])) rfl (by rw [hml]; rfl) (Steps.refl _) (argsL := []) (rest := []) (lenOf pd_3 rfl) rfl (by show 2 * 0 + _ ≤ _; exact Nat.le_of_eq rfl) (hb hby at_43) (fun _ _ => ⟨rfl, e6, (by decide : 0 + 0 ≤ _), (by decide : 0 + 0 ≤ _)⟩)
      dsimp only [Pt.U, Pt.locs, Pt.cells, Pt.slots] at X7 l7 y7 z7 st7 hQ7
      subst l7 y7 z7
      obtain ⟨hv7, N7q, e7⟩ := hQ7
      rw [own_opens_yes] at hv7
      subst hv7
      have N7 := Fr.app N6 N7q
      obtain ⟨T8, X8, e8, st8⟩ := getS2 X7 hx hZ hown (host := "") (Or.inl (hw _ (List.mem_of_getElem? (i := 18) rfl))) Via.refl e7 S_FILE (g := (mkF m 123 #[.val (.int p0), .val (.int (0 : Int32)), .val (.int (0 : Int32)), .val (.ref wF), .val (.ref sF), .val (.int (0 : Int32))] [(.ref wF)])) rfl (hb hby at_123)
      obtain ⟨a9, T9, h9, k19, b9, kc9, X9, e9, E9, hS9, hk9, hZ9, hown9, Ea9, Fc9, Fv9, Ab9, la9, lb9, hC9, hL9, hs9, st9⟩ := ldcCH (s := s) (vm0 := s.vm) X8 hx hZ hown (hw _ (List.mem_of_getElem? (i := 19) rfl)) hwS e8 hS0 (Nat.zero_le _) hEL (by simp [consts_1]) hCH (vs := [(.int (70 : Int32)), (.int (105 : Int32)), (.int (108 : Int32)), (.int (101 : Int32))]) (z := (4 : Int32)) ⟨by decide, rfl⟩ (by decide) rfl (g := (mkF m 131 #[.val (.int p0), .val (.int (0 : Int32)), .val (.int (0 : Int32)), .val (.ref wF), .val (.ref sF), .val (.int (0 : Int32))] [(.ref sF)])) rfl (hb hby at_131) (n := 16) (by decide) (by decide) (by decide) (by decide)
      have f10 := S_FOLDER.ext E9
      have f11 := S_ARCHIVE.ext E9
      have f12 := S_FILE.ext E9
      have f13 := SC.ext E9
      have f14 := EwD.ext E9
      have f15 := FwD.ext E9
      have f16 := EsD.ext E9
      have f17 := CsD.ext E9
      have f18 := VsD.ext E9
      have f19 := AsD.ext E9
      have f20 := EwA.ext E9
      have f21 := FwA.ext E9
      have f22 := EsA.ext E9
      have f23 := CsA.ext E9
      have f24 := VsA.ext E9
      have f25 := AsA.ext E9
      have f26 := EwF.ext E9
      have f27 := FwF.ext E9
      have f28 := EsF.ext E9
      have f29 := CsF.ext E9
      have f30 := VsF.ext E9
      have f31 := AsF.ext E9
      have Z9 : n0 ≤ h9.size := Nat.le_trans Z0 E9.1
      obtain ⟨cq32, kq32, q32a, q32b, q32c⟩ := isOf hZ9 e9 f28
      obtain ⟨_, _, ⟨T32, L32, k32, n32⟩, -, X32, ⟨Lc32, hQ32, l32, y32, z32⟩, st32⟩ := X9.virtualBack hx (y := (⟨"java/lang/String", "equals", "(Ljava/lang/Object;)Z"⟩ : MethodName)) (z := (⟨"java/lang/String", "equals", "(Ljava/lang/Object;)Z"⟩ : MethodName)) hown9 (mvT hZ9 (hw _ (List.mem_of_getElem? (i := 27) rfl))) (mvT hZ9 (hw _ (List.mem_of_getElem? (i := 28) rfl))) (notFace_of_selects (args := #[]) (mvT hZ9 (hw _ (List.mem_of_getElem? (i := 30) rfl)))) (mvT hZ9 (hw _ (List.mem_of_getElem? (i := 30) rfl))) (mvT hZ9 (hw _ (List.mem_of_getElem? (i := 29) rfl))) (by decide) (backOf (W := 0) (rme4 l Z aw hw [] sF a9 bF b9 kF kc9 cs (70 : Int32) (105 : Int32) (108 : Int32) (101 : Int32) h9 n0 Z9 f28 f29 f30 f31 Ea9 Fc9 Fv9 Ab9 f13 hcs) hZ9 (hw _ (List.mem_of_getElem? (i := 31) rfl)) (hw _ (List.mem_of_getElem? (i := 20) rfl)) (by decide) (by decide)) q32a q32c (g := (mkF m 133 #[.val (.int p0), .val (.int (0 : Int32)), .val (.int (0 : Int32)), .val (.ref wF), .val (.ref sF), .val (.int (0 : Int32))] [(.ref a9), (.ref sF)])) rfl (by rw [hml]; rfl) (Steps.refl _) (argsL := [(.ref a9)]) (rest := []) (lenOf pd_4 rfl) rfl (by show 2 * 0 + _ ≤ _; exact Nat.le_of_eq rfl) (hb hby at_133) (fun _ _ => ⟨rfl, e9, (by decide : 2 + 0 ≤ _), (by decide : 20 + 0 ≤ _)⟩)
      dsimp only [Pt.U, Pt.locs, Pt.cells, Pt.slots] at X32 l32 y32 z32 st32 hQ32
      subst l32 y32 z32
      obtain ⟨rfl, N32q, e32⟩ := hQ32
      have N32 := Fr.app N7 N32q
      obtain ⟨fs, hr, hrun, hended, r1, r2, r3, r4⟩ := X32.leaveW (s := s) hS9 (by rw [e32]; exact hk9) (v := some (.int (1 : Int32))) (fun h => by rw [Bd.returns] at h; cases h)
      refine ⟨_, _, pre3 _ ?_, hrun, hended, _, _, rfl, ?_, r1, r2, r3, r4.mono (by decide) (by decide)⟩
      · show Steps p.tables e below (s₁.setTop (mkF m 15 #[.val (.int p0), .val (.int (0 : Int32)), .unset, .unset, .unset, .unset] [(.int (p0 &&& (2 : Int32)))])) _
        refine XS.ifYes X0.here hx rfl (pc0 := 15) (pc' := 22) rfl (hb hby at_15) rfl ((if0 _ _).trans (teq hc4).1) (by decide) (by decide) ?_
        show Steps p.tables e below (s₁.setTop (mkF m 22 #[.val (.int p0), .val (.int (0 : Int32)), .unset, .unset, .unset, .unset] [])) _
        refine XS.iconst X0.here hx rfl (hb hby at_22) ?_
        show Steps p.tables e below (s₁.setTop (mkF m 23 #[.val (.int p0), .val (.int (0 : Int32)), .unset, .unset, .unset, .unset] [(.int (0 : Int32))])) _
        refine XS.istoreN X0.here hx rfl (hb hby at_23) rfl (l' := #[.val (.int p0), .val (.int (0 : Int32)), .val (.int (0 : Int32)), .unset, .unset, .unset]) rfl ?_
        show Steps p.tables e below (s₁.setTop (mkF m 24 #[.val (.int p0), .val (.int (0 : Int32)), .val (.int (0 : Int32)), .unset, .unset, .unset] [])) _
        refine XS.iloadN X0.here hx rfl (hb hby at_24) rfl ?_
        show Steps p.tables e below (s₁.setTop (mkF m 25 #[.val (.int p0), .val (.int (0 : Int32)), .val (.int (0 : Int32)), .unset, .unset, .unset] [(.int (0 : Int32))])) _
        refine XS.iloadN X0.here hx rfl (hb hby at_25) rfl ?_
        show Steps p.tables e below (s₁.setTop (mkF m 26 #[.val (.int p0), .val (.int (0 : Int32)), .val (.int (0 : Int32)), .unset, .unset, .unset] [(.int (0 : Int32)), (.int (0 : Int32))])) _
        refine st5 _ ?_
        show Steps p.tables e below (T5.setTop (mkF m 29 #[.val (.int p0), .val (.int (0 : Int32)), .val (.int (0 : Int32)), .unset, .unset, .unset] [(.ref wF)])) _
        refine XS.astoreN X5.here hx rfl (hb hby at_29) rfl rfl (l' := #[.val (.int p0), .val (.int (0 : Int32)), .val (.int (0 : Int32)), .val (.ref wF), .unset, .unset]) rfl ?_
        show Steps p.tables e below (T5.setTop (mkF m 30 #[.val (.int p0), .val (.int (0 : Int32)), .val (.int (0 : Int32)), .val (.ref wF), .unset, .unset] [])) _
        refine XS.aloadN X5.here hx rfl (hb hby at_30) rfl rfl ?_
        show Steps p.tables e below (T5.setTop (mkF m 31 #[.val (.int p0), .val (.int (0 : Int32)), .val (.int (0 : Int32)), .val (.ref wF), .unset, .unset] [(.ref wF)])) _
        refine XS.ifnonnullYes X5.here hx rfl (pc0 := 31) (pc' := 36) rfl (hb hby at_31) rfl (by decide) (by decide) ?_
        show Steps p.tables e below (T5.setTop (mkF m 36 #[.val (.int p0), .val (.int (0 : Int32)), .val (.int (0 : Int32)), .val (.ref wF), .unset, .unset] [])) _
        refine XS.aloadN X5.here hx rfl (hb hby at_36) rfl rfl ?_
        show Steps p.tables e below (T5.setTop (mkF m 37 #[.val (.int p0), .val (.int (0 : Int32)), .val (.int (0 : Int32)), .val (.ref wF), .unset, .unset] [(.ref wF)])) _
        refine st6.trans ?_
        show Steps p.tables e below (T6.setTop (mkF m 40 #[.val (.int p0), .val (.int (0 : Int32)), .val (.int (0 : Int32)), .val (.ref wF), .unset, .unset] [(.ref sF)])) _
        refine XS.astore X6.here hx rfl (hb hby at_40) rfl rfl (l' := #[.val (.int p0), .val (.int (0 : Int32)), .val (.int (0 : Int32)), .val (.ref wF), .val (.ref sF), .unset]) rfl ?_
        show Steps p.tables e below (T6.setTop (mkF m 42 #[.val (.int p0), .val (.int (0 : Int32)), .val (.int (0 : Int32)), .val (.ref wF), .val (.ref sF), .unset] [])) _
        refine XS.aloadN X6.here hx rfl (hb hby at_42) rfl rfl ?_
        show Steps p.tables e below (T6.setTop (mkF m 43 #[.val (.int p0), .val (.int (0 : Int32)), .val (.int (0 : Int32)), .val (.ref wF), .val (.ref sF), .unset] [(.ref wF)])) _
        refine st7.trans ?_
        show Steps p.tables e below (T7.setTop (mkF m 46 #[.val (.int p0), .val (.int (0 : Int32)), .val (.int (0 : Int32)), .val (.ref wF), .val (.ref sF), .unset] [(.int (0 : Int32))])) _
        refine XS.istore X7.here hx rfl (hb hby at_46) rfl (l' := #[.val (.int p0), .val (.int (0 : Int32)), .val (.int (0 : Int32)), .val (.ref wF), .val (.ref sF), .val (.int (0 : Int32))]) rfl ?_
        show Steps p.tables e below (T7.setTop (mkF m 48 #[.val (.int p0), .val (.int (0 : Int32)), .val (.int (0 : Int32)), .val (.ref wF), .val (.ref sF), .val (.int (0 : Int32))] [])) _
        refine XS.iload X7.here hx rfl (hb hby at_48) rfl ?_
        show Steps p.tables e below (T7.setTop (mkF m 50 #[.val (.int p0), .val (.int (0 : Int32)), .val (.int (0 : Int32)), .val (.ref wF), .val (.ref sF), .val (.int (0 : Int32))] [(.int (0 : Int32))])) _
        refine XS.iloadN X7.here hx rfl (hb hby at_50) rfl ?_
        show Steps p.tables e below (T7.setTop (mkF m 51 #[.val (.int p0), .val (.int (0 : Int32)), .val (.int (0 : Int32)), .val (.ref wF), .val (.ref sF), .val (.int (0 : Int32))] [(.int (0 : Int32)), (.int (0 : Int32))])) _
        refine XS.ifNo X7.here hx rfl (hb hby at_51) rfl ((if0 _ _).trans (teq (by decide : (0 : Int32) = (0 : Int32))).2) ?_
        show Steps p.tables e below (T7.setTop (mkF m 54 #[.val (.int p0), .val (.int (0 : Int32)), .val (.int (0 : Int32)), .val (.ref wF), .val (.ref sF), .val (.int (0 : Int32))] [(.int (0 : Int32))])) _
        refine XS.iloadN X7.here hx rfl (hb hby at_54) rfl ?_
        show Steps p.tables e below (T7.setTop (mkF m 55 #[.val (.int p0), .val (.int (0 : Int32)), .val (.int (0 : Int32)), .val (.ref wF), .val (.ref sF), .val (.int (0 : Int32))] [(.int (0 : Int32)), (.int (0 : Int32))])) _
        refine XS.ifYes X7.here hx rfl (pc0 := 55) (pc' := 62) rfl (hb hby at_55) rfl ((if0 _ _).trans (teq (by decide : (0 : Int32) = (0 : Int32))).1) (by decide) (by decide) ?_
        show Steps p.tables e below (T7.setTop (mkF m 62 #[.val (.int p0), .val (.int (0 : Int32)), .val (.int (0 : Int32)), .val (.ref wF), .val (.ref sF), .val (.int (0 : Int32))] [(.int (0 : Int32))])) _
        refine XS.iconst X7.here hx rfl (hb hby at_62) ?_
        show Steps p.tables e below (T7.setTop (mkF m 63 #[.val (.int p0), .val (.int (0 : Int32)), .val (.int (0 : Int32)), .val (.ref wF), .val (.ref sF), .val (.int (0 : Int32))] [(.int (0 : Int32)), (.int (0 : Int32))])) _
        refine XS.icmpYes X7.here hx rfl (pc0 := 63) (pc' := 68) rfl (hb hby at_63) rfl (teq (by decide : (0 : Int32) = (0 : Int32))).1 (by decide) (by decide) ?_
        show Steps p.tables e below (T7.setTop (mkF m 68 #[.val (.int p0), .val (.int (0 : Int32)), .val (.int (0 : Int32)), .val (.ref wF), .val (.ref sF), .val (.int (0 : Int32))] [])) _
        refine XS.iloadN X7.here hx rfl (hb hby at_68) rfl ?_
        show Steps p.tables e below (T7.setTop (mkF m 69 #[.val (.int p0), .val (.int (0 : Int32)), .val (.int (0 : Int32)), .val (.ref wF), .val (.ref sF), .val (.int (0 : Int32))] [(.int (0 : Int32))])) _
        refine XS.ifYes X7.here hx rfl (pc0 := 69) (pc' := 95) rfl (hb hby at_69) rfl ((if0 _ _).trans (teq (by decide : (0 : Int32) = (0 : Int32))).1) (by decide) (by decide) ?_
        show Steps p.tables e below (T7.setTop (mkF m 95 #[.val (.int p0), .val (.int (0 : Int32)), .val (.int (0 : Int32)), .val (.ref wF), .val (.ref sF), .val (.int (0 : Int32))] [])) _
        refine XS.iloadN X7.here hx rfl (hb hby at_95) rfl ?_
        show Steps p.tables e below (T7.setTop (mkF m 96 #[.val (.int p0), .val (.int (0 : Int32)), .val (.int (0 : Int32)), .val (.ref wF), .val (.ref sF), .val (.int (0 : Int32))] [(.int (0 : Int32))])) _
        refine XS.ifYes X7.here hx rfl (pc0 := 96) (pc' := 122) rfl (hb hby at_96) rfl ((if0 _ _).trans (teq (by decide : (0 : Int32) = (0 : Int32))).1) (by decide) (by decide) ?_
        show Steps p.tables e below (T7.setTop (mkF m 122 #[.val (.int p0), .val (.int (0 : Int32)), .val (.int (0 : Int32)), .val (.ref wF), .val (.ref sF), .val (.int (0 : Int32))] [])) _
        refine XS.aloadN X7.here hx rfl (hb hby at_122) rfl rfl ?_
        show Steps p.tables e below (T7.setTop (mkF m 123 #[.val (.int p0), .val (.int (0 : Int32)), .val (.int (0 : Int32)), .val (.ref wF), .val (.ref sF), .val (.int (0 : Int32))] [(.ref wF)])) _
        refine st8 _ ?_
        show Steps p.tables e below (T8.setTop (mkF m 126 #[.val (.int p0), .val (.int (0 : Int32)), .val (.int (0 : Int32)), .val (.ref wF), .val (.ref sF), .val (.int (0 : Int32))] [(.ref wF), (.ref wF)])) _
        refine Jvm.RoadKit.acmp (g := (mkF m 126 #[.val (.int p0), .val (.int (0 : Int32)), .val (.int (0 : Int32)), .val (.ref wF), .val (.ref sF), .val (.int (0 : Int32))] [(.ref wF), (.ref wF)])) X8 hx rfl rfl rfl (pc0 := 126) (pc' := 129) (same := true) rfl (hb hby at_126) rfl (decide_eq_true rfl) (by decide) (by decide) ?_
        show Steps p.tables e below (T8.setTop (mkF m 129 #[.val (.int p0), .val (.int (0 : Int32)), .val (.int (0 : Int32)), .val (.ref wF), .val (.ref sF), .val (.int (0 : Int32))] [])) _
        refine XS.aload X8.here hx rfl (hb hby at_129) rfl rfl ?_
        show Steps p.tables e below (T8.setTop (mkF m 131 #[.val (.int p0), .val (.int (0 : Int32)), .val (.int (0 : Int32)), .val (.ref wF), .val (.ref sF), .val (.int (0 : Int32))] [(.ref sF)])) _
        refine st9 _ ?_
        show Steps p.tables e below (T9.setTop (mkF m 133 #[.val (.int p0), .val (.int (0 : Int32)), .val (.int (0 : Int32)), .val (.ref wF), .val (.ref sF), .val (.int (0 : Int32))] [(.ref a9), (.ref sF)])) _
        refine st32.trans ?_
        show Steps p.tables e below (T32.setTop (mkF m 136 #[.val (.int p0), .val (.int (0 : Int32)), .val (.int (0 : Int32)), .val (.ref wF), .val (.ref sF), .val (.int (0 : Int32))] [(.int (1 : Int32))])) _
        refine XS.ifNo X32.here hx rfl (hb hby at_136) rfl ((if0 _ _).trans (feq (by decide : ¬ ((1 : Int32) = (0 : Int32)))).1) ?_
        show Steps p.tables e below (T32.setTop (mkF m 139 #[.val (.int p0), .val (.int (0 : Int32)), .val (.int (0 : Int32)), .val (.ref wF), .val (.ref sF), .val (.int (0 : Int32))] [])) _
        refine XS.iconst X32.here hx rfl (hb hby at_139) ?_
        show Steps p.tables e below (T32.setTop (mkF m 140 #[.val (.int p0), .val (.int (0 : Int32)), .val (.int (0 : Int32)), .val (.ref wF), .val (.ref sF), .val (.int (0 : Int32))] [(.int (1 : Int32))])) _
        refine XS.goto X32.here hx rfl (pc0 := 140) (pc' := 144) rfl (hb hby at_140) (by decide) (by decide) ?_
        show Steps p.tables e below (T32.setTop (mkF m 144 #[.val (.int p0), .val (.int (0 : Int32)), .val (.int (0 : Int32)), .val (.ref wF), .val (.ref sF), .val (.int (0 : Int32))] [(.int (1 : Int32))])) _
        exact retN X32 hx (t := .boolean) Bd.returns (by simp) (hb hby at_144) hr
      · exact ⟨rfl, N32⟩
    · obtain ⟨_, _, ⟨T33, L33, k33, n33⟩, -, X33, ⟨Lc33, hQ33, l33, y33, z33⟩, st33⟩ := Jvm.LawKit.callS X0 hx (y := (⟨"com/example/lattice_sash/latticesash/OwnFileView$Type", "of", "(ZZ)Lcom/example/lattice_sash/latticesash/OwnFileView$Type;"⟩ : MethodName)) hown (mvT hZ (hw _ (List.mem_of_getElem? (i := 0) rfl))) (mvT hZ (hw _ (List.mem_of_getElem? (i := 1) rfl))) (mvT hZ (hw _ (List.mem_of_getElem? (i := 2) rfl))) (mvT hZ (hw _ (List.mem_of_getElem? (i := 3) rfl))) (by decide) (backOf (W := 0) (rm1 l Z aw hw [] (0 : Int32) (1 : Int32) wD wA wF h0 n0 Z0 S_FOLDER S_ARCHIVE S_FILE) hZ (hw _ (List.mem_of_getElem? (i := 3) rfl)) (hw _ (List.mem_of_getElem? (i := 2) rfl)) (by decide) (by decide)) (g := (mkF m 26 #[.val (.int p0), .val (.int (0 : Int32)), .val (.int (1 : Int32)), .unset, .unset, .unset] [(.int (1 : Int32)), (.int (0 : Int32))])) rfl (by rw [hml]; rfl) (argsL := [(.int (0 : Int32)), (.int (1 : Int32))]) (rest := []) (lenOf pd_1 rfl) rfl (by show 2 * 0 + _ ≤ _; exact Nat.le_of_eq rfl) (hb hby at_26) (fun _ _ => ⟨rfl, e0, (by decide : 0 + 0 ≤ _), (by decide : 0 + 0 ≤ _)⟩)
      dsimp only [Pt.U, Pt.locs, Pt.cells, Pt.slots] at X33 l33 y33 z33 st33 hQ33
      subst l33 y33 z33
      obtain ⟨hv33, N33q, e33⟩ := hQ33
      rw [show own_of (0 : Int32) (1 : Int32) wD wA wF = wA from rfl] at hv33
      subst hv33
      have N33 := Fr.app N0 N33q
      obtain ⟨cq34, kq34, q34a, q34b, q34c⟩ := isOf hZ e33 EwA
      obtain ⟨_, _, ⟨T34, L34, k34, n34⟩, -, X34, ⟨Lc34, hQ34, l34, y34, z34⟩, st34⟩ := X33.virtualBack hx (y := (⟨"com/example/lattice_sash/latticesash/OwnFileView$Type", "description", "()Ljava/lang/String;"⟩ : MethodName)) (z := (⟨"com/example/lattice_sash/latticesash/OwnFileView$Type", "description", "()Ljava/lang/String;"⟩ : MethodName)) hown (mvT hZ (hw _ (List.mem_of_getElem? (i := 6) rfl))) (mvT hZ (hw _ (List.mem_of_getElem? (i := 7) rfl))) (notFace_of_selects (args := #[]) (mvT hZ (hw _ (List.mem_of_getElem? (i := 9) rfl)))) (mvT hZ (hw _ (List.mem_of_getElem? (i := 9) rfl))) (mvT hZ (hw _ (List.mem_of_getElem? (i := 8) rfl))) (by decide) (backOf (W := 0) (rm2 l Z aw hw [] wA sA h0 n0 Z0 FwA) hZ (hw _ (List.mem_of_getElem? (i := 10) rfl)) (hw _ (List.mem_of_getElem? (i := 2) rfl)) (by decide) (by decide)) q34a q34c (g := (mkF m 37 #[.val (.int p0), .val (.int (0 : Int32)), .val (.int (1 : Int32)), .val (.ref wA), .unset, .unset] [(.ref wA)])) rfl (by rw [hml]; rfl) (Steps.refl _) (argsL := []) (rest := []) (lenOf pd_2 rfl) rfl (by show 2 * 0 + _ ≤ _; exact Nat.le_of_eq rfl) (hb hby at_37) (fun _ _ => ⟨rfl, e33, (by decide : 0 + 0 ≤ _), (by decide : 0 + 0 ≤ _)⟩)
      dsimp only [Pt.U, Pt.locs, Pt.cells, Pt.slots] at X34 l34 y34 z34 st34 hQ34
      subst l34 y34 z34
      obtain ⟨rfl, N34q, e34⟩ := hQ34
      have N34 := Fr.app N33 N34q
      obtain ⟨cq35, kq35, q35a, q35b, q35c⟩ := isOf hZ e34 EwA
      obtain ⟨_, _, ⟨T35, L35, k35, n35⟩, -, X35, ⟨Lc35, hQ35, l35, y35, z35⟩, st35⟩ := X34.virtualBack hx (y := (⟨"com/example/lattice_sash/latticesash/OwnFileView$Type", "opens", "()Z"⟩ : MethodName)) (z := (⟨"com/example/lattice_sash/latticesash/OwnFileView$Type", "opens", "()Z"⟩ : MethodName)) hown (mvT hZ (hw _ (List.mem_of_getElem? (i := 13) rfl))) (mvT hZ (hw _ (List.mem_of_getElem? (i := 14) rfl))) (notFace_of_selects (args := #[]) (mvT hZ (hw _ (List.mem_of_getElem? (i := 16) rfl)))) (mvT hZ (hw _ (List.mem_of_getElem? (i := 16) rfl))) (mvT hZ (hw _ (List.mem_of_getElem? (i := 15) rfl))) (by decide) (backOf (W := 0) (rm3 l Z aw hw [] wA wD wA wF h0 n0 Z0 S_FOLDER S_ARCHIVE S_FILE) hZ (hw _ (List.mem_of_getElem? (i := 17) rfl)) (hw _ (List.mem_of_getElem? (i := 2) rfl)) (by decide) (by decide)) q35a q35c (g := (mkF m 43 #[.val (.int p0), .val (.int (0 : Int32)), .val (.int (1 : Int32)), .val (.ref wA), .val (.ref sA), .unset] [(.ref wA)])) rfl (by rw [hml]; rfl) (Steps.refl _) (argsL := []) (rest := []) (lenOf pd_3 rfl) rfl (by show 2 * 0 + _ ≤ _; exact Nat.le_of_eq rfl) (hb hby at_43) (fun _ _ => ⟨rfl, e34, (by decide : 0 + 0 ≤ _), (by decide : 0 + 0 ≤ _)⟩)
      dsimp only [Pt.U, Pt.locs, Pt.cells, Pt.slots] at X35 l35 y35 z35 st35 hQ35
      subst l35 y35 z35
      obtain ⟨hv35, N35q, e35⟩ := hQ35
      rw [own_opens_no nAF] at hv35
      subst hv35
      have N35 := Fr.app N34 N35q
      obtain ⟨T36, X36, e36, st36⟩ := getS2 X35 hx hZ hown (host := "") (Or.inl (hw _ (List.mem_of_getElem? (i := 47) rfl))) Via.refl e35 S_ARCHIVE (g := (mkF m 100 #[.val (.int p0), .val (.int (0 : Int32)), .val (.int (1 : Int32)), .val (.ref wA), .val (.ref sA), .val (.int (1 : Int32))] [(.ref wA)])) rfl (hb hby at_100)
      obtain ⟨a37, T37, h37, k137, b37, kc37, X37, e37, E37, hS37, hk37, hZ37, hown37, Ea37, Fc37, Fv37, Ab37, la37, lb37, hC37, hL37, hs37, st37⟩ := ldcCH (s := s) (vm0 := s.vm) X36 hx hZ hown (hw _ (List.mem_of_getElem? (i := 48) rfl)) hwS e36 hS0 (Nat.zero_le _) hEL (by simp [consts_1]) hCH (vs := [(.int (65 : Int32)), (.int (114 : Int32)), (.int (99 : Int32)), (.int (104 : Int32)), (.int (105 : Int32)), (.int (118 : Int32)), (.int (101 : Int32))]) (z := (7 : Int32)) ⟨by decide, rfl⟩ (by decide) rfl (g := (mkF m 108 #[.val (.int p0), .val (.int (0 : Int32)), .val (.int (1 : Int32)), .val (.ref wA), .val (.ref sA), .val (.int (1 : Int32))] [(.ref sA)])) rfl (hb hby at_108) (n := 28) (by decide) (by decide) (by decide) (by decide)
      have f38 := S_FOLDER.ext E37
      have f39 := S_ARCHIVE.ext E37
      have f40 := S_FILE.ext E37
      have f41 := SC.ext E37
      have f42 := EwD.ext E37
      have f43 := FwD.ext E37
      have f44 := EsD.ext E37
      have f45 := CsD.ext E37
      have f46 := VsD.ext E37
      have f47 := AsD.ext E37
      have f48 := EwA.ext E37
      have f49 := FwA.ext E37
      have f50 := EsA.ext E37
      have f51 := CsA.ext E37
      have f52 := VsA.ext E37
      have f53 := AsA.ext E37
      have f54 := EwF.ext E37
      have f55 := FwF.ext E37
      have f56 := EsF.ext E37
      have f57 := CsF.ext E37
      have f58 := VsF.ext E37
      have f59 := AsF.ext E37
      have Z37 : n0 ≤ h37.size := Nat.le_trans Z0 E37.1
      obtain ⟨cq60, kq60, q60a, q60b, q60c⟩ := isOf hZ37 e37 f50
      obtain ⟨_, _, ⟨T60, L60, k60, n60⟩, -, X60, ⟨Lc60, hQ60, l60, y60, z60⟩, st60⟩ := X37.virtualBack hx (y := (⟨"java/lang/String", "equals", "(Ljava/lang/Object;)Z"⟩ : MethodName)) (z := (⟨"java/lang/String", "equals", "(Ljava/lang/Object;)Z"⟩ : MethodName)) hown37 (mvT hZ37 (hw _ (List.mem_of_getElem? (i := 27) rfl))) (mvT hZ37 (hw _ (List.mem_of_getElem? (i := 28) rfl))) (notFace_of_selects (args := #[]) (mvT hZ37 (hw _ (List.mem_of_getElem? (i := 30) rfl)))) (mvT hZ37 (hw _ (List.mem_of_getElem? (i := 30) rfl))) (mvT hZ37 (hw _ (List.mem_of_getElem? (i := 29) rfl))) (by decide) (backOf (W := 0) (rme7 l Z aw hw [] sA a37 bA b37 kA kc37 cs (65 : Int32) (114 : Int32) (99 : Int32) (104 : Int32) (105 : Int32) (118 : Int32) (101 : Int32) h37 n0 Z37 f50 f51 f52 f53 Ea37 Fc37 Fv37 Ab37 f41 hcs) hZ37 (hw _ (List.mem_of_getElem? (i := 31) rfl)) (hw _ (List.mem_of_getElem? (i := 20) rfl)) (by decide) (by decide)) q60a q60c (g := (mkF m 110 #[.val (.int p0), .val (.int (0 : Int32)), .val (.int (1 : Int32)), .val (.ref wA), .val (.ref sA), .val (.int (1 : Int32))] [(.ref a37), (.ref sA)])) rfl (by rw [hml]; rfl) (Steps.refl _) (argsL := [(.ref a37)]) (rest := []) (lenOf pd_4 rfl) rfl (by show 2 * 0 + _ ≤ _; exact Nat.le_of_eq rfl) (hb hby at_110) (fun _ _ => ⟨rfl, e37, (by decide : 2 + 0 ≤ _), (by decide : 32 + 0 ≤ _)⟩)
      dsimp only [Pt.U, Pt.locs, Pt.cells, Pt.slots] at X60 l60 y60 z60 st60 hQ60
      subst l60 y60 z60
      obtain ⟨rfl, N60q, e60⟩ := hQ60
      have N60 := Fr.app N35 N60q
      obtain ⟨fs, hr, hrun, hended, r1, r2, r3, r4⟩ := X60.leaveW (s := s) hS37 (by rw [e60]; exact hk37) (v := some (.int (1 : Int32))) (fun h => by rw [Bd.returns] at h; cases h)
      refine ⟨_, _, pre3 _ ?_, hrun, hended, _, _, rfl, ?_, r1, r2, r3, r4.mono (by decide) (by decide)⟩
      · show Steps p.tables e below (s₁.setTop (mkF m 15 #[.val (.int p0), .val (.int (0 : Int32)), .unset, .unset, .unset, .unset] [(.int (p0 &&& (2 : Int32)))])) _
        refine XS.ifNo X0.here hx rfl (hb hby at_15) rfl ((if0 _ _).trans (feq hc4).1) ?_
        show Steps p.tables e below (s₁.setTop (mkF m 18 #[.val (.int p0), .val (.int (0 : Int32)), .unset, .unset, .unset, .unset] [])) _
        refine XS.iconst X0.here hx rfl (hb hby at_18) ?_
        show Steps p.tables e below (s₁.setTop (mkF m 19 #[.val (.int p0), .val (.int (0 : Int32)), .unset, .unset, .unset, .unset] [(.int (1 : Int32))])) _
        refine XS.goto X0.here hx rfl (pc0 := 19) (pc' := 23) rfl (hb hby at_19) (by decide) (by decide) ?_
        show Steps p.tables e below (s₁.setTop (mkF m 23 #[.val (.int p0), .val (.int (0 : Int32)), .unset, .unset, .unset, .unset] [(.int (1 : Int32))])) _
        refine XS.istoreN X0.here hx rfl (hb hby at_23) rfl (l' := #[.val (.int p0), .val (.int (0 : Int32)), .val (.int (1 : Int32)), .unset, .unset, .unset]) rfl ?_
        show Steps p.tables e below (s₁.setTop (mkF m 24 #[.val (.int p0), .val (.int (0 : Int32)), .val (.int (1 : Int32)), .unset, .unset, .unset] [])) _
        refine XS.iloadN X0.here hx rfl (hb hby at_24) rfl ?_
        show Steps p.tables e below (s₁.setTop (mkF m 25 #[.val (.int p0), .val (.int (0 : Int32)), .val (.int (1 : Int32)), .unset, .unset, .unset] [(.int (0 : Int32))])) _
        refine XS.iloadN X0.here hx rfl (hb hby at_25) rfl ?_
        show Steps p.tables e below (s₁.setTop (mkF m 26 #[.val (.int p0), .val (.int (0 : Int32)), .val (.int (1 : Int32)), .unset, .unset, .unset] [(.int (1 : Int32)), (.int (0 : Int32))])) _
        refine st33 _ ?_
        show Steps p.tables e below (T33.setTop (mkF m 29 #[.val (.int p0), .val (.int (0 : Int32)), .val (.int (1 : Int32)), .unset, .unset, .unset] [(.ref wA)])) _
        refine XS.astoreN X33.here hx rfl (hb hby at_29) rfl rfl (l' := #[.val (.int p0), .val (.int (0 : Int32)), .val (.int (1 : Int32)), .val (.ref wA), .unset, .unset]) rfl ?_
        show Steps p.tables e below (T33.setTop (mkF m 30 #[.val (.int p0), .val (.int (0 : Int32)), .val (.int (1 : Int32)), .val (.ref wA), .unset, .unset] [])) _
        refine XS.aloadN X33.here hx rfl (hb hby at_30) rfl rfl ?_
        show Steps p.tables e below (T33.setTop (mkF m 31 #[.val (.int p0), .val (.int (0 : Int32)), .val (.int (1 : Int32)), .val (.ref wA), .unset, .unset] [(.ref wA)])) _
        refine XS.ifnonnullYes X33.here hx rfl (pc0 := 31) (pc' := 36) rfl (hb hby at_31) rfl (by decide) (by decide) ?_
        show Steps p.tables e below (T33.setTop (mkF m 36 #[.val (.int p0), .val (.int (0 : Int32)), .val (.int (1 : Int32)), .val (.ref wA), .unset, .unset] [])) _
        refine XS.aloadN X33.here hx rfl (hb hby at_36) rfl rfl ?_
        show Steps p.tables e below (T33.setTop (mkF m 37 #[.val (.int p0), .val (.int (0 : Int32)), .val (.int (1 : Int32)), .val (.ref wA), .unset, .unset] [(.ref wA)])) _
        refine st34.trans ?_
        show Steps p.tables e below (T34.setTop (mkF m 40 #[.val (.int p0), .val (.int (0 : Int32)), .val (.int (1 : Int32)), .val (.ref wA), .unset, .unset] [(.ref sA)])) _
        refine XS.astore X34.here hx rfl (hb hby at_40) rfl rfl (l' := #[.val (.int p0), .val (.int (0 : Int32)), .val (.int (1 : Int32)), .val (.ref wA), .val (.ref sA), .unset]) rfl ?_
        show Steps p.tables e below (T34.setTop (mkF m 42 #[.val (.int p0), .val (.int (0 : Int32)), .val (.int (1 : Int32)), .val (.ref wA), .val (.ref sA), .unset] [])) _
        refine XS.aloadN X34.here hx rfl (hb hby at_42) rfl rfl ?_
        show Steps p.tables e below (T34.setTop (mkF m 43 #[.val (.int p0), .val (.int (0 : Int32)), .val (.int (1 : Int32)), .val (.ref wA), .val (.ref sA), .unset] [(.ref wA)])) _
        refine st35.trans ?_
        show Steps p.tables e below (T35.setTop (mkF m 46 #[.val (.int p0), .val (.int (0 : Int32)), .val (.int (1 : Int32)), .val (.ref wA), .val (.ref sA), .unset] [(.int (1 : Int32))])) _
        refine XS.istore X35.here hx rfl (hb hby at_46) rfl (l' := #[.val (.int p0), .val (.int (0 : Int32)), .val (.int (1 : Int32)), .val (.ref wA), .val (.ref sA), .val (.int (1 : Int32))]) rfl ?_
        show Steps p.tables e below (T35.setTop (mkF m 48 #[.val (.int p0), .val (.int (0 : Int32)), .val (.int (1 : Int32)), .val (.ref wA), .val (.ref sA), .val (.int (1 : Int32))] [])) _
        refine XS.iload X35.here hx rfl (hb hby at_48) rfl ?_
        show Steps p.tables e below (T35.setTop (mkF m 50 #[.val (.int p0), .val (.int (0 : Int32)), .val (.int (1 : Int32)), .val (.ref wA), .val (.ref sA), .val (.int (1 : Int32))] [(.int (1 : Int32))])) _
        refine XS.iloadN X35.here hx rfl (hb hby at_50) rfl ?_
        show Steps p.tables e below (T35.setTop (mkF m 51 #[.val (.int p0), .val (.int (0 : Int32)), .val (.int (1 : Int32)), .val (.ref wA), .val (.ref sA), .val (.int (1 : Int32))] [(.int (0 : Int32)), (.int (1 : Int32))])) _
        refine XS.ifNo X35.here hx rfl (hb hby at_51) rfl ((if0 _ _).trans (teq (by decide : (0 : Int32) = (0 : Int32))).2) ?_
        show Steps p.tables e below (T35.setTop (mkF m 54 #[.val (.int p0), .val (.int (0 : Int32)), .val (.int (1 : Int32)), .val (.ref wA), .val (.ref sA), .val (.int (1 : Int32))] [(.int (1 : Int32))])) _
        refine XS.iloadN X35.here hx rfl (hb hby at_54) rfl ?_
        show Steps p.tables e below (T35.setTop (mkF m 55 #[.val (.int p0), .val (.int (0 : Int32)), .val (.int (1 : Int32)), .val (.ref wA), .val (.ref sA), .val (.int (1 : Int32))] [(.int (1 : Int32)), (.int (1 : Int32))])) _
        refine XS.ifNo X35.here hx rfl (hb hby at_55) rfl ((if0 _ _).trans (feq (by decide : ¬ ((1 : Int32) = (0 : Int32)))).1) ?_
        show Steps p.tables e below (T35.setTop (mkF m 58 #[.val (.int p0), .val (.int (0 : Int32)), .val (.int (1 : Int32)), .val (.ref wA), .val (.ref sA), .val (.int (1 : Int32))] [(.int (1 : Int32))])) _
        refine XS.iconst X35.here hx rfl (hb hby at_58) ?_
        show Steps p.tables e below (T35.setTop (mkF m 59 #[.val (.int p0), .val (.int (0 : Int32)), .val (.int (1 : Int32)), .val (.ref wA), .val (.ref sA), .val (.int (1 : Int32))] [(.int (1 : Int32)), (.int (1 : Int32))])) _
        refine XS.goto X35.here hx rfl (pc0 := 59) (pc' := 63) rfl (hb hby at_59) (by decide) (by decide) ?_
        show Steps p.tables e below (T35.setTop (mkF m 63 #[.val (.int p0), .val (.int (0 : Int32)), .val (.int (1 : Int32)), .val (.ref wA), .val (.ref sA), .val (.int (1 : Int32))] [(.int (1 : Int32)), (.int (1 : Int32))])) _
        refine XS.icmpYes X35.here hx rfl (pc0 := 63) (pc' := 68) rfl (hb hby at_63) rfl (teq (by decide : (1 : Int32) = (1 : Int32))).1 (by decide) (by decide) ?_
        show Steps p.tables e below (T35.setTop (mkF m 68 #[.val (.int p0), .val (.int (0 : Int32)), .val (.int (1 : Int32)), .val (.ref wA), .val (.ref sA), .val (.int (1 : Int32))] [])) _
        refine XS.iloadN X35.here hx rfl (hb hby at_68) rfl ?_
        show Steps p.tables e below (T35.setTop (mkF m 69 #[.val (.int p0), .val (.int (0 : Int32)), .val (.int (1 : Int32)), .val (.ref wA), .val (.ref sA), .val (.int (1 : Int32))] [(.int (0 : Int32))])) _
        refine XS.ifYes X35.here hx rfl (pc0 := 69) (pc' := 95) rfl (hb hby at_69) rfl ((if0 _ _).trans (teq (by decide : (0 : Int32) = (0 : Int32))).1) (by decide) (by decide) ?_
        show Steps p.tables e below (T35.setTop (mkF m 95 #[.val (.int p0), .val (.int (0 : Int32)), .val (.int (1 : Int32)), .val (.ref wA), .val (.ref sA), .val (.int (1 : Int32))] [])) _
        refine XS.iloadN X35.here hx rfl (hb hby at_95) rfl ?_
        show Steps p.tables e below (T35.setTop (mkF m 96 #[.val (.int p0), .val (.int (0 : Int32)), .val (.int (1 : Int32)), .val (.ref wA), .val (.ref sA), .val (.int (1 : Int32))] [(.int (1 : Int32))])) _
        refine XS.ifNo X35.here hx rfl (hb hby at_96) rfl ((if0 _ _).trans (feq (by decide : ¬ ((1 : Int32) = (0 : Int32)))).1) ?_
        show Steps p.tables e below (T35.setTop (mkF m 99 #[.val (.int p0), .val (.int (0 : Int32)), .val (.int (1 : Int32)), .val (.ref wA), .val (.ref sA), .val (.int (1 : Int32))] [])) _
        refine XS.aloadN X35.here hx rfl (hb hby at_99) rfl rfl ?_
        show Steps p.tables e below (T35.setTop (mkF m 100 #[.val (.int p0), .val (.int (0 : Int32)), .val (.int (1 : Int32)), .val (.ref wA), .val (.ref sA), .val (.int (1 : Int32))] [(.ref wA)])) _
        refine st36 _ ?_
        show Steps p.tables e below (T36.setTop (mkF m 103 #[.val (.int p0), .val (.int (0 : Int32)), .val (.int (1 : Int32)), .val (.ref wA), .val (.ref sA), .val (.int (1 : Int32))] [(.ref wA), (.ref wA)])) _
        refine Jvm.RoadKit.acmp (g := (mkF m 103 #[.val (.int p0), .val (.int (0 : Int32)), .val (.int (1 : Int32)), .val (.ref wA), .val (.ref sA), .val (.int (1 : Int32))] [(.ref wA), (.ref wA)])) X36 hx rfl rfl rfl (pc0 := 103) (pc' := 106) (same := true) rfl (hb hby at_103) rfl (decide_eq_true rfl) (by decide) (by decide) ?_
        show Steps p.tables e below (T36.setTop (mkF m 106 #[.val (.int p0), .val (.int (0 : Int32)), .val (.int (1 : Int32)), .val (.ref wA), .val (.ref sA), .val (.int (1 : Int32))] [])) _
        refine XS.aload X36.here hx rfl (hb hby at_106) rfl rfl ?_
        show Steps p.tables e below (T36.setTop (mkF m 108 #[.val (.int p0), .val (.int (0 : Int32)), .val (.int (1 : Int32)), .val (.ref wA), .val (.ref sA), .val (.int (1 : Int32))] [(.ref sA)])) _
        refine st37 _ ?_
        show Steps p.tables e below (T37.setTop (mkF m 110 #[.val (.int p0), .val (.int (0 : Int32)), .val (.int (1 : Int32)), .val (.ref wA), .val (.ref sA), .val (.int (1 : Int32))] [(.ref a37), (.ref sA)])) _
        refine st60.trans ?_
        show Steps p.tables e below (T60.setTop (mkF m 113 #[.val (.int p0), .val (.int (0 : Int32)), .val (.int (1 : Int32)), .val (.ref wA), .val (.ref sA), .val (.int (1 : Int32))] [(.int (1 : Int32))])) _
        refine XS.ifNo X60.here hx rfl (hb hby at_113) rfl ((if0 _ _).trans (feq (by decide : ¬ ((1 : Int32) = (0 : Int32)))).1) ?_
        show Steps p.tables e below (T60.setTop (mkF m 116 #[.val (.int p0), .val (.int (0 : Int32)), .val (.int (1 : Int32)), .val (.ref wA), .val (.ref sA), .val (.int (1 : Int32))] [])) _
        refine XS.iconst X60.here hx rfl (hb hby at_116) ?_
        show Steps p.tables e below (T60.setTop (mkF m 117 #[.val (.int p0), .val (.int (0 : Int32)), .val (.int (1 : Int32)), .val (.ref wA), .val (.ref sA), .val (.int (1 : Int32))] [(.int (1 : Int32))])) _
        refine XS.goto X60.here hx rfl (pc0 := 117) (pc' := 121) rfl (hb hby at_117) (by decide) (by decide) ?_
        show Steps p.tables e below (T60.setTop (mkF m 121 #[.val (.int p0), .val (.int (0 : Int32)), .val (.int (1 : Int32)), .val (.ref wA), .val (.ref sA), .val (.int (1 : Int32))] [(.int (1 : Int32))])) _
        exact retN X60 hx (t := .boolean) Bd.returns (by simp) (hb hby at_121) hr
      · exact ⟨rfl, N60⟩
  · have pre61 : ∀ t, Steps p.tables e below (s₁.setTop (mkF m 15 #[.val (.int p0), .val (.int (1 : Int32)), .unset, .unset, .unset, .unset] [(.int (p0 &&& (2 : Int32)))])) t → Steps p.tables e below (s₁.setTop (entryFrame m #[(.int p0)] maxLocals)) t := fun t k => by
      refine pre1 t ?_
      show Steps p.tables e below (s₁.setTop (mkF m 3 #[.val (.int p0), .unset, .unset, .unset, .unset, .unset] [(.int (p0 &&& (1 : Int32)))])) _
      refine XS.ifNo X0.here hx rfl (hb hby at_3) rfl ((if0 _ _).trans (feq hc2).1) ?_
      show Steps p.tables e below (s₁.setTop (mkF m 6 #[.val (.int p0), .unset, .unset, .unset, .unset, .unset] [])) _
      refine XS.iconst X0.here hx rfl (hb hby at_6) ?_
      show Steps p.tables e below (s₁.setTop (mkF m 7 #[.val (.int p0), .unset, .unset, .unset, .unset, .unset] [(.int (1 : Int32))])) _
      refine XS.goto X0.here hx rfl (pc0 := 7) (pc' := 11) rfl (hb hby at_7) (by decide) (by decide) ?_
      show Steps p.tables e below (s₁.setTop (mkF m 11 #[.val (.int p0), .unset, .unset, .unset, .unset, .unset] [(.int (1 : Int32))])) _
      refine XS.istoreN X0.here hx rfl (hb hby at_11) rfl (l' := #[.val (.int p0), .val (.int (1 : Int32)), .unset, .unset, .unset, .unset]) rfl ?_
      show Steps p.tables e below (s₁.setTop (mkF m 12 #[.val (.int p0), .val (.int (1 : Int32)), .unset, .unset, .unset, .unset] [])) _
      refine XS.iloadN X0.here hx rfl (hb hby at_12) rfl ?_
      show Steps p.tables e below (s₁.setTop (mkF m 13 #[.val (.int p0), .val (.int (1 : Int32)), .unset, .unset, .unset, .unset] [(.int p0)])) _
      refine XS.iconst X0.here hx rfl (hb hby at_13) ?_
      show Steps p.tables e below (s₁.setTop (mkF m 14 #[.val (.int p0), .val (.int (1 : Int32)), .unset, .unset, .unset, .unset] [(.int (2 : Int32)), (.int p0)])) _
      refine XS.iand X0.here hx rfl (hb hby at_14) rfl ?_
      exact k
    by_cases hc62 : (p0 &&& (2 : Int32)) = (0 : Int32)
    · obtain ⟨_, _, ⟨T63, L63, k63, n63⟩, -, X63, ⟨Lc63, hQ63, l63, y63, z63⟩, st63⟩ := Jvm.LawKit.callS X0 hx (y := (⟨"com/example/lattice_sash/latticesash/OwnFileView$Type", "of", "(ZZ)Lcom/example/lattice_sash/latticesash/OwnFileView$Type;"⟩ : MethodName)) hown (mvT hZ (hw _ (List.mem_of_getElem? (i := 0) rfl))) (mvT hZ (hw _ (List.mem_of_getElem? (i := 1) rfl))) (mvT hZ (hw _ (List.mem_of_getElem? (i := 2) rfl))) (mvT hZ (hw _ (List.mem_of_getElem? (i := 3) rfl))) (by decide) (backOf (W := 0) (rm1 l Z aw hw [] (1 : Int32) (0 : Int32) wD wA wF h0 n0 Z0 S_FOLDER S_ARCHIVE S_FILE) hZ (hw _ (List.mem_of_getElem? (i := 3) rfl)) (hw _ (List.mem_of_getElem? (i := 2) rfl)) (by decide) (by decide)) (g := (mkF m 26 #[.val (.int p0), .val (.int (1 : Int32)), .val (.int (0 : Int32)), .unset, .unset, .unset] [(.int (0 : Int32)), (.int (1 : Int32))])) rfl (by rw [hml]; rfl) (argsL := [(.int (1 : Int32)), (.int (0 : Int32))]) (rest := []) (lenOf pd_1 rfl) rfl (by show 2 * 0 + _ ≤ _; exact Nat.le_of_eq rfl) (hb hby at_26) (fun _ _ => ⟨rfl, e0, (by decide : 0 + 0 ≤ _), (by decide : 0 + 0 ≤ _)⟩)
      dsimp only [Pt.U, Pt.locs, Pt.cells, Pt.slots] at X63 l63 y63 z63 st63 hQ63
      subst l63 y63 z63
      obtain ⟨hv63, N63q, e63⟩ := hQ63
      rw [show own_of (1 : Int32) (0 : Int32) wD wA wF = wD from rfl] at hv63
      subst hv63
      have N63 := Fr.app N0 N63q
      obtain ⟨cq64, kq64, q64a, q64b, q64c⟩ := isOf hZ e63 EwD
      obtain ⟨_, _, ⟨T64, L64, k64, n64⟩, -, X64, ⟨Lc64, hQ64, l64, y64, z64⟩, st64⟩ := X63.virtualBack hx (y := (⟨"com/example/lattice_sash/latticesash/OwnFileView$Type", "description", "()Ljava/lang/String;"⟩ : MethodName)) (z := (⟨"com/example/lattice_sash/latticesash/OwnFileView$Type", "description", "()Ljava/lang/String;"⟩ : MethodName)) hown (mvT hZ (hw _ (List.mem_of_getElem? (i := 6) rfl))) (mvT hZ (hw _ (List.mem_of_getElem? (i := 7) rfl))) (notFace_of_selects (args := #[]) (mvT hZ (hw _ (List.mem_of_getElem? (i := 9) rfl)))) (mvT hZ (hw _ (List.mem_of_getElem? (i := 9) rfl))) (mvT hZ (hw _ (List.mem_of_getElem? (i := 8) rfl))) (by decide) (backOf (W := 0) (rm2 l Z aw hw [] wD sD h0 n0 Z0 FwD) hZ (hw _ (List.mem_of_getElem? (i := 10) rfl)) (hw _ (List.mem_of_getElem? (i := 2) rfl)) (by decide) (by decide)) q64a q64c (g := (mkF m 37 #[.val (.int p0), .val (.int (1 : Int32)), .val (.int (0 : Int32)), .val (.ref wD), .unset, .unset] [(.ref wD)])) rfl (by rw [hml]; rfl) (Steps.refl _) (argsL := []) (rest := []) (lenOf pd_2 rfl) rfl (by show 2 * 0 + _ ≤ _; exact Nat.le_of_eq rfl) (hb hby at_37) (fun _ _ => ⟨rfl, e63, (by decide : 0 + 0 ≤ _), (by decide : 0 + 0 ≤ _)⟩)
      dsimp only [Pt.U, Pt.locs, Pt.cells, Pt.slots] at X64 l64 y64 z64 st64 hQ64
      subst l64 y64 z64
      obtain ⟨rfl, N64q, e64⟩ := hQ64
      have N64 := Fr.app N63 N64q
      obtain ⟨cq65, kq65, q65a, q65b, q65c⟩ := isOf hZ e64 EwD
      obtain ⟨_, _, ⟨T65, L65, k65, n65⟩, -, X65, ⟨Lc65, hQ65, l65, y65, z65⟩, st65⟩ := X64.virtualBack hx (y := (⟨"com/example/lattice_sash/latticesash/OwnFileView$Type", "opens", "()Z"⟩ : MethodName)) (z := (⟨"com/example/lattice_sash/latticesash/OwnFileView$Type", "opens", "()Z"⟩ : MethodName)) hown (mvT hZ (hw _ (List.mem_of_getElem? (i := 13) rfl))) (mvT hZ (hw _ (List.mem_of_getElem? (i := 14) rfl))) (notFace_of_selects (args := #[]) (mvT hZ (hw _ (List.mem_of_getElem? (i := 16) rfl)))) (mvT hZ (hw _ (List.mem_of_getElem? (i := 16) rfl))) (mvT hZ (hw _ (List.mem_of_getElem? (i := 15) rfl))) (by decide) (backOf (W := 0) (rm3 l Z aw hw [] wD wD wA wF h0 n0 Z0 S_FOLDER S_ARCHIVE S_FILE) hZ (hw _ (List.mem_of_getElem? (i := 17) rfl)) (hw _ (List.mem_of_getElem? (i := 2) rfl)) (by decide) (by decide)) q65a q65c (g := (mkF m 43 #[.val (.int p0), .val (.int (1 : Int32)), .val (.int (0 : Int32)), .val (.ref wD), .val (.ref sD), .unset] [(.ref wD)])) rfl (by rw [hml]; rfl) (Steps.refl _) (argsL := []) (rest := []) (lenOf pd_3 rfl) rfl (by show 2 * 0 + _ ≤ _; exact Nat.le_of_eq rfl) (hb hby at_43) (fun _ _ => ⟨rfl, e64, (by decide : 0 + 0 ≤ _), (by decide : 0 + 0 ≤ _)⟩)
      dsimp only [Pt.U, Pt.locs, Pt.cells, Pt.slots] at X65 l65 y65 z65 st65 hQ65
      subst l65 y65 z65
      obtain ⟨hv65, N65q, e65⟩ := hQ65
      rw [own_opens_no nDF] at hv65
      subst hv65
      have N65 := Fr.app N64 N65q
      obtain ⟨T66, X66, e66, st66⟩ := getS2 X65 hx hZ hown (host := "") (Or.inl (hw _ (List.mem_of_getElem? (i := 43) rfl))) Via.refl e65 S_FOLDER (g := (mkF m 73 #[.val (.int p0), .val (.int (1 : Int32)), .val (.int (0 : Int32)), .val (.ref wD), .val (.ref sD), .val (.int (1 : Int32))] [(.ref wD)])) rfl (hb hby at_73)
      obtain ⟨a67, T67, h67, k167, b67, kc67, X67, e67, E67, hS67, hk67, hZ67, hown67, Ea67, Fc67, Fv67, Ab67, la67, lb67, hC67, hL67, hs67, st67⟩ := ldcCH (s := s) (vm0 := s.vm) X66 hx hZ hown (hw _ (List.mem_of_getElem? (i := 44) rfl)) hwS e66 hS0 (Nat.zero_le _) hEL (by simp [consts_1]) hCH (vs := [(.int (70 : Int32)), (.int (111 : Int32)), (.int (108 : Int32)), (.int (100 : Int32)), (.int (101 : Int32)), (.int (114 : Int32))]) (z := (6 : Int32)) ⟨by decide, rfl⟩ (by decide) rfl (g := (mkF m 81 #[.val (.int p0), .val (.int (1 : Int32)), .val (.int (0 : Int32)), .val (.ref wD), .val (.ref sD), .val (.int (1 : Int32))] [(.ref sD)])) rfl (hb hby at_81) (n := 24) (by decide) (by decide) (by decide) (by decide)
      have f68 := S_FOLDER.ext E67
      have f69 := S_ARCHIVE.ext E67
      have f70 := S_FILE.ext E67
      have f71 := SC.ext E67
      have f72 := EwD.ext E67
      have f73 := FwD.ext E67
      have f74 := EsD.ext E67
      have f75 := CsD.ext E67
      have f76 := VsD.ext E67
      have f77 := AsD.ext E67
      have f78 := EwA.ext E67
      have f79 := FwA.ext E67
      have f80 := EsA.ext E67
      have f81 := CsA.ext E67
      have f82 := VsA.ext E67
      have f83 := AsA.ext E67
      have f84 := EwF.ext E67
      have f85 := FwF.ext E67
      have f86 := EsF.ext E67
      have f87 := CsF.ext E67
      have f88 := VsF.ext E67
      have f89 := AsF.ext E67
      have Z67 : n0 ≤ h67.size := Nat.le_trans Z0 E67.1
      obtain ⟨cq90, kq90, q90a, q90b, q90c⟩ := isOf hZ67 e67 f74
      obtain ⟨_, _, ⟨T90, L90, k90, n90⟩, -, X90, ⟨Lc90, hQ90, l90, y90, z90⟩, st90⟩ := X67.virtualBack hx (y := (⟨"java/lang/String", "equals", "(Ljava/lang/Object;)Z"⟩ : MethodName)) (z := (⟨"java/lang/String", "equals", "(Ljava/lang/Object;)Z"⟩ : MethodName)) hown67 (mvT hZ67 (hw _ (List.mem_of_getElem? (i := 27) rfl))) (mvT hZ67 (hw _ (List.mem_of_getElem? (i := 28) rfl))) (notFace_of_selects (args := #[]) (mvT hZ67 (hw _ (List.mem_of_getElem? (i := 30) rfl)))) (mvT hZ67 (hw _ (List.mem_of_getElem? (i := 30) rfl))) (mvT hZ67 (hw _ (List.mem_of_getElem? (i := 29) rfl))) (by decide) (backOf (W := 0) (rme6 l Z aw hw [] sD a67 bD b67 kD kc67 cs (70 : Int32) (111 : Int32) (108 : Int32) (100 : Int32) (101 : Int32) (114 : Int32) h67 n0 Z67 f74 f75 f76 f77 Ea67 Fc67 Fv67 Ab67 f71 hcs) hZ67 (hw _ (List.mem_of_getElem? (i := 31) rfl)) (hw _ (List.mem_of_getElem? (i := 20) rfl)) (by decide) (by decide)) q90a q90c (g := (mkF m 83 #[.val (.int p0), .val (.int (1 : Int32)), .val (.int (0 : Int32)), .val (.ref wD), .val (.ref sD), .val (.int (1 : Int32))] [(.ref a67), (.ref sD)])) rfl (by rw [hml]; rfl) (Steps.refl _) (argsL := [(.ref a67)]) (rest := []) (lenOf pd_4 rfl) rfl (by show 2 * 0 + _ ≤ _; exact Nat.le_of_eq rfl) (hb hby at_83) (fun _ _ => ⟨rfl, e67, (by decide : 2 + 0 ≤ _), (by decide : 28 + 0 ≤ _)⟩)
      dsimp only [Pt.U, Pt.locs, Pt.cells, Pt.slots] at X90 l90 y90 z90 st90 hQ90
      subst l90 y90 z90
      obtain ⟨rfl, N90q, e90⟩ := hQ90
      have N90 := Fr.app N65 N90q
      obtain ⟨fs, hr, hrun, hended, r1, r2, r3, r4⟩ := X90.leaveW (s := s) hS67 (by rw [e90]; exact hk67) (v := some (.int (1 : Int32))) (fun h => by rw [Bd.returns] at h; cases h)
      refine ⟨_, _, pre61 _ ?_, hrun, hended, _, _, rfl, ?_, r1, r2, r3, r4.mono (by decide) (by decide)⟩
      · show Steps p.tables e below (s₁.setTop (mkF m 15 #[.val (.int p0), .val (.int (1 : Int32)), .unset, .unset, .unset, .unset] [(.int (p0 &&& (2 : Int32)))])) _
        refine XS.ifYes X0.here hx rfl (pc0 := 15) (pc' := 22) rfl (hb hby at_15) rfl ((if0 _ _).trans (teq hc62).1) (by decide) (by decide) ?_
        show Steps p.tables e below (s₁.setTop (mkF m 22 #[.val (.int p0), .val (.int (1 : Int32)), .unset, .unset, .unset, .unset] [])) _
        refine XS.iconst X0.here hx rfl (hb hby at_22) ?_
        show Steps p.tables e below (s₁.setTop (mkF m 23 #[.val (.int p0), .val (.int (1 : Int32)), .unset, .unset, .unset, .unset] [(.int (0 : Int32))])) _
        refine XS.istoreN X0.here hx rfl (hb hby at_23) rfl (l' := #[.val (.int p0), .val (.int (1 : Int32)), .val (.int (0 : Int32)), .unset, .unset, .unset]) rfl ?_
        show Steps p.tables e below (s₁.setTop (mkF m 24 #[.val (.int p0), .val (.int (1 : Int32)), .val (.int (0 : Int32)), .unset, .unset, .unset] [])) _
        refine XS.iloadN X0.here hx rfl (hb hby at_24) rfl ?_
        show Steps p.tables e below (s₁.setTop (mkF m 25 #[.val (.int p0), .val (.int (1 : Int32)), .val (.int (0 : Int32)), .unset, .unset, .unset] [(.int (1 : Int32))])) _
        refine XS.iloadN X0.here hx rfl (hb hby at_25) rfl ?_
        show Steps p.tables e below (s₁.setTop (mkF m 26 #[.val (.int p0), .val (.int (1 : Int32)), .val (.int (0 : Int32)), .unset, .unset, .unset] [(.int (0 : Int32)), (.int (1 : Int32))])) _
        refine st63 _ ?_
        show Steps p.tables e below (T63.setTop (mkF m 29 #[.val (.int p0), .val (.int (1 : Int32)), .val (.int (0 : Int32)), .unset, .unset, .unset] [(.ref wD)])) _
        refine XS.astoreN X63.here hx rfl (hb hby at_29) rfl rfl (l' := #[.val (.int p0), .val (.int (1 : Int32)), .val (.int (0 : Int32)), .val (.ref wD), .unset, .unset]) rfl ?_
        show Steps p.tables e below (T63.setTop (mkF m 30 #[.val (.int p0), .val (.int (1 : Int32)), .val (.int (0 : Int32)), .val (.ref wD), .unset, .unset] [])) _
        refine XS.aloadN X63.here hx rfl (hb hby at_30) rfl rfl ?_
        show Steps p.tables e below (T63.setTop (mkF m 31 #[.val (.int p0), .val (.int (1 : Int32)), .val (.int (0 : Int32)), .val (.ref wD), .unset, .unset] [(.ref wD)])) _
        refine XS.ifnonnullYes X63.here hx rfl (pc0 := 31) (pc' := 36) rfl (hb hby at_31) rfl (by decide) (by decide) ?_
        show Steps p.tables e below (T63.setTop (mkF m 36 #[.val (.int p0), .val (.int (1 : Int32)), .val (.int (0 : Int32)), .val (.ref wD), .unset, .unset] [])) _
        refine XS.aloadN X63.here hx rfl (hb hby at_36) rfl rfl ?_
        show Steps p.tables e below (T63.setTop (mkF m 37 #[.val (.int p0), .val (.int (1 : Int32)), .val (.int (0 : Int32)), .val (.ref wD), .unset, .unset] [(.ref wD)])) _
        refine st64.trans ?_
        show Steps p.tables e below (T64.setTop (mkF m 40 #[.val (.int p0), .val (.int (1 : Int32)), .val (.int (0 : Int32)), .val (.ref wD), .unset, .unset] [(.ref sD)])) _
        refine XS.astore X64.here hx rfl (hb hby at_40) rfl rfl (l' := #[.val (.int p0), .val (.int (1 : Int32)), .val (.int (0 : Int32)), .val (.ref wD), .val (.ref sD), .unset]) rfl ?_
        show Steps p.tables e below (T64.setTop (mkF m 42 #[.val (.int p0), .val (.int (1 : Int32)), .val (.int (0 : Int32)), .val (.ref wD), .val (.ref sD), .unset] [])) _
        refine XS.aloadN X64.here hx rfl (hb hby at_42) rfl rfl ?_
        show Steps p.tables e below (T64.setTop (mkF m 43 #[.val (.int p0), .val (.int (1 : Int32)), .val (.int (0 : Int32)), .val (.ref wD), .val (.ref sD), .unset] [(.ref wD)])) _
        refine st65.trans ?_
        show Steps p.tables e below (T65.setTop (mkF m 46 #[.val (.int p0), .val (.int (1 : Int32)), .val (.int (0 : Int32)), .val (.ref wD), .val (.ref sD), .unset] [(.int (1 : Int32))])) _
        refine XS.istore X65.here hx rfl (hb hby at_46) rfl (l' := #[.val (.int p0), .val (.int (1 : Int32)), .val (.int (0 : Int32)), .val (.ref wD), .val (.ref sD), .val (.int (1 : Int32))]) rfl ?_
        show Steps p.tables e below (T65.setTop (mkF m 48 #[.val (.int p0), .val (.int (1 : Int32)), .val (.int (0 : Int32)), .val (.ref wD), .val (.ref sD), .val (.int (1 : Int32))] [])) _
        refine XS.iload X65.here hx rfl (hb hby at_48) rfl ?_
        show Steps p.tables e below (T65.setTop (mkF m 50 #[.val (.int p0), .val (.int (1 : Int32)), .val (.int (0 : Int32)), .val (.ref wD), .val (.ref sD), .val (.int (1 : Int32))] [(.int (1 : Int32))])) _
        refine XS.iloadN X65.here hx rfl (hb hby at_50) rfl ?_
        show Steps p.tables e below (T65.setTop (mkF m 51 #[.val (.int p0), .val (.int (1 : Int32)), .val (.int (0 : Int32)), .val (.ref wD), .val (.ref sD), .val (.int (1 : Int32))] [(.int (1 : Int32)), (.int (1 : Int32))])) _
        refine XS.ifYes X65.here hx rfl (pc0 := 51) (pc' := 58) rfl (hb hby at_51) rfl ((if0 _ _).trans (feq (by decide : ¬ ((1 : Int32) = (0 : Int32)))).2) (by decide) (by decide) ?_
        show Steps p.tables e below (T65.setTop (mkF m 58 #[.val (.int p0), .val (.int (1 : Int32)), .val (.int (0 : Int32)), .val (.ref wD), .val (.ref sD), .val (.int (1 : Int32))] [(.int (1 : Int32))])) _
        refine XS.iconst X65.here hx rfl (hb hby at_58) ?_
        show Steps p.tables e below (T65.setTop (mkF m 59 #[.val (.int p0), .val (.int (1 : Int32)), .val (.int (0 : Int32)), .val (.ref wD), .val (.ref sD), .val (.int (1 : Int32))] [(.int (1 : Int32)), (.int (1 : Int32))])) _
        refine XS.goto X65.here hx rfl (pc0 := 59) (pc' := 63) rfl (hb hby at_59) (by decide) (by decide) ?_
        show Steps p.tables e below (T65.setTop (mkF m 63 #[.val (.int p0), .val (.int (1 : Int32)), .val (.int (0 : Int32)), .val (.ref wD), .val (.ref sD), .val (.int (1 : Int32))] [(.int (1 : Int32)), (.int (1 : Int32))])) _
        refine XS.icmpYes X65.here hx rfl (pc0 := 63) (pc' := 68) rfl (hb hby at_63) rfl (teq (by decide : (1 : Int32) = (1 : Int32))).1 (by decide) (by decide) ?_
        show Steps p.tables e below (T65.setTop (mkF m 68 #[.val (.int p0), .val (.int (1 : Int32)), .val (.int (0 : Int32)), .val (.ref wD), .val (.ref sD), .val (.int (1 : Int32))] [])) _
        refine XS.iloadN X65.here hx rfl (hb hby at_68) rfl ?_
        show Steps p.tables e below (T65.setTop (mkF m 69 #[.val (.int p0), .val (.int (1 : Int32)), .val (.int (0 : Int32)), .val (.ref wD), .val (.ref sD), .val (.int (1 : Int32))] [(.int (1 : Int32))])) _
        refine XS.ifNo X65.here hx rfl (hb hby at_69) rfl ((if0 _ _).trans (feq (by decide : ¬ ((1 : Int32) = (0 : Int32)))).1) ?_
        show Steps p.tables e below (T65.setTop (mkF m 72 #[.val (.int p0), .val (.int (1 : Int32)), .val (.int (0 : Int32)), .val (.ref wD), .val (.ref sD), .val (.int (1 : Int32))] [])) _
        refine XS.aloadN X65.here hx rfl (hb hby at_72) rfl rfl ?_
        show Steps p.tables e below (T65.setTop (mkF m 73 #[.val (.int p0), .val (.int (1 : Int32)), .val (.int (0 : Int32)), .val (.ref wD), .val (.ref sD), .val (.int (1 : Int32))] [(.ref wD)])) _
        refine st66 _ ?_
        show Steps p.tables e below (T66.setTop (mkF m 76 #[.val (.int p0), .val (.int (1 : Int32)), .val (.int (0 : Int32)), .val (.ref wD), .val (.ref sD), .val (.int (1 : Int32))] [(.ref wD), (.ref wD)])) _
        refine Jvm.RoadKit.acmp (g := (mkF m 76 #[.val (.int p0), .val (.int (1 : Int32)), .val (.int (0 : Int32)), .val (.ref wD), .val (.ref sD), .val (.int (1 : Int32))] [(.ref wD), (.ref wD)])) X66 hx rfl rfl rfl (pc0 := 76) (pc' := 79) (same := true) rfl (hb hby at_76) rfl (decide_eq_true rfl) (by decide) (by decide) ?_
        show Steps p.tables e below (T66.setTop (mkF m 79 #[.val (.int p0), .val (.int (1 : Int32)), .val (.int (0 : Int32)), .val (.ref wD), .val (.ref sD), .val (.int (1 : Int32))] [])) _
        refine XS.aload X66.here hx rfl (hb hby at_79) rfl rfl ?_
        show Steps p.tables e below (T66.setTop (mkF m 81 #[.val (.int p0), .val (.int (1 : Int32)), .val (.int (0 : Int32)), .val (.ref wD), .val (.ref sD), .val (.int (1 : Int32))] [(.ref sD)])) _
        refine st67 _ ?_
        show Steps p.tables e below (T67.setTop (mkF m 83 #[.val (.int p0), .val (.int (1 : Int32)), .val (.int (0 : Int32)), .val (.ref wD), .val (.ref sD), .val (.int (1 : Int32))] [(.ref a67), (.ref sD)])) _
        refine st90.trans ?_
        show Steps p.tables e below (T90.setTop (mkF m 86 #[.val (.int p0), .val (.int (1 : Int32)), .val (.int (0 : Int32)), .val (.ref wD), .val (.ref sD), .val (.int (1 : Int32))] [(.int (1 : Int32))])) _
        refine XS.ifNo X90.here hx rfl (hb hby at_86) rfl ((if0 _ _).trans (feq (by decide : ¬ ((1 : Int32) = (0 : Int32)))).1) ?_
        show Steps p.tables e below (T90.setTop (mkF m 89 #[.val (.int p0), .val (.int (1 : Int32)), .val (.int (0 : Int32)), .val (.ref wD), .val (.ref sD), .val (.int (1 : Int32))] [])) _
        refine XS.iconst X90.here hx rfl (hb hby at_89) ?_
        show Steps p.tables e below (T90.setTop (mkF m 90 #[.val (.int p0), .val (.int (1 : Int32)), .val (.int (0 : Int32)), .val (.ref wD), .val (.ref sD), .val (.int (1 : Int32))] [(.int (1 : Int32))])) _
        refine XS.goto X90.here hx rfl (pc0 := 90) (pc' := 94) rfl (hb hby at_90) (by decide) (by decide) ?_
        show Steps p.tables e below (T90.setTop (mkF m 94 #[.val (.int p0), .val (.int (1 : Int32)), .val (.int (0 : Int32)), .val (.ref wD), .val (.ref sD), .val (.int (1 : Int32))] [(.int (1 : Int32))])) _
        exact retN X90 hx (t := .boolean) Bd.returns (by simp) (hb hby at_94) hr
      · exact ⟨rfl, N90⟩
    · obtain ⟨_, _, ⟨T91, L91, k91, n91⟩, -, X91, ⟨Lc91, hQ91, l91, y91, z91⟩, st91⟩ := Jvm.LawKit.callS X0 hx (y := (⟨"com/example/lattice_sash/latticesash/OwnFileView$Type", "of", "(ZZ)Lcom/example/lattice_sash/latticesash/OwnFileView$Type;"⟩ : MethodName)) hown (mvT hZ (hw _ (List.mem_of_getElem? (i := 0) rfl))) (mvT hZ (hw _ (List.mem_of_getElem? (i := 1) rfl))) (mvT hZ (hw _ (List.mem_of_getElem? (i := 2) rfl))) (mvT hZ (hw _ (List.mem_of_getElem? (i := 3) rfl))) (by decide) (backOf (W := 0) (rm1 l Z aw hw [] (1 : Int32) (1 : Int32) wD wA wF h0 n0 Z0 S_FOLDER S_ARCHIVE S_FILE) hZ (hw _ (List.mem_of_getElem? (i := 3) rfl)) (hw _ (List.mem_of_getElem? (i := 2) rfl)) (by decide) (by decide)) (g := (mkF m 26 #[.val (.int p0), .val (.int (1 : Int32)), .val (.int (1 : Int32)), .unset, .unset, .unset] [(.int (1 : Int32)), (.int (1 : Int32))])) rfl (by rw [hml]; rfl) (argsL := [(.int (1 : Int32)), (.int (1 : Int32))]) (rest := []) (lenOf pd_1 rfl) rfl (by show 2 * 0 + _ ≤ _; exact Nat.le_of_eq rfl) (hb hby at_26) (fun _ _ => ⟨rfl, e0, (by decide : 0 + 0 ≤ _), (by decide : 0 + 0 ≤ _)⟩)
      dsimp only [Pt.U, Pt.locs, Pt.cells, Pt.slots] at X91 l91 y91 z91 st91 hQ91
      subst l91 y91 z91
      obtain ⟨hv91, N91q, e91⟩ := hQ91
      rw [show own_of (1 : Int32) (1 : Int32) wD wA wF = wD from rfl] at hv91
      subst hv91
      have N91 := Fr.app N0 N91q
      obtain ⟨cq92, kq92, q92a, q92b, q92c⟩ := isOf hZ e91 EwD
      obtain ⟨_, _, ⟨T92, L92, k92, n92⟩, -, X92, ⟨Lc92, hQ92, l92, y92, z92⟩, st92⟩ := X91.virtualBack hx (y := (⟨"com/example/lattice_sash/latticesash/OwnFileView$Type", "description", "()Ljava/lang/String;"⟩ : MethodName)) (z := (⟨"com/example/lattice_sash/latticesash/OwnFileView$Type", "description", "()Ljava/lang/String;"⟩ : MethodName)) hown (mvT hZ (hw _ (List.mem_of_getElem? (i := 6) rfl))) (mvT hZ (hw _ (List.mem_of_getElem? (i := 7) rfl))) (notFace_of_selects (args := #[]) (mvT hZ (hw _ (List.mem_of_getElem? (i := 9) rfl)))) (mvT hZ (hw _ (List.mem_of_getElem? (i := 9) rfl))) (mvT hZ (hw _ (List.mem_of_getElem? (i := 8) rfl))) (by decide) (backOf (W := 0) (rm2 l Z aw hw [] wD sD h0 n0 Z0 FwD) hZ (hw _ (List.mem_of_getElem? (i := 10) rfl)) (hw _ (List.mem_of_getElem? (i := 2) rfl)) (by decide) (by decide)) q92a q92c (g := (mkF m 37 #[.val (.int p0), .val (.int (1 : Int32)), .val (.int (1 : Int32)), .val (.ref wD), .unset, .unset] [(.ref wD)])) rfl (by rw [hml]; rfl) (Steps.refl _) (argsL := []) (rest := []) (lenOf pd_2 rfl) rfl (by show 2 * 0 + _ ≤ _; exact Nat.le_of_eq rfl) (hb hby at_37) (fun _ _ => ⟨rfl, e91, (by decide : 0 + 0 ≤ _), (by decide : 0 + 0 ≤ _)⟩)
      dsimp only [Pt.U, Pt.locs, Pt.cells, Pt.slots] at X92 l92 y92 z92 st92 hQ92
      subst l92 y92 z92
      obtain ⟨rfl, N92q, e92⟩ := hQ92
      have N92 := Fr.app N91 N92q
      obtain ⟨cq93, kq93, q93a, q93b, q93c⟩ := isOf hZ e92 EwD
      obtain ⟨_, _, ⟨T93, L93, k93, n93⟩, -, X93, ⟨Lc93, hQ93, l93, y93, z93⟩, st93⟩ := X92.virtualBack hx (y := (⟨"com/example/lattice_sash/latticesash/OwnFileView$Type", "opens", "()Z"⟩ : MethodName)) (z := (⟨"com/example/lattice_sash/latticesash/OwnFileView$Type", "opens", "()Z"⟩ : MethodName)) hown (mvT hZ (hw _ (List.mem_of_getElem? (i := 13) rfl))) (mvT hZ (hw _ (List.mem_of_getElem? (i := 14) rfl))) (notFace_of_selects (args := #[]) (mvT hZ (hw _ (List.mem_of_getElem? (i := 16) rfl)))) (mvT hZ (hw _ (List.mem_of_getElem? (i := 16) rfl))) (mvT hZ (hw _ (List.mem_of_getElem? (i := 15) rfl))) (by decide) (backOf (W := 0) (rm3 l Z aw hw [] wD wD wA wF h0 n0 Z0 S_FOLDER S_ARCHIVE S_FILE) hZ (hw _ (List.mem_of_getElem? (i := 17) rfl)) (hw _ (List.mem_of_getElem? (i := 2) rfl)) (by decide) (by decide)) q93a q93c (g := (mkF m 43 #[.val (.int p0), .val (.int (1 : Int32)), .val (.int (1 : Int32)), .val (.ref wD), .val (.ref sD), .unset] [(.ref wD)])) rfl (by rw [hml]; rfl) (Steps.refl _) (argsL := []) (rest := []) (lenOf pd_3 rfl) rfl (by show 2 * 0 + _ ≤ _; exact Nat.le_of_eq rfl) (hb hby at_43) (fun _ _ => ⟨rfl, e92, (by decide : 0 + 0 ≤ _), (by decide : 0 + 0 ≤ _)⟩)
      dsimp only [Pt.U, Pt.locs, Pt.cells, Pt.slots] at X93 l93 y93 z93 st93 hQ93
      subst l93 y93 z93
      obtain ⟨hv93, N93q, e93⟩ := hQ93
      rw [own_opens_no nDF] at hv93
      subst hv93
      have N93 := Fr.app N92 N93q
      obtain ⟨T94, X94, e94, st94⟩ := getS2 X93 hx hZ hown (host := "") (Or.inl (hw _ (List.mem_of_getElem? (i := 43) rfl))) Via.refl e93 S_FOLDER (g := (mkF m 73 #[.val (.int p0), .val (.int (1 : Int32)), .val (.int (1 : Int32)), .val (.ref wD), .val (.ref sD), .val (.int (1 : Int32))] [(.ref wD)])) rfl (hb hby at_73)
      obtain ⟨a95, T95, h95, k195, b95, kc95, X95, e95, E95, hS95, hk95, hZ95, hown95, Ea95, Fc95, Fv95, Ab95, la95, lb95, hC95, hL95, hs95, st95⟩ := ldcCH (s := s) (vm0 := s.vm) X94 hx hZ hown (hw _ (List.mem_of_getElem? (i := 44) rfl)) hwS e94 hS0 (Nat.zero_le _) hEL (by simp [consts_1]) hCH (vs := [(.int (70 : Int32)), (.int (111 : Int32)), (.int (108 : Int32)), (.int (100 : Int32)), (.int (101 : Int32)), (.int (114 : Int32))]) (z := (6 : Int32)) ⟨by decide, rfl⟩ (by decide) rfl (g := (mkF m 81 #[.val (.int p0), .val (.int (1 : Int32)), .val (.int (1 : Int32)), .val (.ref wD), .val (.ref sD), .val (.int (1 : Int32))] [(.ref sD)])) rfl (hb hby at_81) (n := 24) (by decide) (by decide) (by decide) (by decide)
      have f96 := S_FOLDER.ext E95
      have f97 := S_ARCHIVE.ext E95
      have f98 := S_FILE.ext E95
      have f99 := SC.ext E95
      have f100 := EwD.ext E95
      have f101 := FwD.ext E95
      have f102 := EsD.ext E95
      have f103 := CsD.ext E95
      have f104 := VsD.ext E95
      have f105 := AsD.ext E95
      have f106 := EwA.ext E95
      have f107 := FwA.ext E95
      have f108 := EsA.ext E95
      have f109 := CsA.ext E95
      have f110 := VsA.ext E95
      have f111 := AsA.ext E95
      have f112 := EwF.ext E95
      have f113 := FwF.ext E95
      have f114 := EsF.ext E95
      have f115 := CsF.ext E95
      have f116 := VsF.ext E95
      have f117 := AsF.ext E95
      have Z95 : n0 ≤ h95.size := Nat.le_trans Z0 E95.1
      obtain ⟨cq118, kq118, q118a, q118b, q118c⟩ := isOf hZ95 e95 f102
      obtain ⟨_, _, ⟨T118, L118, k118, n118⟩, -, X118, ⟨Lc118, hQ118, l118, y118, z118⟩, st118⟩ := X95.virtualBack hx (y := (⟨"java/lang/String", "equals", "(Ljava/lang/Object;)Z"⟩ : MethodName)) (z := (⟨"java/lang/String", "equals", "(Ljava/lang/Object;)Z"⟩ : MethodName)) hown95 (mvT hZ95 (hw _ (List.mem_of_getElem? (i := 27) rfl))) (mvT hZ95 (hw _ (List.mem_of_getElem? (i := 28) rfl))) (notFace_of_selects (args := #[]) (mvT hZ95 (hw _ (List.mem_of_getElem? (i := 30) rfl)))) (mvT hZ95 (hw _ (List.mem_of_getElem? (i := 30) rfl))) (mvT hZ95 (hw _ (List.mem_of_getElem? (i := 29) rfl))) (by decide) (backOf (W := 0) (rme6 l Z aw hw [] sD a95 bD b95 kD kc95 cs (70 : Int32) (111 : Int32) (108 : Int32) (100 : Int32) (101 : Int32) (114 : Int32) h95 n0 Z95 f102 f103 f104 f105 Ea95 Fc95 Fv95 Ab95 f99 hcs) hZ95 (hw _ (List.mem_of_getElem? (i := 31) rfl)) (hw _ (List.mem_of_getElem? (i := 20) rfl)) (by decide) (by decide)) q118a q118c (g := (mkF m 83 #[.val (.int p0), .val (.int (1 : Int32)), .val (.int (1 : Int32)), .val (.ref wD), .val (.ref sD), .val (.int (1 : Int32))] [(.ref a95), (.ref sD)])) rfl (by rw [hml]; rfl) (Steps.refl _) (argsL := [(.ref a95)]) (rest := []) (lenOf pd_4 rfl) rfl (by show 2 * 0 + _ ≤ _; exact Nat.le_of_eq rfl) (hb hby at_83) (fun _ _ => ⟨rfl, e95, (by decide : 2 + 0 ≤ _), (by decide : 28 + 0 ≤ _)⟩)
      dsimp only [Pt.U, Pt.locs, Pt.cells, Pt.slots] at X118 l118 y118 z118 st118 hQ118
      subst l118 y118 z118
      obtain ⟨rfl, N118q, e118⟩ := hQ118
      have N118 := Fr.app N93 N118q
      obtain ⟨fs, hr, hrun, hended, r1, r2, r3, r4⟩ := X118.leaveW (s := s) hS95 (by rw [e118]; exact hk95) (v := some (.int (1 : Int32))) (fun h => by rw [Bd.returns] at h; cases h)
      refine ⟨_, _, pre61 _ ?_, hrun, hended, _, _, rfl, ?_, r1, r2, r3, r4.mono (by decide) (by decide)⟩
      · show Steps p.tables e below (s₁.setTop (mkF m 15 #[.val (.int p0), .val (.int (1 : Int32)), .unset, .unset, .unset, .unset] [(.int (p0 &&& (2 : Int32)))])) _
        refine XS.ifNo X0.here hx rfl (hb hby at_15) rfl ((if0 _ _).trans (feq hc62).1) ?_
        show Steps p.tables e below (s₁.setTop (mkF m 18 #[.val (.int p0), .val (.int (1 : Int32)), .unset, .unset, .unset, .unset] [])) _
        refine XS.iconst X0.here hx rfl (hb hby at_18) ?_
        show Steps p.tables e below (s₁.setTop (mkF m 19 #[.val (.int p0), .val (.int (1 : Int32)), .unset, .unset, .unset, .unset] [(.int (1 : Int32))])) _
        refine XS.goto X0.here hx rfl (pc0 := 19) (pc' := 23) rfl (hb hby at_19) (by decide) (by decide) ?_
        show Steps p.tables e below (s₁.setTop (mkF m 23 #[.val (.int p0), .val (.int (1 : Int32)), .unset, .unset, .unset, .unset] [(.int (1 : Int32))])) _
        refine XS.istoreN X0.here hx rfl (hb hby at_23) rfl (l' := #[.val (.int p0), .val (.int (1 : Int32)), .val (.int (1 : Int32)), .unset, .unset, .unset]) rfl ?_
        show Steps p.tables e below (s₁.setTop (mkF m 24 #[.val (.int p0), .val (.int (1 : Int32)), .val (.int (1 : Int32)), .unset, .unset, .unset] [])) _
        refine XS.iloadN X0.here hx rfl (hb hby at_24) rfl ?_
        show Steps p.tables e below (s₁.setTop (mkF m 25 #[.val (.int p0), .val (.int (1 : Int32)), .val (.int (1 : Int32)), .unset, .unset, .unset] [(.int (1 : Int32))])) _
        refine XS.iloadN X0.here hx rfl (hb hby at_25) rfl ?_
        show Steps p.tables e below (s₁.setTop (mkF m 26 #[.val (.int p0), .val (.int (1 : Int32)), .val (.int (1 : Int32)), .unset, .unset, .unset] [(.int (1 : Int32)), (.int (1 : Int32))])) _
        refine st91 _ ?_
        show Steps p.tables e below (T91.setTop (mkF m 29 #[.val (.int p0), .val (.int (1 : Int32)), .val (.int (1 : Int32)), .unset, .unset, .unset] [(.ref wD)])) _
        refine XS.astoreN X91.here hx rfl (hb hby at_29) rfl rfl (l' := #[.val (.int p0), .val (.int (1 : Int32)), .val (.int (1 : Int32)), .val (.ref wD), .unset, .unset]) rfl ?_
        show Steps p.tables e below (T91.setTop (mkF m 30 #[.val (.int p0), .val (.int (1 : Int32)), .val (.int (1 : Int32)), .val (.ref wD), .unset, .unset] [])) _
        refine XS.aloadN X91.here hx rfl (hb hby at_30) rfl rfl ?_
        show Steps p.tables e below (T91.setTop (mkF m 31 #[.val (.int p0), .val (.int (1 : Int32)), .val (.int (1 : Int32)), .val (.ref wD), .unset, .unset] [(.ref wD)])) _
        refine XS.ifnonnullYes X91.here hx rfl (pc0 := 31) (pc' := 36) rfl (hb hby at_31) rfl (by decide) (by decide) ?_
        show Steps p.tables e below (T91.setTop (mkF m 36 #[.val (.int p0), .val (.int (1 : Int32)), .val (.int (1 : Int32)), .val (.ref wD), .unset, .unset] [])) _
        refine XS.aloadN X91.here hx rfl (hb hby at_36) rfl rfl ?_
        show Steps p.tables e below (T91.setTop (mkF m 37 #[.val (.int p0), .val (.int (1 : Int32)), .val (.int (1 : Int32)), .val (.ref wD), .unset, .unset] [(.ref wD)])) _
        refine st92.trans ?_
        show Steps p.tables e below (T92.setTop (mkF m 40 #[.val (.int p0), .val (.int (1 : Int32)), .val (.int (1 : Int32)), .val (.ref wD), .unset, .unset] [(.ref sD)])) _
        refine XS.astore X92.here hx rfl (hb hby at_40) rfl rfl (l' := #[.val (.int p0), .val (.int (1 : Int32)), .val (.int (1 : Int32)), .val (.ref wD), .val (.ref sD), .unset]) rfl ?_
        show Steps p.tables e below (T92.setTop (mkF m 42 #[.val (.int p0), .val (.int (1 : Int32)), .val (.int (1 : Int32)), .val (.ref wD), .val (.ref sD), .unset] [])) _
        refine XS.aloadN X92.here hx rfl (hb hby at_42) rfl rfl ?_
        show Steps p.tables e below (T92.setTop (mkF m 43 #[.val (.int p0), .val (.int (1 : Int32)), .val (.int (1 : Int32)), .val (.ref wD), .val (.ref sD), .unset] [(.ref wD)])) _
        refine st93.trans ?_
        show Steps p.tables e below (T93.setTop (mkF m 46 #[.val (.int p0), .val (.int (1 : Int32)), .val (.int (1 : Int32)), .val (.ref wD), .val (.ref sD), .unset] [(.int (1 : Int32))])) _
        refine XS.istore X93.here hx rfl (hb hby at_46) rfl (l' := #[.val (.int p0), .val (.int (1 : Int32)), .val (.int (1 : Int32)), .val (.ref wD), .val (.ref sD), .val (.int (1 : Int32))]) rfl ?_
        show Steps p.tables e below (T93.setTop (mkF m 48 #[.val (.int p0), .val (.int (1 : Int32)), .val (.int (1 : Int32)), .val (.ref wD), .val (.ref sD), .val (.int (1 : Int32))] [])) _
        refine XS.iload X93.here hx rfl (hb hby at_48) rfl ?_
        show Steps p.tables e below (T93.setTop (mkF m 50 #[.val (.int p0), .val (.int (1 : Int32)), .val (.int (1 : Int32)), .val (.ref wD), .val (.ref sD), .val (.int (1 : Int32))] [(.int (1 : Int32))])) _
        refine XS.iloadN X93.here hx rfl (hb hby at_50) rfl ?_
        show Steps p.tables e below (T93.setTop (mkF m 51 #[.val (.int p0), .val (.int (1 : Int32)), .val (.int (1 : Int32)), .val (.ref wD), .val (.ref sD), .val (.int (1 : Int32))] [(.int (1 : Int32)), (.int (1 : Int32))])) _
        refine XS.ifYes X93.here hx rfl (pc0 := 51) (pc' := 58) rfl (hb hby at_51) rfl ((if0 _ _).trans (feq (by decide : ¬ ((1 : Int32) = (0 : Int32)))).2) (by decide) (by decide) ?_
        show Steps p.tables e below (T93.setTop (mkF m 58 #[.val (.int p0), .val (.int (1 : Int32)), .val (.int (1 : Int32)), .val (.ref wD), .val (.ref sD), .val (.int (1 : Int32))] [(.int (1 : Int32))])) _
        refine XS.iconst X93.here hx rfl (hb hby at_58) ?_
        show Steps p.tables e below (T93.setTop (mkF m 59 #[.val (.int p0), .val (.int (1 : Int32)), .val (.int (1 : Int32)), .val (.ref wD), .val (.ref sD), .val (.int (1 : Int32))] [(.int (1 : Int32)), (.int (1 : Int32))])) _
        refine XS.goto X93.here hx rfl (pc0 := 59) (pc' := 63) rfl (hb hby at_59) (by decide) (by decide) ?_
        show Steps p.tables e below (T93.setTop (mkF m 63 #[.val (.int p0), .val (.int (1 : Int32)), .val (.int (1 : Int32)), .val (.ref wD), .val (.ref sD), .val (.int (1 : Int32))] [(.int (1 : Int32)), (.int (1 : Int32))])) _
        refine XS.icmpYes X93.here hx rfl (pc0 := 63) (pc' := 68) rfl (hb hby at_63) rfl (teq (by decide : (1 : Int32) = (1 : Int32))).1 (by decide) (by decide) ?_
        show Steps p.tables e below (T93.setTop (mkF m 68 #[.val (.int p0), .val (.int (1 : Int32)), .val (.int (1 : Int32)), .val (.ref wD), .val (.ref sD), .val (.int (1 : Int32))] [])) _
        refine XS.iloadN X93.here hx rfl (hb hby at_68) rfl ?_
        show Steps p.tables e below (T93.setTop (mkF m 69 #[.val (.int p0), .val (.int (1 : Int32)), .val (.int (1 : Int32)), .val (.ref wD), .val (.ref sD), .val (.int (1 : Int32))] [(.int (1 : Int32))])) _
        refine XS.ifNo X93.here hx rfl (hb hby at_69) rfl ((if0 _ _).trans (feq (by decide : ¬ ((1 : Int32) = (0 : Int32)))).1) ?_
        show Steps p.tables e below (T93.setTop (mkF m 72 #[.val (.int p0), .val (.int (1 : Int32)), .val (.int (1 : Int32)), .val (.ref wD), .val (.ref sD), .val (.int (1 : Int32))] [])) _
        refine XS.aloadN X93.here hx rfl (hb hby at_72) rfl rfl ?_
        show Steps p.tables e below (T93.setTop (mkF m 73 #[.val (.int p0), .val (.int (1 : Int32)), .val (.int (1 : Int32)), .val (.ref wD), .val (.ref sD), .val (.int (1 : Int32))] [(.ref wD)])) _
        refine st94 _ ?_
        show Steps p.tables e below (T94.setTop (mkF m 76 #[.val (.int p0), .val (.int (1 : Int32)), .val (.int (1 : Int32)), .val (.ref wD), .val (.ref sD), .val (.int (1 : Int32))] [(.ref wD), (.ref wD)])) _
        refine Jvm.RoadKit.acmp (g := (mkF m 76 #[.val (.int p0), .val (.int (1 : Int32)), .val (.int (1 : Int32)), .val (.ref wD), .val (.ref sD), .val (.int (1 : Int32))] [(.ref wD), (.ref wD)])) X94 hx rfl rfl rfl (pc0 := 76) (pc' := 79) (same := true) rfl (hb hby at_76) rfl (decide_eq_true rfl) (by decide) (by decide) ?_
        show Steps p.tables e below (T94.setTop (mkF m 79 #[.val (.int p0), .val (.int (1 : Int32)), .val (.int (1 : Int32)), .val (.ref wD), .val (.ref sD), .val (.int (1 : Int32))] [])) _
        refine XS.aload X94.here hx rfl (hb hby at_79) rfl rfl ?_
        show Steps p.tables e below (T94.setTop (mkF m 81 #[.val (.int p0), .val (.int (1 : Int32)), .val (.int (1 : Int32)), .val (.ref wD), .val (.ref sD), .val (.int (1 : Int32))] [(.ref sD)])) _
        refine st95 _ ?_
        show Steps p.tables e below (T95.setTop (mkF m 83 #[.val (.int p0), .val (.int (1 : Int32)), .val (.int (1 : Int32)), .val (.ref wD), .val (.ref sD), .val (.int (1 : Int32))] [(.ref a95), (.ref sD)])) _
        refine st118.trans ?_
        show Steps p.tables e below (T118.setTop (mkF m 86 #[.val (.int p0), .val (.int (1 : Int32)), .val (.int (1 : Int32)), .val (.ref wD), .val (.ref sD), .val (.int (1 : Int32))] [(.int (1 : Int32))])) _
        refine XS.ifNo X118.here hx rfl (hb hby at_86) rfl ((if0 _ _).trans (feq (by decide : ¬ ((1 : Int32) = (0 : Int32)))).1) ?_
        show Steps p.tables e below (T118.setTop (mkF m 89 #[.val (.int p0), .val (.int (1 : Int32)), .val (.int (1 : Int32)), .val (.ref wD), .val (.ref sD), .val (.int (1 : Int32))] [])) _
        refine XS.iconst X118.here hx rfl (hb hby at_89) ?_
        show Steps p.tables e below (T118.setTop (mkF m 90 #[.val (.int p0), .val (.int (1 : Int32)), .val (.int (1 : Int32)), .val (.ref wD), .val (.ref sD), .val (.int (1 : Int32))] [(.int (1 : Int32))])) _
        refine XS.goto X118.here hx rfl (pc0 := 90) (pc' := 94) rfl (hb hby at_90) (by decide) (by decide) ?_
        show Steps p.tables e below (T118.setTop (mkF m 94 #[.val (.int p0), .val (.int (1 : Int32)), .val (.int (1 : Int32)), .val (.ref wD), .val (.ref sD), .val (.int (1 : Int32))] [(.int (1 : Int32))])) _
        exact retN X118 hx (t := .boolean) Bd.returns (by simp) (hb hby at_94) hr
      · exact ⟨rfl, N118⟩
set_option maxRecDepth 65536 in
set_option maxHeartbeats 40000000 in
theorem comes_1 {Post : Tables → Env → Array Value → State → Outcome → State → Prop} (hpost : ∀ tb e args s v u, (limb_1_1.after args s (.returned v) u = true ∧ limb_1_2.after args s (.returned v) u = true ∧ True) → ReturnedEndW s (.returned v) u (Jvm.fieldLocs frame_1_writes args s ++ Jvm.arrayLocs frame_1_arrays args s ++ Jvm.staticLocs frame_1_statics s) 8 3136 → Post tb e args s (.returned v) u) :
    ArmFor flags0 classFile x code maxLocals ret World_1 tables_1 room_1 Calls_1 rest_1 Pre_1 Post := by
  intro l hfl _ _ p e ha hc hk s m args below hf hA hF happ hP
  obtain ⟨hcalls, hrest, hpre⟩ := hP
  obtain ⟨-, -, -, hnamed, -, -, -, hat⟩ := (Spec.applies_iff hf).mp happ
  obtain ⟨hg, hn⟩ := and_e (Cond.before_iff.mp (show (Jvm.Cond.and given_1 narrow_1).before args s = true from hpre))
  obtain ⟨hga, hgb⟩ := and_e hg
  obtain ⟨w0, rfl⟩ : ∃ w0 : Value, args = #[w0] := by
    have hs : args.size = 1 := by simpa [Cond.value, given_1] using hga
    obtain ⟨L⟩ := args
    match L, hs with
    | [w0], _ => exact ⟨w0, rfl⟩
  have hw := fun d (hd : d ∈ tables_1) => atoms_spec (ws := Jvm.Cond.code x code maxLocals ret :: tables_1) hat d (List.mem_cons_of_mem _ hd)
  have hfit : Fit s := fun {y c} hc i hi => by
    obtain ⟨ha, rfl⟩ := Array.getElem?_eq_some_iff.mp hc
    have q := List.all_eq_true.mp ((Array.all_eq_true_iff_forall_mem.mp hF) _ (Array.getElem_mem ha)) i (List.mem_range.mpr hi)
    simpa [Array.getElem?_eq_getElem hi] using q
  obtain ⟨i0, ei0⟩ := is_v hgb
  obtain rfl : w0 = (.int i0) := Option.some.inj ei0
  obtain ⟨hna, hnb⟩ := and_e hn
  obtain ⟨hnba, hnbb⟩ := and_e hnb
  obtain ⟨hnbba, hnbbb⟩ := and_e hnbb
  obtain ⟨hnbbba, hnbbbb⟩ := and_e hnbbb
  obtain ⟨hnbbbba, hnbbbbb⟩ := and_e hnbbbb
  obtain ⟨hnbbbbba, hnbbbbbb⟩ := and_e hnbbbbb
  obtain ⟨hnbbbbbba, hnbbbbbbb⟩ := and_e hnbbbbbb
  obtain ⟨hnbbbbbbba, hnbbbbbbbb⟩ := and_e hnbbbbbbb
  obtain ⟨hnbbbbbbbba, hnbbbbbbbbb⟩ := and_e hnbbbbbbbb
  obtain ⟨hnbbbbbbbbba, hnbbbbbbbbbb⟩ := and_e hnbbbbbbbbb
  obtain ⟨hnbbbbbbbbbba, hnbbbbbbbbbbb⟩ := and_e hnbbbbbbbbbb
  obtain ⟨hnbbbbbbbbbbba, hnbbbbbbbbbbbb⟩ := and_e hnbbbbbbbbbbb
  obtain ⟨hnbbbbbbbbbbbba, hnbbbbbbbbbbbbb⟩ := and_e hnbbbbbbbbbbbb
  obtain ⟨hnbbbbbbbbbbbbba, hnbbbbbbbbbbbbbb⟩ := and_e hnbbbbbbbbbbbbb
  obtain ⟨hnbbbbbbbbbbbbbba, hnbbbbbbbbbbbbbbb⟩ := and_e hnbbbbbbbbbbbbbb
  obtain ⟨hnbbbbbbbbbbbbbbba, hnbbbbbbbbbbbbbbbb⟩ := and_e hnbbbbbbbbbbbbbbb
  obtain ⟨hnbbbbbbbbbbbbbbbba, hnbbbbbbbbbbbbbbbbb⟩ := and_e hnbbbbbbbbbbbbbbbb
  obtain ⟨hnbbbbbbbbbbbbbbbbba, hnbbbbbbbbbbbbbbbbbb⟩ := and_e hnbbbbbbbbbbbbbbbbb
  obtain ⟨hnbbbbbbbbbbbbbbbbbba, hnbbbbbbbbbbbbbbbbbbb⟩ := and_e hnbbbbbbbbbbbbbbbbbb
  obtain ⟨hnbbbbbbbbbbbbbbbbbbba, hnbbbbbbbbbbbbbbbbbbbb⟩ := and_e hnbbbbbbbbbbbbbbbbbbb
  obtain ⟨hnbbbbbbbbbbbbbbbbbbbba, hnbbbbbbbbbbbbbbbbbbbbb⟩ := and_e hnbbbbbbbbbbbbbbbbbbbb
  obtain ⟨hnbbbbbbbbbbbbbbbbbbbbba, hnbbbbbbbbbbbbbbbbbbbbbb⟩ := and_e hnbbbbbbbbbbbbbbbbbbbbb
  obtain ⟨hnbbbbbbbbbbbbbbbbbbbbbba, hnbbbbbbbbbbbbbbbbbbbbbbb⟩ := and_e hnbbbbbbbbbbbbbbbbbbbbbb
  obtain ⟨hnbbbbbbbbbbbbbbbbbbbbbbba, hnbbbbbbbbbbbbbbbbbbbbbbbb⟩ := and_e hnbbbbbbbbbbbbbbbbbbbbbbb
  obtain ⟨hnbbbbbbbbbbbbbbbbbbbbbbbba, hnbbbbbbbbbbbbbbbbbbbbbbbbb⟩ := and_e hnbbbbbbbbbbbbbbbbbbbbbbbb
  obtain ⟨hnbbbbbbbbbbbbbbbbbbbbbbbbba, hnbbbbbbbbbbbbbbbbbbbbbbbbbb⟩ := and_e hnbbbbbbbbbbbbbbbbbbbbbbbbb
  obtain ⟨hnbbbbbbbbbbbbbbbbbbbbbbbbbba, hnbbbbbbbbbbbbbbbbbbbbbbbbbbb⟩ := and_e hnbbbbbbbbbbbbbbbbbbbbbbbbbb
  obtain ⟨hnbbbbbbbbbbbbbbbbbbbbbbbbbbba, hnbbbbbbbbbbbbbbbbbbbbbbbbbbbb⟩ := and_e hnbbbbbbbbbbbbbbbbbbbbbbbbbbb
  obtain ⟨hnbbbbbbbbbbbbbbbbbbbbbbbbbbbba, hnbbbbbbbbbbbbbbbbbbbbbbbbbbbbb⟩ := and_e hnbbbbbbbbbbbbbbbbbbbbbbbbbbbb
  obtain ⟨hnbbbbbbbbbbbbbbbbbbbbbbbbbbbbba, hnbbbbbbbbbbbbbbbbbbbbbbbbbbbbbb⟩ := and_e hnbbbbbbbbbbbbbbbbbbbbbbbbbbbbb
  obtain ⟨hnbbbbbbbbbbbbbbbbbbbbbbbbbbbbbba, hnbbbbbbbbbbbbbbbbbbbbbbbbbbbbbbb⟩ := and_e hnbbbbbbbbbbbbbbbbbbbbbbbbbbbbbb
  obtain ⟨hnbbbbbbbbbbbbbbbbbbbbbbbbbbbbbbba, hnbbbbbbbbbbbbbbbbbbbbbbbbbbbbbbbb⟩ := and_e hnbbbbbbbbbbbbbbbbbbbbbbbbbbbbbbb
  obtain ⟨hnbbbbbbbbbbbbbbbbbbbbbbbbbbbbbbbba, hnbbbbbbbbbbbbbbbbbbbbbbbbbbbbbbbbb⟩ := and_e hnbbbbbbbbbbbbbbbbbbbbbbbbbbbbbbbb
  obtain ⟨hnbbbbbbbbbbbbbbbbbbbbbbbbbbbbbbbbba, hnbbbbbbbbbbbbbbbbbbbbbbbbbbbbbbbbbb⟩ := and_e hnbbbbbbbbbbbbbbbbbbbbbbbbbbbbbbbbb
  obtain ⟨w_FILE, S_FILE, E_FILE, ev_FILE⟩ := own_exa (a0 := #[]) (hw _ (List.mem_of_getElem? (i := 2) rfl)) (hw _ (List.mem_of_getElem? (i := 5) rfl)) hna
  obtain ⟨w_FOLDER, S_FOLDER, E_FOLDER, ev_FOLDER⟩ := own_exa (a0 := #[]) (hw _ (List.mem_of_getElem? (i := 2) rfl)) (hw _ (List.mem_of_getElem? (i := 42) rfl)) hnbbbbbbbbba
  obtain ⟨w_ARCHIVE, S_ARCHIVE, E_ARCHIVE, ev_ARCHIVE⟩ := own_exa (a0 := #[]) (hw _ (List.mem_of_getElem? (i := 2) rfl)) (hw _ (List.mem_of_getElem? (i := 46) rfl)) hnbbbbbbbbbbbbbbbba
  have F_FOLDER_ordinal := own_fldI ev_FOLDER hnbbbbbbbbbbba
  have F_FILE_ordinal := own_fldI ev_FILE hnbbbbbbbbbbbba
  have F_ARCHIVE_ordinal := own_fldI ev_ARCHIVE hnbbbbbbbbbbbbbbbbbba
  obtain ⟨hsets, hown0⟩ := atoms_of _ (rest_1_c_eq ▸ (show rest_1_c.before _ s = true from hrest))
  obtain ⟨cs, ecs⟩ := is_v (Cond.before_iff.mp (hsets _ (List.mem_of_getElem? (i := 1) rfl)))
  have SC := Sta.start ecs (Or.inl (hsets _ (List.mem_of_getElem? (i := 0) rfl)))
  have hcw := hsets _ (List.mem_of_getElem? (i := 2) rfl)
  have hcs : ¬ cs = (0 : Int32) := gotF (u := (Jvm.Cond.eq (Jvm.Term.static "java/lang/String" "COMPACT_STRINGS" "Z") (Jvm.Term.int (0 : Int32))).value _ s none s []) (by simp [Cond.value, ecs, Term.eval] at *; simp [Cond.value, ecs]) (by simpa using not_v (Cond.before_iff.mp hcw))
  obtain ⟨s_yFOLDER, es_yFOLDER⟩ := exa_v hnbbbbbbbbbba
  have F_yFOLDER := Fld.start ((fld_at ev_FOLDER).symm.trans es_yFOLDER)
  have E_yFOLDER := Exa.start es_yFOLDER hnbbbbbbbbbba
  have C_yFOLDER := own_fldI es_yFOLDER hnbbbbbbbbbbbbba
  obtain ⟨b_yFOLDER, eb_yFOLDER⟩ := arr_v hnbbbbbbbbbbbbbba
  have V_yFOLDER := Fld.start ((fld_at es_yFOLDER).symm.trans eb_yFOLDER)
  obtain ⟨cl_yFOLDER, Ar_yFOLDER⟩ := Arr.start eb_yFOLDER hnbbbbbbbbbbbbbba
  obtain ⟨l1_yFOLDER, l2_yFOLDER⟩ := own_len eb_yFOLDER Ar_yFOLDER.1 hnbbbbbbbbbbbbbbba
  have el_yFOLDER_0 : cl_yFOLDER.slots[0]? = some (.int (70 : Int32)) := own_elemI eb_yFOLDER Ar_yFOLDER.1 hnbbbbbbbbbbbbbbbbbbbbbba
  have el_yFOLDER_1 : cl_yFOLDER.slots[1]? = some (.int (111 : Int32)) := own_elemI eb_yFOLDER Ar_yFOLDER.1 hnbbbbbbbbbbbbbbbbbbbbbbba
  have el_yFOLDER_2 : cl_yFOLDER.slots[2]? = some (.int (108 : Int32)) := own_elemI eb_yFOLDER Ar_yFOLDER.1 hnbbbbbbbbbbbbbbbbbbbbbbbba
  have el_yFOLDER_3 : cl_yFOLDER.slots[3]? = some (.int (100 : Int32)) := own_elemI eb_yFOLDER Ar_yFOLDER.1 hnbbbbbbbbbbbbbbbbbbbbbbbbba
  have el_yFOLDER_4 : cl_yFOLDER.slots[4]? = some (.int (101 : Int32)) := own_elemI eb_yFOLDER Ar_yFOLDER.1 hnbbbbbbbbbbbbbbbbbbbbbbbbbba
  have el_yFOLDER_5 : cl_yFOLDER.slots[5]? = some (.int (114 : Int32)) := own_elemI eb_yFOLDER Ar_yFOLDER.1 hnbbbbbbbbbbbbbbbbbbbbbbbbbbba
  have A_yFOLDER : Arv s s.heap b_yFOLDER cl_yFOLDER.cls .byte (6 : Int32) [(.int (70 : Int32)), (.int (111 : Int32)), (.int (108 : Int32)), (.int (100 : Int32)), (.int (101 : Int32)), (.int (114 : Int32))] (.int (0 : Int32)) := Arv.start hfit Ar_yFOLDER l1_yFOLDER l2_yFOLDER (by decide) rfl ⟨el_yFOLDER_0, el_yFOLDER_1, el_yFOLDER_2, el_yFOLDER_3, el_yFOLDER_4, el_yFOLDER_5, trivial⟩
  obtain ⟨s_yARCHIVE, es_yARCHIVE⟩ := exa_v hnbbbbbbbbbbbbbbbbba
  have F_yARCHIVE := Fld.start ((fld_at ev_ARCHIVE).symm.trans es_yARCHIVE)
  have E_yARCHIVE := Exa.start es_yARCHIVE hnbbbbbbbbbbbbbbbbba
  have C_yARCHIVE := own_fldI es_yARCHIVE hnbbbbbbbbbbbbbbbbbbba
  obtain ⟨b_yARCHIVE, eb_yARCHIVE⟩ := arr_v hnbbbbbbbbbbbbbbbbbbbba
  have V_yARCHIVE := Fld.start ((fld_at es_yARCHIVE).symm.trans eb_yARCHIVE)
  obtain ⟨cl_yARCHIVE, Ar_yARCHIVE⟩ := Arr.start eb_yARCHIVE hnbbbbbbbbbbbbbbbbbbbba
  obtain ⟨l1_yARCHIVE, l2_yARCHIVE⟩ := own_len eb_yARCHIVE Ar_yARCHIVE.1 hnbbbbbbbbbbbbbbbbbbbbba
  have el_yARCHIVE_0 : cl_yARCHIVE.slots[0]? = some (.int (65 : Int32)) := own_elemI eb_yARCHIVE Ar_yARCHIVE.1 hnbbbbbbbbbbbbbbbbbbbbbbbbbbbba
  have el_yARCHIVE_1 : cl_yARCHIVE.slots[1]? = some (.int (114 : Int32)) := own_elemI eb_yARCHIVE Ar_yARCHIVE.1 hnbbbbbbbbbbbbbbbbbbbbbbbbbbbbba
  have el_yARCHIVE_2 : cl_yARCHIVE.slots[2]? = some (.int (99 : Int32)) := own_elemI eb_yARCHIVE Ar_yARCHIVE.1 hnbbbbbbbbbbbbbbbbbbbbbbbbbbbbbba
  have el_yARCHIVE_3 : cl_yARCHIVE.slots[3]? = some (.int (104 : Int32)) := own_elemI eb_yARCHIVE Ar_yARCHIVE.1 hnbbbbbbbbbbbbbbbbbbbbbbbbbbbbbbba
  have el_yARCHIVE_4 : cl_yARCHIVE.slots[4]? = some (.int (105 : Int32)) := own_elemI eb_yARCHIVE Ar_yARCHIVE.1 hnbbbbbbbbbbbbbbbbbbbbbbbbbbbbbbbba
  have el_yARCHIVE_5 : cl_yARCHIVE.slots[5]? = some (.int (118 : Int32)) := own_elemI eb_yARCHIVE Ar_yARCHIVE.1 hnbbbbbbbbbbbbbbbbbbbbbbbbbbbbbbbbba
  have el_yARCHIVE_6 : cl_yARCHIVE.slots[6]? = some (.int (101 : Int32)) := own_elemI eb_yARCHIVE Ar_yARCHIVE.1 hnbbbbbbbbbbbbbbbbbbbbbbbbbbbbbbbbbb
  have A_yARCHIVE : Arv s s.heap b_yARCHIVE cl_yARCHIVE.cls .byte (7 : Int32) [(.int (65 : Int32)), (.int (114 : Int32)), (.int (99 : Int32)), (.int (104 : Int32)), (.int (105 : Int32)), (.int (118 : Int32)), (.int (101 : Int32))] (.int (0 : Int32)) := Arv.start hfit Ar_yARCHIVE l1_yARCHIVE l2_yARCHIVE (by decide) rfl ⟨el_yARCHIVE_0, el_yARCHIVE_1, el_yARCHIVE_2, el_yARCHIVE_3, el_yARCHIVE_4, el_yARCHIVE_5, el_yARCHIVE_6, trivial⟩
  obtain ⟨s_yFILE, es_yFILE⟩ := exa_v hnba
  have F_yFILE := Fld.start ((fld_at ev_FILE).symm.trans es_yFILE)
  have E_yFILE := Exa.start es_yFILE hnba
  have C_yFILE := own_fldI es_yFILE hnbba
  obtain ⟨b_yFILE, eb_yFILE⟩ := arr_v hnbbba
  have V_yFILE := Fld.start ((fld_at es_yFILE).symm.trans eb_yFILE)
  obtain ⟨cl_yFILE, Ar_yFILE⟩ := Arr.start eb_yFILE hnbbba
  obtain ⟨l1_yFILE, l2_yFILE⟩ := own_len eb_yFILE Ar_yFILE.1 hnbbbba
  have el_yFILE_0 : cl_yFILE.slots[0]? = some (.int (70 : Int32)) := own_elemI eb_yFILE Ar_yFILE.1 hnbbbbba
  have el_yFILE_1 : cl_yFILE.slots[1]? = some (.int (105 : Int32)) := own_elemI eb_yFILE Ar_yFILE.1 hnbbbbbba
  have el_yFILE_2 : cl_yFILE.slots[2]? = some (.int (108 : Int32)) := own_elemI eb_yFILE Ar_yFILE.1 hnbbbbbbba
  have el_yFILE_3 : cl_yFILE.slots[3]? = some (.int (101 : Int32)) := own_elemI eb_yFILE Ar_yFILE.1 hnbbbbbbbba
  have A_yFILE : Arv s s.heap b_yFILE cl_yFILE.cls .byte (4 : Int32) [(.int (70 : Int32)), (.int (105 : Int32)), (.int (108 : Int32)), (.int (101 : Int32))] (.int (0 : Int32)) := Arv.start hfit Ar_yFILE l1_yFILE l2_yFILE (by decide) rfl ⟨el_yFILE_0, el_yFILE_1, el_yFILE_2, el_yFILE_3, trivial⟩
  have hCH : CHv s consts_1 s.vm s.heap := CHv.start (EW.cons (hw _ (List.mem_of_getElem? (i := 44) rfl)) (by decide) (EW.cons (hw _ (List.mem_of_getElem? (i := 48) rfl)) (by decide) (EW.cons (hw _ (List.mem_of_getElem? (i := 19) rfl)) (by decide) EW.nil))) (fun p hp => hcalls.1 p hp) hcw (hw _ (List.mem_of_getElem? (i := 22) rfl)) (hw _ (List.mem_of_getElem? (i := 21) rfl))
  obtain ⟨n, o, h1, h2, h3, _, L, rfl, ⟨rfl, N⟩, hq⟩ := rm0 l s _ hw tables_1 i0 w_FOLDER w_ARCHIVE w_FILE cs s_yFOLDER b_yFOLDER cl_yFOLDER.cls s_yARCHIVE b_yARCHIVE cl_yARCHIVE.cls s_yFILE b_yFILE cl_yFILE.cls s.heap s.heap.size (Nat.le_refl _) S_FOLDER S_ARCHIVE S_FILE SC hcs (F_FOLDER_ordinal.ne F_FILE_ordinal (by decide)) (F_ARCHIVE_ordinal.ne F_FILE_ordinal (by decide)) (F_FOLDER_ordinal.ne F_ARCHIVE_ordinal (by decide)) E_FOLDER F_yFOLDER E_yFOLDER C_yFOLDER V_yFOLDER A_yFOLDER E_ARCHIVE F_yARCHIVE E_yARCHIVE C_yARCHIVE V_yARCHIVE A_yARCHIVE E_FILE F_yFILE E_yFILE C_yFILE V_yFILE A_yFILE p e ha hc hk s m _ below hf ((Spec.applies_iff_loose hf).mp happ).1 ⟨rfl, State.Warmed39.refl s, rfl, hCH⟩ trivial
  refine ⟨n, _, h1, h2, h3, hpost _ _ _ _ _ _ ⟨Cond.after_iff.mpr rfl, Cond.after_iff.mpr (eq_i res_at (Term.int_eval (1)) rfl), trivial⟩ ⟨hq.1, hq.2.1, hq.2.2.1, (hq.2.2.2.sift fun y hy => Or.inr (N y hy)).mono (by decide) (by decide)⟩⟩
theorem main_1_1 : Claimed_1_1 := comes_1 fun _ _ _ _ _ _ h hF => ⟨h.1, hF⟩
theorem main_1_2 : Claimed_1_2 := comes_1 fun _ _ _ _ _ _ h hF => ⟨h.2.1, hF⟩
end Jvm.Pilot.@@N@@
namespace Jvm.Pilot.@@N@@
open Jvm Jvm.ClassFile Sem Op Lib Jvm.Free Jvm.Stand Jvm.Pilot.@@N@@.Jvm.D
/-! MADE BY PROGRAM (witnessworld.py) out of the Statement's table words and the real class files: 18 classes; the members and pool entries that the words name. The judged class is class 1, her method 1. -/
namespace start1
open Jvm.ClassFile
def u (s : String) : CpInfo := .utf8 (stringToUtf16 s)
/-- a pool by its gaps: so many unusable entries, then the entry; so many at the end -/
def gap : Nat → List CpInfo → List CpInfo
  | 0, r => r
  | n + 1, r => .unusable :: gap n r
def poolList (es : List (Nat × CpInfo)) (last : Nat) : List CpInfo := es.foldr (fun e r => gap e.1 (e.2 :: r)) (gap last [])
def pool (es : List (Nat × CpInfo)) (last : Nat) : Array CpInfo := ⟨poolList es last⟩
def fileOf (pool : Array CpInfo) (this : Nat) (attrs : Array Attribute := #[]) (ms : Array MethodInfo := #[]) (fl : Nat := 33) (sup : Nat := 0) (ifs : Array Nat := #[]) (fds : Array FieldInfo := #[]) : ClassFile where
  minorVersion := 0
  majorVersion := 65
  constantPool := pool
  accessFlags := fl
  thisClass := this
  superClass := sup
  interfaces := ifs
  fields := fds
  methods := ms
  attributes := attrs
def plain (name : String) (sup : Option ClassId) : Class where
  name := name
  kind := .ordinary
  loader := none
  accessFlags := 33
  super := sup
  interfaces := #[]
  cf := none
  fields := #[]
  methods := #[]
  instanceTypes := #[]
  staticTypes := #[]
  resolved := #[]
  callSites := []
  init := .initialized
  statics := none
  mirror := none

def pool0 : Array CpInfo := pool [(5, u "<init>"), (0, u "()V"), (1, .class_ 10), (1, u "java/lang/Object")] 113

def k0m0 : Method := { name := "<init>", desc := "()V", sig := { parameters := [], returnType := none }, accessFlags := 1, code := none }
/-- java/lang/Object -/
def k0 : Class := { plain "java/lang/Object" none with
  accessFlags := 33
  interfaces := #[]
  cf := some (fileOf pool0 8 #[] #[{ accessFlags := 1, nameIndex := 5, descriptorIndex := 6, attributes := #[] }] 33 0 #[] #[])
  fields := #[]
  methods := #[k0m0]
  instanceTypes := #[]
  staticTypes := #[]
  resolved := Array.replicate 124 none
  statics := none }

def pool1 : Array CpInfo := pool [(2, .class_ 4), (1, u "java/lang/Object"), (0, u "<init>"), (0, u "()V"), (0, .methodref 8 9), (0, .class_ 10), (0, .nameAndType 11 12), (0, u "com/example/lattice_sash/latticesash/OwnFileView$Type"), (0, u "of"), (0, u "(ZZ)Lcom/example/lattice_sash/latticesash/OwnFileView$Type;"), (0, .methodref 8 14), (0, .nameAndType 15 16), (0, u "description"), (0, u "()Ljava/lang/String;"), (0, .methodref 8 18), (0, .nameAndType 19 20), (0, u "opens"), (0, u "()Z"), (0, .fieldref 8 22), (0, .nameAndType 23 24), (0, u "FOLDER"), (0, u "Lcom/example/lattice_sash/latticesash/OwnFileView$Type;"), (0, .string 26), (0, u "Folder"), (0, .methodref 28 29), (0, .class_ 30), (0, .nameAndType 31 32), (0, u "java/lang/String"), (0, u "equals"), (0, u "(Ljava/lang/Object;)Z"), (0, .fieldref 8 34), (0, .nameAndType 35 24), (0, u "ARCHIVE"), (0, .string 37), (0, u "Archive"), (0, .fieldref 8 39), (0, .nameAndType 40 24), (0, u "FILE"), (0, .string 42), (0, u "File"), (0, .class_ 44), (0, u "com/example/lattice_sash/latticesash/TypeOfPinLaw"), (2, u "law"), (0, u "(I)Z")] 7

def k1m0 : Method := { name := "<init>", desc := "()V", sig := { parameters := [], returnType := none }, accessFlags := 1, code := none }
def k1c1 : Code := { maxStack := 2, maxLocals := 6, code := code, exceptionTable := #[], attributes := #[] }
def k1m1 : Method := { name := "law", desc := "(I)Z", sig := { parameters := [.int], returnType := some .boolean }, accessFlags := 9, code := some k1c1 }
/-- com/example/lattice_sash/latticesash/TypeOfPinLaw -/
def k1 : Class := { plain "com/example/lattice_sash/latticesash/TypeOfPinLaw" (some 0) with
  accessFlags := 49
  interfaces := #[]
  cf := some (fileOf pool1 43 #[] #[{ accessFlags := 1, nameIndex := 5, descriptorIndex := 6, attributes := #[] }, { accessFlags := 9, nameIndex := 47, descriptorIndex := 48, attributes := #[] }] 49 2 #[] #[])
  fields := #[]
  methods := #[k1m0, k1m1]
  instanceTypes := #[]
  staticTypes := #[]
  resolved := Array.replicate 56 none
  statics := none }

def pool2 : Array CpInfo := pool [(1, .class_ 2), (0, u "java/lang/constant/Constable"), (0, .class_ 4), (0, u "java/lang/Object")] 6

/-- java/lang/constant/Constable -/
def k2 : Class := { plain "java/lang/constant/Constable" (some 0) with
  accessFlags := 1537
  interfaces := #[]
  cf := some (fileOf pool2 1 #[] #[] 1537 3 #[] #[])
  fields := #[]
  methods := #[]
  instanceTypes := #[]
  staticTypes := #[]
  resolved := Array.replicate 11 none
  statics := none }

def pool3 : Array CpInfo := pool [(1, .class_ 2), (0, u "java/lang/Comparable"), (0, .class_ 4), (0, u "java/lang/Object")] 7

/-- java/lang/Comparable -/
def k3 : Class := { plain "java/lang/Comparable" (some 0) with
  accessFlags := 1537
  interfaces := #[]
  cf := some (fileOf pool3 1 #[] #[] 1537 3 #[] #[])
  fields := #[]
  methods := #[]
  instanceTypes := #[]
  staticTypes := #[]
  resolved := Array.replicate 12 none
  statics := none }

def pool4 : Array CpInfo := pool [(1, .class_ 2), (0, u "java/io/Serializable"), (0, .class_ 4), (0, u "java/lang/Object")] 2

/-- java/io/Serializable -/
def k4 : Class := { plain "java/io/Serializable" (some 0) with
  accessFlags := 1537
  interfaces := #[]
  cf := some (fileOf pool4 1 #[] #[] 1537 3 #[] #[])
  fields := #[]
  methods := #[]
  instanceTypes := #[]
  staticTypes := #[]
  resolved := Array.replicate 7 none
  statics := none }

def pool5 : Array CpInfo := pool [(2, .class_ 4), (1, u "java/lang/Enum"), (0, u "name"), (0, u "Ljava/lang/String;"), (2, u "ordinal"), (0, u "I"), (1, .class_ 14), (1, u "java/lang/Object"), (4, u "hash"), (86, .class_ 108), (1, u "java/lang/Enum$EnumDesc"), (2, .class_ 112), (0, u "java/lang/constant/Constable"), (0, .class_ 114), (0, u "java/lang/Comparable"), (0, .class_ 116), (0, u "java/io/Serializable")] 87

/-- java/lang/Enum -/
def k5 : Class := { plain "java/lang/Enum" (some 0) with
  accessFlags := 1057
  interfaces := #[2, 3, 4]
  cf := some (fileOf pool5 2 #[.nestMembers #[106]] #[] 1057 12 #[111, 113, 115] #[{ accessFlags := 18, nameIndex := 5, descriptorIndex := 6, attributes := #[] }, { accessFlags := 18, nameIndex := 9, descriptorIndex := 10, attributes := #[] }, { accessFlags := 2, nameIndex := 19, descriptorIndex := 10, attributes := #[] }])
  fields := #[{ name := "name", type := (.object "java/lang/String"), accessFlags := 18, slot := 0, constantValue := 0 }, { name := "ordinal", type := .int, accessFlags := 18, slot := 1, constantValue := 0 }, { name := "hash", type := .int, accessFlags := 2, slot := 2, constantValue := 0 }]
  methods := #[]
  instanceTypes := #[(.object "java/lang/String"), .int, .int]
  staticTypes := #[]
  resolved := Array.replicate 204 none
  statics := none }

def pool6 : Array CpInfo := pool [(1, .class_ 2), (0, u "com/example/lattice_sash/latticesash/OwnFileView$Type"), (0, .fieldref 1 4), (0, .nameAndType 5 6), (0, u "FOLDER"), (0, u "Lcom/example/lattice_sash/latticesash/OwnFileView$Type;"), (0, .fieldref 1 8), (0, .nameAndType 9 6), (0, u "ARCHIVE"), (0, .fieldref 1 11), (0, .nameAndType 12 6), (0, u "FILE"), (2, u "$VALUES"), (0, u "[Lcom/example/lattice_sash/latticesash/OwnFileView$Type;"), (6, .class_ 25), (1, u "java/lang/Enum"), (6, .fieldref 1 33), (0, .nameAndType 34 35), (0, u "description"), (0, u "Ljava/lang/String;"), (1, .class_ 39), (1, u "com/example/lattice_sash/latticesash/OwnFileView"), (28, u "of"), (0, u "(ZZ)Lcom/example/lattice_sash/latticesash/OwnFileView$Type;"), (1, u "()Ljava/lang/String;"), (4, u "opens"), (0, u "()Z")] 8

def k6c0 : Code := { maxStack := 1, maxLocals := 2, code := prog_52_method_4_code, exceptionTable := #[], attributes := #[] }
def k6m0 : Method := { name := "of", desc := "(ZZ)Lcom/example/lattice_sash/latticesash/OwnFileView$Type;", sig := { parameters := [.boolean, .boolean], returnType := some (.object "com/example/lattice_sash/latticesash/OwnFileView$Type") }, accessFlags := 8, code := some k6c0 }
def k6c1 : Code := { maxStack := 1, maxLocals := 1, code := prog_52_method_5_code, exceptionTable := #[], attributes := #[] }
def k6m1 : Method := { name := "description", desc := "()Ljava/lang/String;", sig := { parameters := [], returnType := some (.object "java/lang/String") }, accessFlags := 0, code := some k6c1 }
def k6c2 : Code := { maxStack := 2, maxLocals := 1, code := prog_52_method_7_code, exceptionTable := #[], attributes := #[] }
def k6m2 : Method := { name := "opens", desc := "()Z", sig := { parameters := [], returnType := some .boolean }, accessFlags := 0, code := some k6c2 }
/-- com/example/lattice_sash/latticesash/OwnFileView$Type -/
def k6 : Class := { plain "com/example/lattice_sash/latticesash/OwnFileView$Type" (some 5) with
  accessFlags := 16432
  interfaces := #[]
  cf := some (fileOf pool6 1 #[.nestHost 37] #[{ accessFlags := 8, nameIndex := 68, descriptorIndex := 69, attributes := #[] }, { accessFlags := 0, nameIndex := 34, descriptorIndex := 71, attributes := #[] }, { accessFlags := 0, nameIndex := 76, descriptorIndex := 77, attributes := #[] }] 16432 23 #[] #[{ accessFlags := 16409, nameIndex := 5, descriptorIndex := 6, attributes := #[] }, { accessFlags := 16409, nameIndex := 9, descriptorIndex := 6, attributes := #[] }, { accessFlags := 16409, nameIndex := 12, descriptorIndex := 6, attributes := #[] }, { accessFlags := 18, nameIndex := 34, descriptorIndex := 35, attributes := #[] }, { accessFlags := 4122, nameIndex := 15, descriptorIndex := 16, attributes := #[] }])
  fields := #[{ name := "FOLDER", type := (.object "com/example/lattice_sash/latticesash/OwnFileView$Type"), accessFlags := 16409, slot := 0, constantValue := 0 }, { name := "ARCHIVE", type := (.object "com/example/lattice_sash/latticesash/OwnFileView$Type"), accessFlags := 16409, slot := 1, constantValue := 0 }, { name := "FILE", type := (.object "com/example/lattice_sash/latticesash/OwnFileView$Type"), accessFlags := 16409, slot := 2, constantValue := 0 }, { name := "description", type := (.object "java/lang/String"), accessFlags := 18, slot := 3, constantValue := 0 }, { name := "$VALUES", type := (.array (.object "com/example/lattice_sash/latticesash/OwnFileView$Type")), accessFlags := 4122, slot := 3, constantValue := 0 }]
  methods := #[k6m0, k6m1, k6m2]
  instanceTypes := #[(.object "java/lang/String"), .int, .int, (.object "java/lang/String")]
  staticTypes := #[(.object "com/example/lattice_sash/latticesash/OwnFileView$Type"), (.object "com/example/lattice_sash/latticesash/OwnFileView$Type"), (.object "com/example/lattice_sash/latticesash/OwnFileView$Type"), (.array (.object "com/example/lattice_sash/latticesash/OwnFileView$Type"))]
  resolved := Array.replicate 86 none
  statics := some 0 }

def pool7 : Array CpInfo := pool [(2, .class_ 4), (1, u "java/lang/CharSequence"), (42, .class_ 48), (0, u "java/lang/CharSequence$1CodePointIterator"), (10, .class_ 60), (0, u "java/lang/CharSequence$1CharIterator"), (5, .class_ 67), (0, u "java/lang/Object")] 63

/-- java/lang/CharSequence -/
def k7 : Class := { plain "java/lang/CharSequence" (some 0) with
  accessFlags := 1537
  interfaces := #[]
  cf := some (fileOf pool7 2 #[.nestMembers #[47, 59]] #[] 1537 66 #[] #[])
  fields := #[]
  methods := #[]
  instanceTypes := #[]
  staticTypes := #[]
  resolved := Array.replicate 131 none
  statics := none }

def pool8 : Array CpInfo := pool [(1, .class_ 2), (0, u "java/lang/constant/ConstantDesc"), (0, .class_ 4), (0, u "java/lang/Object")] 32

/-- java/lang/constant/ConstantDesc -/
def k8 : Class := { plain "java/lang/constant/ConstantDesc" (some 0) with
  accessFlags := 1537
  interfaces := #[]
  cf := some (fileOf pool8 1 #[] #[] 1537 3 #[] #[])
  fields := #[]
  methods := #[]
  instanceTypes := #[]
  staticTypes := #[]
  resolved := Array.replicate 37 none
  statics := none }

def pool9 : Array CpInfo := pool [(2, .class_ 4), (1, u "java/lang/Object"), (0, u "<init>"), (0, u "()V"), (2, .fieldref 10 11), (0, .class_ 12), (0, .nameAndType 13 14), (0, u "java/lang/String"), (0, u "value"), (0, u "[B"), (0, .fieldref 10 16), (0, .nameAndType 17 18), (0, u "coder"), (0, u "B"), (2, u "hash"), (0, u "I"), (2, u "hashIsZero"), (0, u "Z"), (11, .fieldref 10 39), (0, .nameAndType 40 26), (0, u "COMPACT_STRINGS"), (66, .class_ 109), (1, u "java/lang/StringLatin1"), (431, .methodref 107 542), (0, .nameAndType 543 544), (0, u "equals"), (0, u "([B[B)Z"), (28, u "(Ljava/lang/Object;)Z"), (1, .class_ 576), (0, u "java/lang/CharSequence"), (22, u "CASE_INSENSITIVE_ORDER"), (0, u "Ljava/util/Comparator;"), (500, u "serialPersistentFields"), (0, u "[Ljava/io/ObjectStreamField;"), (0, .class_ 1104), (0, u "java/lang/String$CaseInsensitiveComparator"), (1, .class_ 1107), (0, u "java/io/Serializable"), (0, .class_ 1109), (0, u "java/lang/Comparable"), (0, .class_ 1111), (0, u "java/lang/constant/Constable"), (0, .class_ 1113), (0, u "java/lang/constant/ConstantDesc"), (2, u "serialVersionUID"), (0, u "J"), (3, u "REPL"), (0, u "C"), (2, u "LATIN1"), (1, u "UTF16")] 323

def k9m0 : Method := { name := "<init>", desc := "()V", sig := { parameters := [], returnType := none }, accessFlags := 1, code := none }
def k9c1 : Code := { maxStack := 2, maxLocals := 3, code := jdk_42_method_66_code, exceptionTable := #[], attributes := #[] }
def k9m1 : Method := { name := "equals", desc := "(Ljava/lang/Object;)Z", sig := { parameters := [(.object "java/lang/Object")], returnType := some .boolean }, accessFlags := 1, code := some k9c1 }
/-- java/lang/String -/
def k9 : Class := { plain "java/lang/String" (some 0) with
  accessFlags := 49
  interfaces := #[4, 3, 7, 2, 8]
  cf := some (fileOf pool9 10 #[.nestMembers #[1103]] #[{ accessFlags := 1, nameIndex := 5, descriptorIndex := 6, attributes := #[] }, { accessFlags := 1, nameIndex := 543, descriptorIndex := 573, attributes := #[] }] 49 2 #[1106, 1108, 575, 1110, 1112] #[{ accessFlags := 18, nameIndex := 13, descriptorIndex := 14, attributes := #[] }, { accessFlags := 18, nameIndex := 17, descriptorIndex := 18, attributes := #[] }, { accessFlags := 2, nameIndex := 21, descriptorIndex := 22, attributes := #[] }, { accessFlags := 2, nameIndex := 25, descriptorIndex := 26, attributes := #[] }, { accessFlags := 26, nameIndex := 1116, descriptorIndex := 1117, attributes := #[] }, { accessFlags := 24, nameIndex := 40, descriptorIndex := 26, attributes := #[] }, { accessFlags := 26, nameIndex := 1101, descriptorIndex := 1102, attributes := #[] }, { accessFlags := 26, nameIndex := 1121, descriptorIndex := 1122, attributes := #[] }, { accessFlags := 25, nameIndex := 599, descriptorIndex := 600, attributes := #[] }, { accessFlags := 24, nameIndex := 1125, descriptorIndex := 18, attributes := #[] }, { accessFlags := 24, nameIndex := 1127, descriptorIndex := 18, attributes := #[] }])
  fields := #[{ name := "value", type := (.array .byte), accessFlags := 18, slot := 0, constantValue := 0 }, { name := "coder", type := .byte, accessFlags := 18, slot := 1, constantValue := 0 }, { name := "hash", type := .int, accessFlags := 2, slot := 2, constantValue := 0 }, { name := "hashIsZero", type := .boolean, accessFlags := 2, slot := 3, constantValue := 0 }, { name := "serialVersionUID", type := .long, accessFlags := 26, slot := 0, constantValue := 0 }, { name := "COMPACT_STRINGS", type := .boolean, accessFlags := 24, slot := 1, constantValue := 0 }, { name := "serialPersistentFields", type := (.array (.object "java/io/ObjectStreamField")), accessFlags := 26, slot := 2, constantValue := 0 }, { name := "REPL", type := .char, accessFlags := 26, slot := 3, constantValue := 0 }, { name := "CASE_INSENSITIVE_ORDER", type := (.object "java/util/Comparator"), accessFlags := 25, slot := 4, constantValue := 0 }, { name := "LATIN1", type := .byte, accessFlags := 24, slot := 5, constantValue := 0 }, { name := "UTF16", type := .byte, accessFlags := 24, slot := 6, constantValue := 0 }]
  methods := #[k9m0, k9m1]
  instanceTypes := #[(.array .byte), .byte, .int, .boolean]
  staticTypes := #[.long, .boolean, (.array (.object "java/io/ObjectStreamField")), .char, (.object "java/util/Comparator"), .byte, .byte]
  resolved := Array.replicate 1451 none
  statics := some 1 }

def pool10 : Array CpInfo := pool [(4, .class_ 6), (1, u "java/lang/Object"), (0, u "<init>"), (0, u "()V"), (5, .class_ 16), (1, u "java/lang/StringLatin1"), (104, u "$assertionsDisabled"), (0, u "Z"), (98, .class_ 223), (1, u "java/lang/StringLatin1$LinesSpliterator"), (57, u "equals"), (0, u "([B[B)Z"), (107, .class_ 391), (0, u "java/lang/StringLatin1$CharsSpliterator")] 3

def k10m0 : Method := { name := "<init>", desc := "()V", sig := { parameters := [], returnType := none }, accessFlags := 0, code := none }
def k10c1 : Code := { maxStack := 3, maxLocals := 3, code := jdk_43_method_13_code, exceptionTable := #[], attributes := #[] }
def k10m1 : Method := { name := "equals", desc := "([B[B)Z", sig := { parameters := [(.array .byte), (.array .byte)], returnType := some .boolean }, accessFlags := 9, code := some k10c1 }
/-- java/lang/StringLatin1 -/
def k10 : Class := { plain "java/lang/StringLatin1" (some 0) with
  accessFlags := 48
  interfaces := #[]
  cf := some (fileOf pool10 14 #[.nestMembers #[390, 221]] #[{ accessFlags := 0, nameIndex := 7, descriptorIndex := 8, attributes := #[] }, { accessFlags := 9, nameIndex := 281, descriptorIndex := 282, attributes := #[] }] 48 4 #[] #[{ accessFlags := 4120, nameIndex := 121, descriptorIndex := 122, attributes := #[] }])
  fields := #[{ name := "$assertionsDisabled", type := .boolean, accessFlags := 4120, slot := 0, constantValue := 0 }]
  methods := #[k10m0, k10m1]
  instanceTypes := #[]
  staticTypes := #[.boolean]
  resolved := Array.replicate 395 none
  statics := none }

def pool11 : Array CpInfo := pool [(2, .class_ 4), (1, u "java/lang/Object"), (0, u "<init>"), (0, u "()V"), (17, .class_ 26), (1, u "jdk/internal/util/Preconditions"), (28, .class_ 56), (0, u "jdk/internal/util/Preconditions$4"), (57, .class_ 115), (0, u "jdk/internal/util/Preconditions$1"), (7, u "SIOOBE_FORMATTER"), (0, u "Ljava/util/function/BiFunction;"), (0, .class_ 126), (0, u "jdk/internal/util/Preconditions$2"), (3, u "AIOOBE_FORMATTER"), (0, .class_ 132), (0, u "jdk/internal/util/Preconditions$3"), (3, u "IOOBE_FORMATTER")] 57

def k11m0 : Method := { name := "<init>", desc := "()V", sig := { parameters := [], returnType := none }, accessFlags := 1, code := none }
/-- jdk/internal/util/Preconditions -/
def k11 : Class := { plain "jdk/internal/util/Preconditions" (some 0) with
  accessFlags := 33
  interfaces := #[]
  cf := some (fileOf pool11 24 #[.nestMembers #[55, 131, 125, 114]] #[{ accessFlags := 1, nameIndex := 5, descriptorIndex := 6, attributes := #[] }] 33 2 #[] #[{ accessFlags := 25, nameIndex := 123, descriptorIndex := 124, attributes := #[] }, { accessFlags := 25, nameIndex := 130, descriptorIndex := 124, attributes := #[] }, { accessFlags := 25, nameIndex := 136, descriptorIndex := 124, attributes := #[] }])
  fields := #[{ name := "SIOOBE_FORMATTER", type := (.object "java/util/function/BiFunction"), accessFlags := 25, slot := 0, constantValue := 0 }, { name := "AIOOBE_FORMATTER", type := (.object "java/util/function/BiFunction"), accessFlags := 25, slot := 1, constantValue := 0 }, { name := "IOOBE_FORMATTER", type := (.object "java/util/function/BiFunction"), accessFlags := 25, slot := 2, constantValue := 0 }]
  methods := #[k11m0]
  instanceTypes := #[]
  staticTypes := #[(.object "java/util/function/BiFunction"), (.object "java/util/function/BiFunction"), (.object "java/util/function/BiFunction")]
  resolved := Array.replicate 194 none
  statics := some 2 }

def pool12 : Array CpInfo := pool [(9, u "<init>"), (6, .class_ 18), (1, u "java/lang/Object"), (0, u "()V"), (1, .class_ 23), (1, u "jdk/internal/util/ArraysSupport"), (0, u "LOG2_ARRAY_LONG_INDEX_SCALE"), (0, u "I"), (2, u "U"), (0, u "Ljdk/internal/misc/Unsafe;"), (8, u "BIG_ENDIAN"), (0, u "Z"), (8, u "LOG2_BYTE_BIT_SIZE"), (4, u "LOG2_ARRAY_INT_INDEX_SCALE"), (54, u "JLA"), (0, u "Ljdk/internal/access/JavaLangAccess;"), (11, u "LOG2_ARRAY_BOOLEAN_INDEX_SCALE"), (9, u "LOG2_ARRAY_BYTE_INDEX_SCALE"), (5, u "LOG2_ARRAY_CHAR_INDEX_SCALE"), (5, u "LOG2_ARRAY_SHORT_INDEX_SCALE"), (18, u "LOG2_ARRAY_FLOAT_INDEX_SCALE"), (24, u "LOG2_ARRAY_DOUBLE_INDEX_SCALE"), (89, u "T_BOOLEAN"), (2, u "T_CHAR"), (1, u "T_FLOAT"), (1, u "T_DOUBLE"), (1, u "T_BYTE"), (1, u "T_SHORT"), (1, u "T_INT"), (1, u "T_LONG"), (1, u "SOFT_MAX_ARRAY_LENGTH")] 83

def k12m0 : Method := { name := "<init>", desc := "()V", sig := { parameters := [], returnType := none }, accessFlags := 2, code := none }
/-- jdk/internal/util/ArraysSupport -/
def k12 : Class := { plain "jdk/internal/util/ArraysSupport" (some 0) with
  accessFlags := 33
  interfaces := #[]
  cf := some (fileOf pool12 21 #[] #[{ accessFlags := 2, nameIndex := 9, descriptorIndex := 19, attributes := #[] }] 33 16 #[] #[{ accessFlags := 24, nameIndex := 28, descriptorIndex := 29, attributes := #[] }, { accessFlags := 26, nameIndex := 38, descriptorIndex := 39, attributes := #[] }, { accessFlags := 25, nameIndex := 121, descriptorIndex := 25, attributes := #[] }, { accessFlags := 25, nameIndex := 131, descriptorIndex := 25, attributes := #[] }, { accessFlags := 25, nameIndex := 137, descriptorIndex := 25, attributes := #[] }, { accessFlags := 25, nameIndex := 143, descriptorIndex := 25, attributes := #[] }, { accessFlags := 25, nameIndex := 53, descriptorIndex := 25, attributes := #[] }, { accessFlags := 25, nameIndex := 24, descriptorIndex := 25, attributes := #[] }, { accessFlags := 25, nameIndex := 162, descriptorIndex := 25, attributes := #[] }, { accessFlags := 25, nameIndex := 187, descriptorIndex := 25, attributes := #[] }, { accessFlags := 26, nameIndex := 48, descriptorIndex := 25, attributes := #[] }, { accessFlags := 25, nameIndex := 277, descriptorIndex := 25, attributes := #[] }, { accessFlags := 25, nameIndex := 280, descriptorIndex := 25, attributes := #[] }, { accessFlags := 25, nameIndex := 282, descriptorIndex := 25, attributes := #[] }, { accessFlags := 25, nameIndex := 284, descriptorIndex := 25, attributes := #[] }, { accessFlags := 25, nameIndex := 286, descriptorIndex := 25, attributes := #[] }, { accessFlags := 25, nameIndex := 288, descriptorIndex := 25, attributes := #[] }, { accessFlags := 25, nameIndex := 290, descriptorIndex := 25, attributes := #[] }, { accessFlags := 25, nameIndex := 292, descriptorIndex := 25, attributes := #[] }, { accessFlags := 26, nameIndex := 108, descriptorIndex := 109, attributes := #[] }, { accessFlags := 25, nameIndex := 294, descriptorIndex := 25, attributes := #[] }])
  fields := #[{ name := "U", type := (.object "jdk/internal/misc/Unsafe"), accessFlags := 24, slot := 0, constantValue := 0 }, { name := "BIG_ENDIAN", type := .boolean, accessFlags := 26, slot := 1, constantValue := 0 }, { name := "LOG2_ARRAY_BOOLEAN_INDEX_SCALE", type := .int, accessFlags := 25, slot := 2, constantValue := 0 }, { name := "LOG2_ARRAY_BYTE_INDEX_SCALE", type := .int, accessFlags := 25, slot := 3, constantValue := 0 }, { name := "LOG2_ARRAY_CHAR_INDEX_SCALE", type := .int, accessFlags := 25, slot := 4, constantValue := 0 }, { name := "LOG2_ARRAY_SHORT_INDEX_SCALE", type := .int, accessFlags := 25, slot := 5, constantValue := 0 }, { name := "LOG2_ARRAY_INT_INDEX_SCALE", type := .int, accessFlags := 25, slot := 6, constantValue := 0 }, { name := "LOG2_ARRAY_LONG_INDEX_SCALE", type := .int, accessFlags := 25, slot := 7, constantValue := 0 }, { name := "LOG2_ARRAY_FLOAT_INDEX_SCALE", type := .int, accessFlags := 25, slot := 8, constantValue := 0 }, { name := "LOG2_ARRAY_DOUBLE_INDEX_SCALE", type := .int, accessFlags := 25, slot := 9, constantValue := 0 }, { name := "LOG2_BYTE_BIT_SIZE", type := .int, accessFlags := 26, slot := 10, constantValue := 0 }, { name := "T_BOOLEAN", type := .int, accessFlags := 25, slot := 11, constantValue := 0 }, { name := "T_CHAR", type := .int, accessFlags := 25, slot := 12, constantValue := 0 }, { name := "T_FLOAT", type := .int, accessFlags := 25, slot := 13, constantValue := 0 }, { name := "T_DOUBLE", type := .int, accessFlags := 25, slot := 14, constantValue := 0 }, { name := "T_BYTE", type := .int, accessFlags := 25, slot := 15, constantValue := 0 }, { name := "T_SHORT", type := .int, accessFlags := 25, slot := 16, constantValue := 0 }, { name := "T_INT", type := .int, accessFlags := 25, slot := 17, constantValue := 0 }, { name := "T_LONG", type := .int, accessFlags := 25, slot := 18, constantValue := 0 }, { name := "JLA", type := (.object "jdk/internal/access/JavaLangAccess"), accessFlags := 26, slot := 19, constantValue := 0 }, { name := "SOFT_MAX_ARRAY_LENGTH", type := .int, accessFlags := 25, slot := 20, constantValue := 0 }]
  methods := #[k12m0]
  instanceTypes := #[]
  staticTypes := #[(.object "jdk/internal/misc/Unsafe"), .boolean, .int, .int, .int, .int, .int, .int, .int, .int, .int, .int, .int, .int, .int, .int, .int, .int, .int, (.object "jdk/internal/access/JavaLangAccess"), .int]
  resolved := Array.replicate 378 none
  statics := none }

def pool13 : Array CpInfo := pool [(1, u "java/lang/Cloneable"), (0, .class_ 1), (0, u "java/lang/Object"), (0, .class_ 3)] 3

/-- java/lang/Cloneable -/
def k13 : Class := { plain "java/lang/Cloneable" (some 0) with
  accessFlags := 1537
  interfaces := #[]
  cf := some (fileOf pool13 2 #[] #[] 1537 4 #[] #[])
  fields := #[]
  methods := #[]
  instanceTypes := #[]
  staticTypes := #[]
  resolved := Array.replicate 8 none
  statics := none }

/-- the primitive byte -/
def k14 : Class := { plain "byte" none with kind := .primitive 'B', accessFlags := 0x411 }
/-- [B -/
def k15 : Class := { plain "[B" (some 0) with kind := .array 14 .byte, interfaces := #[13, 4], accessFlags := 1041 }

/-- the primitive int -/
def k16 : Class := { plain "int" none with kind := .primitive 'I', accessFlags := 0x411 }
/-- [I -/
def k17 : Class := { plain "[I" (some 0) with kind := .array 16 .int, interfaces := #[13, 4], accessFlags := 1041 }

def heap : Heap := #[{ cls := 6, slots := #[.ref 9, .ref 10, .ref 11, .null], vm := .statics 6 },
  { cls := 9, slots := #[.long 0, .int 1, .null, .int 0, .null, .int 0, .int 0], vm := .statics 9 },
  { cls := 11, slots := #[.null, .null, .null], vm := .statics 11 },
  { cls := 15, slots := #[.int 70, .int 111, .int 108, .int 100, .int 101, .int 114], vm := .none },
  { cls := 15, slots := #[.int 65, .int 114, .int 99, .int 104, .int 105, .int 118, .int 101], vm := .none },
  { cls := 15, slots := #[.int 70, .int 105, .int 108, .int 101], vm := .none },
  { cls := 9, slots := #[.ref 3, .int 0, .int 0, .int 0], vm := .none },
  { cls := 9, slots := #[.ref 4, .int 0, .int 0, .int 0], vm := .none },
  { cls := 9, slots := #[.ref 5, .int 0, .int 0, .int 0], vm := .none },
  { cls := 6, slots := #[.null, .int 0, .int 0, .ref 6], vm := .none },
  { cls := 6, slots := #[.null, .int 1, .int 0, .ref 7], vm := .none },
  { cls := 6, slots := #[.null, .int 2, .int 0, .ref 8], vm := .none }]
def classes : Array Class := #[k0, k1, k2, k3, k4, k5, k6, k7, k8, k9, k10, k11, k12, k13, k14, k15, k16, k17]
def interned : List (Array UInt16 × Addr) := []
def slotsUsed : Nat := 55
def theMethod : MethodId := ⟨1, 1⟩
def args0 : Array Value := #[.int 5]
def aboutOver (below : List Frame) : State where
  vm := { classes := classes, interned := interned.toArray }
  heap := heap
  slotsUsed := slotsUsed
  threads := #[{ frames := .invoking theMethod args0 :: below }]
def below0 : List Frame := [.native { method := ⟨0, 0⟩, args := #[] }]
def about1 : State := aboutOver below0
def p0 : Program := .bare "" "" ""
def e0 : Env := launch0.env 0 0 0
theorem w_frames : about1.frames = Frame.invoking theMethod args0 :: below0 := rfl
set_option maxRecDepth 65536 in
theorem w_args : argsFit about1.vm theMethod args0 = true := by decide +kernel
set_option maxRecDepth 65536 in
theorem w_heap : heapFits about1 = true := by decide +kernel
set_option maxRecDepth 65536 in
theorem w_runnable : about1.curStatus? = some .runnable := by decide +kernel
set_option maxRecDepth 65536 in
theorem w_alone : about1.alone = true := by decide +kernel
set_option maxRecDepth 65536 in
theorem w_named : about1.methodNamed? x = some theMethod := by decide +kernel
set_option maxRecDepth 65536 in
theorem w_hears : about1.hears theMethod below0 = true := by decide +kernel
set_option maxRecDepth 65536 in
theorem w_ripe : about1.ripe theMethod args0 below0 = true := by decide +kernel
theorem w_running : about1.status = .running := rfl
set_option maxRecDepth 65536 in
theorem w_room : about1.hasRoom e0.platform room_1 = true :=
  launch0.hasRoom_least _ room_1 (by decide +kernel) (by decide +kernel) (by decide +kernel) (by decide +kernel) (by decide +kernel) (by decide +kernel)
theorem allAtoms_all (ts : List Jvm.Cond) (a : Array Jvm.Value) (st : Jvm.State) : (allAtoms ts).before a st = ts.all (fun c => c.before a st) := by
  induction ts with
  | nil => rfl
  | cons c t ih =>
    show (Jvm.Cond.and c (allAtoms t)).before a st = _
    rw [Jvm.Cond.before_and, ih, List.all_cons]
def words1 : List Jvm.Cond := Jvm.Cond.code x code maxLocals ret :: tables_1
/-- a 'code' word, met by the world's own term for the bytes: nothing is compared byte by byte -/
theorem code_word {y : MethodName} {bytes : ByteArray} {mx : Nat} {rt : Option FieldType} {a : Array Value} {s : State} {m : MethodId} {meth : Method} {c : Code} (h1 : s.methodNamed? y = some m) (h2 : s.vm.method? m = some meth) (h3 : meth.code = some c) (h4 : c.code = bytes)
    (h5 : (c.maxLocals == mx && c.exceptionTable.isEmpty && decide (c.maxStack ≤ mostOperands) && decide (meth.sig.returnType = rt) && !meth.locks && decide (parseMethodDescriptor y.desc = some meth.sig)) = true) : (Jvm.Cond.code y bytes mx rt).before a s = true := by
  simp only [Bool.and_eq_true, beq_iff_eq, Bool.not_eq_true', decide_eq_true_eq] at h5
  obtain ⟨⟨⟨⟨⟨g1, g2⟩, g3⟩, g4⟩, g5⟩, g6⟩ := h5
  simp [Cond.before, Cond.holds, Cond.value, h1, h2, h3, h4, g1, g2, g3, g4, g5, g6]
def isCode : Jvm.Cond → Bool
  | .code _ _ _ _ => true
  | _ => false
theorem all_split {L : List Jvm.Cond} {P : Jvm.Cond → Bool} (h1 : L.all (fun c => isCode c || P c) = true) (h2 : ∀ c ∈ L.filter isCode, P c = true) : L.all P = true := by
  refine List.all_eq_true.mpr fun c hc => ?_
  have h := List.all_eq_true.mp h1 c hc
  rcases Bool.eq_false_or_eq_true (isCode c) with hi | hi
  · exact h2 c (List.mem_filter.mpr ⟨hc, hi⟩)
  · simpa [hi] using h
set_option maxRecDepth 65536 in
theorem w_c0 : (Jvm.Cond.code x code maxLocals ret).before args0 about1 = true := code_word (m := ⟨1, 1⟩) (meth := k1m1) (c := k1c1) (by decide +kernel) rfl rfl rfl (by decide +kernel)
set_option maxRecDepth 65536 in
theorem w_c1 : (Jvm.Cond.code ({ cls := "com/example/lattice_sash/latticesash/OwnFileView$Type", name := "of", desc := "(ZZ)Lcom/example/lattice_sash/latticesash/OwnFileView$Type;" } : Jvm.MethodName) prog_52_method_4_code (2 : Nat) (Option.some (Jvm.ClassFile.FieldType.object "com/example/lattice_sash/latticesash/OwnFileView$Type"))).before args0 about1 = true := code_word (m := ⟨6, 0⟩) (meth := k6m0) (c := k6c0) (by decide +kernel) rfl rfl rfl (by decide +kernel)
set_option maxRecDepth 65536 in
theorem w_c2 : (Jvm.Cond.code ({ cls := "com/example/lattice_sash/latticesash/OwnFileView$Type", name := "description", desc := "()Ljava/lang/String;" } : Jvm.MethodName) prog_52_method_5_code (1 : Nat) (Option.some (Jvm.ClassFile.FieldType.object "java/lang/String"))).before args0 about1 = true := code_word (m := ⟨6, 1⟩) (meth := k6m1) (c := k6c1) (by decide +kernel) rfl rfl rfl (by decide +kernel)
set_option maxRecDepth 65536 in
theorem w_c3 : (Jvm.Cond.code ({ cls := "com/example/lattice_sash/latticesash/OwnFileView$Type", name := "opens", desc := "()Z" } : Jvm.MethodName) prog_52_method_7_code (1 : Nat) (Option.some Jvm.ClassFile.FieldType.boolean)).before args0 about1 = true := code_word (m := ⟨6, 2⟩) (meth := k6m2) (c := k6c2) (by decide +kernel) rfl rfl rfl (by decide +kernel)
set_option maxRecDepth 65536 in
theorem w_c4 : (Jvm.Cond.code ({ cls := "java/lang/String", name := "equals", desc := "(Ljava/lang/Object;)Z" } : Jvm.MethodName) jdk_42_method_66_code (3 : Nat) (Option.some Jvm.ClassFile.FieldType.boolean)).before args0 about1 = true := code_word (m := ⟨9, 1⟩) (meth := k9m1) (c := k9c1) (by decide +kernel) rfl rfl rfl (by decide +kernel)
set_option maxRecDepth 65536 in
theorem w_c5 : (Jvm.Cond.code ({ cls := "java/lang/StringLatin1", name := "equals", desc := "([B[B)Z" } : Jvm.MethodName) jdk_43_method_13_code (3 : Nat) (Option.some Jvm.ClassFile.FieldType.boolean)).before args0 about1 = true := code_word (m := ⟨10, 1⟩) (meth := k10m1) (c := k10c1) (by decide +kernel) rfl rfl rfl (by decide +kernel)
def codes1 : List Jvm.Cond := [Jvm.Cond.code x code maxLocals ret, Jvm.Cond.code ({ cls := "com/example/lattice_sash/latticesash/OwnFileView$Type", name := "of", desc := "(ZZ)Lcom/example/lattice_sash/latticesash/OwnFileView$Type;" } : Jvm.MethodName) prog_52_method_4_code (2 : Nat) (Option.some (Jvm.ClassFile.FieldType.object "com/example/lattice_sash/latticesash/OwnFileView$Type")), Jvm.Cond.code ({ cls := "com/example/lattice_sash/latticesash/OwnFileView$Type", name := "description", desc := "()Ljava/lang/String;" } : Jvm.MethodName) prog_52_method_5_code (1 : Nat) (Option.some (Jvm.ClassFile.FieldType.object "java/lang/String")), Jvm.Cond.code ({ cls := "com/example/lattice_sash/latticesash/OwnFileView$Type", name := "opens", desc := "()Z" } : Jvm.MethodName) prog_52_method_7_code (1 : Nat) (Option.some Jvm.ClassFile.FieldType.boolean), Jvm.Cond.code ({ cls := "java/lang/String", name := "equals", desc := "(Ljava/lang/Object;)Z" } : Jvm.MethodName) jdk_42_method_66_code (3 : Nat) (Option.some Jvm.ClassFile.FieldType.boolean), Jvm.Cond.code ({ cls := "java/lang/StringLatin1", name := "equals", desc := "([B[B)Z" } : Jvm.MethodName) jdk_43_method_13_code (3 : Nat) (Option.some Jvm.ClassFile.FieldType.boolean)]
set_option maxRecDepth 65536 in
theorem codes_eq : words1.filter isCode = codes1 := rfl
theorem w_codes : ∀ c ∈ words1.filter isCode, c.before args0 about1 = true := by
  rw [codes_eq]
  intro c hc
  simp only [codes1, List.mem_cons, List.not_mem_nil, or_false] at hc
  rcases hc with rfl | rfl | rfl | rfl | rfl | rfl
  · exact w_c0
  · exact w_c1
  · exact w_c2
  · exact w_c3
  · exact w_c4
  · exact w_c5
set_option maxRecDepth 65536 in
theorem w_t1 : (words1.take 24).all (fun c => isCode c || c.before args0 about1) = true := by decide +kernel
set_option maxRecDepth 65536 in
theorem w_t2 : ((words1.drop 24).take 24).all (fun c => isCode c || c.before args0 about1) = true := by decide +kernel
set_option maxRecDepth 65536 in
theorem w_t3 : ((words1.drop 24).drop 24).all (fun c => isCode c || c.before args0 about1) = true := by decide +kernel
theorem w_tables : (allAtoms (Jvm.Cond.code x code maxLocals ret :: tables_1)).before args0 about1 = true := by
  rw [allAtoms_all]
  show words1.all (fun c => c.before args0 about1) = true
  refine all_split ?_ w_codes
  rw [← List.take_append_drop 24 words1, List.all_append, w_t1, ← List.take_append_drop 24 (words1.drop 24), List.all_append, w_t2, w_t3]
  rfl
set_option maxRecDepth 65536 in
theorem w_rest : rest_1_c.before args0 about1 = true := by decide +kernel
set_option maxRecDepth 65536 in
theorem w_case : (Jvm.Cond.and given_1 narrow_1).before args0 about1 = true := by decide +kernel
set_option maxRecDepth 65536 in
theorem w_consts : constsHeld consts_1 about1 := Jvm.Lit.constsHeldB_iff.mp (by decide +kernel)
theorem w_applies : (headSpec (Jvm.Cond.code x code maxLocals ret :: tables_1) room_1).applies x e0.platform about1 = true :=
  (Spec.applies_iff w_frames).mpr ⟨w_running, w_runnable, w_alone, w_named, w_hears, w_ripe, w_room, w_tables⟩
theorem atStart : AtStart classFile x code maxLocals ret World_1 tables_1 room_1 Calls_1 rest_1 Pre_1 launch0 p0 e0 about1 theMethod args0 below0 :=
  ⟨lists_1, trivial, launch0.admits_env _ _ _, launch0.least_env, fairChoices_fair.cas, fairChoices_fair.clock, w_frames, w_args, w_heap, w_applies, ⟨w_consts, trivial⟩, w_rest, w_case⟩
end start1
theorem witness_1 : WitnessClaimed_1 := ⟨start1.p0, start1.e0, start1.about1, start1.theMethod, start1.args0, start1.below0, start1.atStart⟩
end Jvm.Pilot.@@N@@
