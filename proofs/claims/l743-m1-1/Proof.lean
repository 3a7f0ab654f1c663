import JvmDerived
import JvmDerived.Pilot.@@N@@Statement
import JvmDerived.Pilot.@@N@@Code
set_option linter.unusedVariables false
set_option linter.unusedSimpArgs false
namespace Jvm.RoadKit
open Sem ClassFile Op Lib Jvm.Stand Jvm.Free Jvm.LawKit
section New
variable {p : Program} {l : Launch} {e : Env} {R : Room} {s : State} {m : MethodId} {args : Array Value} {below : List Frame} {meth : Method} {c : Code} {T : State} {locs : List Loc} {cells slots : Nat}
theorem retI (X : Stand p l e R s m args below meth c T locs cells slots) (hx : p.tables.exec = Jvm.exec) {pc : Nat} {Ls : Array Slot} {z : Int32} {rest : List Value} (hret : meth.sig.returnType = some .int) (hd : decode c.code pc = .ok (.ireturn, 1)) {fs : List Frame}
    (hl : ∀ (f : JFrame) (acts : List Action), f.method = m → f.locked = none → f.entered = [] → (doReturn e (T.setTop f) acts (some (.int z))).1 = T.setFrames fs) : Steps p.tables e below (T.setTop (mkF m pc Ls (.int z :: rest))) (T.setFrames fs) := by
  have hm' : T.vm.method? m = some meth := X.method'
  have hn : narrow .int (.int z) = .int z := rfl
  show Steps p.tables e below (T.setTop { method := m, pc := pc, locals := Ls, stack := _ :: rest, locked := none }) _
  jvm_step X.here [X.here.top, hx, hd, hm', hret, hn]
  first | (intro acts; rw [hl _ acts rfl rfl rfl]) | rw [hl _ _ rfl rfl rfl]
  exact Steps.refl _
end New
end Jvm.RoadKit
namespace Jvm.Pilot.@@N@@
open Jvm Jvm.ClassFile Sem Op Lib Jvm.Free Jvm.Stand Jvm.LawKit Jvm.RoadKit Bundle Jvm.Pilot.@@N@@.Jvm.D

theorem own_exa {args a0 : Array Value} {s : State} {C n d K : String} (wi : (Jvm.Cond.initialized C).before args s = true) (wl : (Jvm.Cond.laysStatic C n d).before args s = true) (h : (Jvm.Cond.exactly (Jvm.Term.static C n d) K).value args s none s [] = some true) : ∃ a, Sta s s.heap C n d (.ref a) ∧ Exa s s.heap a K ∧ (Jvm.Term.static C n d).eval args s none [] s = some (.ref a) := by
  obtain ⟨a, ev⟩ := exa_v h
  exact ⟨a, Sta.start ev (Or.inr ⟨wi, wl⟩), Exa.start ev h, ev⟩
theorem own_fldI {args : Array Value} {s : State} {a : Addr} {t : Jvm.Term} {C n d : String} {k : Int32} (ev : t.eval args s none [] s = some (.ref a)) (h : (Jvm.Cond.eq (Jvm.Term.field t C n d) (Jvm.Term.int k)).value args s none s [] = some true) : Fld s s.heap a C n d (.int k) := by
  obtain ⟨x, y, ex, ey, -, ky⟩ := cmp_v (Or.inl h)
  obtain rfl : Value.int k = y := Option.some.inj ey
  obtain ⟨z, rfl⟩ := ky
  have hz : z = k := by simpa [Cond.value, ex, ey] using h
  subst hz
  exact Fld.start ((fld_at ev).symm.trans ex)

theorem own_sta_keep {Z : State} {h h' : Heap} {C n d : String} {v : Value} {ws : List Addr} (F : Sta Z h C n d v) (K : Keep h h' ws) (nos : ∀ x ∈ ws, ∀ cell : Cell, h[x]? = some cell → cell.vm.isStatics = false) : Sta Z h' C n d v := by
  obtain ⟨cf, i, k, f, st, cell, h1, h2, h3, h4, h5, h6, h7⟩ := F
  exact ⟨cf, i, k, f, st, cell, h1, h2, h3, h4, K.2.1 _ _ h5 (fun q => by rw [nos _ q _ h5] at h6; cases h6), h6, h7⟩
theorem own_ext {h h' : Heap} (K : Keep h h' []) : Ext h h' := ⟨K.1, fun a c q => K.2.1 a c q nin0⟩
theorem own_arrAt {args : Array Value} {s : State} {a : Addr} {cl : Cell} {t : Jvm.Term} {v : Value} (ev : t.eval args s none [] s = some (.ref a)) (hc : s.heap[a]? = some cl) (h : (Jvm.Term.length t).eval args s none [] s = some v) : cl.slots.size < 2 ^ 31 ∧ v = .int cl.slots.size.toInt32 := by
  obtain ⟨a', c', e1, e2, e3⟩ := Term.length_spec h
  cases ev.symm.trans e1
  have e4 := e2
  simp only [State.arrayAt?, hc, Option.bind_eq_bind, Option.bind_some] at e4
  obtain rfl : c' = cl := by
    cases hk : s.vm.classes[cl.cls]? with
    | none => simp [hk] at e4
    | some k => simp only [hk, Option.bind_some] at e4; split at e4 <;> first | (split at e4 <;> first | (cases e4; rfl; done) | (cases e4; done)) | (cases e4; rfl; done) | (cases e4; done)
  refine ⟨?_, e3⟩
  simp only [Term.eval, ev, e2, Option.bind_eq_bind, Option.bind_some] at h
  split at h
  · assumption
  · cases h
theorem own_len {args : Array Value} {s : State} {a : Addr} {cl : Cell} {t : Jvm.Term} {k : Int32} (ev : t.eval args s none [] s = some (.ref a)) (hc : s.heap[a]? = some cl) (h : (Jvm.Cond.eq (Jvm.Term.length t) (Jvm.Term.int k)).value args s none s [] = some true) : cl.slots.size < 2 ^ 31 ∧ cl.slots.size.toInt32 = k := by
  obtain ⟨x, y, ex, ey, -, ky⟩ := cmp_v (Or.inl h)
  obtain rfl : Value.int k = y := Option.some.inj ey
  obtain ⟨h1, rfl⟩ := own_arrAt ev hc ex
  refine ⟨h1, ?_⟩
  simpa [Cond.value, ex, ey] using h
theorem own_elemI {args : Array Value} {s : State} {a : Addr} {cl : Cell} {t : Jvm.Term} {j k : Int32} (ev : t.eval args s none [] s = some (.ref a)) (hc : s.heap[a]? = some cl) (h : (Jvm.Cond.eq (Jvm.Term.elem t (Jvm.Term.int j)) (Jvm.Term.int k)).value args s none s [] = some true) : cl.slots[j.toNatClampNeg]? = some (.int k) := by
  obtain ⟨x, y, ex, ey, -, ky⟩ := cmp_v (Or.inl h)
  obtain rfl : Value.int k = y := Option.some.inj ey
  obtain ⟨z, rfl⟩ := ky
  have hz : z = k := by simpa [Cond.value, ex, ey] using h
  subst hz
  exact (elem_in ex ev rfl hc).2
theorem own_elemJ {args : Array Value} {s : State} {a : Addr} {cl : Cell} {t : Jvm.Term} {j : Int32} {k : Int64} (ev : t.eval args s none [] s = some (.ref a)) (hc : s.heap[a]? = some cl) (h : (Jvm.Cond.eq (Jvm.Term.elem t (Jvm.Term.int j)) (Jvm.Term.long k)).value args s none s [] = some true) : cl.slots[j.toNatClampNeg]? = some (.long k) := by
  obtain ⟨x, y, ex, ey, -, ky⟩ := cmp_v (Or.inl h)
  obtain rfl : Value.long k = y := Option.some.inj ey
  obtain ⟨z, rfl⟩ := ky
  have hz : z = k := by simpa [Cond.value, ex, ey] using h
  subst hz
  exact (elem_in ex ev rfl hc).2
theorem own_elemR {args : Array Value} {s : State} {a b : Addr} {cl : Cell} {t u : Jvm.Term} {j : Int32} (ev : t.eval args s none [] s = some (.ref a)) (eu : u.eval args s none [] s = some (.ref b)) (hc : s.heap[a]? = some cl) (h : (Jvm.Cond.eq (Jvm.Term.elem t (Jvm.Term.int j)) u).value args s none s [] = some true) : cl.slots[j.toNatClampNeg]? = some (.ref b) := by
  obtain ⟨x, y, ex, ey, -, ky⟩ := cmp_v (Or.inl h)
  cases eu.symm.trans ey
  have hr : x.isRef = true := ky.2
  rw [eq_R ex ey hr rfl] at h
  have hz : x = .ref b := by simpa using h
  subst hz
  exact (elem_in ex ev rfl hc).2

def own_pick (x : Int32) (wT wF wI : Addr) : Addr := if (x &&& (2147483647 : Int32)) % (3 : Int32) = (0 : Int32) then wT else if (x &&& (2147483647 : Int32)) % (3 : Int32) = (1 : Int32) then wF else wI
theorem own_pick_in (x : Int32) (wT wF wI : Addr) : own_pick x wT wF wI = wT ∨ own_pick x wT wF wI = wF ∨ own_pick x wT wF wI = wI := by
  unfold own_pick; split
  · simp
  · split <;> simp
def own_fin (a wI : Addr) : Int32 := if a = wI then 0 else 1
theorem own_fin_no {a wI : Addr} (h : a ≠ wI) : own_fin a wI = (1 : Int32) := if_neg h
theorem own_fin_yes {wI : Addr} : own_fin wI wI = (0 : Int32) := if_pos rfl
theorem d1_0 : decode method_2_code 0 = .ok (.iload_n 0, 1) := by decide +kernel
theorem d1_1 : decode method_2_code 1 = .ok (.ldc 7, 2) := by decide +kernel
theorem d1_3 : decode method_2_code 3 = .ok (.iand, 1) := by decide +kernel
theorem d1_4 : decode method_2_code 4 = .ok (.iconst 3, 1) := by decide +kernel
theorem d1_5 : decode method_2_code 5 = .ok (.irem, 1) := by decide +kernel
theorem d1_6 : decode method_2_code 6 = .ok (.istore_n 1, 1) := by decide +kernel
theorem d1_7 : decode method_2_code 7 = .ok (.iload_n 1, 1) := by decide +kernel
theorem d1_8 : decode method_2_code 8 = .ok (.ifCond .ne 7, 3) := by decide +kernel
theorem d1_11 : decode method_2_code 11 = .ok (.getstatic 8, 3) := by decide +kernel
theorem d1_14 : decode method_2_code 14 = .ok (.areturn, 1) := by decide +kernel
theorem d1_15 : decode method_2_code 15 = .ok (.iload_n 1, 1) := by decide +kernel
theorem d1_16 : decode method_2_code 16 = .ok (.iconst 1, 1) := by decide +kernel
theorem d1_17 : decode method_2_code 17 = .ok (.if_icmp .ne 7, 3) := by decide +kernel
theorem d1_20 : decode method_2_code 20 = .ok (.getstatic 14, 3) := by decide +kernel
theorem d1_23 : decode method_2_code 23 = .ok (.areturn, 1) := by decide +kernel
theorem d1_24 : decode method_2_code 24 = .ok (.getstatic 17, 3) := by decide +kernel
theorem d1_27 : decode method_2_code 27 = .ok (.areturn, 1) := by decide +kernel
theorem ef_rm1 (m : MethodId) (x0 : Int32) : entryFrame m #[(.int x0)] 2 = mkF m 0 #[.val (.int x0), .unset] [] := by first | (simp [entryFrame, mkF, argsToLocals, Value.category]; done) | rfl
theorem pn_0 : plainName "com/example/haris/haris/model/VerdictIsFinalPinLaw" = true := by first | (simp [plainName, overriddenIn]; done) | decide +kernel
def Q1 (Z : State) (p0 : Int32) (wT : Addr) (wF : Addr) (wI : Addr) (h0 : Heap) (n0 : Nat) (v : Option Value) (h : Heap) (L : List Loc) : Prop := v = some (.ref (own_pick p0 wT wF wI)) ∧ Fr n0 L ∧ h = h0
set_option maxRecDepth 65536 in
set_option maxHeartbeats 40000000 in
theorem rm1 (l : Launch) (Z : State) (aw : Array Value) (hw : ∀ d ∈ tables_1, d.before aw Z = true) (ws : List Jvm.Cond) (p0 : Int32) (wT : Addr) (wF : Addr) (wI : Addr) (h0 : Heap) (n0 : Nat) (Z0 : n0 ≤ h0.size) (S_TRUE : Sta Z h0 "com/example/haris/haris/model/Verdict" "TRUE" "Lcom/example/haris/haris/model/Verdict;" (.ref wT)) (S_FALSE : Sta Z h0 "com/example/haris/haris/model/Verdict" "FALSE" "Lcom/example/haris/haris/model/Verdict;" (.ref wF)) (S_INCONCLUSIVE : Sta Z h0 "com/example/haris/haris/model/Verdict" "INCONCLUSIVE" "Lcom/example/haris/haris/model/Verdict;" (.ref wI)) :
    MetFree l (⟨"com/example/haris/haris/model/VerdictIsFinalPinLaw", "pick", "(I)Lcom/example/haris/haris/model/Verdict;"⟩ : MethodName) (head1 (Jvm.Cond.code (⟨"com/example/haris/haris/model/VerdictIsFinalPinLaw", "pick", "(I)Lcom/example/haris/haris/model/Verdict;"⟩ : MethodName) method_2_code 2 (some (.object "com/example/haris/haris/model/Verdict")) :: ws) ({ frames := 0, cells := 0, slots := 0, locals := 0 } : Room)) (fun a U => a = #[(.int p0)] ∧ Z.Warmed39 U.vm ∧ U.heap = h0) (fun _ _ _ _ _ => True) (fun _ U oc U' => ∃ v L, oc = .returned v ∧ Q1 Z p0 wT wF wI h0 n0 v U'.heap L ∧ FrameEnd U oc U' L ({ frames := 0, cells := 0, slots := 0, locals := 0 } : Room).cells ({ frames := 0, cells := 0, slots := 0, locals := 0 } : Room).slots) := by
  refine MetFree.of_bodySF (plainFor_of_name pn_0) hisR ?_
  intro p e s m args below meth c s₁ Bd hml0 hP hK
  obtain ⟨rfl, hZ, hh⟩ := hP
  have hx := Bd.exec
  have hby := Bd.bytes
  have hml : c.maxLocals = 2 := hml0
  have hown : s.vm.findClass "com/example/haris/haris/model/VerdictIsFinalPinLaw" = some m.cls := findClass_of_methodNamed Bd.named
  have hnm := (name_of_methodNamed Bd.named Bd.method).1
  have X0 : Stand p l e ({ frames := 0, cells := 0, slots := 0, locals := 0 } : Room) s m #[(.int p0)] below meth c s₁ [] 0 0 := Stand.of_body Bd
  have e0 : s₁.heap = h0 := by rw [← hh, Bd.state]; rfl
  have N0 := Fr.nil n0
  have pre0 : ∀ t, Steps p.tables e below (s₁.setTop (mkF m 0 #[.val (.int p0), .unset] [])) t → Steps p.tables e below (s₁.setTop (entryFrame m #[(.int p0)] 2)) t := fun t k => castTop (ef_rm1 m p0) k
  have pre1 : ∀ t, Steps p.tables e below (s₁.setTop (mkF m 8 #[.val (.int p0), .val (.int ((p0 &&& (2147483647 : Int32)) % (3 : Int32)))] [(.int ((p0 &&& (2147483647 : Int32)) % (3 : Int32)))])) t → Steps p.tables e below (s₁.setTop (entryFrame m #[(.int p0)] 2)) t := fun t k => by
    refine pre0 t ?_
    show Steps p.tables e below (s₁.setTop (mkF m 0 #[.val (.int p0), .unset] [])) _
    refine XS.iloadN X0.here hx rfl (hb hby d1_0) rfl ?_
    show Steps p.tables e below (s₁.setTop (mkF m 1 #[.val (.int p0), .unset] [(.int p0)])) _
    refine X0.ldcInt hx hown (mvT hZ (hw _ (List.mem_of_getElem? (i := 4) rfl))) (g := (mkF m 1 #[.val (.int p0), .unset] [(.int p0)])) rfl (hb hby d1_1) _ ?_
    show Steps p.tables e below (s₁.setTop (mkF m 3 #[.val (.int p0), .unset] [(.int (2147483647 : Int32)), (.int p0)])) _
    refine XS.iand X0.here hx rfl (hb hby d1_3) rfl ?_
    show Steps p.tables e below (s₁.setTop (mkF m 4 #[.val (.int p0), .unset] [(.int (p0 &&& (2147483647 : Int32)))])) _
    refine XS.iconst X0.here hx rfl (hb hby d1_4) ?_
    show Steps p.tables e below (s₁.setTop (mkF m 5 #[.val (.int p0), .unset] [(.int (3 : Int32)), (.int (p0 &&& (2147483647 : Int32)))])) _
    refine iremM X0 hx rfl (hb hby d1_5) rfl (by decide) ?_
    show Steps p.tables e below (s₁.setTop (mkF m 6 #[.val (.int p0), .unset] [(.int ((p0 &&& (2147483647 : Int32)) % (3 : Int32)))])) _
    refine XS.istoreN X0.here hx rfl (hb hby d1_6) rfl (l' := #[.val (.int p0), .val (.int ((p0 &&& (2147483647 : Int32)) % (3 : Int32)))]) rfl ?_
    show Steps p.tables e below (s₁.setTop (mkF m 7 #[.val (.int p0), .val (.int ((p0 &&& (2147483647 : Int32)) % (3 : Int32)))] [])) _
    refine XS.iloadN X0.here hx rfl (hb hby d1_7) rfl ?_
    exact k
  by_cases hc2 : ((p0 &&& (2147483647 : Int32)) % (3 : Int32)) = (0 : Int32)
  · obtain ⟨T3, X3, e3, st3⟩ := getS2 X0 hx hZ hown (host := "") (Or.inl (hw _ (List.mem_of_getElem? (i := 5) rfl))) Via.refl e0 S_TRUE (g := (mkF m 11 #[.val (.int p0), .val (.int ((p0 &&& (2147483647 : Int32)) % (3 : Int32)))] [])) rfl (hb hby d1_11)
    obtain ⟨fs, hr, hrun, hended, hW, hsame⟩ := X3.leave (v := some (.ref wT)) (fun h => by rw [Bd.returns] at h; cases h)
    refine ⟨_, _, pre1 _ ?_, hrun, hended, _, _, rfl, ?_, ⟨_, rfl⟩, hW, hsame.mono (by decide) (by decide)⟩
    · show Steps p.tables e below (s₁.setTop (mkF m 8 #[.val (.int p0), .val (.int ((p0 &&& (2147483647 : Int32)) % (3 : Int32)))] [(.int ((p0 &&& (2147483647 : Int32)) % (3 : Int32)))])) _
      refine XS.ifNo X0.here hx rfl (hb hby d1_8) rfl ((if0 _ _).trans (teq hc2).2) ?_
      show Steps p.tables e below (s₁.setTop (mkF m 11 #[.val (.int p0), .val (.int ((p0 &&& (2147483647 : Int32)) % (3 : Int32)))] [])) _
      refine st3 _ ?_
      show Steps p.tables e below (T3.setTop (mkF m 14 #[.val (.int p0), .val (.int ((p0 &&& (2147483647 : Int32)) % (3 : Int32)))] [(.ref wT)])) _
      jvm_step X3.here [X3.here.top, hx, (hb hby d1_14), X3.method', Bd.returns, Value.isRef, FieldType.isReference]
      first | (intro acts; rw [hr _ acts rfl rfl rfl]) | rw [hr _ _ rfl rfl rfl]
      exact Steps.refl _
    · show Q1 Z p0 wT wF wI h0 n0 _ T3.heap _
      rw [e3]
      exact ⟨by rw [own_pick, if_pos hc2], N0, rfl⟩
  · have pre4 : ∀ t, Steps p.tables e below (s₁.setTop (mkF m 17 #[.val (.int p0), .val (.int ((p0 &&& (2147483647 : Int32)) % (3 : Int32)))] [(.int (1 : Int32)), (.int ((p0 &&& (2147483647 : Int32)) % (3 : Int32)))])) t → Steps p.tables e below (s₁.setTop (entryFrame m #[(.int p0)] 2)) t := fun t k => by
      refine pre1 t ?_
      show Steps p.tables e below (s₁.setTop (mkF m 8 #[.val (.int p0), .val (.int ((p0 &&& (2147483647 : Int32)) % (3 : Int32)))] [(.int ((p0 &&& (2147483647 : Int32)) % (3 : Int32)))])) _
      refine XS.ifYes X0.here hx rfl (pc0 := 8) (pc' := 15) rfl (hb hby d1_8) rfl ((if0 _ _).trans (feq hc2).2) (by decide) (by decide) ?_
      show Steps p.tables e below (s₁.setTop (mkF m 15 #[.val (.int p0), .val (.int ((p0 &&& (2147483647 : Int32)) % (3 : Int32)))] [])) _
      refine XS.iloadN X0.here hx rfl (hb hby d1_15) rfl ?_
      show Steps p.tables e below (s₁.setTop (mkF m 16 #[.val (.int p0), .val (.int ((p0 &&& (2147483647 : Int32)) % (3 : Int32)))] [(.int ((p0 &&& (2147483647 : Int32)) % (3 : Int32)))])) _
      refine XS.iconst X0.here hx rfl (hb hby d1_16) ?_
      exact k
    by_cases hc5 : ((p0 &&& (2147483647 : Int32)) % (3 : Int32)) = (1 : Int32)
    · obtain ⟨T6, X6, e6, st6⟩ := getS2 X0 hx hZ hown (host := "") (Or.inl (hw _ (List.mem_of_getElem? (i := 46) rfl))) Via.refl e0 S_FALSE (g := (mkF m 20 #[.val (.int p0), .val (.int ((p0 &&& (2147483647 : Int32)) % (3 : Int32)))] [])) rfl (hb hby d1_20)
      obtain ⟨fs, hr, hrun, hended, hW, hsame⟩ := X6.leave (v := some (.ref wF)) (fun h => by rw [Bd.returns] at h; cases h)
      refine ⟨_, _, pre4 _ ?_, hrun, hended, _, _, rfl, ?_, ⟨_, rfl⟩, hW, hsame.mono (by decide) (by decide)⟩
      · show Steps p.tables e below (s₁.setTop (mkF m 17 #[.val (.int p0), .val (.int ((p0 &&& (2147483647 : Int32)) % (3 : Int32)))] [(.int (1 : Int32)), (.int ((p0 &&& (2147483647 : Int32)) % (3 : Int32)))])) _
        refine XS.icmpNo X0.here hx rfl (hb hby d1_17) rfl (teq hc5).2 ?_
        show Steps p.tables e below (s₁.setTop (mkF m 20 #[.val (.int p0), .val (.int ((p0 &&& (2147483647 : Int32)) % (3 : Int32)))] [])) _
        refine st6 _ ?_
        show Steps p.tables e below (T6.setTop (mkF m 23 #[.val (.int p0), .val (.int ((p0 &&& (2147483647 : Int32)) % (3 : Int32)))] [(.ref wF)])) _
        jvm_step X6.here [X6.here.top, hx, (hb hby d1_23), X6.method', Bd.returns, Value.isRef, FieldType.isReference]
        first | (intro acts; rw [hr _ acts rfl rfl rfl]) | rw [hr _ _ rfl rfl rfl]
        exact Steps.refl _
      · show Q1 Z p0 wT wF wI h0 n0 _ T6.heap _
        rw [e6]
        exact ⟨by rw [own_pick, if_neg hc2, if_pos hc5], N0, rfl⟩
    · obtain ⟨T7, X7, e7, st7⟩ := getS2 X0 hx hZ hown (host := "") (Or.inl (hw _ (List.mem_of_getElem? (i := 44) rfl))) Via.refl e0 S_INCONCLUSIVE (g := (mkF m 24 #[.val (.int p0), .val (.int ((p0 &&& (2147483647 : Int32)) % (3 : Int32)))] [])) rfl (hb hby d1_24)
      obtain ⟨fs, hr, hrun, hended, hW, hsame⟩ := X7.leave (v := some (.ref wI)) (fun h => by rw [Bd.returns] at h; cases h)
      refine ⟨_, _, pre4 _ ?_, hrun, hended, _, _, rfl, ?_, ⟨_, rfl⟩, hW, hsame.mono (by decide) (by decide)⟩
      · show Steps p.tables e below (s₁.setTop (mkF m 17 #[.val (.int p0), .val (.int ((p0 &&& (2147483647 : Int32)) % (3 : Int32)))] [(.int (1 : Int32)), (.int ((p0 &&& (2147483647 : Int32)) % (3 : Int32)))])) _
        refine XS.icmpYes X0.here hx rfl (pc0 := 17) (pc' := 24) rfl (hb hby d1_17) rfl (feq hc5).2 (by decide) (by decide) ?_
        show Steps p.tables e below (s₁.setTop (mkF m 24 #[.val (.int p0), .val (.int ((p0 &&& (2147483647 : Int32)) % (3 : Int32)))] [])) _
        refine st7 _ ?_
        show Steps p.tables e below (T7.setTop (mkF m 27 #[.val (.int p0), .val (.int ((p0 &&& (2147483647 : Int32)) % (3 : Int32)))] [(.ref wI)])) _
        jvm_step X7.here [X7.here.top, hx, (hb hby d1_27), X7.method', Bd.returns, Value.isRef, FieldType.isReference]
        first | (intro acts; rw [hr _ acts rfl rfl rfl]) | rw [hr _ _ rfl rfl rfl]
        exact Steps.refl _
      · show Q1 Z p0 wT wF wI h0 n0 _ T7.heap _
        rw [e7]
        exact ⟨by rw [own_pick, if_neg hc2, if_neg hc5], N0, rfl⟩
theorem d5_0 : decode prog_13_method_5_code 0 = .ok (.aload_n 0, 1) := by decide +kernel
theorem d5_1 : decode prog_13_method_5_code 1 = .ok (.getstatic 10, 3) := by decide +kernel
theorem d5_4 : decode prog_13_method_5_code 4 = .ok (.if_acmp .eq 7, 3) := by decide +kernel
theorem d5_11 : decode prog_13_method_5_code 11 = .ok (.iconst 0, 1) := by decide +kernel
theorem d5_12 : decode prog_13_method_5_code 12 = .ok (.ireturn, 1) := by decide +kernel
theorem d5_7 : decode prog_13_method_5_code 7 = .ok (.iconst 1, 1) := by decide +kernel
theorem d5_8 : decode prog_13_method_5_code 8 = .ok (.goto 4, 3) := by decide +kernel
theorem ef_rm5 (m : MethodId) (x0 : Addr) : entryFrame m #[(.ref x0)] 1 = mkF m 0 #[.val (.ref x0)] [] := by first | (simp [entryFrame, mkF, argsToLocals, Value.category]; done) | rfl
theorem pn_1 : plainName "com/example/haris/haris/model/Verdict" = true := by first | (simp [plainName, overriddenIn]; done) | decide +kernel
def Q5 (Z : State) (a0 : Addr) (wT : Addr) (wF : Addr) (wI : Addr) (h0 : Heap) (n0 : Nat) (v : Option Value) (h : Heap) (L : List Loc) : Prop := v = some (.int (own_fin a0 wI)) ∧ Fr n0 L ∧ h = h0
set_option maxRecDepth 65536 in
set_option maxHeartbeats 40000000 in
theorem rm5 (l : Launch) (Z : State) (aw : Array Value) (hw : ∀ d ∈ tables_1, d.before aw Z = true) (ws : List Jvm.Cond) (a0 : Addr) (wT : Addr) (wF : Addr) (wI : Addr) (h0 : Heap) (n0 : Nat) (Z0 : n0 ≤ h0.size) (S_TRUE : Sta Z h0 "com/example/haris/haris/model/Verdict" "TRUE" "Lcom/example/haris/haris/model/Verdict;" (.ref wT)) (S_FALSE : Sta Z h0 "com/example/haris/haris/model/Verdict" "FALSE" "Lcom/example/haris/haris/model/Verdict;" (.ref wF)) (S_INCONCLUSIVE : Sta Z h0 "com/example/haris/haris/model/Verdict" "INCONCLUSIVE" "Lcom/example/haris/haris/model/Verdict;" (.ref wI)) :
    MetFree l (⟨"com/example/haris/haris/model/Verdict", "isFinal", "()Z"⟩ : MethodName) (head1 (Jvm.Cond.code (⟨"com/example/haris/haris/model/Verdict", "isFinal", "()Z"⟩ : MethodName) prog_13_method_5_code 1 (some .boolean) :: ws) ({ frames := 0, cells := 0, slots := 0, locals := 0 } : Room)) (fun a U => a = #[(.ref a0)] ∧ Z.Warmed39 U.vm ∧ U.heap = h0) (fun _ _ _ _ _ => True) (fun _ U oc U' => ∃ v L, oc = .returned v ∧ Q5 Z a0 wT wF wI h0 n0 v U'.heap L ∧ FrameEnd U oc U' L ({ frames := 0, cells := 0, slots := 0, locals := 0 } : Room).cells ({ frames := 0, cells := 0, slots := 0, locals := 0 } : Room).slots) := by
  refine MetFree.of_bodySF (plainFor_of_name pn_1) hisR ?_
  intro p e s m args below meth c s₁ Bd hml0 hP hK
  obtain ⟨rfl, hZ, hh⟩ := hP
  have hx := Bd.exec
  have hby := Bd.bytes
  have hml : c.maxLocals = 1 := hml0
  have hown : s.vm.findClass "com/example/haris/haris/model/Verdict" = some m.cls := findClass_of_methodNamed Bd.named
  have hnm := (name_of_methodNamed Bd.named Bd.method).1
  have X0 : Stand p l e ({ frames := 0, cells := 0, slots := 0, locals := 0 } : Room) s m #[(.ref a0)] below meth c s₁ [] 0 0 := Stand.of_body Bd
  have e0 : s₁.heap = h0 := by rw [← hh, Bd.state]; rfl
  have N0 := Fr.nil n0
  have pre0 : ∀ t, Steps p.tables e below (s₁.setTop (mkF m 0 #[.val (.ref a0)] [])) t → Steps p.tables e below (s₁.setTop (entryFrame m #[(.ref a0)] 1)) t := fun t k => castTop (ef_rm5 m a0) k
  obtain ⟨T1, X1, e1, st1⟩ := getS2 X0 hx hZ hown (host := "") (Or.inl (hw _ (List.mem_of_getElem? (i := 42) rfl))) Via.refl e0 S_INCONCLUSIVE (g := (mkF m 1 #[.val (.ref a0)] [(.ref a0)])) rfl (hb hby d5_1)
  have pre2 : ∀ t, Steps p.tables e below (T1.setTop (mkF m 4 #[.val (.ref a0)] [(.ref wI), (.ref a0)])) t → Steps p.tables e below (s₁.setTop (entryFrame m #[(.ref a0)] 1)) t := fun t k => by
    refine pre0 t ?_
    show Steps p.tables e below (s₁.setTop (mkF m 0 #[.val (.ref a0)] [])) _
    refine XS.aloadN X0.here hx rfl (hb hby d5_0) rfl rfl ?_
    show Steps p.tables e below (s₁.setTop (mkF m 1 #[.val (.ref a0)] [(.ref a0)])) _
    refine st1 _ ?_
    exact k
  by_cases hc3 : a0 = wI
  · obtain ⟨fs, hr, hrun, hended, hW, hsame⟩ := X1.leave (v := some (.int (0 : Int32))) (fun h => by rw [Bd.returns] at h; cases h)
    refine ⟨_, _, pre2 _ ?_, hrun, hended, _, _, rfl, ?_, ⟨_, rfl⟩, hW, hsame.mono (by decide) (by decide)⟩
    · show Steps p.tables e below (T1.setTop (mkF m 4 #[.val (.ref a0)] [(.ref wI), (.ref a0)])) _
      refine Jvm.RoadKit.acmp (g := (mkF m 4 #[.val (.ref a0)] [(.ref wI), (.ref a0)])) X1 hx rfl rfl rfl (pc0 := 4) (pc' := 11) (same := true) rfl (hb hby d5_4) rfl (decide_eq_true (congrArg Value.ref hc3)) (by decide) (by decide) ?_
      show Steps p.tables e below (T1.setTop (mkF m 11 #[.val (.ref a0)] [])) _
      refine XS.iconst X1.here hx rfl (hb hby d5_11) ?_
      show Steps p.tables e below (T1.setTop (mkF m 12 #[.val (.ref a0)] [(.int (0 : Int32))])) _
      exact retN X1 hx (t := .boolean) Bd.returns (by simp) (hb hby d5_12) hr
    · show Q5 Z a0 wT wF wI h0 n0 _ T1.heap _
      rw [e1]
      exact ⟨by rw [own_fin, if_pos hc3], N0, rfl⟩
  · obtain ⟨fs, hr, hrun, hended, hW, hsame⟩ := X1.leave (v := some (.int (1 : Int32))) (fun h => by rw [Bd.returns] at h; cases h)
    refine ⟨_, _, pre2 _ ?_, hrun, hended, _, _, rfl, ?_, ⟨_, rfl⟩, hW, hsame.mono (by decide) (by decide)⟩
    · show Steps p.tables e below (T1.setTop (mkF m 4 #[.val (.ref a0)] [(.ref wI), (.ref a0)])) _
      refine Jvm.RoadKit.acmp (g := (mkF m 4 #[.val (.ref a0)] [(.ref wI), (.ref a0)])) X1 hx rfl rfl rfl (pc0 := 4) (pc' := 7) (same := false) rfl (hb hby d5_4) rfl (decide_eq_false fun q => hc3 (Value.ref.inj q)) (by decide) (by decide) ?_
      show Steps p.tables e below (T1.setTop (mkF m 7 #[.val (.ref a0)] [])) _
      refine XS.iconst X1.here hx rfl (hb hby d5_7) ?_
      show Steps p.tables e below (T1.setTop (mkF m 8 #[.val (.ref a0)] [(.int (1 : Int32))])) _
      refine XS.goto X1.here hx rfl (pc0 := 8) (pc' := 12) rfl (hb hby d5_8) (by decide) (by decide) ?_
      show Steps p.tables e below (T1.setTop (mkF m 12 #[.val (.ref a0)] [(.int (1 : Int32))])) _
      exact retN X1 hx (t := .boolean) Bd.returns (by simp) (hb hby d5_12) hr
    · show Q5 Z a0 wT wF wI h0 n0 _ T1.heap _
      rw [e1]
      exact ⟨by rw [own_fin, if_neg hc3], N0, rfl⟩
theorem d2_0 : decode prog_13_method_4_code 0 = .ok (.aload_n 0, 1) := by decide +kernel
theorem d2_1 : decode prog_13_method_4_code 1 = .ok (.getfield 32, 3) := by decide +kernel
theorem d2_4 : decode prog_13_method_4_code 4 = .ok (.areturn, 1) := by decide +kernel
theorem ef_rm2 (m : MethodId) (x0 : Addr) : entryFrame m #[(.ref x0)] 1 = mkF m 0 #[.val (.ref x0)] [] := by first | (simp [entryFrame, mkF, argsToLocals, Value.category]; done) | rfl
def Q2 (Z : State) (a0 : Addr) (sy : Addr) (h0 : Heap) (n0 : Nat) (v : Option Value) (h : Heap) (L : List Loc) : Prop := v = some (.ref sy) ∧ Fr n0 L ∧ h = h0
set_option maxRecDepth 65536 in
set_option maxHeartbeats 40000000 in
theorem rm2 (l : Launch) (Z : State) (aw : Array Value) (hw : ∀ d ∈ tables_1, d.before aw Z = true) (ws : List Jvm.Cond) (a0 : Addr) (sy : Addr) (h0 : Heap) (n0 : Nat) (Z0 : n0 ≤ h0.size) (F : Fld Z h0 a0 "com/example/haris/haris/model/Verdict" "symbol" "Ljava/lang/String;" (.ref sy)) :
    MetFree l (⟨"com/example/haris/haris/model/Verdict", "symbol", "()Ljava/lang/String;"⟩ : MethodName) (head1 (Jvm.Cond.code (⟨"com/example/haris/haris/model/Verdict", "symbol", "()Ljava/lang/String;"⟩ : MethodName) prog_13_method_4_code 1 (some (.object "java/lang/String")) :: ws) ({ frames := 0, cells := 0, slots := 0, locals := 0 } : Room)) (fun a U => a = #[(.ref a0)] ∧ Z.Warmed39 U.vm ∧ U.heap = h0) (fun _ _ _ _ _ => True) (fun _ U oc U' => ∃ v L, oc = .returned v ∧ Q2 Z a0 sy h0 n0 v U'.heap L ∧ FrameEnd U oc U' L ({ frames := 0, cells := 0, slots := 0, locals := 0 } : Room).cells ({ frames := 0, cells := 0, slots := 0, locals := 0 } : Room).slots) := by
  refine MetFree.of_bodySF (plainFor_of_name pn_1) hisR ?_
  intro p e s m args below meth c s₁ Bd hml0 hP hK
  obtain ⟨rfl, hZ, hh⟩ := hP
  have hx := Bd.exec
  have hby := Bd.bytes
  have hml : c.maxLocals = 1 := hml0
  have hown : s.vm.findClass "com/example/haris/haris/model/Verdict" = some m.cls := findClass_of_methodNamed Bd.named
  have hnm := (name_of_methodNamed Bd.named Bd.method).1
  have X0 : Stand p l e ({ frames := 0, cells := 0, slots := 0, locals := 0 } : Room) s m #[(.ref a0)] below meth c s₁ [] 0 0 := Stand.of_body Bd
  have e0 : s₁.heap = h0 := by rw [← hh, Bd.state]; rfl
  have N0 := Fr.nil n0
  have pre0 : ∀ t, Steps p.tables e below (s₁.setTop (mkF m 0 #[.val (.ref a0)] [])) t → Steps p.tables e below (s₁.setTop (entryFrame m #[(.ref a0)] 1)) t := fun t k => castTop (ef_rm2 m a0) k
  obtain ⟨T1, X1, e1, st1⟩ := getF X0 hx hZ hown (host := "") (Or.inl (hw _ (List.mem_of_getElem? (i := 13) rfl))) Via.refl e0 F (g := (mkF m 1 #[.val (.ref a0)] [(.ref a0)])) rfl rfl (hb hby d2_1)
  obtain ⟨fs, hr, hrun, hended, hW, hsame⟩ := X1.leave (v := some (.ref sy)) (fun h => by rw [Bd.returns] at h; cases h)
  refine ⟨_, _, pre0 _ ?_, hrun, hended, _, _, rfl, ?_, ⟨_, rfl⟩, hW, hsame.mono (by decide) (by decide)⟩
  · show Steps p.tables e below (s₁.setTop (mkF m 0 #[.val (.ref a0)] [])) _
    refine XS.aloadN X0.here hx rfl (hb hby d2_0) rfl rfl ?_
    show Steps p.tables e below (s₁.setTop (mkF m 1 #[.val (.ref a0)] [(.ref a0)])) _
    refine st1 _ ?_
    show Steps p.tables e below (T1.setTop (mkF m 4 #[.val (.ref a0)] [(.ref sy)])) _
    jvm_step X1.here [X1.here.top, hx, (hb hby d2_4), X1.method', Bd.returns, Value.isRef, FieldType.isReference]
    first | (intro acts; rw [hr _ acts rfl rfl rfl]) | rw [hr _ _ rfl rfl rfl]
    exact Steps.refl _
  · show Q2 Z a0 sy h0 n0 _ T1.heap _
    rw [e1]
    exact ⟨rfl, N0, rfl⟩
def own_eq (c d : Int32) : Int32 := if c = d then 1 else 0
theorem d4_0 : decode jdk_43_method_13_code 0 = .ok (.aload_n 0, 1) := by decide +kernel
theorem d4_1 : decode jdk_43_method_13_code 1 = .ok (.arraylength, 1) := by decide +kernel
theorem d4_2 : decode jdk_43_method_13_code 2 = .ok (.aload_n 1, 1) := by decide +kernel
theorem d4_3 : decode jdk_43_method_13_code 3 = .ok (.arraylength, 1) := by decide +kernel
theorem d4_4 : decode jdk_43_method_13_code 4 = .ok (.if_icmp .ne 30, 3) := by decide +kernel
theorem d4_7 : decode jdk_43_method_13_code 7 = .ok (.iconst 0, 1) := by decide +kernel
theorem d4_8 : decode jdk_43_method_13_code 8 = .ok (.istore_n 2, 1) := by decide +kernel
theorem d4_9 : decode jdk_43_method_13_code 9 = .ok (.iload_n 2, 1) := by decide +kernel
theorem d4_10 : decode jdk_43_method_13_code 10 = .ok (.aload_n 0, 1) := by decide +kernel
theorem d4_11 : decode jdk_43_method_13_code 11 = .ok (.arraylength, 1) := by decide +kernel
theorem d4_12 : decode jdk_43_method_13_code 12 = .ok (.if_icmp .ge 20, 3) := by decide +kernel
theorem d4_15 : decode jdk_43_method_13_code 15 = .ok (.aload_n 0, 1) := by decide +kernel
theorem d4_16 : decode jdk_43_method_13_code 16 = .ok (.iload_n 2, 1) := by decide +kernel
theorem d4_17 : decode jdk_43_method_13_code 17 = .ok (.baload, 1) := by decide +kernel
theorem d4_18 : decode jdk_43_method_13_code 18 = .ok (.aload_n 1, 1) := by decide +kernel
theorem d4_19 : decode jdk_43_method_13_code 19 = .ok (.iload_n 2, 1) := by decide +kernel
theorem d4_20 : decode jdk_43_method_13_code 20 = .ok (.baload, 1) := by decide +kernel
theorem d4_21 : decode jdk_43_method_13_code 21 = .ok (.if_icmp .eq 5, 3) := by decide +kernel
theorem d4_26 : decode jdk_43_method_13_code 26 = .ok (.iinc 2 1, 3) := by decide +kernel
theorem d4_29 : decode jdk_43_method_13_code 29 = .ok (.goto (-20), 3) := by decide +kernel
theorem d4_32 : decode jdk_43_method_13_code 32 = .ok (.iconst 1, 1) := by decide +kernel
theorem d4_33 : decode jdk_43_method_13_code 33 = .ok (.ireturn, 1) := by decide +kernel
theorem d4_24 : decode jdk_43_method_13_code 24 = .ok (.iconst 0, 1) := by decide +kernel
theorem d4_25 : decode jdk_43_method_13_code 25 = .ok (.ireturn, 1) := by decide +kernel
theorem ef_rml1g (m : MethodId) (x0 : Addr) (x1 : Addr) : entryFrame m #[(.ref x0), (.ref x1)] 3 = mkF m 0 #[.val (.ref x0), .val (.ref x1), .unset] [] := by first | (simp [entryFrame, mkF, argsToLocals, Value.category]; done) | rfl
theorem pn_2 : plainName "java/lang/StringLatin1" = true := by first | (simp [plainName, overriddenIn]; done) | decide +kernel
def Q_rml1g (Z : State) (b0 : Addr) (b1 : Addr) (kk0 : ClassId) (kk1 : ClassId) (c0 : Int32) (d0 : Int32) (h0 : Heap) (n0 : Nat) (v : Option Value) (h : Heap) (L : List Loc) : Prop := v = some (.int (own_eq c0 d0)) ∧ Fr n0 L ∧ h = h0
set_option maxRecDepth 65536 in
set_option maxHeartbeats 40000000 in
theorem rml1g (l : Launch) (Z : State) (aw : Array Value) (hw : ∀ d ∈ tables_1, d.before aw Z = true) (ws : List Jvm.Cond) (b0 : Addr) (b1 : Addr) (kk0 : ClassId) (kk1 : ClassId) (c0 : Int32) (d0 : Int32) (h0 : Heap) (n0 : Nat) (Z0 : n0 ≤ h0.size) (A0 : Arv Z h0 b0 kk0 .byte (1 : Int32) [(.int c0)] (.int (0 : Int32))) (A1 : Arv Z h0 b1 kk1 .byte (1 : Int32) [(.int d0)] (.int (0 : Int32))) :
    MetFree l (⟨"java/lang/StringLatin1", "equals", "([B[B)Z"⟩ : MethodName) (head1 (Jvm.Cond.code (⟨"java/lang/StringLatin1", "equals", "([B[B)Z"⟩ : MethodName) jdk_43_method_13_code 3 (some .boolean) :: ws) ({ frames := 0, cells := 0, slots := 0, locals := 0 } : Room)) (fun a U => a = #[(.ref b0), (.ref b1)] ∧ Z.Warmed39 U.vm ∧ U.heap = h0) (fun _ _ _ _ _ => True) (fun _ U oc U' => ∃ v L, oc = .returned v ∧ Q_rml1g Z b0 b1 kk0 kk1 c0 d0 h0 n0 v U'.heap L ∧ FrameEnd U oc U' L ({ frames := 0, cells := 0, slots := 0, locals := 0 } : Room).cells ({ frames := 0, cells := 0, slots := 0, locals := 0 } : Room).slots) := by
  refine MetFree.of_bodySF (plainFor_of_name pn_2) hisR ?_
  intro p e s m args below meth c s₁ Bd hml0 hP hK
  obtain ⟨rfl, hZ, hh⟩ := hP
  have hx := Bd.exec
  have hby := Bd.bytes
  have hml : c.maxLocals = 3 := hml0
  have hown : s.vm.findClass "java/lang/StringLatin1" = some m.cls := findClass_of_methodNamed Bd.named
  have hnm := (name_of_methodNamed Bd.named Bd.method).1
  have X0 : Stand p l e ({ frames := 0, cells := 0, slots := 0, locals := 0 } : Room) s m #[(.ref b0), (.ref b1)] below meth c s₁ [] 0 0 := Stand.of_body Bd
  have e0 : s₁.heap = h0 := by rw [← hh, Bd.state]; rfl
  have N0 := Fr.nil n0
  have pre0 : ∀ t, Steps p.tables e below (s₁.setTop (mkF m 0 #[.val (.ref b0), .val (.ref b1), .unset] [])) t → Steps p.tables e below (s₁.setTop (entryFrame m #[(.ref b0), (.ref b1)] 3)) t := fun t k => castTop (ef_rml1g m b0 b1) k
  obtain ⟨cl1, Ar1, q1, S1, M1, H1, G1⟩ := id A0
  obtain ⟨cl2, Ar2, q2, S2, M2, H2, G2⟩ := id A1
  obtain ⟨cl3, Ar3, q3, S3, M3, H3, G3⟩ := id A0
  obtain ⟨cl4, Ar4, q4, S4, M4, H4, G4⟩ := id A0
  obtain ⟨cl5, Ar5, q5, S5, M5, H5, G5⟩ := id A1
  have pre6 : ∀ t, Steps p.tables e below (s₁.setTop (mkF m 21 #[.val (.ref b0), .val (.ref b1), .val (.int (0 : Int32))] [(.int d0), (.int c0)])) t → Steps p.tables e below (s₁.setTop (entryFrame m #[(.ref b0), (.ref b1)] 3)) t := fun t k => by
    refine pre0 t ?_
    show Steps p.tables e below (s₁.setTop (mkF m 0 #[.val (.ref b0), .val (.ref b1), .unset] [])) _
    refine XS.aloadN X0.here hx rfl (hb hby d4_0) rfl rfl ?_
    show Steps p.tables e below (s₁.setTop (mkF m 1 #[.val (.ref b0), .val (.ref b1), .unset] [(.ref b0)])) _
    refine X0.arraylength hx (by rw [e0]; exact Ar1.1) (State.isArrayOf_alike hZ.alike Ar1.2.1) (g := (mkF m 1 #[.val (.ref b0), .val (.ref b1), .unset] [(.ref b0)])) rfl rfl (hb hby d4_1) _ ?_
    rw [len_of S1 M1]
    show Steps p.tables e below (s₁.setTop (mkF m 2 #[.val (.ref b0), .val (.ref b1), .unset] [(.int (1 : Int32))])) _
    refine XS.aloadN X0.here hx rfl (hb hby d4_2) rfl rfl ?_
    show Steps p.tables e below (s₁.setTop (mkF m 3 #[.val (.ref b0), .val (.ref b1), .unset] [(.ref b1), (.int (1 : Int32))])) _
    refine X0.arraylength hx (by rw [e0]; exact Ar2.1) (State.isArrayOf_alike hZ.alike Ar2.2.1) (g := (mkF m 3 #[.val (.ref b0), .val (.ref b1), .unset] [(.ref b1), (.int (1 : Int32))])) rfl rfl (hb hby d4_3) _ ?_
    rw [len_of S2 M2]
    show Steps p.tables e below (s₁.setTop (mkF m 4 #[.val (.ref b0), .val (.ref b1), .unset] [(.int (1 : Int32)), (.int (1 : Int32))])) _
    refine XS.icmpNo X0.here hx rfl (hb hby d4_4) rfl (teq (by decide : (1 : Int32) = (1 : Int32))).2 ?_
    show Steps p.tables e below (s₁.setTop (mkF m 7 #[.val (.ref b0), .val (.ref b1), .unset] [])) _
    refine XS.iconst X0.here hx rfl (hb hby d4_7) ?_
    show Steps p.tables e below (s₁.setTop (mkF m 8 #[.val (.ref b0), .val (.ref b1), .unset] [(.int (0 : Int32))])) _
    refine XS.istoreN X0.here hx rfl (hb hby d4_8) rfl (l' := #[.val (.ref b0), .val (.ref b1), .val (.int (0 : Int32))]) rfl ?_
    show Steps p.tables e below (s₁.setTop (mkF m 9 #[.val (.ref b0), .val (.ref b1), .val (.int (0 : Int32))] [])) _
    refine XS.iloadN X0.here hx rfl (hb hby d4_9) rfl ?_
    show Steps p.tables e below (s₁.setTop (mkF m 10 #[.val (.ref b0), .val (.ref b1), .val (.int (0 : Int32))] [(.int (0 : Int32))])) _
    refine XS.aloadN X0.here hx rfl (hb hby d4_10) rfl rfl ?_
    show Steps p.tables e below (s₁.setTop (mkF m 11 #[.val (.ref b0), .val (.ref b1), .val (.int (0 : Int32))] [(.ref b0), (.int (0 : Int32))])) _
    refine X0.arraylength hx (by rw [e0]; exact Ar3.1) (State.isArrayOf_alike hZ.alike Ar3.2.1) (g := (mkF m 11 #[.val (.ref b0), .val (.ref b1), .val (.int (0 : Int32))] [(.ref b0), (.int (0 : Int32))])) rfl rfl (hb hby d4_11) _ ?_
    rw [len_of S3 M3]
    show Steps p.tables e below (s₁.setTop (mkF m 12 #[.val (.ref b0), .val (.ref b1), .val (.int (0 : Int32))] [(.int (1 : Int32)), (.int (0 : Int32))])) _
    refine XS.icmpNo X0.here hx rfl (hb hby d4_12) rfl (tlt (by decide : (0 : Int32) < (1 : Int32))).2.1 ?_
    show Steps p.tables e below (s₁.setTop (mkF m 15 #[.val (.ref b0), .val (.ref b1), .val (.int (0 : Int32))] [])) _
    refine XS.aloadN X0.here hx rfl (hb hby d4_15) rfl rfl ?_
    show Steps p.tables e below (s₁.setTop (mkF m 16 #[.val (.ref b0), .val (.ref b1), .val (.int (0 : Int32))] [(.ref b0)])) _
    refine XS.iloadN X0.here hx rfl (hb hby d4_16) rfl ?_
    show Steps p.tables e below (s₁.setTop (mkF m 17 #[.val (.ref b0), .val (.ref b1), .val (.int (0 : Int32))] [(.int (0 : Int32)), (.ref b0)])) _
    have hin4 : ¬ ((0 : Int32) < 0 ∨ cl4.slots.size ≤ ((0 : Int32)).toNatClampNeg) := (inb_of S4 ⟨by decide, by decide⟩)
    refine X0.baloadBytes hx (j := (0 : Int32)) (v := (.int c0)) (by rw [e0]; exact Ar4.1) (State.isArrayOf_alike hZ.alike Ar4.2.1) Ar4.2.2 hin4 (H4.at hin4 rfl) (g := (mkF m 17 #[.val (.ref b0), .val (.ref b1), .val (.int (0 : Int32))] [(.int (0 : Int32)), (.ref b0)])) rfl rfl (hb hby d4_17) _ ?_
    show Steps p.tables e below (s₁.setTop (mkF m 18 #[.val (.ref b0), .val (.ref b1), .val (.int (0 : Int32))] [(.int c0)])) _
    refine XS.aloadN X0.here hx rfl (hb hby d4_18) rfl rfl ?_
    show Steps p.tables e below (s₁.setTop (mkF m 19 #[.val (.ref b0), .val (.ref b1), .val (.int (0 : Int32))] [(.ref b1), (.int c0)])) _
    refine XS.iloadN X0.here hx rfl (hb hby d4_19) rfl ?_
    show Steps p.tables e below (s₁.setTop (mkF m 20 #[.val (.ref b0), .val (.ref b1), .val (.int (0 : Int32))] [(.int (0 : Int32)), (.ref b1), (.int c0)])) _
    have hin5 : ¬ ((0 : Int32) < 0 ∨ cl5.slots.size ≤ ((0 : Int32)).toNatClampNeg) := (inb_of S5 ⟨by decide, by decide⟩)
    refine X0.baloadBytes hx (j := (0 : Int32)) (v := (.int d0)) (by rw [e0]; exact Ar5.1) (State.isArrayOf_alike hZ.alike Ar5.2.1) Ar5.2.2 hin5 (H5.at hin5 rfl) (g := (mkF m 20 #[.val (.ref b0), .val (.ref b1), .val (.int (0 : Int32))] [(.int (0 : Int32)), (.ref b1), (.int c0)])) rfl rfl (hb hby d4_20) _ ?_
    exact k
  by_cases hc7 : c0 = d0
  · obtain ⟨cl8, Ar8, q8, S8, M8, H8, G8⟩ := id A0
    obtain ⟨fs, hr, hrun, hended, hW, hsame⟩ := X0.leave (v := some (.int (1 : Int32))) (fun h => by rw [Bd.returns] at h; cases h)
    refine ⟨_, _, pre6 _ ?_, hrun, hended, _, _, rfl, ?_, ⟨_, rfl⟩, hW, hsame.mono (by decide) (by decide)⟩
    · show Steps p.tables e below (s₁.setTop (mkF m 21 #[.val (.ref b0), .val (.ref b1), .val (.int (0 : Int32))] [(.int d0), (.int c0)])) _
      refine XS.icmpYes X0.here hx rfl (pc0 := 21) (pc' := 26) rfl (hb hby d4_21) rfl (teq hc7).1 (by decide) (by decide) ?_
      show Steps p.tables e below (s₁.setTop (mkF m 26 #[.val (.ref b0), .val (.ref b1), .val (.int (0 : Int32))] [])) _
      refine XS.iinc X0.here hx rfl (hb hby d4_26) rfl (l' := #[.val (.ref b0), .val (.ref b1), .val (.int (1 : Int32))]) rfl ?_
      show Steps p.tables e below (s₁.setTop (mkF m 29 #[.val (.ref b0), .val (.ref b1), .val (.int (1 : Int32))] [])) _
      refine XS.goto X0.here hx rfl (pc0 := 29) (pc' := 9) rfl (hb hby d4_29) (by decide) (by decide) ?_
      show Steps p.tables e below (s₁.setTop (mkF m 9 #[.val (.ref b0), .val (.ref b1), .val (.int (1 : Int32))] [])) _
      refine XS.iloadN X0.here hx rfl (hb hby d4_9) rfl ?_
      show Steps p.tables e below (s₁.setTop (mkF m 10 #[.val (.ref b0), .val (.ref b1), .val (.int (1 : Int32))] [(.int (1 : Int32))])) _
      refine XS.aloadN X0.here hx rfl (hb hby d4_10) rfl rfl ?_
      show Steps p.tables e below (s₁.setTop (mkF m 11 #[.val (.ref b0), .val (.ref b1), .val (.int (1 : Int32))] [(.ref b0), (.int (1 : Int32))])) _
      refine X0.arraylength hx (by rw [e0]; exact Ar8.1) (State.isArrayOf_alike hZ.alike Ar8.2.1) (g := (mkF m 11 #[.val (.ref b0), .val (.ref b1), .val (.int (1 : Int32))] [(.ref b0), (.int (1 : Int32))])) rfl rfl (hb hby d4_11) _ ?_
      rw [len_of S8 M8]
      show Steps p.tables e below (s₁.setTop (mkF m 12 #[.val (.ref b0), .val (.ref b1), .val (.int (1 : Int32))] [(.int (1 : Int32)), (.int (1 : Int32))])) _
      refine XS.icmpYes X0.here hx rfl (pc0 := 12) (pc' := 32) rfl (hb hby d4_12) rfl (flt (by decide : ¬ ((1 : Int32) < (1 : Int32)))).2.1 (by decide) (by decide) ?_
      show Steps p.tables e below (s₁.setTop (mkF m 32 #[.val (.ref b0), .val (.ref b1), .val (.int (1 : Int32))] [])) _
      refine XS.iconst X0.here hx rfl (hb hby d4_32) ?_
      show Steps p.tables e below (s₁.setTop (mkF m 33 #[.val (.ref b0), .val (.ref b1), .val (.int (1 : Int32))] [(.int (1 : Int32))])) _
      exact retN X0 hx (t := .boolean) Bd.returns (by simp) (hb hby d4_33) hr
    · show Q_rml1g Z b0 b1 kk0 kk1 c0 d0 h0 n0 _ s₁.heap _
      rw [e0]
      exact ⟨by rw [own_eq, if_pos hc7], N0, rfl⟩
  · obtain ⟨fs, hr, hrun, hended, hW, hsame⟩ := X0.leave (v := some (.int (0 : Int32))) (fun h => by rw [Bd.returns] at h; cases h)
    refine ⟨_, _, pre6 _ ?_, hrun, hended, _, _, rfl, ?_, ⟨_, rfl⟩, hW, hsame.mono (by decide) (by decide)⟩
    · show Steps p.tables e below (s₁.setTop (mkF m 21 #[.val (.ref b0), .val (.ref b1), .val (.int (0 : Int32))] [(.int d0), (.int c0)])) _
      refine XS.icmpNo X0.here hx rfl (hb hby d4_21) rfl (feq hc7).1 ?_
      show Steps p.tables e below (s₁.setTop (mkF m 24 #[.val (.ref b0), .val (.ref b1), .val (.int (0 : Int32))] [])) _
      refine XS.iconst X0.here hx rfl (hb hby d4_24) ?_
      show Steps p.tables e below (s₁.setTop (mkF m 25 #[.val (.ref b0), .val (.ref b1), .val (.int (0 : Int32))] [(.int (0 : Int32))])) _
      exact retN X0 hx (t := .boolean) Bd.returns (by simp) (hb hby d4_25) hr
    · show Q_rml1g Z b0 b1 kk0 kk1 c0 d0 h0 n0 _ s₁.heap _
      rw [e0]
      exact ⟨by rw [own_eq, if_neg hc7], N0, rfl⟩
theorem own_eq_no {c d : Int32} (h : own_eq c d = (0 : Int32)) : some (Value.int (0 : Int32)) = some (Value.int (own_eq c d)) := by rw [h]
theorem own_eq_yes {c d : Int32} (h : ¬ own_eq c d = (0 : Int32)) : some (Value.int (1 : Int32)) = some (Value.int (own_eq c d)) := by
  unfold own_eq at h ⊢
  split at h
  · rw [if_pos ‹_›]
  · exact absurd rfl h
theorem d3_0 : decode jdk_42_method_66_code 0 = .ok (.aload_n 0, 1) := by decide +kernel
theorem d3_1 : decode jdk_42_method_66_code 1 = .ok (.aload_n 1, 1) := by decide +kernel
theorem d3_2 : decode jdk_42_method_66_code 2 = .ok (.if_acmp .ne 5, 3) := by decide +kernel
theorem d3_5 : decode jdk_42_method_66_code 5 = .ok (.iconst 1, 1) := by decide +kernel
theorem d3_6 : decode jdk_42_method_66_code 6 = .ok (.ireturn, 1) := by decide +kernel
theorem d3_7 : decode jdk_42_method_66_code 7 = .ok (.aload_n 1, 1) := by decide +kernel
theorem d3_8 : decode jdk_42_method_66_code 8 = .ok (.instanceof 10, 3) := by decide +kernel
theorem d3_11 : decode jdk_42_method_66_code 11 = .ok (.ifCond .eq 43, 3) := by decide +kernel
theorem d3_14 : decode jdk_42_method_66_code 14 = .ok (.aload_n 1, 1) := by decide +kernel
theorem d3_15 : decode jdk_42_method_66_code 15 = .ok (.checkcast 10, 3) := by decide +kernel
theorem d3_18 : decode jdk_42_method_66_code 18 = .ok (.astore_n 2, 1) := by decide +kernel
theorem d3_19 : decode jdk_42_method_66_code 19 = .ok (.getstatic 38, 3) := by decide +kernel
theorem d3_22 : decode jdk_42_method_66_code 22 = .ok (.ifCond .eq 14, 3) := by decide +kernel
theorem d3_25 : decode jdk_42_method_66_code 25 = .ok (.aload_n 0, 1) := by decide +kernel
theorem d3_26 : decode jdk_42_method_66_code 26 = .ok (.getfield 15, 3) := by decide +kernel
theorem d3_29 : decode jdk_42_method_66_code 29 = .ok (.aload_n 2, 1) := by decide +kernel
theorem d3_30 : decode jdk_42_method_66_code 30 = .ok (.getfield 15, 3) := by decide +kernel
theorem d3_33 : decode jdk_42_method_66_code 33 = .ok (.if_icmp .ne 21, 3) := by decide +kernel
theorem d3_36 : decode jdk_42_method_66_code 36 = .ok (.aload_n 0, 1) := by decide +kernel
theorem d3_37 : decode jdk_42_method_66_code 37 = .ok (.getfield 9, 3) := by decide +kernel
theorem d3_40 : decode jdk_42_method_66_code 40 = .ok (.aload_n 2, 1) := by decide +kernel
theorem d3_41 : decode jdk_42_method_66_code 41 = .ok (.getfield 9, 3) := by decide +kernel
theorem d3_44 : decode jdk_42_method_66_code 44 = .ok (.invokestatic 541, 3) := by decide +kernel
theorem pd_0 : parseMethodDescriptor "([B[B)Z" = some ⟨[(.array .byte), (.array .byte)], some .boolean⟩ := by decide +kernel
theorem d3_47 : decode jdk_42_method_66_code 47 = .ok (.ifCond .eq 7, 3) := by decide +kernel
theorem d3_54 : decode jdk_42_method_66_code 54 = .ok (.iconst 0, 1) := by decide +kernel
theorem d3_55 : decode jdk_42_method_66_code 55 = .ok (.ireturn, 1) := by decide +kernel
theorem d3_50 : decode jdk_42_method_66_code 50 = .ok (.iconst 1, 1) := by decide +kernel
theorem d3_51 : decode jdk_42_method_66_code 51 = .ok (.goto 4, 3) := by decide +kernel
theorem ef_rme1g (m : MethodId) (x0 : Addr) (x1 : Addr) : entryFrame m #[(.ref x0), (.ref x1)] 3 = mkF m 0 #[.val (.ref x0), .val (.ref x1), .unset] [] := by first | (simp [entryFrame, mkF, argsToLocals, Value.category]; done) | rfl
theorem pn_3 : plainName "java/lang/String" = true := by first | (simp [plainName, overriddenIn]; done) | decide +kernel
def Q_rme1g (Z : State) (a0 : Addr) (a1 : Addr) (b0 : Addr) (b1 : Addr) (kk0 : ClassId) (kk1 : ClassId) (cs : Int32) (c0 : Int32) (d0 : Int32) (h0 : Heap) (n0 : Nat) (v : Option Value) (h : Heap) (L : List Loc) : Prop := v = some (.int (own_eq c0 d0)) ∧ Fr n0 L ∧ h = h0
set_option maxRecDepth 65536 in
set_option maxHeartbeats 40000000 in
theorem rme1g (l : Launch) (Z : State) (aw : Array Value) (hw : ∀ d ∈ tables_1, d.before aw Z = true) (ws : List Jvm.Cond) (a0 : Addr) (a1 : Addr) (b0 : Addr) (b1 : Addr) (kk0 : ClassId) (kk1 : ClassId) (cs : Int32) (c0 : Int32) (d0 : Int32) (h0 : Heap) (n0 : Nat) (Z0 : n0 ≤ h0.size) (E0 : Exa Z h0 a0 "java/lang/String") (C0 : Fld Z h0 a0 "java/lang/String" "coder" "B" (.int (0 : Int32))) (V0 : Fld Z h0 a0 "java/lang/String" "value" "[B" (.ref b0)) (A0 : Arv Z h0 b0 kk0 .byte (1 : Int32) [(.int c0)] (.int (0 : Int32))) (E1 : Exa Z h0 a1 "java/lang/String") (C1 : Fld Z h0 a1 "java/lang/String" "coder" "B" (.int (0 : Int32))) (V1 : Fld Z h0 a1 "java/lang/String" "value" "[B" (.ref b1)) (A1 : Arv Z h0 b1 kk1 .byte (1 : Int32) [(.int d0)] (.int (0 : Int32))) (SC : Sta Z h0 "java/lang/String" "COMPACT_STRINGS" "Z" (.int cs)) (hcs : ¬ cs = (0 : Int32)) (hab : a0 = a1 → c0 = d0) :
    MetFree l (⟨"java/lang/String", "equals", "(Ljava/lang/Object;)Z"⟩ : MethodName) (head1 (Jvm.Cond.code (⟨"java/lang/String", "equals", "(Ljava/lang/Object;)Z"⟩ : MethodName) jdk_42_method_66_code 3 (some .boolean) :: ws) ({ frames := 1, cells := 0, slots := 0, locals := 14 } : Room)) (fun a U => a = #[(.ref a0), (.ref a1)] ∧ Z.Warmed39 U.vm ∧ U.heap = h0) (fun _ _ _ _ _ => True) (fun _ U oc U' => ∃ v L, oc = .returned v ∧ Q_rme1g Z a0 a1 b0 b1 kk0 kk1 cs c0 d0 h0 n0 v U'.heap L ∧ FrameEnd U oc U' L ({ frames := 1, cells := 0, slots := 0, locals := 14 } : Room).cells ({ frames := 1, cells := 0, slots := 0, locals := 14 } : Room).slots) := by
  refine MetFree.of_bodySF (plainFor_of_name pn_3) hisR ?_
  intro p e s m args below meth c s₁ Bd hml0 hP hK
  obtain ⟨rfl, hZ, hh⟩ := hP
  have hx := Bd.exec
  have hby := Bd.bytes
  have hml : c.maxLocals = 3 := hml0
  have hown : s.vm.findClass "java/lang/String" = some m.cls := findClass_of_methodNamed Bd.named
  have hnm := (name_of_methodNamed Bd.named Bd.method).1
  have X0 : Stand p l e ({ frames := 1, cells := 0, slots := 0, locals := 14 } : Room) s m #[(.ref a0), (.ref a1)] below meth c s₁ [] 0 0 := Stand.of_body Bd
  have e0 : s₁.heap = h0 := by rw [← hh, Bd.state]; rfl
  have N0 := Fr.nil n0
  have pre0 : ∀ t, Steps p.tables e below (s₁.setTop (mkF m 0 #[.val (.ref a0), .val (.ref a1), .unset] [])) t → Steps p.tables e below (s₁.setTop (entryFrame m #[(.ref a0), (.ref a1)] 3)) t := fun t k => castTop (ef_rme1g m a0 a1) k
  have pre1 : ∀ t, Steps p.tables e below (s₁.setTop (mkF m 2 #[.val (.ref a0), .val (.ref a1), .unset] [(.ref a1), (.ref a0)])) t → Steps p.tables e below (s₁.setTop (entryFrame m #[(.ref a0), (.ref a1)] 3)) t := fun t k => by
    refine pre0 t ?_
    show Steps p.tables e below (s₁.setTop (mkF m 0 #[.val (.ref a0), .val (.ref a1), .unset] [])) _
    refine XS.aloadN X0.here hx rfl (hb hby d3_0) rfl rfl ?_
    show Steps p.tables e below (s₁.setTop (mkF m 1 #[.val (.ref a0), .val (.ref a1), .unset] [(.ref a0)])) _
    refine XS.aloadN X0.here hx rfl (hb hby d3_1) rfl rfl ?_
    exact k
  by_cases hc2 : a0 = a1
  · obtain ⟨fs, hr, hrun, hended, hW, hsame⟩ := X0.leave (v := some (.int (1 : Int32))) (fun h => by rw [Bd.returns] at h; cases h)
    refine ⟨_, _, pre1 _ ?_, hrun, hended, _, _, rfl, ?_, ⟨_, rfl⟩, hW, hsame.mono (by decide) (by decide)⟩
    · show Steps p.tables e below (s₁.setTop (mkF m 2 #[.val (.ref a0), .val (.ref a1), .unset] [(.ref a1), (.ref a0)])) _
      refine Jvm.RoadKit.acmp (g := (mkF m 2 #[.val (.ref a0), .val (.ref a1), .unset] [(.ref a1), (.ref a0)])) X0 hx rfl rfl rfl (pc0 := 2) (pc' := 5) (same := true) rfl (hb hby d3_2) rfl (decide_eq_true (congrArg Value.ref hc2)) (by decide) (by decide) ?_
      show Steps p.tables e below (s₁.setTop (mkF m 5 #[.val (.ref a0), .val (.ref a1), .unset] [])) _
      refine XS.iconst X0.here hx rfl (hb hby d3_5) ?_
      show Steps p.tables e below (s₁.setTop (mkF m 6 #[.val (.ref a0), .val (.ref a1), .unset] [(.int (1 : Int32))])) _
      exact retN X0 hx (t := .boolean) Bd.returns (by simp) (hb hby d3_6) hr
    · show Q_rme1g Z a0 a1 b0 b1 kk0 kk1 cs c0 d0 h0 n0 _ s₁.heap _
      rw [e0]
      exact ⟨by rw [own_eq, if_pos (hab hc2)], N0, rfl⟩
  · obtain ⟨T3, X3, e3, st3⟩ := instY X0 hx hZ hown (hw _ (List.mem_of_getElem? (i := 28) rfl)) e0 (Ins.self E1) (g := (mkF m 8 #[.val (.ref a0), .val (.ref a1), .unset] [(.ref a1)])) rfl rfl (hb hby d3_8)
    obtain ⟨T4, X4, e4, st4⟩ := castY X3 hx hZ hown (hw _ (List.mem_of_getElem? (i := 28) rfl)) e3 (Ins.self E1) (g := (mkF m 15 #[.val (.ref a0), .val (.ref a1), .unset] [(.ref a1)])) rfl rfl (hb hby d3_15)
    obtain ⟨T5, X5, e5, st5⟩ := getS2 X4 hx hZ hown (host := "") (Or.inl (hw _ (List.mem_of_getElem? (i := 30) rfl))) Via.refl e4 SC (g := (mkF m 19 #[.val (.ref a0), .val (.ref a1), .val (.ref a1)] [])) rfl (hb hby d3_19)
    obtain ⟨T6, X6, e6, st6⟩ := getF X5 hx hZ hown (host := "") (Or.inl (hw _ (List.mem_of_getElem? (i := 31) rfl))) Via.refl e5 C0 (g := (mkF m 26 #[.val (.ref a0), .val (.ref a1), .val (.ref a1)] [(.ref a0)])) rfl rfl (hb hby d3_26)
    obtain ⟨T7, X7, e7, st7⟩ := getF X6 hx hZ hown (host := "") (Or.inl (hw _ (List.mem_of_getElem? (i := 31) rfl))) Via.refl e6 C1 (g := (mkF m 30 #[.val (.ref a0), .val (.ref a1), .val (.ref a1)] [(.ref a1), (.int (0 : Int32))])) rfl rfl (hb hby d3_30)
    obtain ⟨T8, X8, e8, st8⟩ := getF X7 hx hZ hown (host := "") (Or.inl (hw _ (List.mem_of_getElem? (i := 32) rfl))) Via.refl e7 V0 (g := (mkF m 37 #[.val (.ref a0), .val (.ref a1), .val (.ref a1)] [(.ref a0)])) rfl rfl (hb hby d3_37)
    obtain ⟨T9, X9, e9, st9⟩ := getF X8 hx hZ hown (host := "") (Or.inl (hw _ (List.mem_of_getElem? (i := 32) rfl))) Via.refl e8 V1 (g := (mkF m 41 #[.val (.ref a0), .val (.ref a1), .val (.ref a1)] [(.ref a1), (.ref b0)])) rfl rfl (hb hby d3_41)
    obtain ⟨_, _, ⟨T10, L10, k10, n10⟩, -, X10, ⟨Lc10, hQ10, l10, y10, z10⟩, st10⟩ := Jvm.LawKit.callS X9 hx (y := (⟨"java/lang/StringLatin1", "equals", "([B[B)Z"⟩ : MethodName)) hown (mvT hZ (hw _ (List.mem_of_getElem? (i := 33) rfl))) (mvT hZ (hw _ (List.mem_of_getElem? (i := 34) rfl))) (mvT hZ (hw _ (List.mem_of_getElem? (i := 35) rfl))) (mvT hZ (hw _ (List.mem_of_getElem? (i := 36) rfl))) (by decide) (backOf (W := 0) (rml1g l Z aw hw [] b0 b1 kk0 kk1 c0 d0 h0 n0 Z0 A0 A1) hZ (hw _ (List.mem_of_getElem? (i := 36) rfl)) (hw _ (List.mem_of_getElem? (i := 35) rfl)) (by decide) (by decide)) (g := (mkF m 44 #[.val (.ref a0), .val (.ref a1), .val (.ref a1)] [(.ref b1), (.ref b0)])) rfl (by rw [hml]; rfl) (argsL := [(.ref b0), (.ref b1)]) (rest := []) (lenOf pd_0 rfl) rfl (by show 2 * 0 + _ ≤ _; exact Nat.le_of_eq rfl) (hb hby d3_44) (fun _ _ => ⟨rfl, e9, (by decide : 0 + 0 ≤ _), (by decide : 0 + 0 ≤ _)⟩)
    dsimp only [Pt.U, Pt.locs, Pt.cells, Pt.slots] at X10 l10 y10 z10 st10 hQ10
    subst l10 y10 z10
    obtain ⟨rfl, N10q, e10⟩ := hQ10
    have N10 := Fr.app N0 N10q
    have pre11 : ∀ t, Steps p.tables e below (T10.setTop (mkF m 47 #[.val (.ref a0), .val (.ref a1), .val (.ref a1)] [(.int (own_eq c0 d0))])) t → Steps p.tables e below (s₁.setTop (entryFrame m #[(.ref a0), (.ref a1)] 3)) t := fun t k => by
      refine pre1 t ?_
      show Steps p.tables e below (s₁.setTop (mkF m 2 #[.val (.ref a0), .val (.ref a1), .unset] [(.ref a1), (.ref a0)])) _
      refine Jvm.RoadKit.acmp (g := (mkF m 2 #[.val (.ref a0), .val (.ref a1), .unset] [(.ref a1), (.ref a0)])) X0 hx rfl rfl rfl (pc0 := 2) (pc' := 7) (same := false) rfl (hb hby d3_2) rfl (decide_eq_false fun q => hc2 (Value.ref.inj q)) (by decide) (by decide) ?_
      show Steps p.tables e below (s₁.setTop (mkF m 7 #[.val (.ref a0), .val (.ref a1), .unset] [])) _
      refine XS.aloadN X0.here hx rfl (hb hby d3_7) rfl rfl ?_
      show Steps p.tables e below (s₁.setTop (mkF m 8 #[.val (.ref a0), .val (.ref a1), .unset] [(.ref a1)])) _
      refine st3 _ ?_
      show Steps p.tables e below (T3.setTop (mkF m 11 #[.val (.ref a0), .val (.ref a1), .unset] [(.int (1 : Int32))])) _
      refine XS.ifNo X3.here hx rfl (hb hby d3_11) rfl ((if0 _ _).trans (feq (by decide : ¬ ((1 : Int32) = (0 : Int32)))).1) ?_
      show Steps p.tables e below (T3.setTop (mkF m 14 #[.val (.ref a0), .val (.ref a1), .unset] [])) _
      refine XS.aloadN X3.here hx rfl (hb hby d3_14) rfl rfl ?_
      show Steps p.tables e below (T3.setTop (mkF m 15 #[.val (.ref a0), .val (.ref a1), .unset] [(.ref a1)])) _
      refine st4 _ ?_
      show Steps p.tables e below (T4.setTop (mkF m 18 #[.val (.ref a0), .val (.ref a1), .unset] [(.ref a1)])) _
      refine XS.astoreN X4.here hx rfl (hb hby d3_18) rfl rfl (l' := #[.val (.ref a0), .val (.ref a1), .val (.ref a1)]) rfl ?_
      show Steps p.tables e below (T4.setTop (mkF m 19 #[.val (.ref a0), .val (.ref a1), .val (.ref a1)] [])) _
      refine st5 _ ?_
      show Steps p.tables e below (T5.setTop (mkF m 22 #[.val (.ref a0), .val (.ref a1), .val (.ref a1)] [(.int cs)])) _
      refine XS.ifNo X5.here hx rfl (hb hby d3_22) rfl ((if0 _ _).trans (feq hcs).1) ?_
      show Steps p.tables e below (T5.setTop (mkF m 25 #[.val (.ref a0), .val (.ref a1), .val (.ref a1)] [])) _
      refine XS.aloadN X5.here hx rfl (hb hby d3_25) rfl rfl ?_
      show Steps p.tables e below (T5.setTop (mkF m 26 #[.val (.ref a0), .val (.ref a1), .val (.ref a1)] [(.ref a0)])) _
      refine st6 _ ?_
      show Steps p.tables e below (T6.setTop (mkF m 29 #[.val (.ref a0), .val (.ref a1), .val (.ref a1)] [(.int (0 : Int32))])) _
      refine XS.aloadN X6.here hx rfl (hb hby d3_29) rfl rfl ?_
      show Steps p.tables e below (T6.setTop (mkF m 30 #[.val (.ref a0), .val (.ref a1), .val (.ref a1)] [(.ref a1), (.int (0 : Int32))])) _
      refine st7 _ ?_
      show Steps p.tables e below (T7.setTop (mkF m 33 #[.val (.ref a0), .val (.ref a1), .val (.ref a1)] [(.int (0 : Int32)), (.int (0 : Int32))])) _
      refine XS.icmpNo X7.here hx rfl (hb hby d3_33) rfl (teq (by decide : (0 : Int32) = (0 : Int32))).2 ?_
      show Steps p.tables e below (T7.setTop (mkF m 36 #[.val (.ref a0), .val (.ref a1), .val (.ref a1)] [])) _
      refine XS.aloadN X7.here hx rfl (hb hby d3_36) rfl rfl ?_
      show Steps p.tables e below (T7.setTop (mkF m 37 #[.val (.ref a0), .val (.ref a1), .val (.ref a1)] [(.ref a0)])) _
      refine st8 _ ?_
      show Steps p.tables e below (T8.setTop (mkF m 40 #[.val (.ref a0), .val (.ref a1), .val (.ref a1)] [(.ref b0)])) _
      refine XS.aloadN X8.here hx rfl (hb hby d3_40) rfl rfl ?_
      show Steps p.tables e below (T8.setTop (mkF m 41 #[.val (.ref a0), .val (.ref a1), .val (.ref a1)] [(.ref a1), (.ref b0)])) _
      refine st9 _ ?_
      show Steps p.tables e below (T9.setTop (mkF m 44 #[.val (.ref a0), .val (.ref a1), .val (.ref a1)] [(.ref b1), (.ref b0)])) _
      refine st10 _ ?_
      exact k
    by_cases hc12 : (own_eq c0 d0) = (0 : Int32)
    · obtain ⟨fs, hr, hrun, hended, hW, hsame⟩ := X10.leave (v := some (.int (0 : Int32))) (fun h => by rw [Bd.returns] at h; cases h)
      refine ⟨_, _, pre11 _ ?_, hrun, hended, _, _, rfl, ?_, ⟨_, rfl⟩, hW, hsame.mono (by decide) (by decide)⟩
      · show Steps p.tables e below (T10.setTop (mkF m 47 #[.val (.ref a0), .val (.ref a1), .val (.ref a1)] [(.int (own_eq c0 d0))])) _
        refine XS.ifYes X10.here hx rfl (pc0 := 47) (pc' := 54) rfl (hb hby d3_47) rfl ((if0 _ _).trans (teq hc12).1) (by decide) (by decide) ?_
        show Steps p.tables e below (T10.setTop (mkF m 54 #[.val (.ref a0), .val (.ref a1), .val (.ref a1)] [])) _
        refine XS.iconst X10.here hx rfl (hb hby d3_54) ?_
        show Steps p.tables e below (T10.setTop (mkF m 55 #[.val (.ref a0), .val (.ref a1), .val (.ref a1)] [(.int (0 : Int32))])) _
        exact retN X10 hx (t := .boolean) Bd.returns (by simp) (hb hby d3_55) hr
      · show Q_rme1g Z a0 a1 b0 b1 kk0 kk1 cs c0 d0 h0 n0 _ T10.heap _
        rw [e10]
        exact ⟨own_eq_no hc12, N10, rfl⟩
    · obtain ⟨fs, hr, hrun, hended, hW, hsame⟩ := X10.leave (v := some (.int (1 : Int32))) (fun h => by rw [Bd.returns] at h; cases h)
      refine ⟨_, _, pre11 _ ?_, hrun, hended, _, _, rfl, ?_, ⟨_, rfl⟩, hW, hsame.mono (by decide) (by decide)⟩
      · show Steps p.tables e below (T10.setTop (mkF m 47 #[.val (.ref a0), .val (.ref a1), .val (.ref a1)] [(.int (own_eq c0 d0))])) _
        refine XS.ifNo X10.here hx rfl (hb hby d3_47) rfl ((if0 _ _).trans (feq hc12).1) ?_
        show Steps p.tables e below (T10.setTop (mkF m 50 #[.val (.ref a0), .val (.ref a1), .val (.ref a1)] [])) _
        refine XS.iconst X10.here hx rfl (hb hby d3_50) ?_
        show Steps p.tables e below (T10.setTop (mkF m 51 #[.val (.ref a0), .val (.ref a1), .val (.ref a1)] [(.int (1 : Int32))])) _
        refine XS.goto X10.here hx rfl (pc0 := 51) (pc' := 55) rfl (hb hby d3_51) (by decide) (by decide) ?_
        show Steps p.tables e below (T10.setTop (mkF m 55 #[.val (.ref a0), .val (.ref a1), .val (.ref a1)] [(.int (1 : Int32))])) _
        exact retN X10 hx (t := .boolean) Bd.returns (by simp) (hb hby d3_55) hr
      · show Q_rme1g Z a0 a1 b0 b1 kk0 kk1 cs c0 d0 h0 n0 _ T10.heap _
        rw [e10]
        exact ⟨own_eq_yes hc12, N10, rfl⟩
theorem pd_1 : parseMethodDescriptor "(I)Lcom/example/haris/haris/model/Verdict;" = some ⟨[.int], some (.object "com/example/haris/haris/model/Verdict")⟩ := by decide +kernel
theorem pd_2 : parseMethodDescriptor "()Ljava/lang/String;" = some ⟨[], some (.object "java/lang/String")⟩ := by decide +kernel
theorem pd_3 : parseMethodDescriptor "(Ljava/lang/Object;)Z" = some ⟨[(.object "java/lang/Object")], some .boolean⟩ := by decide +kernel
theorem pd_4 : parseMethodDescriptor "()Z" = some ⟨[], some .boolean⟩ := by decide +kernel
theorem ef_rm0 (m : MethodId) (x0 : Int32) : entryFrame m #[(.int x0)] maxLocals = mkF m 0 #[.val (.int x0), .unset, .unset, .unset, .unset] [] := by first | (simp [entryFrame, mkF, argsToLocals, Value.category, maxLocals]; done) | rfl
def Q0 (Z : State) (p0 : Int32) (wT : Addr) (wF : Addr) (wI : Addr) (cs : Int32) (sT : Addr) (bT : Addr) (kT : ClassId) (sF : Addr) (bF : Addr) (kF : ClassId) (sI : Addr) (bI : Addr) (kI : ClassId) (h0 : Heap) (n0 : Nat) (v : Option Value) (h : Heap) (L : List Loc) : Prop := v = some (.int 1) ∧ Fr n0 L
set_option maxRecDepth 65536 in
set_option maxHeartbeats 40000000 in
theorem rm0 (l : Launch) (Z : State) (aw : Array Value) (hw : ∀ d ∈ tables_1, d.before aw Z = true) (ws : List Jvm.Cond) (p0 : Int32) (wT : Addr) (wF : Addr) (wI : Addr) (cs : Int32) (sT : Addr) (bT : Addr) (kT : ClassId) (sF : Addr) (bF : Addr) (kF : ClassId) (sI : Addr) (bI : Addr) (kI : ClassId) (h0 : Heap) (n0 : Nat) (Z0 : n0 ≤ h0.size) (S_TRUE : Sta Z h0 "com/example/haris/haris/model/Verdict" "TRUE" "Lcom/example/haris/haris/model/Verdict;" (.ref wT)) (S_FALSE : Sta Z h0 "com/example/haris/haris/model/Verdict" "FALSE" "Lcom/example/haris/haris/model/Verdict;" (.ref wF)) (S_INCONCLUSIVE : Sta Z h0 "com/example/haris/haris/model/Verdict" "INCONCLUSIVE" "Lcom/example/haris/haris/model/Verdict;" (.ref wI)) (SC : Sta Z h0 "java/lang/String" "COMPACT_STRINGS" "Z" (.int cs)) (hcs : ¬ cs = (0 : Int32)) (nTF : wT ≠ wF) (nTI : wT ≠ wI) (nFI : wF ≠ wI) (EwT : Exa Z h0 wT "com/example/haris/haris/model/Verdict") (FwT : Fld Z h0 wT "com/example/haris/haris/model/Verdict" "symbol" "Ljava/lang/String;" (.ref sT)) (EsT : Exa Z h0 sT "java/lang/String") (CsT : Fld Z h0 sT "java/lang/String" "coder" "B" (.int (0 : Int32))) (VsT : Fld Z h0 sT "java/lang/String" "value" "[B" (.ref bT)) (AsT : Arv Z h0 bT kT .byte (1 : Int32) [(.int (84 : Int32))] (.int (0 : Int32))) (EwF : Exa Z h0 wF "com/example/haris/haris/model/Verdict") (FwF : Fld Z h0 wF "com/example/haris/haris/model/Verdict" "symbol" "Ljava/lang/String;" (.ref sF)) (EsF : Exa Z h0 sF "java/lang/String") (CsF : Fld Z h0 sF "java/lang/String" "coder" "B" (.int (0 : Int32))) (VsF : Fld Z h0 sF "java/lang/String" "value" "[B" (.ref bF)) (AsF : Arv Z h0 bF kF .byte (1 : Int32) [(.int (70 : Int32))] (.int (0 : Int32))) (EwI : Exa Z h0 wI "com/example/haris/haris/model/Verdict") (FwI : Fld Z h0 wI "com/example/haris/haris/model/Verdict" "symbol" "Ljava/lang/String;" (.ref sI)) (EsI : Exa Z h0 sI "java/lang/String") (CsI : Fld Z h0 sI "java/lang/String" "coder" "B" (.int (0 : Int32))) (VsI : Fld Z h0 sI "java/lang/String" "value" "[B" (.ref bI)) (AsI : Arv Z h0 bI kI .byte (1 : Int32) [(.int (63 : Int32))] (.int (0 : Int32))) :
    MetFree l x (head1 (Jvm.Cond.code x code maxLocals ret :: ws) room_1) (fun a U => a = #[(.int p0)] ∧ Z.Warmed39 U.vm ∧ U.heap = h0 ∧ CHv Z consts_1 U.vm h0) (fun _ _ _ _ _ => True) (fun _ U oc U' => ∃ v L, oc = .returned v ∧ Q0 Z p0 wT wF wI cs sT bT kT sF bF kF sI bI kI h0 n0 v U'.heap L ∧ ReturnedEndW U oc U' L room_1.cells room_1.slots) := by
  refine MetFree.of_bodySF (plainFor_of_name pn_0) hisR ?_
  intro p e s m args below meth c s₁ Bd hml0 hP hK
  obtain ⟨rfl, hZ, hh, hCH⟩ := hP
  have hx := Bd.exec
  have hby := Bd.bytes
  have hml : c.maxLocals = 5 := hml0
  have hown : s.vm.findClass "com/example/haris/haris/model/VerdictIsFinalPinLaw" = some m.cls := findClass_of_methodNamed Bd.named
  have hnm := (name_of_methodNamed Bd.named Bd.method).1
  have X0 : Stand p l e room_1 s m #[(.int p0)] below meth c s₁ [] 0 0 := Stand.of_body Bd
  have e0 : s₁.heap = h0 := by rw [← hh, Bd.state]; rfl
  have N0 := Fr.nil n0
  have hS0 : s.Since s.vm 0 := (State.WarmedH.refl s).since 0
  have hEL : EW Z aw consts_1 := (EW.cons (hw _ (List.mem_of_getElem? (i := 15) rfl)) (by decide) (EW.cons (hw _ (List.mem_of_getElem? (i := 45) rfl)) (by decide) EW.nil))
  have hwS : ∀ d ∈ Bundle.stringAtoms, d.before aw Z = true := by
    intro d hd
    simp only [Bundle.stringAtoms, List.mem_cons, List.not_mem_nil, or_false] at hd
    rcases hd with rfl | rfl | rfl | rfl | rfl | rfl | rfl
    · exact (hw _ (List.mem_of_getElem? (i := 16) rfl))
    · exact (hw _ (List.mem_of_getElem? (i := 17) rfl))
    · exact (hw _ (List.mem_of_getElem? (i := 18) rfl))
    · exact (hw _ (List.mem_of_getElem? (i := 19) rfl))
    · exact (hw _ (List.mem_of_getElem? (i := 20) rfl))
    · exact (hw _ (List.mem_of_getElem? (i := 21) rfl))
    · exact (hw _ (List.mem_of_getElem? (i := 22) rfl))
  have pre0 : ∀ t, Steps p.tables e below (s₁.setTop (mkF m 0 #[.val (.int p0), .unset, .unset, .unset, .unset] [])) t → Steps p.tables e below (s₁.setTop (entryFrame m #[(.int p0)] maxLocals)) t := fun t k => castTop (ef_rm0 m p0) k
  obtain ⟨_, _, ⟨T1, L1, k1, n1⟩, -, X1, ⟨Lc1, hQ1, l1, y1, z1⟩, st1⟩ := Jvm.LawKit.callS X0 hx (y := (⟨"com/example/haris/haris/model/VerdictIsFinalPinLaw", "pick", "(I)Lcom/example/haris/haris/model/Verdict;"⟩ : MethodName)) hown (mvT hZ (hw _ (List.mem_of_getElem? (i := 0) rfl))) (mvT hZ (hw _ (List.mem_of_getElem? (i := 1) rfl))) (mvT hZ (hw _ (List.mem_of_getElem? (i := 2) rfl))) (mvT hZ (hw _ (List.mem_of_getElem? (i := 3) rfl))) (by decide) (backOf (W := 0) (rm1 l Z aw hw [] p0 wT wF wI h0 n0 Z0 S_TRUE S_FALSE S_INCONCLUSIVE) hZ (hw _ (List.mem_of_getElem? (i := 3) rfl)) (hw _ (List.mem_of_getElem? (i := 2) rfl)) (by decide) (by decide)) (g := (mkF m 1 #[.val (.int p0), .unset, .unset, .unset, .unset] [(.int p0)])) rfl (by rw [hml]; rfl) (argsL := [(.int p0)]) (rest := []) (lenOf pd_1 rfl) rfl (by show 2 * 0 + _ ≤ _; exact Nat.le_of_eq rfl) (hb hby at_1) (fun _ _ => ⟨rfl, e0, (by decide : 0 + 0 ≤ _), (by decide : 0 + 0 ≤ _)⟩)
  dsimp only [Pt.U, Pt.locs, Pt.cells, Pt.slots] at X1 l1 y1 z1 st1 hQ1
  subst l1 y1 z1
  obtain ⟨rfl, N1q, e1⟩ := hQ1
  have N1 := Fr.app N0 N1q
  have pre2 : ∀ t, Steps p.tables e below (T1.setTop (mkF m 4 #[.val (.int p0), .unset, .unset, .unset, .unset] [(.ref (own_pick p0 wT wF wI))])) t → Steps p.tables e below (s₁.setTop (entryFrame m #[(.int p0)] maxLocals)) t := fun t k => by
    refine pre0 t ?_
    show Steps p.tables e below (s₁.setTop (mkF m 0 #[.val (.int p0), .unset, .unset, .unset, .unset] [])) _
    refine XS.iloadN X0.here hx rfl (hb hby at_0) rfl ?_
    show Steps p.tables e below (s₁.setTop (mkF m 1 #[.val (.int p0), .unset, .unset, .unset, .unset] [(.int p0)])) _
    refine st1 _ ?_
    exact k
  rcases own_pick_in p0 wT wF wI with q | q | q
  · rw [q] at pre2
    obtain ⟨cq3, kq3, q3a, q3b, q3c⟩ := isOf hZ e1 EwT
    obtain ⟨_, _, ⟨T3, L3, k3, n3⟩, -, X3, ⟨Lc3, hQ3, l3, y3, z3⟩, st3⟩ := X1.virtualBack hx (y := (⟨"com/example/haris/haris/model/Verdict", "symbol", "()Ljava/lang/String;"⟩ : MethodName)) (z := (⟨"com/example/haris/haris/model/Verdict", "symbol", "()Ljava/lang/String;"⟩ : MethodName)) hown (mvT hZ (hw _ (List.mem_of_getElem? (i := 8) rfl))) (mvT hZ (hw _ (List.mem_of_getElem? (i := 9) rfl))) (notFace_of_selects (args := #[]) (mvT hZ (hw _ (List.mem_of_getElem? (i := 11) rfl)))) (mvT hZ (hw _ (List.mem_of_getElem? (i := 11) rfl))) (mvT hZ (hw _ (List.mem_of_getElem? (i := 10) rfl))) (by decide) (backOf (W := 0) (rm2 l Z aw hw [] wT sT h0 n0 Z0 FwT) hZ (hw _ (List.mem_of_getElem? (i := 12) rfl)) (hw _ (List.mem_of_getElem? (i := 6) rfl)) (by decide) (by decide)) q3a q3c (g := (mkF m 6 #[.val (.int p0), .val (.ref wT), .unset, .unset, .unset] [(.ref wT)])) rfl (by rw [hml]; rfl) (Steps.refl _) (argsL := []) (rest := []) (lenOf pd_2 rfl) rfl (by show 2 * 0 + _ ≤ _; exact Nat.le_of_eq rfl) (hb hby at_6) (fun _ _ => ⟨rfl, e1, (by decide : 0 + 0 ≤ _), (by decide : 0 + 0 ≤ _)⟩)
    dsimp only [Pt.U, Pt.locs, Pt.cells, Pt.slots] at X3 l3 y3 z3 st3 hQ3
    subst l3 y3 z3
    obtain ⟨rfl, N3q, e3⟩ := hQ3
    have N3 := Fr.app N1 N3q
    obtain ⟨a4, T4, h4, k14, b4, kc4, X4, e4, E4, hS4, hk4, hZ4, hown4, Ea4, Fc4, Fv4, Ab4, la4, lb4, hC4, hL4, hs4, st4⟩ := ldcCH (s := s) (vm0 := s.vm) X3 hx hZ hown (hw _ (List.mem_of_getElem? (i := 15) rfl)) hwS e3 hS0 (Nat.zero_le _) hEL (by simp [consts_1]) hCH (vs := [(.int (84 : Int32))]) (z := (1 : Int32)) ⟨by decide, rfl⟩ (by decide) rfl (g := (mkF m 11 #[.val (.int p0), .val (.ref wT), .val (.ref sT), .unset, .unset] [(.ref sT)])) rfl (hb hby at_11) (n := 4) (by decide) (by decide) (by decide) (by decide)
    have f5 := S_TRUE.ext E4
    have f6 := S_FALSE.ext E4
    have f7 := S_INCONCLUSIVE.ext E4
    have f8 := SC.ext E4
    have f9 := EwT.ext E4
    have f10 := FwT.ext E4
    have f11 := EsT.ext E4
    have f12 := CsT.ext E4
    have f13 := VsT.ext E4
    have f14 := AsT.ext E4
    have f15 := EwF.ext E4
    have f16 := FwF.ext E4
    have f17 := EsF.ext E4
    have f18 := CsF.ext E4
    have f19 := VsF.ext E4
    have f20 := AsF.ext E4
    have f21 := EwI.ext E4
    have f22 := FwI.ext E4
    have f23 := EsI.ext E4
    have f24 := CsI.ext E4
    have f25 := VsI.ext E4
    have f26 := AsI.ext E4
    have Z4 : n0 ≤ h4.size := Nat.le_trans Z0 E4.1
    obtain ⟨cq27, kq27, q27a, q27b, q27c⟩ := isOf hZ4 e4 f11
    obtain ⟨_, _, ⟨T27, L27, k27, n27⟩, -, X27, ⟨Lc27, hQ27, l27, y27, z27⟩, st27⟩ := X4.virtualBack hx (y := (⟨"java/lang/String", "equals", "(Ljava/lang/Object;)Z"⟩ : MethodName)) (z := (⟨"java/lang/String", "equals", "(Ljava/lang/Object;)Z"⟩ : MethodName)) hown4 (mvT hZ4 (hw _ (List.mem_of_getElem? (i := 23) rfl))) (mvT hZ4 (hw _ (List.mem_of_getElem? (i := 24) rfl))) (notFace_of_selects (args := #[]) (mvT hZ4 (hw _ (List.mem_of_getElem? (i := 26) rfl)))) (mvT hZ4 (hw _ (List.mem_of_getElem? (i := 26) rfl))) (mvT hZ4 (hw _ (List.mem_of_getElem? (i := 25) rfl))) (by decide) (backOf (W := 0) (rme1g l Z aw hw [] sT a4 bT b4 kT kc4 cs (84 : Int32) (84 : Int32) h4 n0 Z4 f11 f12 f13 f14 Ea4 Fc4 Fv4 Ab4 f8 hcs (fun _ => rfl)) hZ4 (hw _ (List.mem_of_getElem? (i := 27) rfl)) (hw _ (List.mem_of_getElem? (i := 16) rfl)) (by decide) (by decide)) q27a q27c (g := (mkF m 13 #[.val (.int p0), .val (.ref wT), .val (.ref sT), .unset, .unset] [(.ref a4), (.ref sT)])) rfl (by rw [hml]; rfl) (Steps.refl _) (argsL := [(.ref a4)]) (rest := []) (lenOf pd_3 rfl) rfl (by show 2 * 0 + _ ≤ _; exact Nat.le_of_eq rfl) (hb hby at_13) (fun _ _ => ⟨rfl, e4, (by decide : 2 + 0 ≤ _), (by decide : 8 + 0 ≤ _)⟩)
    dsimp only [Pt.U, Pt.locs, Pt.cells, Pt.slots] at X27 l27 y27 z27 st27 hQ27
    subst l27 y27 z27
    obtain ⟨hv27, N27q, e27⟩ := hQ27
    rw [show own_eq (84 : Int32) (84 : Int32) = (1 : Int32) from rfl] at hv27
    subst hv27
    have N27 := Fr.app N3 N27q
    obtain ⟨T28, X28, e28, st28⟩ := getS2 X27 hx hZ4 hown4 (host := "") (Or.inl (hw _ (List.mem_of_getElem? (i := 5) rfl))) Via.refl e27 f5 (g := (mkF m 35 #[.val (.int p0), .val (.ref wT), .val (.ref sT), .val (.int (1 : Int32)), .unset] [(.ref wT)])) rfl (hb hby at_35)
    obtain ⟨cq29, kq29, q29a, q29b, q29c⟩ := isOf hZ4 e28 f9
    obtain ⟨_, _, ⟨T29, L29, k29, n29⟩, -, X29, ⟨Lc29, hQ29, l29, y29, z29⟩, st29⟩ := X28.virtualBack hx (y := (⟨"com/example/haris/haris/model/Verdict", "isFinal", "()Z"⟩ : MethodName)) (z := (⟨"com/example/haris/haris/model/Verdict", "isFinal", "()Z"⟩ : MethodName)) hown4 (mvT hZ4 (hw _ (List.mem_of_getElem? (i := 37) rfl))) (mvT hZ4 (hw _ (List.mem_of_getElem? (i := 38) rfl))) (notFace_of_selects (args := #[]) (mvT hZ4 (hw _ (List.mem_of_getElem? (i := 40) rfl)))) (mvT hZ4 (hw _ (List.mem_of_getElem? (i := 40) rfl))) (mvT hZ4 (hw _ (List.mem_of_getElem? (i := 39) rfl))) (by decide) (backOf (W := 0) (rm5 l Z aw hw [] wT wT wF wI h4 n0 Z4 f5 f6 f7) hZ4 (hw _ (List.mem_of_getElem? (i := 41) rfl)) (hw _ (List.mem_of_getElem? (i := 6) rfl)) (by decide) (by decide)) q29a q29c (g := (mkF m 56 #[.val (.int p0), .val (.ref wT), .val (.ref sT), .val (.int (1 : Int32)), .val (.int (1 : Int32))] [(.ref wT)])) rfl (by rw [hml]; rfl) (Steps.refl _) (argsL := []) (rest := []) (lenOf pd_4 rfl) rfl (by show 2 * 0 + _ ≤ _; exact Nat.le_of_eq rfl) (hb hby at_56) (fun _ _ => ⟨rfl, e28, (by decide : 2 + 0 ≤ _), (by decide : 8 + 0 ≤ _)⟩)
    dsimp only [Pt.U, Pt.locs, Pt.cells, Pt.slots] at X29 l29 y29 z29 st29 hQ29
    subst l29 y29 z29
    obtain ⟨hv29, N29q, e29⟩ := hQ29
    rw [own_fin_no nTI] at hv29
    subst hv29
    have N29 := Fr.app N27 N29q
    obtain ⟨cq30, kq30, q30a, q30b, q30c⟩ := isOf hZ4 e29 f9
    obtain ⟨_, _, ⟨T30, L30, k30, n30⟩, -, X30, ⟨Lc30, hQ30, l30, y30, z30⟩, st30⟩ := X29.virtualBack hx (y := (⟨"com/example/haris/haris/model/Verdict", "isFinal", "()Z"⟩ : MethodName)) (z := (⟨"com/example/haris/haris/model/Verdict", "isFinal", "()Z"⟩ : MethodName)) hown4 (mvT hZ4 (hw _ (List.mem_of_getElem? (i := 37) rfl))) (mvT hZ4 (hw _ (List.mem_of_getElem? (i := 38) rfl))) (notFace_of_selects (args := #[]) (mvT hZ4 (hw _ (List.mem_of_getElem? (i := 40) rfl)))) (mvT hZ4 (hw _ (List.mem_of_getElem? (i := 40) rfl))) (mvT hZ4 (hw _ (List.mem_of_getElem? (i := 39) rfl))) (by decide) (backOf (W := 0) (rm5 l Z aw hw [] wT wT wF wI h4 n0 Z4 f5 f6 f7) hZ4 (hw _ (List.mem_of_getElem? (i := 41) rfl)) (hw _ (List.mem_of_getElem? (i := 6) rfl)) (by decide) (by decide)) q30a q30c (g := (mkF m 64 #[.val (.int p0), .val (.ref wT), .val (.ref sT), .val (.int (1 : Int32)), .val (.int (1 : Int32))] [(.ref wT)])) rfl (by rw [hml]; rfl) (Steps.refl _) (argsL := []) (rest := []) (lenOf pd_4 rfl) rfl (by show 2 * 0 + _ ≤ _; exact Nat.le_of_eq rfl) (hb hby at_64) (fun _ _ => ⟨rfl, e29, (by decide : 2 + 0 ≤ _), (by decide : 8 + 0 ≤ _)⟩)
    dsimp only [Pt.U, Pt.locs, Pt.cells, Pt.slots] at X30 l30 y30 z30 st30 hQ30
    subst l30 y30 z30
    obtain ⟨hv30, N30q, e30⟩ := hQ30
    rw [own_fin_no nTI] at hv30
    subst hv30
    have N30 := Fr.app N29 N30q
    obtain ⟨fs, hr, hrun, hended, r1, r2, r3, r4⟩ := X30.leaveW (s := s) hS4 (by rw [e30]; exact hk4) (v := some (.int (1 : Int32))) (fun h => by rw [Bd.returns] at h; cases h)
    refine ⟨_, _, pre2 _ ?_, hrun, hended, _, _, rfl, ?_, r1, r2, r3, r4.mono (by decide) (by decide)⟩
    · show Steps p.tables e below (T1.setTop (mkF m 4 #[.val (.int p0), .unset, .unset, .unset, .unset] [(.ref wT)])) _
      refine XS.astoreN X1.here hx rfl (hb hby at_4) rfl rfl (l' := #[.val (.int p0), .val (.ref wT), .unset, .unset, .unset]) rfl ?_
      show Steps p.tables e below (T1.setTop (mkF m 5 #[.val (.int p0), .val (.ref wT), .unset, .unset, .unset] [])) _
      refine XS.aloadN X1.here hx rfl (hb hby at_5) rfl rfl ?_
      show Steps p.tables e below (T1.setTop (mkF m 6 #[.val (.int p0), .val (.ref wT), .unset, .unset, .unset] [(.ref wT)])) _
      refine st3.trans ?_
      show Steps p.tables e below (T3.setTop (mkF m 9 #[.val (.int p0), .val (.ref wT), .unset, .unset, .unset] [(.ref sT)])) _
      refine XS.astoreN X3.here hx rfl (hb hby at_9) rfl rfl (l' := #[.val (.int p0), .val (.ref wT), .val (.ref sT), .unset, .unset]) rfl ?_
      show Steps p.tables e below (T3.setTop (mkF m 10 #[.val (.int p0), .val (.ref wT), .val (.ref sT), .unset, .unset] [])) _
      refine XS.aloadN X3.here hx rfl (hb hby at_10) rfl rfl ?_
      show Steps p.tables e below (T3.setTop (mkF m 11 #[.val (.int p0), .val (.ref wT), .val (.ref sT), .unset, .unset] [(.ref sT)])) _
      refine st4 _ ?_
      show Steps p.tables e below (T4.setTop (mkF m 13 #[.val (.int p0), .val (.ref wT), .val (.ref sT), .unset, .unset] [(.ref a4), (.ref sT)])) _
      refine st27.trans ?_
      show Steps p.tables e below (T27.setTop (mkF m 16 #[.val (.int p0), .val (.ref wT), .val (.ref sT), .unset, .unset] [(.int (1 : Int32))])) _
      refine XS.ifYes X27.here hx rfl (pc0 := 16) (pc' := 28) rfl (hb hby at_16) rfl ((if0 _ _).trans (feq (by decide : ¬ ((1 : Int32) = (0 : Int32)))).2) (by decide) (by decide) ?_
      show Steps p.tables e below (T27.setTop (mkF m 28 #[.val (.int p0), .val (.ref wT), .val (.ref sT), .unset, .unset] [])) _
      refine XS.iconst X27.here hx rfl (hb hby at_28) ?_
      show Steps p.tables e below (T27.setTop (mkF m 29 #[.val (.int p0), .val (.ref wT), .val (.ref sT), .unset, .unset] [(.int (1 : Int32))])) _
      refine XS.goto X27.here hx rfl (pc0 := 29) (pc' := 33) rfl (hb hby at_29) (by decide) (by decide) ?_
      show Steps p.tables e below (T27.setTop (mkF m 33 #[.val (.int p0), .val (.ref wT), .val (.ref sT), .unset, .unset] [(.int (1 : Int32))])) _
      refine XS.istoreN X27.here hx rfl (hb hby at_33) rfl (l' := #[.val (.int p0), .val (.ref wT), .val (.ref sT), .val (.int (1 : Int32)), .unset]) rfl ?_
      show Steps p.tables e below (T27.setTop (mkF m 34 #[.val (.int p0), .val (.ref wT), .val (.ref sT), .val (.int (1 : Int32)), .unset] [])) _
      refine XS.aloadN X27.here hx rfl (hb hby at_34) rfl rfl ?_
      show Steps p.tables e below (T27.setTop (mkF m 35 #[.val (.int p0), .val (.ref wT), .val (.ref sT), .val (.int (1 : Int32)), .unset] [(.ref wT)])) _
      refine st28 _ ?_
      show Steps p.tables e below (T28.setTop (mkF m 38 #[.val (.int p0), .val (.ref wT), .val (.ref sT), .val (.int (1 : Int32)), .unset] [(.ref wT), (.ref wT)])) _
      refine Jvm.RoadKit.acmp (g := (mkF m 38 #[.val (.int p0), .val (.ref wT), .val (.ref sT), .val (.int (1 : Int32)), .unset] [(.ref wT), (.ref wT)])) X28 hx rfl rfl rfl (pc0 := 38) (pc' := 48) (same := true) rfl (hb hby at_38) rfl (decide_eq_true rfl) (by decide) (by decide) ?_
      show Steps p.tables e below (T28.setTop (mkF m 48 #[.val (.int p0), .val (.ref wT), .val (.ref sT), .val (.int (1 : Int32)), .unset] [])) _
      refine XS.iconst X28.here hx rfl (hb hby at_48) ?_
      show Steps p.tables e below (T28.setTop (mkF m 49 #[.val (.int p0), .val (.ref wT), .val (.ref sT), .val (.int (1 : Int32)), .unset] [(.int (1 : Int32))])) _
      refine XS.goto X28.here hx rfl (pc0 := 49) (pc' := 53) rfl (hb hby at_49) (by decide) (by decide) ?_
      show Steps p.tables e below (T28.setTop (mkF m 53 #[.val (.int p0), .val (.ref wT), .val (.ref sT), .val (.int (1 : Int32)), .unset] [(.int (1 : Int32))])) _
      refine XS.istore X28.here hx rfl (hb hby at_53) rfl (l' := #[.val (.int p0), .val (.ref wT), .val (.ref sT), .val (.int (1 : Int32)), .val (.int (1 : Int32))]) rfl ?_
      show Steps p.tables e below (T28.setTop (mkF m 55 #[.val (.int p0), .val (.ref wT), .val (.ref sT), .val (.int (1 : Int32)), .val (.int (1 : Int32))] [])) _
      refine XS.aloadN X28.here hx rfl (hb hby at_55) rfl rfl ?_
      show Steps p.tables e below (T28.setTop (mkF m 56 #[.val (.int p0), .val (.ref wT), .val (.ref sT), .val (.int (1 : Int32)), .val (.int (1 : Int32))] [(.ref wT)])) _
      refine st29.trans ?_
      show Steps p.tables e below (T29.setTop (mkF m 59 #[.val (.int p0), .val (.ref wT), .val (.ref sT), .val (.int (1 : Int32)), .val (.int (1 : Int32))] [(.int (1 : Int32))])) _
      refine XS.iloadN X29.here hx rfl (hb hby at_59) rfl ?_
      show Steps p.tables e below (T29.setTop (mkF m 60 #[.val (.int p0), .val (.ref wT), .val (.ref sT), .val (.int (1 : Int32)), .val (.int (1 : Int32))] [(.int (1 : Int32)), (.int (1 : Int32))])) _
      refine XS.icmpNo X29.here hx rfl (hb hby at_60) rfl (teq (by decide : (1 : Int32) = (1 : Int32))).2 ?_
      show Steps p.tables e below (T29.setTop (mkF m 63 #[.val (.int p0), .val (.ref wT), .val (.ref sT), .val (.int (1 : Int32)), .val (.int (1 : Int32))] [])) _
      refine XS.aloadN X29.here hx rfl (hb hby at_63) rfl rfl ?_
      show Steps p.tables e below (T29.setTop (mkF m 64 #[.val (.int p0), .val (.ref wT), .val (.ref sT), .val (.int (1 : Int32)), .val (.int (1 : Int32))] [(.ref wT)])) _
      refine st30.trans ?_
      show Steps p.tables e below (T30.setTop (mkF m 67 #[.val (.int p0), .val (.ref wT), .val (.ref sT), .val (.int (1 : Int32)), .val (.int (1 : Int32))] [(.int (1 : Int32))])) _
      refine XS.iload X30.here hx rfl (hb hby at_67) rfl ?_
      show Steps p.tables e below (T30.setTop (mkF m 69 #[.val (.int p0), .val (.ref wT), .val (.ref sT), .val (.int (1 : Int32)), .val (.int (1 : Int32))] [(.int (1 : Int32)), (.int (1 : Int32))])) _
      refine XS.icmpNo X30.here hx rfl (hb hby at_69) rfl (teq (by decide : (1 : Int32) = (1 : Int32))).2 ?_
      show Steps p.tables e below (T30.setTop (mkF m 72 #[.val (.int p0), .val (.ref wT), .val (.ref sT), .val (.int (1 : Int32)), .val (.int (1 : Int32))] [])) _
      refine XS.iconst X30.here hx rfl (hb hby at_72) ?_
      show Steps p.tables e below (T30.setTop (mkF m 73 #[.val (.int p0), .val (.ref wT), .val (.ref sT), .val (.int (1 : Int32)), .val (.int (1 : Int32))] [(.int (1 : Int32))])) _
      refine XS.goto X30.here hx rfl (pc0 := 73) (pc' := 77) rfl (hb hby at_73) (by decide) (by decide) ?_
      show Steps p.tables e below (T30.setTop (mkF m 77 #[.val (.int p0), .val (.ref wT), .val (.ref sT), .val (.int (1 : Int32)), .val (.int (1 : Int32))] [(.int (1 : Int32))])) _
      exact retN X30 hx (t := .boolean) Bd.returns (by simp) (hb hby at_77) hr
    · exact ⟨rfl, N30⟩
  · rw [q] at pre2
    obtain ⟨cq31, kq31, q31a, q31b, q31c⟩ := isOf hZ e1 EwF
    obtain ⟨_, _, ⟨T31, L31, k31, n31⟩, -, X31, ⟨Lc31, hQ31, l31, y31, z31⟩, st31⟩ := X1.virtualBack hx (y := (⟨"com/example/haris/haris/model/Verdict", "symbol", "()Ljava/lang/String;"⟩ : MethodName)) (z := (⟨"com/example/haris/haris/model/Verdict", "symbol", "()Ljava/lang/String;"⟩ : MethodName)) hown (mvT hZ (hw _ (List.mem_of_getElem? (i := 8) rfl))) (mvT hZ (hw _ (List.mem_of_getElem? (i := 9) rfl))) (notFace_of_selects (args := #[]) (mvT hZ (hw _ (List.mem_of_getElem? (i := 11) rfl)))) (mvT hZ (hw _ (List.mem_of_getElem? (i := 11) rfl))) (mvT hZ (hw _ (List.mem_of_getElem? (i := 10) rfl))) (by decide) (backOf (W := 0) (rm2 l Z aw hw [] wF sF h0 n0 Z0 FwF) hZ (hw _ (List.mem_of_getElem? (i := 12) rfl)) (hw _ (List.mem_of_getElem? (i := 6) rfl)) (by decide) (by decide)) q31a q31c (g := (mkF m 6 #[.val (.int p0), .val (.ref wF), .unset, .unset, .unset] [(.ref wF)])) rfl (by rw [hml]; rfl) (Steps.refl _) (argsL := []) (rest := []) (lenOf pd_2 rfl) rfl (by show 2 * 0 + _ ≤ _; exact Nat.le_of_eq rfl) (hb hby at_6) (fun _ _ => ⟨rfl, e1, (by decide : 0 + 0 ≤ _), (by decide : 0 + 0 ≤ _)⟩)
    dsimp only [Pt.U, Pt.locs, Pt.cells, Pt.slots] at X31 l31 y31 z31 st31 hQ31
    subst l31 y31 z31
    obtain ⟨rfl, N31q, e31⟩ := hQ31
    have N31 := Fr.app N1 N31q
    obtain ⟨a32, T32, h32, k132, b32, kc32, X32, e32, E32, hS32, hk32, hZ32, hown32, Ea32, Fc32, Fv32, Ab32, la32, lb32, hC32, hL32, hs32, st32⟩ := ldcCH (s := s) (vm0 := s.vm) X31 hx hZ hown (hw _ (List.mem_of_getElem? (i := 15) rfl)) hwS e31 hS0 (Nat.zero_le _) hEL (by simp [consts_1]) hCH (vs := [(.int (84 : Int32))]) (z := (1 : Int32)) ⟨by decide, rfl⟩ (by decide) rfl (g := (mkF m 11 #[.val (.int p0), .val (.ref wF), .val (.ref sF), .unset, .unset] [(.ref sF)])) rfl (hb hby at_11) (n := 4) (by decide) (by decide) (by decide) (by decide)
    have f33 := S_TRUE.ext E32
    have f34 := S_FALSE.ext E32
    have f35 := S_INCONCLUSIVE.ext E32
    have f36 := SC.ext E32
    have f37 := EwT.ext E32
    have f38 := FwT.ext E32
    have f39 := EsT.ext E32
    have f40 := CsT.ext E32
    have f41 := VsT.ext E32
    have f42 := AsT.ext E32
    have f43 := EwF.ext E32
    have f44 := FwF.ext E32
    have f45 := EsF.ext E32
    have f46 := CsF.ext E32
    have f47 := VsF.ext E32
    have f48 := AsF.ext E32
    have f49 := EwI.ext E32
    have f50 := FwI.ext E32
    have f51 := EsI.ext E32
    have f52 := CsI.ext E32
    have f53 := VsI.ext E32
    have f54 := AsI.ext E32
    have Z32 : n0 ≤ h32.size := Nat.le_trans Z0 E32.1
    obtain ⟨cq55, kq55, q55a, q55b, q55c⟩ := isOf hZ32 e32 f45
    obtain ⟨_, _, ⟨T55, L55, k55, n55⟩, -, X55, ⟨Lc55, hQ55, l55, y55, z55⟩, st55⟩ := X32.virtualBack hx (y := (⟨"java/lang/String", "equals", "(Ljava/lang/Object;)Z"⟩ : MethodName)) (z := (⟨"java/lang/String", "equals", "(Ljava/lang/Object;)Z"⟩ : MethodName)) hown32 (mvT hZ32 (hw _ (List.mem_of_getElem? (i := 23) rfl))) (mvT hZ32 (hw _ (List.mem_of_getElem? (i := 24) rfl))) (notFace_of_selects (args := #[]) (mvT hZ32 (hw _ (List.mem_of_getElem? (i := 26) rfl)))) (mvT hZ32 (hw _ (List.mem_of_getElem? (i := 26) rfl))) (mvT hZ32 (hw _ (List.mem_of_getElem? (i := 25) rfl))) (by decide) (backOf (W := 0) (rme1g l Z aw hw [] sF a32 bF b32 kF kc32 cs (70 : Int32) (84 : Int32) h32 n0 Z32 f45 f46 f47 f48 Ea32 Fc32 Fv32 Ab32 f36 hcs (fun q => absurd q (Fld.ne f47 Fv32 (fun q => arv_ne f48 Ab32 (Or.inr ⟨0, by decide, by decide⟩) (Value.ref.inj q))))) hZ32 (hw _ (List.mem_of_getElem? (i := 27) rfl)) (hw _ (List.mem_of_getElem? (i := 16) rfl)) (by decide) (by decide)) q55a q55c (g := (mkF m 13 #[.val (.int p0), .val (.ref wF), .val (.ref sF), .unset, .unset] [(.ref a32), (.ref sF)])) rfl (by rw [hml]; rfl) (Steps.refl _) (argsL := [(.ref a32)]) (rest := []) (lenOf pd_3 rfl) rfl (by show 2 * 0 + _ ≤ _; exact Nat.le_of_eq rfl) (hb hby at_13) (fun _ _ => ⟨rfl, e32, (by decide : 2 + 0 ≤ _), (by decide : 8 + 0 ≤ _)⟩)
    dsimp only [Pt.U, Pt.locs, Pt.cells, Pt.slots] at X55 l55 y55 z55 st55 hQ55
    subst l55 y55 z55
    obtain ⟨hv55, N55q, e55⟩ := hQ55
    rw [show own_eq (70 : Int32) (84 : Int32) = (0 : Int32) from rfl] at hv55
    subst hv55
    have N55 := Fr.app N31 N55q
    obtain ⟨a56, T56, h56, k156, b56, kc56, X56, e56, E56, hS56, hk56, hZ56, hown56, Ea56, Fc56, Fv56, Ab56, la56, lb56, hC56, hL56, hs56, st56⟩ := ldcCH (s := s) (vm0 := T32.vm) X55 hx hZ32 hown32 (hw _ (List.mem_of_getElem? (i := 45) rfl)) hwS e55 hS32 hk32 hEL (by simp [consts_1]) hC32.1 (vs := [(.int (70 : Int32))]) (z := (1 : Int32)) ⟨by decide, rfl⟩ (by decide) rfl (g := (mkF m 20 #[.val (.int p0), .val (.ref wF), .val (.ref sF), .unset, .unset] [(.ref sF)])) rfl (hb hby at_20) (n := 4) (by decide) (by decide) (by decide) (by decide)
    have f57 := f33.ext E56
    have f58 := f34.ext E56
    have f59 := f35.ext E56
    have f60 := f36.ext E56
    have f61 := f37.ext E56
    have f62 := f38.ext E56
    have f63 := f39.ext E56
    have f64 := f40.ext E56
    have f65 := f41.ext E56
    have f66 := f42.ext E56
    have f67 := f43.ext E56
    have f68 := f44.ext E56
    have f69 := f45.ext E56
    have f70 := f46.ext E56
    have f71 := f47.ext E56
    have f72 := f48.ext E56
    have f73 := f49.ext E56
    have f74 := f50.ext E56
    have f75 := f51.ext E56
    have f76 := f52.ext E56
    have f77 := f53.ext E56
    have f78 := f54.ext E56
    have f79 := Ea32.ext E56
    have f80 := Fc32.ext E56
    have f81 := Fv32.ext E56
    have f82 := Ab32.ext E56
    have Z56 : n0 ≤ h56.size := Nat.le_trans Z32 E56.1
    obtain ⟨cq83, kq83, q83a, q83b, q83c⟩ := isOf hZ56 e56 f69
    obtain ⟨_, _, ⟨T83, L83, k83, n83⟩, -, X83, ⟨Lc83, hQ83, l83, y83, z83⟩, st83⟩ := X56.virtualBack hx (y := (⟨"java/lang/String", "equals", "(Ljava/lang/Object;)Z"⟩ : MethodName)) (z := (⟨"java/lang/String", "equals", "(Ljava/lang/Object;)Z"⟩ : MethodName)) hown56 (mvT hZ56 (hw _ (List.mem_of_getElem? (i := 23) rfl))) (mvT hZ56 (hw _ (List.mem_of_getElem? (i := 24) rfl))) (notFace_of_selects (args := #[]) (mvT hZ56 (hw _ (List.mem_of_getElem? (i := 26) rfl)))) (mvT hZ56 (hw _ (List.mem_of_getElem? (i := 26) rfl))) (mvT hZ56 (hw _ (List.mem_of_getElem? (i := 25) rfl))) (by decide) (backOf (W := 0) (rme1g l Z aw hw [] sF a56 bF b56 kF kc56 cs (70 : Int32) (70 : Int32) h56 n0 Z56 f69 f70 f71 f72 Ea56 Fc56 Fv56 Ab56 f60 hcs (fun _ => rfl)) hZ56 (hw _ (List.mem_of_getElem? (i := 27) rfl)) (hw _ (List.mem_of_getElem? (i := 16) rfl)) (by decide) (by decide)) q83a q83c (g := (mkF m 22 #[.val (.int p0), .val (.ref wF), .val (.ref sF), .unset, .unset] [(.ref a56), (.ref sF)])) rfl (by rw [hml]; rfl) (Steps.refl _) (argsL := [(.ref a56)]) (rest := []) (lenOf pd_3 rfl) rfl (by show 2 * 0 + _ ≤ _; exact Nat.le_of_eq rfl) (hb hby at_22) (fun _ _ => ⟨rfl, e56, (by decide : 4 + 0 ≤ _), (by decide : 16 + 0 ≤ _)⟩)
    dsimp only [Pt.U, Pt.locs, Pt.cells, Pt.slots] at X83 l83 y83 z83 st83 hQ83
    subst l83 y83 z83
    obtain ⟨hv83, N83q, e83⟩ := hQ83
    rw [show own_eq (70 : Int32) (70 : Int32) = (1 : Int32) from rfl] at hv83
    subst hv83
    have N83 := Fr.app N55 N83q
    obtain ⟨T84, X84, e84, st84⟩ := getS2 X83 hx hZ56 hown56 (host := "") (Or.inl (hw _ (List.mem_of_getElem? (i := 5) rfl))) Via.refl e83 f57 (g := (mkF m 35 #[.val (.int p0), .val (.ref wF), .val (.ref sF), .val (.int (1 : Int32)), .unset] [(.ref wF)])) rfl (hb hby at_35)
    obtain ⟨T85, X85, e85, st85⟩ := getS2 X84 hx hZ56 hown56 (host := "") (Or.inl (hw _ (List.mem_of_getElem? (i := 46) rfl))) Via.refl e84 f58 (g := (mkF m 42 #[.val (.int p0), .val (.ref wF), .val (.ref sF), .val (.int (1 : Int32)), .unset] [(.ref wF)])) rfl (hb hby at_42)
    obtain ⟨cq86, kq86, q86a, q86b, q86c⟩ := isOf hZ56 e85 f67
    obtain ⟨_, _, ⟨T86, L86, k86, n86⟩, -, X86, ⟨Lc86, hQ86, l86, y86, z86⟩, st86⟩ := X85.virtualBack hx (y := (⟨"com/example/haris/haris/model/Verdict", "isFinal", "()Z"⟩ : MethodName)) (z := (⟨"com/example/haris/haris/model/Verdict", "isFinal", "()Z"⟩ : MethodName)) hown56 (mvT hZ56 (hw _ (List.mem_of_getElem? (i := 37) rfl))) (mvT hZ56 (hw _ (List.mem_of_getElem? (i := 38) rfl))) (notFace_of_selects (args := #[]) (mvT hZ56 (hw _ (List.mem_of_getElem? (i := 40) rfl)))) (mvT hZ56 (hw _ (List.mem_of_getElem? (i := 40) rfl))) (mvT hZ56 (hw _ (List.mem_of_getElem? (i := 39) rfl))) (by decide) (backOf (W := 0) (rm5 l Z aw hw [] wF wT wF wI h56 n0 Z56 f57 f58 f59) hZ56 (hw _ (List.mem_of_getElem? (i := 41) rfl)) (hw _ (List.mem_of_getElem? (i := 6) rfl)) (by decide) (by decide)) q86a q86c (g := (mkF m 56 #[.val (.int p0), .val (.ref wF), .val (.ref sF), .val (.int (1 : Int32)), .val (.int (1 : Int32))] [(.ref wF)])) rfl (by rw [hml]; rfl) (Steps.refl _) (argsL := []) (rest := []) (lenOf pd_4 rfl) rfl (by show 2 * 0 + _ ≤ _; exact Nat.le_of_eq rfl) (hb hby at_56) (fun _ _ => ⟨rfl, e85, (by decide : 4 + 0 ≤ _), (by decide : 16 + 0 ≤ _)⟩)
    dsimp only [Pt.U, Pt.locs, Pt.cells, Pt.slots] at X86 l86 y86 z86 st86 hQ86
    subst l86 y86 z86
    obtain ⟨hv86, N86q, e86⟩ := hQ86
    rw [own_fin_no nFI] at hv86
    subst hv86
    have N86 := Fr.app N83 N86q
    obtain ⟨cq87, kq87, q87a, q87b, q87c⟩ := isOf hZ56 e86 f67
    obtain ⟨_, _, ⟨T87, L87, k87, n87⟩, -, X87, ⟨Lc87, hQ87, l87, y87, z87⟩, st87⟩ := X86.virtualBack hx (y := (⟨"com/example/haris/haris/model/Verdict", "isFinal", "()Z"⟩ : MethodName)) (z := (⟨"com/example/haris/haris/model/Verdict", "isFinal", "()Z"⟩ : MethodName)) hown56 (mvT hZ56 (hw _ (List.mem_of_getElem? (i := 37) rfl))) (mvT hZ56 (hw _ (List.mem_of_getElem? (i := 38) rfl))) (notFace_of_selects (args := #[]) (mvT hZ56 (hw _ (List.mem_of_getElem? (i := 40) rfl)))) (mvT hZ56 (hw _ (List.mem_of_getElem? (i := 40) rfl))) (mvT hZ56 (hw _ (List.mem_of_getElem? (i := 39) rfl))) (by decide) (backOf (W := 0) (rm5 l Z aw hw [] wF wT wF wI h56 n0 Z56 f57 f58 f59) hZ56 (hw _ (List.mem_of_getElem? (i := 41) rfl)) (hw _ (List.mem_of_getElem? (i := 6) rfl)) (by decide) (by decide)) q87a q87c (g := (mkF m 64 #[.val (.int p0), .val (.ref wF), .val (.ref sF), .val (.int (1 : Int32)), .val (.int (1 : Int32))] [(.ref wF)])) rfl (by rw [hml]; rfl) (Steps.refl _) (argsL := []) (rest := []) (lenOf pd_4 rfl) rfl (by show 2 * 0 + _ ≤ _; exact Nat.le_of_eq rfl) (hb hby at_64) (fun _ _ => ⟨rfl, e86, (by decide : 4 + 0 ≤ _), (by decide : 16 + 0 ≤ _)⟩)
    dsimp only [Pt.U, Pt.locs, Pt.cells, Pt.slots] at X87 l87 y87 z87 st87 hQ87
    subst l87 y87 z87
    obtain ⟨hv87, N87q, e87⟩ := hQ87
    rw [own_fin_no nFI] at hv87
    subst hv87
    have N87 := Fr.app N86 N87q
    obtain ⟨fs, hr, hrun, hended, r1, r2, r3, r4⟩ := X87.leaveW (s := s) hS56 (by rw [e87]; exact hk56) (v := some (.int (1 : Int32))) (fun h => by rw [Bd.returns] at h; cases h)
    refine ⟨_, _, pre2 _ ?_, hrun, hended, _, _, rfl, ?_, r1, r2, r3, r4.mono (by decide) (by decide)⟩
    · show Steps p.tables e below (T1.setTop (mkF m 4 #[.val (.int p0), .unset, .unset, .unset, .unset] [(.ref wF)])) _
      refine XS.astoreN X1.here hx rfl (hb hby at_4) rfl rfl (l' := #[.val (.int p0), .val (.ref wF), .unset, .unset, .unset]) rfl ?_
      show Steps p.tables e below (T1.setTop (mkF m 5 #[.val (.int p0), .val (.ref wF), .unset, .unset, .unset] [])) _
      refine XS.aloadN X1.here hx rfl (hb hby at_5) rfl rfl ?_
      show Steps p.tables e below (T1.setTop (mkF m 6 #[.val (.int p0), .val (.ref wF), .unset, .unset, .unset] [(.ref wF)])) _
      refine st31.trans ?_
      show Steps p.tables e below (T31.setTop (mkF m 9 #[.val (.int p0), .val (.ref wF), .unset, .unset, .unset] [(.ref sF)])) _
      refine XS.astoreN X31.here hx rfl (hb hby at_9) rfl rfl (l' := #[.val (.int p0), .val (.ref wF), .val (.ref sF), .unset, .unset]) rfl ?_
      show Steps p.tables e below (T31.setTop (mkF m 10 #[.val (.int p0), .val (.ref wF), .val (.ref sF), .unset, .unset] [])) _
      refine XS.aloadN X31.here hx rfl (hb hby at_10) rfl rfl ?_
      show Steps p.tables e below (T31.setTop (mkF m 11 #[.val (.int p0), .val (.ref wF), .val (.ref sF), .unset, .unset] [(.ref sF)])) _
      refine st32 _ ?_
      show Steps p.tables e below (T32.setTop (mkF m 13 #[.val (.int p0), .val (.ref wF), .val (.ref sF), .unset, .unset] [(.ref a32), (.ref sF)])) _
      refine st55.trans ?_
      show Steps p.tables e below (T55.setTop (mkF m 16 #[.val (.int p0), .val (.ref wF), .val (.ref sF), .unset, .unset] [(.int (0 : Int32))])) _
      refine XS.ifNo X55.here hx rfl (hb hby at_16) rfl ((if0 _ _).trans (teq (by decide : (0 : Int32) = (0 : Int32))).2) ?_
      show Steps p.tables e below (T55.setTop (mkF m 19 #[.val (.int p0), .val (.ref wF), .val (.ref sF), .unset, .unset] [])) _
      refine XS.aloadN X55.here hx rfl (hb hby at_19) rfl rfl ?_
      show Steps p.tables e below (T55.setTop (mkF m 20 #[.val (.int p0), .val (.ref wF), .val (.ref sF), .unset, .unset] [(.ref sF)])) _
      refine st56 _ ?_
      show Steps p.tables e below (T56.setTop (mkF m 22 #[.val (.int p0), .val (.ref wF), .val (.ref sF), .unset, .unset] [(.ref a56), (.ref sF)])) _
      refine st83.trans ?_
      show Steps p.tables e below (T83.setTop (mkF m 25 #[.val (.int p0), .val (.ref wF), .val (.ref sF), .unset, .unset] [(.int (1 : Int32))])) _
      refine XS.ifNo X83.here hx rfl (hb hby at_25) rfl ((if0 _ _).trans (feq (by decide : ¬ ((1 : Int32) = (0 : Int32)))).1) ?_
      show Steps p.tables e below (T83.setTop (mkF m 28 #[.val (.int p0), .val (.ref wF), .val (.ref sF), .unset, .unset] [])) _
      refine XS.iconst X83.here hx rfl (hb hby at_28) ?_
      show Steps p.tables e below (T83.setTop (mkF m 29 #[.val (.int p0), .val (.ref wF), .val (.ref sF), .unset, .unset] [(.int (1 : Int32))])) _
      refine XS.goto X83.here hx rfl (pc0 := 29) (pc' := 33) rfl (hb hby at_29) (by decide) (by decide) ?_
      show Steps p.tables e below (T83.setTop (mkF m 33 #[.val (.int p0), .val (.ref wF), .val (.ref sF), .unset, .unset] [(.int (1 : Int32))])) _
      refine XS.istoreN X83.here hx rfl (hb hby at_33) rfl (l' := #[.val (.int p0), .val (.ref wF), .val (.ref sF), .val (.int (1 : Int32)), .unset]) rfl ?_
      show Steps p.tables e below (T83.setTop (mkF m 34 #[.val (.int p0), .val (.ref wF), .val (.ref sF), .val (.int (1 : Int32)), .unset] [])) _
      refine XS.aloadN X83.here hx rfl (hb hby at_34) rfl rfl ?_
      show Steps p.tables e below (T83.setTop (mkF m 35 #[.val (.int p0), .val (.ref wF), .val (.ref sF), .val (.int (1 : Int32)), .unset] [(.ref wF)])) _
      refine st84 _ ?_
      show Steps p.tables e below (T84.setTop (mkF m 38 #[.val (.int p0), .val (.ref wF), .val (.ref sF), .val (.int (1 : Int32)), .unset] [(.ref wT), (.ref wF)])) _
      refine Jvm.RoadKit.acmp (g := (mkF m 38 #[.val (.int p0), .val (.ref wF), .val (.ref sF), .val (.int (1 : Int32)), .unset] [(.ref wT), (.ref wF)])) X84 hx rfl rfl rfl (pc0 := 38) (pc' := 41) (same := false) rfl (hb hby at_38) rfl (decide_eq_false fun q => (Ne.symm nTF) (Value.ref.inj q)) (by decide) (by decide) ?_
      show Steps p.tables e below (T84.setTop (mkF m 41 #[.val (.int p0), .val (.ref wF), .val (.ref sF), .val (.int (1 : Int32)), .unset] [])) _
      refine XS.aloadN X84.here hx rfl (hb hby at_41) rfl rfl ?_
      show Steps p.tables e below (T84.setTop (mkF m 42 #[.val (.int p0), .val (.ref wF), .val (.ref sF), .val (.int (1 : Int32)), .unset] [(.ref wF)])) _
      refine st85 _ ?_
      show Steps p.tables e below (T85.setTop (mkF m 45 #[.val (.int p0), .val (.ref wF), .val (.ref sF), .val (.int (1 : Int32)), .unset] [(.ref wF), (.ref wF)])) _
      refine Jvm.RoadKit.acmp (g := (mkF m 45 #[.val (.int p0), .val (.ref wF), .val (.ref sF), .val (.int (1 : Int32)), .unset] [(.ref wF), (.ref wF)])) X85 hx rfl rfl rfl (pc0 := 45) (pc' := 48) (same := true) rfl (hb hby at_45) rfl (decide_eq_true rfl) (by decide) (by decide) ?_
      show Steps p.tables e below (T85.setTop (mkF m 48 #[.val (.int p0), .val (.ref wF), .val (.ref sF), .val (.int (1 : Int32)), .unset] [])) _
      refine XS.iconst X85.here hx rfl (hb hby at_48) ?_
      show Steps p.tables e below (T85.setTop (mkF m 49 #[.val (.int p0), .val (.ref wF), .val (.ref sF), .val (.int (1 : Int32)), .unset] [(.int (1 : Int32))])) _
      refine XS.goto X85.here hx rfl (pc0 := 49) (pc' := 53) rfl (hb hby at_49) (by decide) (by decide) ?_
      show Steps p.tables e below (T85.setTop (mkF m 53 #[.val (.int p0), .val (.ref wF), .val (.ref sF), .val (.int (1 : Int32)), .unset] [(.int (1 : Int32))])) _
      refine XS.istore X85.here hx rfl (hb hby at_53) rfl (l' := #[.val (.int p0), .val (.ref wF), .val (.ref sF), .val (.int (1 : Int32)), .val (.int (1 : Int32))]) rfl ?_
      show Steps p.tables e below (T85.setTop (mkF m 55 #[.val (.int p0), .val (.ref wF), .val (.ref sF), .val (.int (1 : Int32)), .val (.int (1 : Int32))] [])) _
      refine XS.aloadN X85.here hx rfl (hb hby at_55) rfl rfl ?_
      show Steps p.tables e below (T85.setTop (mkF m 56 #[.val (.int p0), .val (.ref wF), .val (.ref sF), .val (.int (1 : Int32)), .val (.int (1 : Int32))] [(.ref wF)])) _
      refine st86.trans ?_
      show Steps p.tables e below (T86.setTop (mkF m 59 #[.val (.int p0), .val (.ref wF), .val (.ref sF), .val (.int (1 : Int32)), .val (.int (1 : Int32))] [(.int (1 : Int32))])) _
      refine XS.iloadN X86.here hx rfl (hb hby at_59) rfl ?_
      show Steps p.tables e below (T86.setTop (mkF m 60 #[.val (.int p0), .val (.ref wF), .val (.ref sF), .val (.int (1 : Int32)), .val (.int (1 : Int32))] [(.int (1 : Int32)), (.int (1 : Int32))])) _
      refine XS.icmpNo X86.here hx rfl (hb hby at_60) rfl (teq (by decide : (1 : Int32) = (1 : Int32))).2 ?_
      show Steps p.tables e below (T86.setTop (mkF m 63 #[.val (.int p0), .val (.ref wF), .val (.ref sF), .val (.int (1 : Int32)), .val (.int (1 : Int32))] [])) _
      refine XS.aloadN X86.here hx rfl (hb hby at_63) rfl rfl ?_
      show Steps p.tables e below (T86.setTop (mkF m 64 #[.val (.int p0), .val (.ref wF), .val (.ref sF), .val (.int (1 : Int32)), .val (.int (1 : Int32))] [(.ref wF)])) _
      refine st87.trans ?_
      show Steps p.tables e below (T87.setTop (mkF m 67 #[.val (.int p0), .val (.ref wF), .val (.ref sF), .val (.int (1 : Int32)), .val (.int (1 : Int32))] [(.int (1 : Int32))])) _
      refine XS.iload X87.here hx rfl (hb hby at_67) rfl ?_
      show Steps p.tables e below (T87.setTop (mkF m 69 #[.val (.int p0), .val (.ref wF), .val (.ref sF), .val (.int (1 : Int32)), .val (.int (1 : Int32))] [(.int (1 : Int32)), (.int (1 : Int32))])) _
      refine XS.icmpNo X87.here hx rfl (hb hby at_69) rfl (teq (by decide : (1 : Int32) = (1 : Int32))).2 ?_
      show Steps p.tables e below (T87.setTop (mkF m 72 #[.val (.int p0), .val (.ref wF), .val (.ref sF), .val (.int (1 : Int32)), .val (.int (1 : Int32))] [])) _
      refine XS.iconst X87.here hx rfl (hb hby at_72) ?_
      show Steps p.tables e below (T87.setTop (mkF m 73 #[.val (.int p0), .val (.ref wF), .val (.ref sF), .val (.int (1 : Int32)), .val (.int (1 : Int32))] [(.int (1 : Int32))])) _
      refine XS.goto X87.here hx rfl (pc0 := 73) (pc' := 77) rfl (hb hby at_73) (by decide) (by decide) ?_
      show Steps p.tables e below (T87.setTop (mkF m 77 #[.val (.int p0), .val (.ref wF), .val (.ref sF), .val (.int (1 : Int32)), .val (.int (1 : Int32))] [(.int (1 : Int32))])) _
      exact retN X87 hx (t := .boolean) Bd.returns (by simp) (hb hby at_77) hr
    · exact ⟨rfl, N87⟩
  · rw [q] at pre2
    obtain ⟨cq88, kq88, q88a, q88b, q88c⟩ := isOf hZ e1 EwI
    obtain ⟨_, _, ⟨T88, L88, k88, n88⟩, -, X88, ⟨Lc88, hQ88, l88, y88, z88⟩, st88⟩ := X1.virtualBack hx (y := (⟨"com/example/haris/haris/model/Verdict", "symbol", "()Ljava/lang/String;"⟩ : MethodName)) (z := (⟨"com/example/haris/haris/model/Verdict", "symbol", "()Ljava/lang/String;"⟩ : MethodName)) hown (mvT hZ (hw _ (List.mem_of_getElem? (i := 8) rfl))) (mvT hZ (hw _ (List.mem_of_getElem? (i := 9) rfl))) (notFace_of_selects (args := #[]) (mvT hZ (hw _ (List.mem_of_getElem? (i := 11) rfl)))) (mvT hZ (hw _ (List.mem_of_getElem? (i := 11) rfl))) (mvT hZ (hw _ (List.mem_of_getElem? (i := 10) rfl))) (by decide) (backOf (W := 0) (rm2 l Z aw hw [] wI sI h0 n0 Z0 FwI) hZ (hw _ (List.mem_of_getElem? (i := 12) rfl)) (hw _ (List.mem_of_getElem? (i := 6) rfl)) (by decide) (by decide)) q88a q88c (g := (mkF m 6 #[.val (.int p0), .val (.ref wI), .unset, .unset, .unset] [(.ref wI)])) rfl (by rw [hml]; rfl) (Steps.refl _) (argsL := []) (rest := []) (lenOf pd_2 rfl) rfl (by show 2 * 0 + _ ≤ _; exact Nat.le_of_eq rfl) (hb hby at_6) (fun _ _ => ⟨rfl, e1, (by decide : 0 + 0 ≤ _), (by decide : 0 + 0 ≤ _)⟩)
    dsimp only [Pt.U, Pt.locs, Pt.cells, Pt.slots] at X88 l88 y88 z88 st88 hQ88
    subst l88 y88 z88
    obtain ⟨rfl, N88q, e88⟩ := hQ88
    have N88 := Fr.app N1 N88q
    obtain ⟨a89, T89, h89, k189, b89, kc89, X89, e89, E89, hS89, hk89, hZ89, hown89, Ea89, Fc89, Fv89, Ab89, la89, lb89, hC89, hL89, hs89, st89⟩ := ldcCH (s := s) (vm0 := s.vm) X88 hx hZ hown (hw _ (List.mem_of_getElem? (i := 15) rfl)) hwS e88 hS0 (Nat.zero_le _) hEL (by simp [consts_1]) hCH (vs := [(.int (84 : Int32))]) (z := (1 : Int32)) ⟨by decide, rfl⟩ (by decide) rfl (g := (mkF m 11 #[.val (.int p0), .val (.ref wI), .val (.ref sI), .unset, .unset] [(.ref sI)])) rfl (hb hby at_11) (n := 4) (by decide) (by decide) (by decide) (by decide)
    have f90 := S_TRUE.ext E89
    have f91 := S_FALSE.ext E89
    have f92 := S_INCONCLUSIVE.ext E89
    have f93 := SC.ext E89
    have f94 := EwT.ext E89
    have f95 := FwT.ext E89
    have f96 := EsT.ext E89
    have f97 := CsT.ext E89
    have f98 := VsT.ext E89
    have f99 := AsT.ext E89
    have f100 := EwF.ext E89
    have f101 := FwF.ext E89
    have f102 := EsF.ext E89
    have f103 := CsF.ext E89
    have f104 := VsF.ext E89
    have f105 := AsF.ext E89
    have f106 := EwI.ext E89
    have f107 := FwI.ext E89
    have f108 := EsI.ext E89
    have f109 := CsI.ext E89
    have f110 := VsI.ext E89
    have f111 := AsI.ext E89
    have Z89 : n0 ≤ h89.size := Nat.le_trans Z0 E89.1
    obtain ⟨cq112, kq112, q112a, q112b, q112c⟩ := isOf hZ89 e89 f108
    obtain ⟨_, _, ⟨T112, L112, k112, n112⟩, -, X112, ⟨Lc112, hQ112, l112, y112, z112⟩, st112⟩ := X89.virtualBack hx (y := (⟨"java/lang/String", "equals", "(Ljava/lang/Object;)Z"⟩ : MethodName)) (z := (⟨"java/lang/String", "equals", "(Ljava/lang/Object;)Z"⟩ : MethodName)) hown89 (mvT hZ89 (hw _ (List.mem_of_getElem? (i := 23) rfl))) (mvT hZ89 (hw _ (List.mem_of_getElem? (i := 24) rfl))) (notFace_of_selects (args := #[]) (mvT hZ89 (hw _ (List.mem_of_getElem? (i := 26) rfl)))) (mvT hZ89 (hw _ (List.mem_of_getElem? (i := 26) rfl))) (mvT hZ89 (hw _ (List.mem_of_getElem? (i := 25) rfl))) (by decide) (backOf (W := 0) (rme1g l Z aw hw [] sI a89 bI b89 kI kc89 cs (63 : Int32) (84 : Int32) h89 n0 Z89 f108 f109 f110 f111 Ea89 Fc89 Fv89 Ab89 f93 hcs (fun q => absurd q (Fld.ne f110 Fv89 (fun q => arv_ne f111 Ab89 (Or.inr ⟨0, by decide, by decide⟩) (Value.ref.inj q))))) hZ89 (hw _ (List.mem_of_getElem? (i := 27) rfl)) (hw _ (List.mem_of_getElem? (i := 16) rfl)) (by decide) (by decide)) q112a q112c (g := (mkF m 13 #[.val (.int p0), .val (.ref wI), .val (.ref sI), .unset, .unset] [(.ref a89), (.ref sI)])) rfl (by rw [hml]; rfl) (Steps.refl _) (argsL := [(.ref a89)]) (rest := []) (lenOf pd_3 rfl) rfl (by show 2 * 0 + _ ≤ _; exact Nat.le_of_eq rfl) (hb hby at_13) (fun _ _ => ⟨rfl, e89, (by decide : 2 + 0 ≤ _), (by decide : 8 + 0 ≤ _)⟩)
    dsimp only [Pt.U, Pt.locs, Pt.cells, Pt.slots] at X112 l112 y112 z112 st112 hQ112
    subst l112 y112 z112
    obtain ⟨hv112, N112q, e112⟩ := hQ112
    rw [show own_eq (63 : Int32) (84 : Int32) = (0 : Int32) from rfl] at hv112
    subst hv112
    have N112 := Fr.app N88 N112q
    obtain ⟨a113, T113, h113, k1113, b113, kc113, X113, e113, E113, hS113, hk113, hZ113, hown113, Ea113, Fc113, Fv113, Ab113, la113, lb113, hC113, hL113, hs113, st113⟩ := ldcCH (s := s) (vm0 := T89.vm) X112 hx hZ89 hown89 (hw _ (List.mem_of_getElem? (i := 45) rfl)) hwS e112 hS89 hk89 hEL (by simp [consts_1]) hC89.1 (vs := [(.int (70 : Int32))]) (z := (1 : Int32)) ⟨by decide, rfl⟩ (by decide) rfl (g := (mkF m 20 #[.val (.int p0), .val (.ref wI), .val (.ref sI), .unset, .unset] [(.ref sI)])) rfl (hb hby at_20) (n := 4) (by decide) (by decide) (by decide) (by decide)
    have f114 := f90.ext E113
    have f115 := f91.ext E113
    have f116 := f92.ext E113
    have f117 := f93.ext E113
    have f118 := f94.ext E113
    have f119 := f95.ext E113
    have f120 := f96.ext E113
    have f121 := f97.ext E113
    have f122 := f98.ext E113
    have f123 := f99.ext E113
    have f124 := f100.ext E113
    have f125 := f101.ext E113
    have f126 := f102.ext E113
    have f127 := f103.ext E113
    have f128 := f104.ext E113
    have f129 := f105.ext E113
    have f130 := f106.ext E113
    have f131 := f107.ext E113
    have f132 := f108.ext E113
    have f133 := f109.ext E113
    have f134 := f110.ext E113
    have f135 := f111.ext E113
    have f136 := Ea89.ext E113
    have f137 := Fc89.ext E113
    have f138 := Fv89.ext E113
    have f139 := Ab89.ext E113
    have Z113 : n0 ≤ h113.size := Nat.le_trans Z89 E113.1
    obtain ⟨cq140, kq140, q140a, q140b, q140c⟩ := isOf hZ113 e113 f132
    obtain ⟨_, _, ⟨T140, L140, k140, n140⟩, -, X140, ⟨Lc140, hQ140, l140, y140, z140⟩, st140⟩ := X113.virtualBack hx (y := (⟨"java/lang/String", "equals", "(Ljava/lang/Object;)Z"⟩ : MethodName)) (z := (⟨"java/lang/String", "equals", "(Ljava/lang/Object;)Z"⟩ : MethodName)) hown113 (mvT hZ113 (hw _ (List.mem_of_getElem? (i := 23) rfl))) (mvT hZ113 (hw _ (List.mem_of_getElem? (i := 24) rfl))) (notFace_of_selects (args := #[]) (mvT hZ113 (hw _ (List.mem_of_getElem? (i := 26) rfl)))) (mvT hZ113 (hw _ (List.mem_of_getElem? (i := 26) rfl))) (mvT hZ113 (hw _ (List.mem_of_getElem? (i := 25) rfl))) (by decide) (backOf (W := 0) (rme1g l Z aw hw [] sI a113 bI b113 kI kc113 cs (63 : Int32) (70 : Int32) h113 n0 Z113 f132 f133 f134 f135 Ea113 Fc113 Fv113 Ab113 f117 hcs (fun q => absurd q (Fld.ne f134 Fv113 (fun q => arv_ne f135 Ab113 (Or.inr ⟨0, by decide, by decide⟩) (Value.ref.inj q))))) hZ113 (hw _ (List.mem_of_getElem? (i := 27) rfl)) (hw _ (List.mem_of_getElem? (i := 16) rfl)) (by decide) (by decide)) q140a q140c (g := (mkF m 22 #[.val (.int p0), .val (.ref wI), .val (.ref sI), .unset, .unset] [(.ref a113), (.ref sI)])) rfl (by rw [hml]; rfl) (Steps.refl _) (argsL := [(.ref a113)]) (rest := []) (lenOf pd_3 rfl) rfl (by show 2 * 0 + _ ≤ _; exact Nat.le_of_eq rfl) (hb hby at_22) (fun _ _ => ⟨rfl, e113, (by decide : 4 + 0 ≤ _), (by decide : 16 + 0 ≤ _)⟩)
    dsimp only [Pt.U, Pt.locs, Pt.cells, Pt.slots] at X140 l140 y140 z140 st140 hQ140
    subst l140 y140 z140
    obtain ⟨hv140, N140q, e140⟩ := hQ140
    rw [show own_eq (63 : Int32) (70 : Int32) = (0 : Int32) from rfl] at hv140
    subst hv140
    have N140 := Fr.app N112 N140q
    obtain ⟨T141, X141, e141, st141⟩ := getS2 X140 hx hZ113 hown113 (host := "") (Or.inl (hw _ (List.mem_of_getElem? (i := 5) rfl))) Via.refl e140 f114 (g := (mkF m 35 #[.val (.int p0), .val (.ref wI), .val (.ref sI), .val (.int (0 : Int32)), .unset] [(.ref wI)])) rfl (hb hby at_35)
    obtain ⟨T142, X142, e142, st142⟩ := getS2 X141 hx hZ113 hown113 (host := "") (Or.inl (hw _ (List.mem_of_getElem? (i := 46) rfl))) Via.refl e141 f115 (g := (mkF m 42 #[.val (.int p0), .val (.ref wI), .val (.ref sI), .val (.int (0 : Int32)), .unset] [(.ref wI)])) rfl (hb hby at_42)
    obtain ⟨cq143, kq143, q143a, q143b, q143c⟩ := isOf hZ113 e142 f130
    obtain ⟨_, _, ⟨T143, L143, k143, n143⟩, -, X143, ⟨Lc143, hQ143, l143, y143, z143⟩, st143⟩ := X142.virtualBack hx (y := (⟨"com/example/haris/haris/model/Verdict", "isFinal", "()Z"⟩ : MethodName)) (z := (⟨"com/example/haris/haris/model/Verdict", "isFinal", "()Z"⟩ : MethodName)) hown113 (mvT hZ113 (hw _ (List.mem_of_getElem? (i := 37) rfl))) (mvT hZ113 (hw _ (List.mem_of_getElem? (i := 38) rfl))) (notFace_of_selects (args := #[]) (mvT hZ113 (hw _ (List.mem_of_getElem? (i := 40) rfl)))) (mvT hZ113 (hw _ (List.mem_of_getElem? (i := 40) rfl))) (mvT hZ113 (hw _ (List.mem_of_getElem? (i := 39) rfl))) (by decide) (backOf (W := 0) (rm5 l Z aw hw [] wI wT wF wI h113 n0 Z113 f114 f115 f116) hZ113 (hw _ (List.mem_of_getElem? (i := 41) rfl)) (hw _ (List.mem_of_getElem? (i := 6) rfl)) (by decide) (by decide)) q143a q143c (g := (mkF m 56 #[.val (.int p0), .val (.ref wI), .val (.ref sI), .val (.int (0 : Int32)), .val (.int (0 : Int32))] [(.ref wI)])) rfl (by rw [hml]; rfl) (Steps.refl _) (argsL := []) (rest := []) (lenOf pd_4 rfl) rfl (by show 2 * 0 + _ ≤ _; exact Nat.le_of_eq rfl) (hb hby at_56) (fun _ _ => ⟨rfl, e142, (by decide : 4 + 0 ≤ _), (by decide : 16 + 0 ≤ _)⟩)
    dsimp only [Pt.U, Pt.locs, Pt.cells, Pt.slots] at X143 l143 y143 z143 st143 hQ143
    subst l143 y143 z143
    obtain ⟨hv143, N143q, e143⟩ := hQ143
    rw [own_fin_yes] at hv143
    subst hv143
    have N143 := Fr.app N140 N143q
    obtain ⟨cq144, kq144, q144a, q144b, q144c⟩ := isOf hZ113 e143 f130
    obtain ⟨_, _, ⟨T144, L144, k144, n144⟩, -, X144, ⟨Lc144, hQ144, l144, y144, z144⟩, st144⟩ := X143.virtualBack hx (y := (⟨"com/example/haris/haris/model/Verdict", "isFinal", "()Z"⟩ : MethodName)) (z := (⟨"com/example/haris/haris/model/Verdict", "isFinal", "()Z"⟩ : MethodName)) hown113 (mvT hZ113 (hw _ (List.mem_of_getElem? (i := 37) rfl))) (mvT hZ113 (hw _ (List.mem_of_getElem? (i := 38) rfl))) (notFace_of_selects (args := #[]) (mvT hZ113 (hw _ (List.mem_of_getElem? (i := 40) rfl)))) (mvT hZ113 (hw _ (List.mem_of_getElem? (i := 40) rfl))) (mvT hZ113 (hw _ (List.mem_of_getElem? (i := 39) rfl))) (by decide) (backOf (W := 0) (rm5 l Z aw hw [] wI wT wF wI h113 n0 Z113 f114 f115 f116) hZ113 (hw _ (List.mem_of_getElem? (i := 41) rfl)) (hw _ (List.mem_of_getElem? (i := 6) rfl)) (by decide) (by decide)) q144a q144c (g := (mkF m 64 #[.val (.int p0), .val (.ref wI), .val (.ref sI), .val (.int (0 : Int32)), .val (.int (0 : Int32))] [(.ref wI)])) rfl (by rw [hml]; rfl) (Steps.refl _) (argsL := []) (rest := []) (lenOf pd_4 rfl) rfl (by show 2 * 0 + _ ≤ _; exact Nat.le_of_eq rfl) (hb hby at_64) (fun _ _ => ⟨rfl, e143, (by decide : 4 + 0 ≤ _), (by decide : 16 + 0 ≤ _)⟩)
    dsimp only [Pt.U, Pt.locs, Pt.cells, Pt.slots] at X144 l144 y144 z144 st144 hQ144
    subst l144 y144 z144
    obtain ⟨hv144, N144q, e144⟩ := hQ144
    rw [own_fin_yes] at hv144
    subst hv144
    have N144 := Fr.app N143 N144q
    obtain ⟨fs, hr, hrun, hended, r1, r2, r3, r4⟩ := X144.leaveW (s := s) hS113 (by rw [e144]; exact hk113) (v := some (.int (1 : Int32))) (fun h => by rw [Bd.returns] at h; cases h)
    refine ⟨_, _, pre2 _ ?_, hrun, hended, _, _, rfl, ?_, r1, r2, r3, r4.mono (by decide) (by decide)⟩
    · show Steps p.tables e below (T1.setTop (mkF m 4 #[.val (.int p0), .unset, .unset, .unset, .unset] [(.ref wI)])) _
      refine XS.astoreN X1.here hx rfl (hb hby at_4) rfl rfl (l' := #[.val (.int p0), .val (.ref wI), .unset, .unset, .unset]) rfl ?_
      show Steps p.tables e below (T1.setTop (mkF m 5 #[.val (.int p0), .val (.ref wI), .unset, .unset, .unset] [])) _
      refine XS.aloadN X1.here hx rfl (hb hby at_5) rfl rfl ?_
      show Steps p.tables e below (T1.setTop (mkF m 6 #[.val (.int p0), .val (.ref wI), .unset, .unset, .unset] [(.ref wI)])) _
      refine st88.trans ?_
      show Steps p.tables e below (T88.setTop (mkF m 9 #[.val (.int p0), .val (.ref wI), .unset, .unset, .unset] [(.ref sI)])) _
      refine XS.astoreN X88.here hx rfl (hb hby at_9) rfl rfl (l' := #[.val (.int p0), .val (.ref wI), .val (.ref sI), .unset, .unset]) rfl ?_
      show Steps p.tables e below (T88.setTop (mkF m 10 #[.val (.int p0), .val (.ref wI), .val (.ref sI), .unset, .unset] [])) _
      refine XS.aloadN X88.here hx rfl (hb hby at_10) rfl rfl ?_
      show Steps p.tables e below (T88.setTop (mkF m 11 #[.val (.int p0), .val (.ref wI), .val (.ref sI), .unset, .unset] [(.ref sI)])) _
      refine st89 _ ?_
      show Steps p.tables e below (T89.setTop (mkF m 13 #[.val (.int p0), .val (.ref wI), .val (.ref sI), .unset, .unset] [(.ref a89), (.ref sI)])) _
      refine st112.trans ?_
      show Steps p.tables e below (T112.setTop (mkF m 16 #[.val (.int p0), .val (.ref wI), .val (.ref sI), .unset, .unset] [(.int (0 : Int32))])) _
      refine XS.ifNo X112.here hx rfl (hb hby at_16) rfl ((if0 _ _).trans (teq (by decide : (0 : Int32) = (0 : Int32))).2) ?_
      show Steps p.tables e below (T112.setTop (mkF m 19 #[.val (.int p0), .val (.ref wI), .val (.ref sI), .unset, .unset] [])) _
      refine XS.aloadN X112.here hx rfl (hb hby at_19) rfl rfl ?_
      show Steps p.tables e below (T112.setTop (mkF m 20 #[.val (.int p0), .val (.ref wI), .val (.ref sI), .unset, .unset] [(.ref sI)])) _
      refine st113 _ ?_
      show Steps p.tables e below (T113.setTop (mkF m 22 #[.val (.int p0), .val (.ref wI), .val (.ref sI), .unset, .unset] [(.ref a113), (.ref sI)])) _
      refine st140.trans ?_
      show Steps p.tables e below (T140.setTop (mkF m 25 #[.val (.int p0), .val (.ref wI), .val (.ref sI), .unset, .unset] [(.int (0 : Int32))])) _
      refine XS.ifYes X140.here hx rfl (pc0 := 25) (pc' := 32) rfl (hb hby at_25) rfl ((if0 _ _).trans (teq (by decide : (0 : Int32) = (0 : Int32))).1) (by decide) (by decide) ?_
      show Steps p.tables e below (T140.setTop (mkF m 32 #[.val (.int p0), .val (.ref wI), .val (.ref sI), .unset, .unset] [])) _
      refine XS.iconst X140.here hx rfl (hb hby at_32) ?_
      show Steps p.tables e below (T140.setTop (mkF m 33 #[.val (.int p0), .val (.ref wI), .val (.ref sI), .unset, .unset] [(.int (0 : Int32))])) _
      refine XS.istoreN X140.here hx rfl (hb hby at_33) rfl (l' := #[.val (.int p0), .val (.ref wI), .val (.ref sI), .val (.int (0 : Int32)), .unset]) rfl ?_
      show Steps p.tables e below (T140.setTop (mkF m 34 #[.val (.int p0), .val (.ref wI), .val (.ref sI), .val (.int (0 : Int32)), .unset] [])) _
      refine XS.aloadN X140.here hx rfl (hb hby at_34) rfl rfl ?_
      show Steps p.tables e below (T140.setTop (mkF m 35 #[.val (.int p0), .val (.ref wI), .val (.ref sI), .val (.int (0 : Int32)), .unset] [(.ref wI)])) _
      refine st141 _ ?_
      show Steps p.tables e below (T141.setTop (mkF m 38 #[.val (.int p0), .val (.ref wI), .val (.ref sI), .val (.int (0 : Int32)), .unset] [(.ref wT), (.ref wI)])) _
      refine Jvm.RoadKit.acmp (g := (mkF m 38 #[.val (.int p0), .val (.ref wI), .val (.ref sI), .val (.int (0 : Int32)), .unset] [(.ref wT), (.ref wI)])) X141 hx rfl rfl rfl (pc0 := 38) (pc' := 41) (same := false) rfl (hb hby at_38) rfl (decide_eq_false fun q => (Ne.symm nTI) (Value.ref.inj q)) (by decide) (by decide) ?_
      show Steps p.tables e below (T141.setTop (mkF m 41 #[.val (.int p0), .val (.ref wI), .val (.ref sI), .val (.int (0 : Int32)), .unset] [])) _
      refine XS.aloadN X141.here hx rfl (hb hby at_41) rfl rfl ?_
      show Steps p.tables e below (T141.setTop (mkF m 42 #[.val (.int p0), .val (.ref wI), .val (.ref sI), .val (.int (0 : Int32)), .unset] [(.ref wI)])) _
      refine st142 _ ?_
      show Steps p.tables e below (T142.setTop (mkF m 45 #[.val (.int p0), .val (.ref wI), .val (.ref sI), .val (.int (0 : Int32)), .unset] [(.ref wF), (.ref wI)])) _
      refine Jvm.RoadKit.acmp (g := (mkF m 45 #[.val (.int p0), .val (.ref wI), .val (.ref sI), .val (.int (0 : Int32)), .unset] [(.ref wF), (.ref wI)])) X142 hx rfl rfl rfl (pc0 := 45) (pc' := 52) (same := false) rfl (hb hby at_45) rfl (decide_eq_false fun q => (Ne.symm nFI) (Value.ref.inj q)) (by decide) (by decide) ?_
      show Steps p.tables e below (T142.setTop (mkF m 52 #[.val (.int p0), .val (.ref wI), .val (.ref sI), .val (.int (0 : Int32)), .unset] [])) _
      refine XS.iconst X142.here hx rfl (hb hby at_52) ?_
      show Steps p.tables e below (T142.setTop (mkF m 53 #[.val (.int p0), .val (.ref wI), .val (.ref sI), .val (.int (0 : Int32)), .unset] [(.int (0 : Int32))])) _
      refine XS.istore X142.here hx rfl (hb hby at_53) rfl (l' := #[.val (.int p0), .val (.ref wI), .val (.ref sI), .val (.int (0 : Int32)), .val (.int (0 : Int32))]) rfl ?_
      show Steps p.tables e below (T142.setTop (mkF m 55 #[.val (.int p0), .val (.ref wI), .val (.ref sI), .val (.int (0 : Int32)), .val (.int (0 : Int32))] [])) _
      refine XS.aloadN X142.here hx rfl (hb hby at_55) rfl rfl ?_
      show Steps p.tables e below (T142.setTop (mkF m 56 #[.val (.int p0), .val (.ref wI), .val (.ref sI), .val (.int (0 : Int32)), .val (.int (0 : Int32))] [(.ref wI)])) _
      refine st143.trans ?_
      show Steps p.tables e below (T143.setTop (mkF m 59 #[.val (.int p0), .val (.ref wI), .val (.ref sI), .val (.int (0 : Int32)), .val (.int (0 : Int32))] [(.int (0 : Int32))])) _
      refine XS.iloadN X143.here hx rfl (hb hby at_59) rfl ?_
      show Steps p.tables e below (T143.setTop (mkF m 60 #[.val (.int p0), .val (.ref wI), .val (.ref sI), .val (.int (0 : Int32)), .val (.int (0 : Int32))] [(.int (0 : Int32)), (.int (0 : Int32))])) _
      refine XS.icmpNo X143.here hx rfl (hb hby at_60) rfl (teq (by decide : (0 : Int32) = (0 : Int32))).2 ?_
      show Steps p.tables e below (T143.setTop (mkF m 63 #[.val (.int p0), .val (.ref wI), .val (.ref sI), .val (.int (0 : Int32)), .val (.int (0 : Int32))] [])) _
      refine XS.aloadN X143.here hx rfl (hb hby at_63) rfl rfl ?_
      show Steps p.tables e below (T143.setTop (mkF m 64 #[.val (.int p0), .val (.ref wI), .val (.ref sI), .val (.int (0 : Int32)), .val (.int (0 : Int32))] [(.ref wI)])) _
      refine st144.trans ?_
      show Steps p.tables e below (T144.setTop (mkF m 67 #[.val (.int p0), .val (.ref wI), .val (.ref sI), .val (.int (0 : Int32)), .val (.int (0 : Int32))] [(.int (0 : Int32))])) _
      refine XS.iload X144.here hx rfl (hb hby at_67) rfl ?_
      show Steps p.tables e below (T144.setTop (mkF m 69 #[.val (.int p0), .val (.ref wI), .val (.ref sI), .val (.int (0 : Int32)), .val (.int (0 : Int32))] [(.int (0 : Int32)), (.int (0 : Int32))])) _
      refine XS.icmpNo X144.here hx rfl (hb hby at_69) rfl (teq (by decide : (0 : Int32) = (0 : Int32))).2 ?_
      show Steps p.tables e below (T144.setTop (mkF m 72 #[.val (.int p0), .val (.ref wI), .val (.ref sI), .val (.int (0 : Int32)), .val (.int (0 : Int32))] [])) _
      refine XS.iconst X144.here hx rfl (hb hby at_72) ?_
      show Steps p.tables e below (T144.setTop (mkF m 73 #[.val (.int p0), .val (.ref wI), .val (.ref sI), .val (.int (0 : Int32)), .val (.int (0 : Int32))] [(.int (1 : Int32))])) _
      refine XS.goto X144.here hx rfl (pc0 := 73) (pc' := 77) rfl (hb hby at_73) (by decide) (by decide) ?_
      show Steps p.tables e below (T144.setTop (mkF m 77 #[.val (.int p0), .val (.ref wI), .val (.ref sI), .val (.int (0 : Int32)), .val (.int (0 : Int32))] [(.int (1 : Int32))])) _
      exact retN X144 hx (t := .boolean) Bd.returns (by simp) (hb hby at_77) hr
    · exact ⟨rfl, N144⟩
set_option maxRecDepth 65536 in
set_option maxHeartbeats 40000000 in
theorem comes_1 {Post : Tables → Env → Array Value → State → Outcome → State → Prop} (hpost : ∀ tb e args s v u, (limb_1_1.after args s (.returned v) u = true ∧ limb_1_2.after args s (.returned v) u = true ∧ True) → ReturnedEndW s (.returned v) u (Jvm.fieldLocs frame_1_writes args s ++ Jvm.arrayLocs frame_1_arrays args s ++ Jvm.staticLocs frame_1_statics s) 8 2112 → Post tb e args s (.returned v) u) :
    ArmFor flags0 classFile x code maxLocals ret World_1 tables_1 room_1 Calls_1 rest_1 Pre_1 Post := by
  intro l hfl _ _ p e ha hc hk s m args below hf hA hF happ hP
  obtain ⟨hcalls, hrest, hpre⟩ := hP
  obtain ⟨-, -, -, hnamed, -, -, -, hat⟩ := (Spec.applies_iff hf).mp happ
  obtain ⟨hg, hn⟩ := and_e (Cond.before_iff.mp (show (Jvm.Cond.and given_1 narrow_1).before args s = true from hpre))
  obtain ⟨hga, hgb⟩ := and_e hg
  obtain ⟨w0, rfl⟩ : ∃ w0 : Value, args = #[w0] := by
    have hs : args.size = 1 := by simpa [Cond.value, given_1] using hga
    obtain ⟨L⟩ := args
    match L, hs with
    | [w0], _ => exact ⟨w0, rfl⟩
  have hw := fun d (hd : d ∈ tables_1) => atoms_spec (ws := Jvm.Cond.code x code maxLocals ret :: tables_1) hat d (List.mem_cons_of_mem _ hd)
  have hfit : Fit s := fun {y c} hc i hi => by
    obtain ⟨ha, rfl⟩ := Array.getElem?_eq_some_iff.mp hc
    have q := List.all_eq_true.mp ((Array.all_eq_true_iff_forall_mem.mp hF) _ (Array.getElem_mem ha)) i (List.mem_range.mpr hi)
    simpa [Array.getElem?_eq_getElem hi] using q
  obtain ⟨i0, ei0⟩ := is_v hgb
  obtain rfl : w0 = (.int i0) := Option.some.inj ei0
  obtain ⟨hna, hnb⟩ := and_e hn
  obtain ⟨hnba, hnbb⟩ := and_e hnb
  obtain ⟨hnbba, hnbbb⟩ := and_e hnbb
  obtain ⟨hnbbba, hnbbbb⟩ := and_e hnbbb
  obtain ⟨hnbbbba, hnbbbbb⟩ := and_e hnbbbb
  obtain ⟨hnbbbbba, hnbbbbbb⟩ := and_e hnbbbbb
  obtain ⟨hnbbbbbba, hnbbbbbbb⟩ := and_e hnbbbbbb
  obtain ⟨hnbbbbbbba, hnbbbbbbbb⟩ := and_e hnbbbbbbb
  obtain ⟨hnbbbbbbbba, hnbbbbbbbbb⟩ := and_e hnbbbbbbbb
  obtain ⟨hnbbbbbbbbba, hnbbbbbbbbbb⟩ := and_e hnbbbbbbbbb
  obtain ⟨hnbbbbbbbbbba, hnbbbbbbbbbbb⟩ := and_e hnbbbbbbbbbb
  obtain ⟨hnbbbbbbbbbbba, hnbbbbbbbbbbbb⟩ := and_e hnbbbbbbbbbbb
  obtain ⟨hnbbbbbbbbbbbba, hnbbbbbbbbbbbbb⟩ := and_e hnbbbbbbbbbbbb
  obtain ⟨hnbbbbbbbbbbbbba, hnbbbbbbbbbbbbbb⟩ := and_e hnbbbbbbbbbbbbb
  obtain ⟨hnbbbbbbbbbbbbbba, hnbbbbbbbbbbbbbbb⟩ := and_e hnbbbbbbbbbbbbbb
  obtain ⟨hnbbbbbbbbbbbbbbba, hnbbbbbbbbbbbbbbbb⟩ := and_e hnbbbbbbbbbbbbbbb
  obtain ⟨hnbbbbbbbbbbbbbbbba, hnbbbbbbbbbbbbbbbbb⟩ := and_e hnbbbbbbbbbbbbbbbb
  obtain ⟨hnbbbbbbbbbbbbbbbbba, hnbbbbbbbbbbbbbbbbbb⟩ := and_e hnbbbbbbbbbbbbbbbbb
  obtain ⟨hnbbbbbbbbbbbbbbbbbba, hnbbbbbbbbbbbbbbbbbbb⟩ := and_e hnbbbbbbbbbbbbbbbbbb
  obtain ⟨hnbbbbbbbbbbbbbbbbbbba, hnbbbbbbbbbbbbbbbbbbbb⟩ := and_e hnbbbbbbbbbbbbbbbbbbb
  obtain ⟨w_TRUE, S_TRUE, E_TRUE, ev_TRUE⟩ := own_exa (a0 := #[]) (hw _ (List.mem_of_getElem? (i := 6) rfl)) (hw _ (List.mem_of_getElem? (i := 7) rfl)) hna
  obtain ⟨w_INCONCLUSIVE, S_INCONCLUSIVE, E_INCONCLUSIVE, ev_INCONCLUSIVE⟩ := own_exa (a0 := #[]) (hw _ (List.mem_of_getElem? (i := 6) rfl)) (hw _ (List.mem_of_getElem? (i := 43) rfl)) hnbbbbbba
  obtain ⟨w_FALSE, S_FALSE, E_FALSE, ev_FALSE⟩ := own_exa (a0 := #[]) (hw _ (List.mem_of_getElem? (i := 6) rfl)) (hw _ (List.mem_of_getElem? (i := 47) rfl)) hnbbbbbbbbbbbbbba
  have F_TRUE_ordinal := own_fldI ev_TRUE hnbbbbbbba
  have F_INCONCLUSIVE_ordinal := own_fldI ev_INCONCLUSIVE hnbbbbbbbba
  have F_FALSE_ordinal := own_fldI ev_FALSE hnbbbbbbbbbbbbbbba
  obtain ⟨hsets, hown0⟩ := atoms_of _ (rest_1_c_eq ▸ (show rest_1_c.before _ s = true from hrest))
  obtain ⟨cs, ecs⟩ := is_v (Cond.before_iff.mp (hsets _ (List.mem_of_getElem? (i := 1) rfl)))
  have SC := Sta.start ecs (Or.inl (hsets _ (List.mem_of_getElem? (i := 0) rfl)))
  have hcw := hsets _ (List.mem_of_getElem? (i := 2) rfl)
  have hcs : ¬ cs = (0 : Int32) := gotF (u := (Jvm.Cond.eq (Jvm.Term.static "java/lang/String" "COMPACT_STRINGS" "Z") (Jvm.Term.int (0 : Int32))).value _ s none s []) (by simp [Cond.value, ecs, Term.eval] at *; simp [Cond.value, ecs]) (by simpa using not_v (Cond.before_iff.mp hcw))
  obtain ⟨s_yTRUE, es_yTRUE⟩ := exa_v hnba
  have F_yTRUE := Fld.start ((fld_at ev_TRUE).symm.trans es_yTRUE)
  have E_yTRUE := Exa.start es_yTRUE hnba
  have C_yTRUE := own_fldI es_yTRUE hnbba
  obtain ⟨b_yTRUE, eb_yTRUE⟩ := arr_v hnbbba
  have V_yTRUE := Fld.start ((fld_at es_yTRUE).symm.trans eb_yTRUE)
  obtain ⟨cl_yTRUE, Ar_yTRUE⟩ := Arr.start eb_yTRUE hnbbba
  obtain ⟨l1_yTRUE, l2_yTRUE⟩ := own_len eb_yTRUE Ar_yTRUE.1 hnbbbba
  have el_yTRUE_0 : cl_yTRUE.slots[0]? = some (.int (84 : Int32)) := own_elemI eb_yTRUE Ar_yTRUE.1 hnbbbbba
  have A_yTRUE : Arv s s.heap b_yTRUE cl_yTRUE.cls .byte (1 : Int32) [(.int (84 : Int32))] (.int (0 : Int32)) := Arv.start hfit Ar_yTRUE l1_yTRUE l2_yTRUE (by decide) rfl ⟨el_yTRUE_0, trivial⟩
  obtain ⟨s_yFALSE, es_yFALSE⟩ := exa_v hnbbbbbbbbbbbbbbbba
  have F_yFALSE := Fld.start ((fld_at ev_FALSE).symm.trans es_yFALSE)
  have E_yFALSE := Exa.start es_yFALSE hnbbbbbbbbbbbbbbbba
  have C_yFALSE := own_fldI es_yFALSE hnbbbbbbbbbbbbbbbbba
  obtain ⟨b_yFALSE, eb_yFALSE⟩ := arr_v hnbbbbbbbbbbbbbbbbbba
  have V_yFALSE := Fld.start ((fld_at es_yFALSE).symm.trans eb_yFALSE)
  obtain ⟨cl_yFALSE, Ar_yFALSE⟩ := Arr.start eb_yFALSE hnbbbbbbbbbbbbbbbbbba
  obtain ⟨l1_yFALSE, l2_yFALSE⟩ := own_len eb_yFALSE Ar_yFALSE.1 hnbbbbbbbbbbbbbbbbbbba
  have el_yFALSE_0 : cl_yFALSE.slots[0]? = some (.int (70 : Int32)) := own_elemI eb_yFALSE Ar_yFALSE.1 hnbbbbbbbbbbbbbbbbbbbb
  have A_yFALSE : Arv s s.heap b_yFALSE cl_yFALSE.cls .byte (1 : Int32) [(.int (70 : Int32))] (.int (0 : Int32)) := Arv.start hfit Ar_yFALSE l1_yFALSE l2_yFALSE (by decide) rfl ⟨el_yFALSE_0, trivial⟩
  obtain ⟨s_yINCONCLUSIVE, es_yINCONCLUSIVE⟩ := exa_v hnbbbbbbbbba
  have F_yINCONCLUSIVE := Fld.start ((fld_at ev_INCONCLUSIVE).symm.trans es_yINCONCLUSIVE)
  have E_yINCONCLUSIVE := Exa.start es_yINCONCLUSIVE hnbbbbbbbbba
  have C_yINCONCLUSIVE := own_fldI es_yINCONCLUSIVE hnbbbbbbbbbba
  obtain ⟨b_yINCONCLUSIVE, eb_yINCONCLUSIVE⟩ := arr_v hnbbbbbbbbbbba
  have V_yINCONCLUSIVE := Fld.start ((fld_at es_yINCONCLUSIVE).symm.trans eb_yINCONCLUSIVE)
  obtain ⟨cl_yINCONCLUSIVE, Ar_yINCONCLUSIVE⟩ := Arr.start eb_yINCONCLUSIVE hnbbbbbbbbbbba
  obtain ⟨l1_yINCONCLUSIVE, l2_yINCONCLUSIVE⟩ := own_len eb_yINCONCLUSIVE Ar_yINCONCLUSIVE.1 hnbbbbbbbbbbbba
  have el_yINCONCLUSIVE_0 : cl_yINCONCLUSIVE.slots[0]? = some (.int (63 : Int32)) := own_elemI eb_yINCONCLUSIVE Ar_yINCONCLUSIVE.1 hnbbbbbbbbbbbbba
  have A_yINCONCLUSIVE : Arv s s.heap b_yINCONCLUSIVE cl_yINCONCLUSIVE.cls .byte (1 : Int32) [(.int (63 : Int32))] (.int (0 : Int32)) := Arv.start hfit Ar_yINCONCLUSIVE l1_yINCONCLUSIVE l2_yINCONCLUSIVE (by decide) rfl ⟨el_yINCONCLUSIVE_0, trivial⟩
  have hCH : CHv s consts_1 s.vm s.heap := CHv.start (EW.cons (hw _ (List.mem_of_getElem? (i := 15) rfl)) (by decide) (EW.cons (hw _ (List.mem_of_getElem? (i := 45) rfl)) (by decide) EW.nil)) (fun p hp => hcalls.1 p hp) hcw (hw _ (List.mem_of_getElem? (i := 18) rfl)) (hw _ (List.mem_of_getElem? (i := 17) rfl))
  obtain ⟨n, o, h1, h2, h3, _, L, rfl, ⟨rfl, N⟩, hq⟩ := rm0 l s _ hw tables_1 i0 w_TRUE w_FALSE w_INCONCLUSIVE cs s_yTRUE b_yTRUE cl_yTRUE.cls s_yFALSE b_yFALSE cl_yFALSE.cls s_yINCONCLUSIVE b_yINCONCLUSIVE cl_yINCONCLUSIVE.cls s.heap s.heap.size (Nat.le_refl _) S_TRUE S_FALSE S_INCONCLUSIVE SC hcs (F_TRUE_ordinal.ne F_FALSE_ordinal (by decide)) (F_TRUE_ordinal.ne F_INCONCLUSIVE_ordinal (by decide)) (F_FALSE_ordinal.ne F_INCONCLUSIVE_ordinal (by decide)) E_TRUE F_yTRUE E_yTRUE C_yTRUE V_yTRUE A_yTRUE E_FALSE F_yFALSE E_yFALSE C_yFALSE V_yFALSE A_yFALSE E_INCONCLUSIVE F_yINCONCLUSIVE E_yINCONCLUSIVE C_yINCONCLUSIVE V_yINCONCLUSIVE A_yINCONCLUSIVE p e ha hc hk s m _ below hf ((Spec.applies_iff_loose hf).mp happ).1 ⟨rfl, State.Warmed39.refl s, rfl, hCH⟩ trivial
  refine ⟨n, _, h1, h2, h3, hpost _ _ _ _ _ _ ⟨Cond.after_iff.mpr rfl, Cond.after_iff.mpr (eq_i res_at (Term.int_eval (1)) rfl), trivial⟩ ⟨hq.1, hq.2.1, hq.2.2.1, (hq.2.2.2.sift fun y hy => Or.inr (N y hy)).mono (by decide) (by decide)⟩⟩
theorem main_1_1 : Claimed_1_1 := comes_1 fun _ _ _ _ _ _ h hF => ⟨h.1, hF⟩
theorem main_1_2 : Claimed_1_2 := comes_1 fun _ _ _ _ _ _ h hF => ⟨h.2.1, hF⟩
end Jvm.Pilot.@@N@@
namespace Jvm.Pilot.@@N@@
open Jvm Jvm.ClassFile Sem Op Lib Jvm.Free Jvm.Stand Jvm.Pilot.@@N@@.Jvm.D
/-! MADE BY PROGRAM (witnessworld.py) out of the Statement's table words and the real class files: 18 classes; the members and pool entries that the words name. The judged class is class 1, her method 2. -/
namespace start1
open Jvm.ClassFile
def u (s : String) : CpInfo := .utf8 (stringToUtf16 s)
/-- a pool by its gaps: so many unusable entries, then the entry; so many at the end -/
def gap : Nat → List CpInfo → List CpInfo
  | 0, r => r
  | n + 1, r => .unusable :: gap n r
def poolList (es : List (Nat × CpInfo)) (last : Nat) : List CpInfo := es.foldr (fun e r => gap e.1 (e.2 :: r)) (gap last [])
def pool (es : List (Nat × CpInfo)) (last : Nat) : Array CpInfo := ⟨poolList es last⟩
def fileOf (pool : Array CpInfo) (this : Nat) (attrs : Array Attribute := #[]) (ms : Array MethodInfo := #[]) (fl : Nat := 33) (sup : Nat := 0) (ifs : Array Nat := #[]) (fds : Array FieldInfo := #[]) : ClassFile where
  minorVersion := 0
  majorVersion := 65
  constantPool := pool
  accessFlags := fl
  thisClass := this
  superClass := sup
  interfaces := ifs
  fields := fds
  methods := ms
  attributes := attrs
def plain (name : String) (sup : Option ClassId) : Class where
  name := name
  kind := .ordinary
  loader := none
  accessFlags := 33
  super := sup
  interfaces := #[]
  cf := none
  fields := #[]
  methods := #[]
  instanceTypes := #[]
  staticTypes := #[]
  resolved := #[]
  callSites := []
  init := .initialized
  statics := none
  mirror := none

def pool0 : Array CpInfo := pool [(5, u "<init>"), (0, u "()V"), (1, .class_ 10), (1, u "java/lang/Object")] 113

def k0m0 : Method := { name := "<init>", desc := "()V", sig := { parameters := [], returnType := none }, accessFlags := 1, code := none }
/-- java/lang/Object -/
def k0 : Class := { plain "java/lang/Object" none with
  accessFlags := 33
  interfaces := #[]
  cf := some (fileOf pool0 8 #[] #[{ accessFlags := 1, nameIndex := 5, descriptorIndex := 6, attributes := #[] }] 33 0 #[] #[])
  fields := #[]
  methods := #[k0m0]
  instanceTypes := #[]
  staticTypes := #[]
  resolved := Array.replicate 124 none
  statics := none }

def pool1 : Array CpInfo := pool [(2, .class_ 4), (1, u "java/lang/Object"), (0, u "<init>"), (0, u "()V"), (0, .integer 2147483647), (0, .fieldref 9 10), (0, .class_ 11), (0, .nameAndType 12 13), (0, u "com/example/haris/haris/model/Verdict"), (0, u "TRUE"), (0, u "Lcom/example/haris/haris/model/Verdict;"), (0, .fieldref 9 15), (0, .nameAndType 16 13), (0, u "FALSE"), (0, .fieldref 9 18), (0, .nameAndType 19 13), (0, u "INCONCLUSIVE"), (0, .methodref 21 22), (0, .class_ 23), (0, .nameAndType 24 25), (0, u "com/example/haris/haris/model/VerdictIsFinalPinLaw"), (0, u "pick"), (0, u "(I)Lcom/example/haris/haris/model/Verdict;"), (0, .methodref 9 27), (0, .nameAndType 28 29), (0, u "symbol"), (0, u "()Ljava/lang/String;"), (0, .string 31), (0, u "T"), (0, .methodref 33 34), (0, .class_ 35), (0, .nameAndType 36 37), (0, u "java/lang/String"), (0, u "equals"), (0, u "(Ljava/lang/Object;)Z"), (0, .string 39), (0, u "F"), (0, .methodref 9 41), (0, .nameAndType 42 43), (0, u "isFinal"), (0, u "()Z"), (3, u "law"), (0, u "(I)Z")] 2

def k1m0 : Method := { name := "<init>", desc := "()V", sig := { parameters := [], returnType := none }, accessFlags := 1, code := none }
def k1c1 : Code := { maxStack := 2, maxLocals := 2, code := method_2_code, exceptionTable := #[], attributes := #[] }
def k1m1 : Method := { name := "pick", desc := "(I)Lcom/example/haris/haris/model/Verdict;", sig := { parameters := [.int], returnType := some (.object "com/example/haris/haris/model/Verdict") }, accessFlags := 10, code := some k1c1 }
def k1c2 : Code := { maxStack := 2, maxLocals := 5, code := code, exceptionTable := #[], attributes := #[] }
def k1m2 : Method := { name := "law", desc := "(I)Z", sig := { parameters := [.int], returnType := some .boolean }, accessFlags := 9, code := some k1c2 }
/-- com/example/haris/haris/model/VerdictIsFinalPinLaw -/
def k1 : Class := { plain "com/example/haris/haris/model/VerdictIsFinalPinLaw" (some 0) with
  accessFlags := 49
  interfaces := #[]
  cf := some (fileOf pool1 21 #[] #[{ accessFlags := 1, nameIndex := 5, descriptorIndex := 6, attributes := #[] }, { accessFlags := 10, nameIndex := 24, descriptorIndex := 25, attributes := #[] }, { accessFlags := 9, nameIndex := 47, descriptorIndex := 48, attributes := #[] }] 49 2 #[] #[])
  fields := #[]
  methods := #[k1m0, k1m1, k1m2]
  instanceTypes := #[]
  staticTypes := #[]
  resolved := Array.replicate 51 none
  statics := none }

def pool2 : Array CpInfo := pool [(1, .class_ 2), (0, u "java/lang/constant/Constable"), (0, .class_ 4), (0, u "java/lang/Object")] 6

/-- java/lang/constant/Constable -/
def k2 : Class := { plain "java/lang/constant/Constable" (some 0) with
  accessFlags := 1537
  interfaces := #[]
  cf := some (fileOf pool2 1 #[] #[] 1537 3 #[] #[])
  fields := #[]
  methods := #[]
  instanceTypes := #[]
  staticTypes := #[]
  resolved := Array.replicate 11 none
  statics := none }

def pool3 : Array CpInfo := pool [(1, .class_ 2), (0, u "java/lang/Comparable"), (0, .class_ 4), (0, u "java/lang/Object")] 7

/-- java/lang/Comparable -/
def k3 : Class := { plain "java/lang/Comparable" (some 0) with
  accessFlags := 1537
  interfaces := #[]
  cf := some (fileOf pool3 1 #[] #[] 1537 3 #[] #[])
  fields := #[]
  methods := #[]
  instanceTypes := #[]
  staticTypes := #[]
  resolved := Array.replicate 12 none
  statics := none }

def pool4 : Array CpInfo := pool [(1, .class_ 2), (0, u "java/io/Serializable"), (0, .class_ 4), (0, u "java/lang/Object")] 2

/-- java/io/Serializable -/
def k4 : Class := { plain "java/io/Serializable" (some 0) with
  accessFlags := 1537
  interfaces := #[]
  cf := some (fileOf pool4 1 #[] #[] 1537 3 #[] #[])
  fields := #[]
  methods := #[]
  instanceTypes := #[]
  staticTypes := #[]
  resolved := Array.replicate 7 none
  statics := none }

def pool5 : Array CpInfo := pool [(2, .class_ 4), (1, u "java/lang/Enum"), (0, u "name"), (0, u "Ljava/lang/String;"), (2, u "ordinal"), (0, u "I"), (1, .class_ 14), (1, u "java/lang/Object"), (4, u "hash"), (86, .class_ 108), (1, u "java/lang/Enum$EnumDesc"), (2, .class_ 112), (0, u "java/lang/constant/Constable"), (0, .class_ 114), (0, u "java/lang/Comparable"), (0, .class_ 116), (0, u "java/io/Serializable")] 87

/-- java/lang/Enum -/
def k5 : Class := { plain "java/lang/Enum" (some 0) with
  accessFlags := 1057
  interfaces := #[2, 3, 4]
  cf := some (fileOf pool5 2 #[.nestMembers #[106]] #[] 1057 12 #[111, 113, 115] #[{ accessFlags := 18, nameIndex := 5, descriptorIndex := 6, attributes := #[] }, { accessFlags := 18, nameIndex := 9, descriptorIndex := 10, attributes := #[] }, { accessFlags := 2, nameIndex := 19, descriptorIndex := 10, attributes := #[] }])
  fields := #[{ name := "name", type := (.object "java/lang/String"), accessFlags := 18, slot := 0, constantValue := 0 }, { name := "ordinal", type := .int, accessFlags := 18, slot := 1, constantValue := 0 }, { name := "hash", type := .int, accessFlags := 2, slot := 2, constantValue := 0 }]
  methods := #[]
  instanceTypes := #[(.object "java/lang/String"), .int, .int]
  staticTypes := #[]
  resolved := Array.replicate 204 none
  statics := none }

def pool6 : Array CpInfo := pool [(1, .class_ 2), (0, u "com/example/haris/haris/model/Verdict"), (2, u "TRUE"), (0, u "Lcom/example/haris/haris/model/Verdict;"), (2, u "FALSE"), (0, .fieldref 1 11), (0, .nameAndType 12 6), (0, u "INCONCLUSIVE"), (2, u "$VALUES"), (0, u "[Lcom/example/haris/haris/model/Verdict;"), (6, .class_ 25), (1, u "java/lang/Enum"), (6, .fieldref 1 33), (0, .nameAndType 34 35), (0, u "symbol"), (0, u "Ljava/lang/String;"), (77, u "()Ljava/lang/String;"), (0, u "isFinal"), (0, u "()Z")] 45

def k6c0 : Code := { maxStack := 1, maxLocals := 1, code := prog_13_method_4_code, exceptionTable := #[], attributes := #[] }
def k6m0 : Method := { name := "symbol", desc := "()Ljava/lang/String;", sig := { parameters := [], returnType := some (.object "java/lang/String") }, accessFlags := 1, code := some k6c0 }
def k6c1 : Code := { maxStack := 2, maxLocals := 1, code := prog_13_method_5_code, exceptionTable := #[], attributes := #[] }
def k6m1 : Method := { name := "isFinal", desc := "()Z", sig := { parameters := [], returnType := some .boolean }, accessFlags := 1, code := some k6c1 }
/-- com/example/haris/haris/model/Verdict -/
def k6 : Class := { plain "com/example/haris/haris/model/Verdict" (some 5) with
  accessFlags := 16433
  interfaces := #[]
  cf := some (fileOf pool6 1 #[] #[{ accessFlags := 1, nameIndex := 34, descriptorIndex := 113, attributes := #[] }, { accessFlags := 1, nameIndex := 114, descriptorIndex := 115, attributes := #[] }] 16433 23 #[] #[{ accessFlags := 16409, nameIndex := 5, descriptorIndex := 6, attributes := #[] }, { accessFlags := 16409, nameIndex := 9, descriptorIndex := 6, attributes := #[] }, { accessFlags := 16409, nameIndex := 12, descriptorIndex := 6, attributes := #[] }, { accessFlags := 18, nameIndex := 34, descriptorIndex := 35, attributes := #[] }, { accessFlags := 4122, nameIndex := 15, descriptorIndex := 16, attributes := #[] }])
  fields := #[{ name := "TRUE", type := (.object "com/example/haris/haris/model/Verdict"), accessFlags := 16409, slot := 0, constantValue := 0 }, { name := "FALSE", type := (.object "com/example/haris/haris/model/Verdict"), accessFlags := 16409, slot := 1, constantValue := 0 }, { name := "INCONCLUSIVE", type := (.object "com/example/haris/haris/model/Verdict"), accessFlags := 16409, slot := 2, constantValue := 0 }, { name := "symbol", type := (.object "java/lang/String"), accessFlags := 18, slot := 3, constantValue := 0 }, { name := "$VALUES", type := (.array (.object "com/example/haris/haris/model/Verdict")), accessFlags := 4122, slot := 3, constantValue := 0 }]
  methods := #[k6m0, k6m1]
  instanceTypes := #[(.object "java/lang/String"), .int, .int, (.object "java/lang/String")]
  staticTypes := #[(.object "com/example/haris/haris/model/Verdict"), (.object "com/example/haris/haris/model/Verdict"), (.object "com/example/haris/haris/model/Verdict"), (.array (.object "com/example/haris/haris/model/Verdict"))]
  resolved := Array.replicate 161 none
  statics := some 0 }

def pool7 : Array CpInfo := pool [(2, .class_ 4), (1, u "java/lang/CharSequence"), (42, .class_ 48), (0, u "java/lang/CharSequence$1CodePointIterator"), (10, .class_ 60), (0, u "java/lang/CharSequence$1CharIterator"), (5, .class_ 67), (0, u "java/lang/Object")] 63

/-- java/lang/CharSequence -/
def k7 : Class := { plain "java/lang/CharSequence" (some 0) with
  accessFlags := 1537
  interfaces := #[]
  cf := some (fileOf pool7 2 #[.nestMembers #[47, 59]] #[] 1537 66 #[] #[])
  fields := #[]
  methods := #[]
  instanceTypes := #[]
  staticTypes := #[]
  resolved := Array.replicate 131 none
  statics := none }

def pool8 : Array CpInfo := pool [(1, .class_ 2), (0, u "java/lang/constant/ConstantDesc"), (0, .class_ 4), (0, u "java/lang/Object")] 32

/-- java/lang/constant/ConstantDesc -/
def k8 : Class := { plain "java/lang/constant/ConstantDesc" (some 0) with
  accessFlags := 1537
  interfaces := #[]
  cf := some (fileOf pool8 1 #[] #[] 1537 3 #[] #[])
  fields := #[]
  methods := #[]
  instanceTypes := #[]
  staticTypes := #[]
  resolved := Array.replicate 37 none
  statics := none }

def pool9 : Array CpInfo := pool [(2, .class_ 4), (1, u "java/lang/Object"), (0, u "<init>"), (0, u "()V"), (2, .fieldref 10 11), (0, .class_ 12), (0, .nameAndType 13 14), (0, u "java/lang/String"), (0, u "value"), (0, u "[B"), (0, .fieldref 10 16), (0, .nameAndType 17 18), (0, u "coder"), (0, u "B"), (2, u "hash"), (0, u "I"), (2, u "hashIsZero"), (0, u "Z"), (11, .fieldref 10 39), (0, .nameAndType 40 26), (0, u "COMPACT_STRINGS"), (66, .class_ 109), (1, u "java/lang/StringLatin1"), (431, .methodref 107 542), (0, .nameAndType 543 544), (0, u "equals"), (0, u "([B[B)Z"), (28, u "(Ljava/lang/Object;)Z"), (1, .class_ 576), (0, u "java/lang/CharSequence"), (22, u "CASE_INSENSITIVE_ORDER"), (0, u "Ljava/util/Comparator;"), (500, u "serialPersistentFields"), (0, u "[Ljava/io/ObjectStreamField;"), (0, .class_ 1104), (0, u "java/lang/String$CaseInsensitiveComparator"), (1, .class_ 1107), (0, u "java/io/Serializable"), (0, .class_ 1109), (0, u "java/lang/Comparable"), (0, .class_ 1111), (0, u "java/lang/constant/Constable"), (0, .class_ 1113), (0, u "java/lang/constant/ConstantDesc"), (2, u "serialVersionUID"), (0, u "J"), (3, u "REPL"), (0, u "C"), (2, u "LATIN1"), (1, u "UTF16")] 323

def k9m0 : Method := { name := "<init>", desc := "()V", sig := { parameters := [], returnType := none }, accessFlags := 1, code := none }
def k9c1 : Code := { maxStack := 2, maxLocals := 3, code := jdk_42_method_66_code, exceptionTable := #[], attributes := #[] }
def k9m1 : Method := { name := "equals", desc := "(Ljava/lang/Object;)Z", sig := { parameters := [(.object "java/lang/Object")], returnType := some .boolean }, accessFlags := 1, code := some k9c1 }
/-- java/lang/String -/
def k9 : Class := { plain "java/lang/String" (some 0) with
  accessFlags := 49
  interfaces := #[4, 3, 7, 2, 8]
  cf := some (fileOf pool9 10 #[.nestMembers #[1103]] #[{ accessFlags := 1, nameIndex := 5, descriptorIndex := 6, attributes := #[] }, { accessFlags := 1, nameIndex := 543, descriptorIndex := 573, attributes := #[] }] 49 2 #[1106, 1108, 575, 1110, 1112] #[{ accessFlags := 18, nameIndex := 13, descriptorIndex := 14, attributes := #[] }, { accessFlags := 18, nameIndex := 17, descriptorIndex := 18, attributes := #[] }, { accessFlags := 2, nameIndex := 21, descriptorIndex := 22, attributes := #[] }, { accessFlags := 2, nameIndex := 25, descriptorIndex := 26, attributes := #[] }, { accessFlags := 26, nameIndex := 1116, descriptorIndex := 1117, attributes := #[] }, { accessFlags := 24, nameIndex := 40, descriptorIndex := 26, attributes := #[] }, { accessFlags := 26, nameIndex := 1101, descriptorIndex := 1102, attributes := #[] }, { accessFlags := 26, nameIndex := 1121, descriptorIndex := 1122, attributes := #[] }, { accessFlags := 25, nameIndex := 599, descriptorIndex := 600, attributes := #[] }, { accessFlags := 24, nameIndex := 1125, descriptorIndex := 18, attributes := #[] }, { accessFlags := 24, nameIndex := 1127, descriptorIndex := 18, attributes := #[] }])
  fields := #[{ name := "value", type := (.array .byte), accessFlags := 18, slot := 0, constantValue := 0 }, { name := "coder", type := .byte, accessFlags := 18, slot := 1, constantValue := 0 }, { name := "hash", type := .int, accessFlags := 2, slot := 2, constantValue := 0 }, { name := "hashIsZero", type := .boolean, accessFlags := 2, slot := 3, constantValue := 0 }, { name := "serialVersionUID", type := .long, accessFlags := 26, slot := 0, constantValue := 0 }, { name := "COMPACT_STRINGS", type := .boolean, accessFlags := 24, slot := 1, constantValue := 0 }, { name := "serialPersistentFields", type := (.array (.object "java/io/ObjectStreamField")), accessFlags := 26, slot := 2, constantValue := 0 }, { name := "REPL", type := .char, accessFlags := 26, slot := 3, constantValue := 0 }, { name := "CASE_INSENSITIVE_ORDER", type := (.object "java/util/Comparator"), accessFlags := 25, slot := 4, constantValue := 0 }, { name := "LATIN1", type := .byte, accessFlags := 24, slot := 5, constantValue := 0 }, { name := "UTF16", type := .byte, accessFlags := 24, slot := 6, constantValue := 0 }]
  methods := #[k9m0, k9m1]
  instanceTypes := #[(.array .byte), .byte, .int, .boolean]
  staticTypes := #[.long, .boolean, (.array (.object "java/io/ObjectStreamField")), .char, (.object "java/util/Comparator"), .byte, .byte]
  resolved := Array.replicate 1451 none
  statics := some 1 }

def pool10 : Array CpInfo := pool [(4, .class_ 6), (1, u "java/lang/Object"), (0, u "<init>"), (0, u "()V"), (5, .class_ 16), (1, u "java/lang/StringLatin1"), (104, u "$assertionsDisabled"), (0, u "Z"), (98, .class_ 223), (1, u "java/lang/StringLatin1$LinesSpliterator"), (57, u "equals"), (0, u "([B[B)Z"), (107, .class_ 391), (0, u "java/lang/StringLatin1$CharsSpliterator")] 3

def k10m0 : Method := { name := "<init>", desc := "()V", sig := { parameters := [], returnType := none }, accessFlags := 0, code := none }
def k10c1 : Code := { maxStack := 3, maxLocals := 3, code := jdk_43_method_13_code, exceptionTable := #[], attributes := #[] }
def k10m1 : Method := { name := "equals", desc := "([B[B)Z", sig := { parameters := [(.array .byte), (.array .byte)], returnType := some .boolean }, accessFlags := 9, code := some k10c1 }
/-- java/lang/StringLatin1 -/
def k10 : Class := { plain "java/lang/StringLatin1" (some 0) with
  accessFlags := 48
  interfaces := #[]
  cf := some (fileOf pool10 14 #[.nestMembers #[390, 221]] #[{ accessFlags := 0, nameIndex := 7, descriptorIndex := 8, attributes := #[] }, { accessFlags := 9, nameIndex := 281, descriptorIndex := 282, attributes := #[] }] 48 4 #[] #[{ accessFlags := 4120, nameIndex := 121, descriptorIndex := 122, attributes := #[] }])
  fields := #[{ name := "$assertionsDisabled", type := .boolean, accessFlags := 4120, slot := 0, constantValue := 0 }]
  methods := #[k10m0, k10m1]
  instanceTypes := #[]
  staticTypes := #[.boolean]
  resolved := Array.replicate 395 none
  statics := none }

def pool11 : Array CpInfo := pool [(2, .class_ 4), (1, u "java/lang/Object"), (0, u "<init>"), (0, u "()V"), (17, .class_ 26), (1, u "jdk/internal/util/Preconditions"), (28, .class_ 56), (0, u "jdk/internal/util/Preconditions$4"), (57, .class_ 115), (0, u "jdk/internal/util/Preconditions$1"), (7, u "SIOOBE_FORMATTER"), (0, u "Ljava/util/function/BiFunction;"), (0, .class_ 126), (0, u "jdk/internal/util/Preconditions$2"), (3, u "AIOOBE_FORMATTER"), (0, .class_ 132), (0, u "jdk/internal/util/Preconditions$3"), (3, u "IOOBE_FORMATTER")] 57

def k11m0 : Method := { name := "<init>", desc := "()V", sig := { parameters := [], returnType := none }, accessFlags := 1, code := none }
/-- jdk/internal/util/Preconditions -/
def k11 : Class := { plain "jdk/internal/util/Preconditions" (some 0) with
  accessFlags := 33
  interfaces := #[]
  cf := some (fileOf pool11 24 #[.nestMembers #[55, 131, 125, 114]] #[{ accessFlags := 1, nameIndex := 5, descriptorIndex := 6, attributes := #[] }] 33 2 #[] #[{ accessFlags := 25, nameIndex := 123, descriptorIndex := 124, attributes := #[] }, { accessFlags := 25, nameIndex := 130, descriptorIndex := 124, attributes := #[] }, { accessFlags := 25, nameIndex := 136, descriptorIndex := 124, attributes := #[] }])
  fields := #[{ name := "SIOOBE_FORMATTER", type := (.object "java/util/function/BiFunction"), accessFlags := 25, slot := 0, constantValue := 0 }, { name := "AIOOBE_FORMATTER", type := (.object "java/util/function/BiFunction"), accessFlags := 25, slot := 1, constantValue := 0 }, { name := "IOOBE_FORMATTER", type := (.object "java/util/function/BiFunction"), accessFlags := 25, slot := 2, constantValue := 0 }]
  methods := #[k11m0]
  instanceTypes := #[]
  staticTypes := #[(.object "java/util/function/BiFunction"), (.object "java/util/function/BiFunction"), (.object "java/util/function/BiFunction")]
  resolved := Array.replicate 194 none
  statics := some 2 }

def pool12 : Array CpInfo := pool [(9, u "<init>"), (6, .class_ 18), (1, u "java/lang/Object"), (0, u "()V"), (1, .class_ 23), (1, u "jdk/internal/util/ArraysSupport"), (0, u "LOG2_ARRAY_LONG_INDEX_SCALE"), (0, u "I"), (2, u "U"), (0, u "Ljdk/internal/misc/Unsafe;"), (8, u "BIG_ENDIAN"), (0, u "Z"), (8, u "LOG2_BYTE_BIT_SIZE"), (4, u "LOG2_ARRAY_INT_INDEX_SCALE"), (54, u "JLA"), (0, u "Ljdk/internal/access/JavaLangAccess;"), (11, u "LOG2_ARRAY_BOOLEAN_INDEX_SCALE"), (9, u "LOG2_ARRAY_BYTE_INDEX_SCALE"), (5, u "LOG2_ARRAY_CHAR_INDEX_SCALE"), (5, u "LOG2_ARRAY_SHORT_INDEX_SCALE"), (18, u "LOG2_ARRAY_FLOAT_INDEX_SCALE"), (24, u "LOG2_ARRAY_DOUBLE_INDEX_SCALE"), (89, u "T_BOOLEAN"), (2, u "T_CHAR"), (1, u "T_FLOAT"), (1, u "T_DOUBLE"), (1, u "T_BYTE"), (1, u "T_SHORT"), (1, u "T_INT"), (1, u "T_LONG"), (1, u "SOFT_MAX_ARRAY_LENGTH")] 83

def k12m0 : Method := { name := "<init>", desc := "()V", sig := { parameters := [], returnType := none }, accessFlags := 2, code := none }
/-- jdk/internal/util/ArraysSupport -/
def k12 : Class := { plain "jdk/internal/util/ArraysSupport" (some 0) with
  accessFlags := 33
  interfaces := #[]
  cf := some (fileOf pool12 21 #[] #[{ accessFlags := 2, nameIndex := 9, descriptorIndex := 19, attributes := #[] }] 33 16 #[] #[{ accessFlags := 24, nameIndex := 28, descriptorIndex := 29, attributes := #[] }, { accessFlags := 26, nameIndex := 38, descriptorIndex := 39, attributes := #[] }, { accessFlags := 25, nameIndex := 121, descriptorIndex := 25, attributes := #[] }, { accessFlags := 25, nameIndex := 131, descriptorIndex := 25, attributes := #[] }, { accessFlags := 25, nameIndex := 137, descriptorIndex := 25, attributes := #[] }, { accessFlags := 25, nameIndex := 143, descriptorIndex := 25, attributes := #[] }, { accessFlags := 25, nameIndex := 53, descriptorIndex := 25, attributes := #[] }, { accessFlags := 25, nameIndex := 24, descriptorIndex := 25, attributes := #[] }, { accessFlags := 25, nameIndex := 162, descriptorIndex := 25, attributes := #[] }, { accessFlags := 25, nameIndex := 187, descriptorIndex := 25, attributes := #[] }, { accessFlags := 26, nameIndex := 48, descriptorIndex := 25, attributes := #[] }, { accessFlags := 25, nameIndex := 277, descriptorIndex := 25, attributes := #[] }, { accessFlags := 25, nameIndex := 280, descriptorIndex := 25, attributes := #[] }, { accessFlags := 25, nameIndex := 282, descriptorIndex := 25, attributes := #[] }, { accessFlags := 25, nameIndex := 284, descriptorIndex := 25, attributes := #[] }, { accessFlags := 25, nameIndex := 286, descriptorIndex := 25, attributes := #[] }, { accessFlags := 25, nameIndex := 288, descriptorIndex := 25, attributes := #[] }, { accessFlags := 25, nameIndex := 290, descriptorIndex := 25, attributes := #[] }, { accessFlags := 25, nameIndex := 292, descriptorIndex := 25, attributes := #[] }, { accessFlags := 26, nameIndex := 108, descriptorIndex := 109, attributes := #[] }, { accessFlags := 25, nameIndex := 294, descriptorIndex := 25, attributes := #[] }])
  fields := #[{ name := "U", type := (.object "jdk/internal/misc/Unsafe"), accessFlags := 24, slot := 0, constantValue := 0 }, { name := "BIG_ENDIAN", type := .boolean, accessFlags := 26, slot := 1, constantValue := 0 }, { name := "LOG2_ARRAY_BOOLEAN_INDEX_SCALE", type := .int, accessFlags := 25, slot := 2, constantValue := 0 }, { name := "LOG2_ARRAY_BYTE_INDEX_SCALE", type := .int, accessFlags := 25, slot := 3, constantValue := 0 }, { name := "LOG2_ARRAY_CHAR_INDEX_SCALE", type := .int, accessFlags := 25, slot := 4, constantValue := 0 }, { name := "LOG2_ARRAY_SHORT_INDEX_SCALE", type := .int, accessFlags := 25, slot := 5, constantValue := 0 }, { name := "LOG2_ARRAY_INT_INDEX_SCALE", type := .int, accessFlags := 25, slot := 6, constantValue := 0 }, { name := "LOG2_ARRAY_LONG_INDEX_SCALE", type := .int, accessFlags := 25, slot := 7, constantValue := 0 }, { name := "LOG2_ARRAY_FLOAT_INDEX_SCALE", type := .int, accessFlags := 25, slot := 8, constantValue := 0 }, { name := "LOG2_ARRAY_DOUBLE_INDEX_SCALE", type := .int, accessFlags := 25, slot := 9, constantValue := 0 }, { name := "LOG2_BYTE_BIT_SIZE", type := .int, accessFlags := 26, slot := 10, constantValue := 0 }, { name := "T_BOOLEAN", type := .int, accessFlags := 25, slot := 11, constantValue := 0 }, { name := "T_CHAR", type := .int, accessFlags := 25, slot := 12, constantValue := 0 }, { name := "T_FLOAT", type := .int, accessFlags := 25, slot := 13, constantValue := 0 }, { name := "T_DOUBLE", type := .int, accessFlags := 25, slot := 14, constantValue := 0 }, { name := "T_BYTE", type := .int, accessFlags := 25, slot := 15, constantValue := 0 }, { name := "T_SHORT", type := .int, accessFlags := 25, slot := 16, constantValue := 0 }, { name := "T_INT", type := .int, accessFlags := 25, slot := 17, constantValue := 0 }, { name := "T_LONG", type := .int, accessFlags := 25, slot := 18, constantValue := 0 }, { name := "JLA", type := (.object "jdk/internal/access/JavaLangAccess"), accessFlags := 26, slot := 19, constantValue := 0 }, { name := "SOFT_MAX_ARRAY_LENGTH", type := .int, accessFlags := 25, slot := 20, constantValue := 0 }]
  methods := #[k12m0]
  instanceTypes := #[]
  staticTypes := #[(.object "jdk/internal/misc/Unsafe"), .boolean, .int, .int, .int, .int, .int, .int, .int, .int, .int, .int, .int, .int, .int, .int, .int, .int, .int, (.object "jdk/internal/access/JavaLangAccess"), .int]
  resolved := Array.replicate 378 none
  statics := none }

def pool13 : Array CpInfo := pool [(1, u "java/lang/Cloneable"), (0, .class_ 1), (0, u "java/lang/Object"), (0, .class_ 3)] 3

/-- java/lang/Cloneable -/
def k13 : Class := { plain "java/lang/Cloneable" (some 0) with
  accessFlags := 1537
  interfaces := #[]
  cf := some (fileOf pool13 2 #[] #[] 1537 4 #[] #[])
  fields := #[]
  methods := #[]
  instanceTypes := #[]
  staticTypes := #[]
  resolved := Array.replicate 8 none
  statics := none }

/-- the primitive byte -/
def k14 : Class := { plain "byte" none with kind := .primitive 'B', accessFlags := 0x411 }
/-- [B -/
def k15 : Class := { plain "[B" (some 0) with kind := .array 14 .byte, interfaces := #[13, 4], accessFlags := 1041 }

/-- the primitive int -/
def k16 : Class := { plain "int" none with kind := .primitive 'I', accessFlags := 0x411 }
/-- [I -/
def k17 : Class := { plain "[I" (some 0) with kind := .array 16 .int, interfaces := #[13, 4], accessFlags := 1041 }

def heap : Heap := #[{ cls := 6, slots := #[.ref 9, .ref 10, .ref 11, .null], vm := .statics 6 },
  { cls := 9, slots := #[.long 0, .int 1, .null, .int 0, .null, .int 0, .int 0], vm := .statics 9 },
  { cls := 11, slots := #[.null, .null, .null], vm := .statics 11 },
  { cls := 15, slots := #[.int 84], vm := .none },
  { cls := 15, slots := #[.int 70], vm := .none },
  { cls := 15, slots := #[.int 63], vm := .none },
  { cls := 9, slots := #[.ref 3, .int 0, .int 0, .int 0], vm := .none },
  { cls := 9, slots := #[.ref 4, .int 0, .int 0, .int 0], vm := .none },
  { cls := 9, slots := #[.ref 5, .int 0, .int 0, .int 0], vm := .none },
  { cls := 6, slots := #[.null, .int 0, .int 0, .ref 6], vm := .none },
  { cls := 6, slots := #[.null, .int 1, .int 0, .ref 7], vm := .none },
  { cls := 6, slots := #[.null, .int 2, .int 0, .ref 8], vm := .none }]
def classes : Array Class := #[k0, k1, k2, k3, k4, k5, k6, k7, k8, k9, k10, k11, k12, k13, k14, k15, k16, k17]
def interned : List (Array UInt16 × Addr) := []
def slotsUsed : Nat := 41
def theMethod : MethodId := ⟨1, 2⟩
def args0 : Array Value := #[.int 5]
def aboutOver (below : List Frame) : State where
  vm := { classes := classes, interned := interned.toArray }
  heap := heap
  slotsUsed := slotsUsed
  threads := #[{ frames := .invoking theMethod args0 :: below }]
def below0 : List Frame := [.native { method := ⟨0, 0⟩, args := #[] }]
def about1 : State := aboutOver below0
def p0 : Program := .bare "" "" ""
def e0 : Env := launch0.env 0 0 0
theorem w_frames : about1.frames = Frame.invoking theMethod args0 :: below0 := rfl
set_option maxRecDepth 65536 in
theorem w_args : argsFit about1.vm theMethod args0 = true := by decide +kernel
set_option maxRecDepth 65536 in
theorem w_heap : heapFits about1 = true := by decide +kernel
set_option maxRecDepth 65536 in
theorem w_runnable : about1.curStatus? = some .runnable := by decide +kernel
set_option maxRecDepth 65536 in
theorem w_alone : about1.alone = true := by decide +kernel
set_option maxRecDepth 65536 in
theorem w_named : about1.methodNamed? x = some theMethod := by decide +kernel
set_option maxRecDepth 65536 in
theorem w_hears : about1.hears theMethod below0 = true := by decide +kernel
set_option maxRecDepth 65536 in
theorem w_ripe : about1.ripe theMethod args0 below0 = true := by decide +kernel
theorem w_running : about1.status = .running := rfl
set_option maxRecDepth 65536 in
theorem w_room : about1.hasRoom e0.platform room_1 = true :=
  launch0.hasRoom_least _ room_1 (by decide +kernel) (by decide +kernel) (by decide +kernel) (by decide +kernel) (by decide +kernel) (by decide +kernel)
theorem allAtoms_all (ts : List Jvm.Cond) (a : Array Jvm.Value) (st : Jvm.State) : (allAtoms ts).before a st = ts.all (fun c => c.before a st) := by
  induction ts with
  | nil => rfl
  | cons c t ih =>
    show (Jvm.Cond.and c (allAtoms t)).before a st = _
    rw [Jvm.Cond.before_and, ih, List.all_cons]
def words1 : List Jvm.Cond := Jvm.Cond.code x code maxLocals ret :: tables_1
/-- a 'code' word, met by the world's own term for the bytes: nothing is compared byte by byte -/
theorem code_word {y : MethodName} {bytes : ByteArray} {mx : Nat} {rt : Option FieldType} {a : Array Value} {s : State} {m : MethodId} {meth : Method} {c : Code} (h1 : s.methodNamed? y = some m) (h2 : s.vm.method? m = some meth) (h3 : meth.code = some c) (h4 : c.code = bytes)
    (h5 : (c.maxLocals == mx && c.exceptionTable.isEmpty && decide (c.maxStack ≤ mostOperands) && decide (meth.sig.returnType = rt) && !meth.locks && decide (parseMethodDescriptor y.desc = some meth.sig)) = true) : (Jvm.Cond.code y bytes mx rt).before a s = true := by
  simp only [Bool.and_eq_true, beq_iff_eq, Bool.not_eq_true', decide_eq_true_eq] at h5
  obtain ⟨⟨⟨⟨⟨g1, g2⟩, g3⟩, g4⟩, g5⟩, g6⟩ := h5
  simp [Cond.before, Cond.holds, Cond.value, h1, h2, h3, h4, g1, g2, g3, g4, g5, g6]
def isCode : Jvm.Cond → Bool
  | .code _ _ _ _ => true
  | _ => false
theorem all_split {L : List Jvm.Cond} {P : Jvm.Cond → Bool} (h1 : L.all (fun c => isCode c || P c) = true) (h2 : ∀ c ∈ L.filter isCode, P c = true) : L.all P = true := by
  refine List.all_eq_true.mpr fun c hc => ?_
  have h := List.all_eq_true.mp h1 c hc
  rcases Bool.eq_false_or_eq_true (isCode c) with hi | hi
  · exact h2 c (List.mem_filter.mpr ⟨hc, hi⟩)
  · simpa [hi] using h
set_option maxRecDepth 65536 in
theorem w_c0 : (Jvm.Cond.code x code maxLocals ret).before args0 about1 = true := code_word (m := ⟨1, 2⟩) (meth := k1m2) (c := k1c2) (by decide +kernel) rfl rfl rfl (by decide +kernel)
set_option maxRecDepth 65536 in
theorem w_c1 : (Jvm.Cond.code ({ cls := "com/example/haris/haris/model/VerdictIsFinalPinLaw", name := "pick", desc := "(I)Lcom/example/haris/haris/model/Verdict;" } : Jvm.MethodName) method_2_code (2 : Nat) (Option.some (Jvm.ClassFile.FieldType.object "com/example/haris/haris/model/Verdict"))).before args0 about1 = true := code_word (m := ⟨1, 1⟩) (meth := k1m1) (c := k1c1) (by decide +kernel) rfl rfl rfl (by decide +kernel)
set_option maxRecDepth 65536 in
theorem w_c2 : (Jvm.Cond.code ({ cls := "com/example/haris/haris/model/Verdict", name := "symbol", desc := "()Ljava/lang/String;" } : Jvm.MethodName) prog_13_method_4_code (1 : Nat) (Option.some (Jvm.ClassFile.FieldType.object "java/lang/String"))).before args0 about1 = true := code_word (m := ⟨6, 0⟩) (meth := k6m0) (c := k6c0) (by decide +kernel) rfl rfl rfl (by decide +kernel)
set_option maxRecDepth 65536 in
theorem w_c3 : (Jvm.Cond.code ({ cls := "java/lang/String", name := "equals", desc := "(Ljava/lang/Object;)Z" } : Jvm.MethodName) jdk_42_method_66_code (3 : Nat) (Option.some Jvm.ClassFile.FieldType.boolean)).before args0 about1 = true := code_word (m := ⟨9, 1⟩) (meth := k9m1) (c := k9c1) (by decide +kernel) rfl rfl rfl (by decide +kernel)
set_option maxRecDepth 65536 in
theorem w_c4 : (Jvm.Cond.code ({ cls := "java/lang/StringLatin1", name := "equals", desc := "([B[B)Z" } : Jvm.MethodName) jdk_43_method_13_code (3 : Nat) (Option.some Jvm.ClassFile.FieldType.boolean)).before args0 about1 = true := code_word (m := ⟨10, 1⟩) (meth := k10m1) (c := k10c1) (by decide +kernel) rfl rfl rfl (by decide +kernel)
set_option maxRecDepth 65536 in
theorem w_c5 : (Jvm.Cond.code ({ cls := "com/example/haris/haris/model/Verdict", name := "isFinal", desc := "()Z" } : Jvm.MethodName) prog_13_method_5_code (1 : Nat) (Option.some Jvm.ClassFile.FieldType.boolean)).before args0 about1 = true := code_word (m := ⟨6, 1⟩) (meth := k6m1) (c := k6c1) (by decide +kernel) rfl rfl rfl (by decide +kernel)
def codes1 : List Jvm.Cond := [Jvm.Cond.code x code maxLocals ret, Jvm.Cond.code ({ cls := "com/example/haris/haris/model/VerdictIsFinalPinLaw", name := "pick", desc := "(I)Lcom/example/haris/haris/model/Verdict;" } : Jvm.MethodName) method_2_code (2 : Nat) (Option.some (Jvm.ClassFile.FieldType.object "com/example/haris/haris/model/Verdict")), Jvm.Cond.code ({ cls := "com/example/haris/haris/model/Verdict", name := "symbol", desc := "()Ljava/lang/String;" } : Jvm.MethodName) prog_13_method_4_code (1 : Nat) (Option.some (Jvm.ClassFile.FieldType.object "java/lang/String")), Jvm.Cond.code ({ cls := "java/lang/String", name := "equals", desc := "(Ljava/lang/Object;)Z" } : Jvm.MethodName) jdk_42_method_66_code (3 : Nat) (Option.some Jvm.ClassFile.FieldType.boolean), Jvm.Cond.code ({ cls := "java/lang/StringLatin1", name := "equals", desc := "([B[B)Z" } : Jvm.MethodName) jdk_43_method_13_code (3 : Nat) (Option.some Jvm.ClassFile.FieldType.boolean), Jvm.Cond.code ({ cls := "com/example/haris/haris/model/Verdict", name := "isFinal", desc := "()Z" } : Jvm.MethodName) prog_13_method_5_code (1 : Nat) (Option.some Jvm.ClassFile.FieldType.boolean)]
set_option maxRecDepth 65536 in
theorem codes_eq : words1.filter isCode = codes1 := rfl
theorem w_codes : ∀ c ∈ words1.filter isCode, c.before args0 about1 = true := by
  rw [codes_eq]
  intro c hc
  simp only [codes1, List.mem_cons, List.not_mem_nil, or_false] at hc
  rcases hc with rfl | rfl | rfl | rfl | rfl | rfl
  · exact w_c0
  · exact w_c1
  · exact w_c2
  · exact w_c3
  · exact w_c4
  · exact w_c5
set_option maxRecDepth 65536 in
theorem w_t1 : (words1.take 24).all (fun c => isCode c || c.before args0 about1) = true := by decide +kernel
set_option maxRecDepth 65536 in
theorem w_t2 : ((words1.drop 24).take 24).all (fun c => isCode c || c.before args0 about1) = true := by decide +kernel
set_option maxRecDepth 65536 in
theorem w_t3 : ((words1.drop 24).drop 24).all (fun c => isCode c || c.before args0 about1) = true := by decide +kernel
theorem w_tables : (allAtoms (Jvm.Cond.code x code maxLocals ret :: tables_1)).before args0 about1 = true := by
  rw [allAtoms_all]
  show words1.all (fun c => c.before args0 about1) = true
  refine all_split ?_ w_codes
  rw [← List.take_append_drop 24 words1, List.all_append, w_t1, ← List.take_append_drop 24 (words1.drop 24), List.all_append, w_t2, w_t3]
  rfl
set_option maxRecDepth 65536 in
theorem w_rest : rest_1_c.before args0 about1 = true := by decide +kernel
set_option maxRecDepth 65536 in
theorem w_case : (Jvm.Cond.and given_1 narrow_1).before args0 about1 = true := by decide +kernel
set_option maxRecDepth 65536 in
theorem w_consts : constsHeld consts_1 about1 := Jvm.Lit.constsHeldB_iff.mp (by decide +kernel)
theorem w_applies : (headSpec (Jvm.Cond.code x code maxLocals ret :: tables_1) room_1).applies x e0.platform about1 = true :=
  (Spec.applies_iff w_frames).mpr ⟨w_running, w_runnable, w_alone, w_named, w_hears, w_ripe, w_room, w_tables⟩
theorem atStart : AtStart classFile x code maxLocals ret World_1 tables_1 room_1 Calls_1 rest_1 Pre_1 launch0 p0 e0 about1 theMethod args0 below0 :=
  ⟨lists_1, trivial, launch0.admits_env _ _ _, launch0.least_env, fairChoices_fair.cas, fairChoices_fair.clock, w_frames, w_args, w_heap, w_applies, ⟨w_consts, trivial⟩, w_rest, w_case⟩
end start1
theorem witness_1 : WitnessClaimed_1 := ⟨start1.p0, start1.e0, start1.about1, start1.theMethod, start1.args0, start1.below0, start1.atStart⟩
end Jvm.Pilot.@@N@@
