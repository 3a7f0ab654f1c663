import JvmDerived
import JvmDerived.Pilot.@@N@@Statement
import JvmDerived.Pilot.@@N@@Code
set_option linter.unusedVariables false
set_option linter.unusedSimpArgs false
namespace Jvm.RoadKit
open Sem ClassFile Op Lib Jvm.Stand Jvm.Free Jvm.LawKit
section New
variable {p : Program} {l : Launch} {e : Env} {R : Room} {s : State} {m : MethodId} {args : Array Value} {below : List Frame} {meth : Method} {c : Code} {T : State} {locs : List Loc} {cells slots : Nat}
theorem retI (X : Stand p l e R s m args below meth c T locs cells slots) (hx : p.tables.exec = Jvm.exec) {pc : Nat} {Ls : Array Slot} {z : Int32} {rest : List Value} (hret : meth.sig.returnType = some .int) (hd : decode c.code pc = .ok (.ireturn, 1)) {fs : List Frame}
    (hl : ∀ (f : JFrame) (acts : List Action), f.method = m → f.locked = none → f.entered = [] → (doReturn e (T.setTop f) acts (some (.int z))).1 = T.setFrames fs) : Steps p.tables e below (T.setTop (mkF m pc Ls (.int z :: rest))) (T.setFrames fs) := by
  have hm' : T.vm.method? m = some meth := X.method'
  have hn : narrow .int (.int z) = .int z := rfl
  show Steps p.tables e below (T.setTop { method := m, pc := pc, locals := Ls, stack := _ :: rest, locked := none }) _
  jvm_step X.here [X.here.top, hx, hd, hm', hret, hn]
  first | (intro acts; rw [hl _ acts rfl rfl rfl]) | rw [hl _ _ rfl rfl rfl]
  exact Steps.refl _
end New
end Jvm.RoadKit
namespace Jvm.Pilot.@@N@@
open Jvm Jvm.ClassFile Sem Op Lib Jvm.Free Jvm.Stand Jvm.LawKit Jvm.RoadKit Bundle Jvm.Pilot.@@N@@.Jvm.D

theorem own_exa {args a0 : Array Value} {s : State} {C n d K : String} (wi : (Jvm.Cond.initialized C).before args s = true) (wl : (Jvm.Cond.laysStatic C n d).before args s = true) (h : (Jvm.Cond.exactly (Jvm.Term.static C n d) K).value args s none s [] = some true) : ∃ a, Sta s s.heap C n d (.ref a) ∧ Exa s s.heap a K ∧ (Jvm.Term.static C n d).eval args s none [] s = some (.ref a) := by
  obtain ⟨a, ev⟩ := exa_v h
  exact ⟨a, Sta.start ev (Or.inr ⟨wi, wl⟩), Exa.start ev h, ev⟩
theorem own_fldI {args : Array Value} {s : State} {a : Addr} {t : Jvm.Term} {C n d : String} {k : Int32} (ev : t.eval args s none [] s = some (.ref a)) (h : (Jvm.Cond.eq (Jvm.Term.field t C n d) (Jvm.Term.int k)).value args s none s [] = some true) : Fld s s.heap a C n d (.int k) := by
  obtain ⟨x, y, ex, ey, -, ky⟩ := cmp_v (Or.inl h)
  obtain rfl : Value.int k = y := Option.some.inj ey
  obtain ⟨z, rfl⟩ := ky
  have hz : z = k := by simpa [Cond.value, ex, ey] using h
  subst hz
  exact Fld.start ((fld_at ev).symm.trans ex)

def own_pick (k : Int32) (o0 o1 o2 o3 o4 o5 o6 o7 : Addr) : Addr := if k = (0 : Int32) then o0 else if k = (1 : Int32) then o1 else if k = (2 : Int32) then o2 else if k = (3 : Int32) then o3 else if k = (4 : Int32) then o4 else if k = (5 : Int32) then o5 else if k = (6 : Int32) then o6 else o7
def own_forced (p q : Int32) (o4 o5 o6 o7 : Addr) : Addr := if p = (0 : Int32) then (if q = (0 : Int32) then o5 else o7) else (if q = (0 : Int32) then o4 else o6)
def own_three (a x y z : Addr) : Int32 := if a = x then 1 else if a = y then 1 else if a = z then 1 else 0
theorem own_and7 (x : Int32) : (x &&& (7 : Int32)) = (0 : Int32) ∨ (x &&& (7 : Int32)) = (1 : Int32) ∨ (x &&& (7 : Int32)) = (2 : Int32) ∨ (x &&& (7 : Int32)) = (3 : Int32) ∨ (x &&& (7 : Int32)) = (4 : Int32) ∨ (x &&& (7 : Int32)) = (5 : Int32) ∨ (x &&& (7 : Int32)) = (6 : Int32) ∨ (x &&& (7 : Int32)) = (7 : Int32) := by
  have h := c_and x 7 (by decide)
  have e7 : (7 : Int32).toInt = 7 := by decide
  simp only [← Int32.toInt_inj, show (0 : Int32).toInt = 0 by decide, show (1 : Int32).toInt = 1 by decide, show (2 : Int32).toInt = 2 by decide, show (3 : Int32).toInt = 3 by decide, show (4 : Int32).toInt = 4 by decide, show (5 : Int32).toInt = 5 by decide, show (6 : Int32).toInt = 6 by decide, e7]
  omega
theorem own_three_hit1 {x y z : Addr} : own_three x x y z = (1 : Int32) := if_pos rfl
theorem own_three_hit2 {x y z : Addr} : own_three y x y z = (1 : Int32) := by
  unfold own_three; split
  · rfl
  · exact if_pos rfl
theorem own_three_hit3 {x y z : Addr} : own_three z x y z = (1 : Int32) := by
  unfold own_three; split
  · rfl
  · split
    · rfl
    · exact if_pos rfl
theorem own_three_no {a x y z : Addr} (h1 : a ≠ x) (h2 : a ≠ y) (h3 : a ≠ z) : own_three a x y z = (0 : Int32) := by unfold own_three; rw [if_neg h1, if_neg h2, if_neg h3]
theorem d1_0 : decode method_2_code 0 = .ok (.iload_n 0, 1) := by decide +kernel
theorem d1_1 : decode method_2_code 1 = .ok (.ifCond .ne 7, 3) := by decide +kernel
theorem d1_4 : decode method_2_code 4 = .ok (.getstatic 7, 3) := by decide +kernel
theorem d1_7 : decode method_2_code 7 = .ok (.areturn, 1) := by decide +kernel
theorem d1_8 : decode method_2_code 8 = .ok (.iload_n 0, 1) := by decide +kernel
theorem d1_9 : decode method_2_code 9 = .ok (.iconst 1, 1) := by decide +kernel
theorem d1_10 : decode method_2_code 10 = .ok (.if_icmp .ne 7, 3) := by decide +kernel
theorem d1_13 : decode method_2_code 13 = .ok (.getstatic 13, 3) := by decide +kernel
theorem d1_16 : decode method_2_code 16 = .ok (.areturn, 1) := by decide +kernel
theorem d1_17 : decode method_2_code 17 = .ok (.iload_n 0, 1) := by decide +kernel
theorem d1_18 : decode method_2_code 18 = .ok (.iconst 2, 1) := by decide +kernel
theorem d1_19 : decode method_2_code 19 = .ok (.if_icmp .ne 7, 3) := by decide +kernel
theorem d1_22 : decode method_2_code 22 = .ok (.getstatic 16, 3) := by decide +kernel
theorem d1_25 : decode method_2_code 25 = .ok (.areturn, 1) := by decide +kernel
theorem d1_26 : decode method_2_code 26 = .ok (.iload_n 0, 1) := by decide +kernel
theorem d1_27 : decode method_2_code 27 = .ok (.iconst 3, 1) := by decide +kernel
theorem d1_28 : decode method_2_code 28 = .ok (.if_icmp .ne 7, 3) := by decide +kernel
theorem d1_31 : decode method_2_code 31 = .ok (.getstatic 19, 3) := by decide +kernel
theorem d1_34 : decode method_2_code 34 = .ok (.areturn, 1) := by decide +kernel
theorem d1_35 : decode method_2_code 35 = .ok (.iload_n 0, 1) := by decide +kernel
theorem d1_36 : decode method_2_code 36 = .ok (.iconst 4, 1) := by decide +kernel
theorem d1_37 : decode method_2_code 37 = .ok (.if_icmp .ne 7, 3) := by decide +kernel
theorem d1_40 : decode method_2_code 40 = .ok (.getstatic 22, 3) := by decide +kernel
theorem d1_43 : decode method_2_code 43 = .ok (.areturn, 1) := by decide +kernel
theorem d1_44 : decode method_2_code 44 = .ok (.iload_n 0, 1) := by decide +kernel
theorem d1_45 : decode method_2_code 45 = .ok (.iconst 5, 1) := by decide +kernel
theorem d1_46 : decode method_2_code 46 = .ok (.if_icmp .ne 7, 3) := by decide +kernel
theorem d1_49 : decode method_2_code 49 = .ok (.getstatic 25, 3) := by decide +kernel
theorem d1_52 : decode method_2_code 52 = .ok (.areturn, 1) := by decide +kernel
theorem d1_53 : decode method_2_code 53 = .ok (.iload_n 0, 1) := by decide +kernel
theorem d1_54 : decode method_2_code 54 = .ok (.bipush 6, 2) := by decide +kernel
theorem d1_56 : decode method_2_code 56 = .ok (.if_icmp .ne 7, 3) := by decide +kernel
theorem d1_59 : decode method_2_code 59 = .ok (.getstatic 28, 3) := by decide +kernel
theorem d1_62 : decode method_2_code 62 = .ok (.areturn, 1) := by decide +kernel
theorem d1_63 : decode method_2_code 63 = .ok (.getstatic 31, 3) := by decide +kernel
theorem d1_66 : decode method_2_code 66 = .ok (.areturn, 1) := by decide +kernel
theorem ef_rm1 (m : MethodId) (x0 : Int32) : entryFrame m #[(.int x0)] 1 = mkF m 0 #[.val (.int x0)] [] := by first | (simp [entryFrame, mkF, argsToLocals, Value.category]; done) | rfl
theorem pn_0 : plainName "com/example/unanimity/unanimity/engine/OutcomeAbortedHerePinLaw" = true := by first | (simp [plainName, overriddenIn]; done) | decide +kernel
def Q1 (Z : State) (p0 : Int32) (o0 : Addr) (o1 : Addr) (o2 : Addr) (o3 : Addr) (o4 : Addr) (o5 : Addr) (o6 : Addr) (o7 : Addr) (h0 : Heap) (n0 : Nat) (v : Option Value) (h : Heap) (L : List Loc) : Prop := v = some (.ref (own_pick p0 o0 o1 o2 o3 o4 o5 o6 o7)) ∧ Fr n0 L ∧ h = h0
set_option maxRecDepth 65536 in
set_option maxHeartbeats 40000000 in
theorem rm1 (l : Launch) (Z : State) (aw : Array Value) (hw : ∀ d ∈ tables_1, d.before aw Z = true) (ws : List Jvm.Cond) (p0 : Int32) (o0 : Addr) (o1 : Addr) (o2 : Addr) (o3 : Addr) (o4 : Addr) (o5 : Addr) (o6 : Addr) (o7 : Addr) (h0 : Heap) (n0 : Nat) (Z0 : n0 ≤ h0.size) (S_COMMITTED : Sta Z h0 "com/example/unanimity/unanimity/engine/Outcome" "COMMITTED" "Lcom/example/unanimity/unanimity/engine/Outcome;" (.ref o0)) (S_ABORTED : Sta Z h0 "com/example/unanimity/unanimity/engine/Outcome" "ABORTED" "Lcom/example/unanimity/unanimity/engine/Outcome;" (.ref o1)) (S_IN_DOUBT : Sta Z h0 "com/example/unanimity/unanimity/engine/Outcome" "IN_DOUBT" "Lcom/example/unanimity/unanimity/engine/Outcome;" (.ref o2)) (S_UNKNOWN : Sta Z h0 "com/example/unanimity/unanimity/engine/Outcome" "UNKNOWN" "Lcom/example/unanimity/unanimity/engine/Outcome;" (.ref o3)) (S_FORCED_COMMIT : Sta Z h0 "com/example/unanimity/unanimity/engine/Outcome" "FORCED_COMMIT" "Lcom/example/unanimity/unanimity/engine/Outcome;" (.ref o4)) (S_FORCED_ABORT : Sta Z h0 "com/example/unanimity/unanimity/engine/Outcome" "FORCED_ABORT" "Lcom/example/unanimity/unanimity/engine/Outcome;" (.ref o5)) (S_FORCED_COMMIT_CONFLICT : Sta Z h0 "com/example/unanimity/unanimity/engine/Outcome" "FORCED_COMMIT_CONFLICT" "Lcom/example/unanimity/unanimity/engine/Outcome;" (.ref o6)) (S_FORCED_ABORT_CONFLICT : Sta Z h0 "com/example/unanimity/unanimity/engine/Outcome" "FORCED_ABORT_CONFLICT" "Lcom/example/unanimity/unanimity/engine/Outcome;" (.ref o7)) :
    MetFree l (⟨"com/example/unanimity/unanimity/engine/OutcomeAbortedHerePinLaw", "pick", "(I)Lcom/example/unanimity/unanimity/engine/Outcome;"⟩ : MethodName) (head1 (Jvm.Cond.code (⟨"com/example/unanimity/unanimity/engine/OutcomeAbortedHerePinLaw", "pick", "(I)Lcom/example/unanimity/unanimity/engine/Outcome;"⟩ : MethodName) method_2_code 1 (some (.object "com/example/unanimity/unanimity/engine/Outcome")) :: ws) ({ frames := 0, cells := 0, slots := 0, locals := 0 } : Room)) (fun a U => a = #[(.int p0)] ∧ Z.Warmed39 U.vm ∧ U.heap = h0) (fun _ _ _ _ _ => True) (fun _ U oc U' => ∃ v L, oc = .returned v ∧ Q1 Z p0 o0 o1 o2 o3 o4 o5 o6 o7 h0 n0 v U'.heap L ∧ FrameEnd U oc U' L ({ frames := 0, cells := 0, slots := 0, locals := 0 } : Room).cells ({ frames := 0, cells := 0, slots := 0, locals := 0 } : Room).slots) := by
  refine MetFree.of_bodySF (plainFor_of_name pn_0) hisR ?_
  intro p e s m args below meth c s₁ Bd hml0 hP hK
  obtain ⟨rfl, hZ, hh⟩ := hP
  have hx := Bd.exec
  have hby := Bd.bytes
  have hml : c.maxLocals = 1 := hml0
  have hown : s.vm.findClass "com/example/unanimity/unanimity/engine/OutcomeAbortedHerePinLaw" = some m.cls := findClass_of_methodNamed Bd.named
  have hnm := (name_of_methodNamed Bd.named Bd.method).1
  have X0 : Stand p l e ({ frames := 0, cells := 0, slots := 0, locals := 0 } : Room) s m #[(.int p0)] below meth c s₁ [] 0 0 := Stand.of_body Bd
  have e0 : s₁.heap = h0 := by rw [← hh, Bd.state]; rfl
  have N0 := Fr.nil n0
  have pre0 : ∀ t, Steps p.tables e below (s₁.setTop (mkF m 0 #[.val (.int p0)] [])) t → Steps p.tables e below (s₁.setTop (entryFrame m #[(.int p0)] 1)) t := fun t k => castTop (ef_rm1 m p0) k
  have pre1 : ∀ t, Steps p.tables e below (s₁.setTop (mkF m 1 #[.val (.int p0)] [(.int p0)])) t → Steps p.tables e below (s₁.setTop (entryFrame m #[(.int p0)] 1)) t := fun t k => by
    refine pre0 t ?_
    show Steps p.tables e below (s₁.setTop (mkF m 0 #[.val (.int p0)] [])) _
    refine XS.iloadN X0.here hx rfl (hb hby d1_0) rfl ?_
    exact k
  by_cases hc2 : p0 = (0 : Int32)
  · obtain ⟨T3, X3, e3, st3⟩ := getS2 X0 hx hZ hown (host := "") (Or.inl (hw _ (List.mem_of_getElem? (i := 4) rfl))) Via.refl e0 S_COMMITTED (g := (mkF m 4 #[.val (.int p0)] [])) rfl (hb hby d1_4)
    obtain ⟨fs, hr, hrun, hended, hW, hsame⟩ := X3.leave (v := some (.ref o0)) (fun h => by rw [Bd.returns] at h; cases h)
    refine ⟨_, _, pre1 _ ?_, hrun, hended, _, _, rfl, ?_, ⟨_, rfl⟩, hW, hsame.mono (by decide) (by decide)⟩
    · show Steps p.tables e below (s₁.setTop (mkF m 1 #[.val (.int p0)] [(.int p0)])) _
      refine XS.ifNo X0.here hx rfl (hb hby d1_1) rfl ((if0 _ _).trans (teq hc2).2) ?_
      show Steps p.tables e below (s₁.setTop (mkF m 4 #[.val (.int p0)] [])) _
      refine st3 _ ?_
      show Steps p.tables e below (T3.setTop (mkF m 7 #[.val (.int p0)] [(.ref o0)])) _
      jvm_step X3.here [X3.here.top, hx, (hb hby d1_7), X3.method', Bd.returns, Value.isRef, FieldType.isReference]
      first | (intro acts; rw [hr _ acts rfl rfl rfl]) | rw [hr _ _ rfl rfl rfl]
      exact Steps.refl _
    · show Q1 Z p0 o0 o1 o2 o3 o4 o5 o6 o7 h0 n0 _ T3.heap _
      rw [e3]
      exact ⟨by rw [own_pick, if_pos hc2], N0, rfl⟩
  · have pre4 : ∀ t, Steps p.tables e below (s₁.setTop (mkF m 10 #[.val (.int p0)] [(.int (1 : Int32)), (.int p0)])) t → Steps p.tables e below (s₁.setTop (entryFrame m #[(.int p0)] 1)) t := fun t k => by
      refine pre1 t ?_
      show Steps p.tables e below (s₁.setTop (mkF m 1 #[.val (.int p0)] [(.int p0)])) _
      refine XS.ifYes X0.here hx rfl (pc0 := 1) (pc' := 8) rfl (hb hby d1_1) rfl ((if0 _ _).trans (feq hc2).2) (by decide) (by decide) ?_
      show Steps p.tables e below (s₁.setTop (mkF m 8 #[.val (.int p0)] [])) _
      refine XS.iloadN X0.here hx rfl (hb hby d1_8) rfl ?_
      show Steps p.tables e below (s₁.setTop (mkF m 9 #[.val (.int p0)] [(.int p0)])) _
      refine XS.iconst X0.here hx rfl (hb hby d1_9) ?_
      exact k
    by_cases hc5 : p0 = (1 : Int32)
    · obtain ⟨T6, X6, e6, st6⟩ := getS2 X0 hx hZ hown (host := "") (Or.inl (hw _ (List.mem_of_getElem? (i := 37) rfl))) Via.refl e0 S_ABORTED (g := (mkF m 13 #[.val (.int p0)] [])) rfl (hb hby d1_13)
      obtain ⟨fs, hr, hrun, hended, hW, hsame⟩ := X6.leave (v := some (.ref o1)) (fun h => by rw [Bd.returns] at h; cases h)
      refine ⟨_, _, pre4 _ ?_, hrun, hended, _, _, rfl, ?_, ⟨_, rfl⟩, hW, hsame.mono (by decide) (by decide)⟩
      · show Steps p.tables e below (s₁.setTop (mkF m 10 #[.val (.int p0)] [(.int (1 : Int32)), (.int p0)])) _
        refine XS.icmpNo X0.here hx rfl (hb hby d1_10) rfl (teq hc5).2 ?_
        show Steps p.tables e below (s₁.setTop (mkF m 13 #[.val (.int p0)] [])) _
        refine st6 _ ?_
        show Steps p.tables e below (T6.setTop (mkF m 16 #[.val (.int p0)] [(.ref o1)])) _
        jvm_step X6.here [X6.here.top, hx, (hb hby d1_16), X6.method', Bd.returns, Value.isRef, FieldType.isReference]
        first | (intro acts; rw [hr _ acts rfl rfl rfl]) | rw [hr _ _ rfl rfl rfl]
        exact Steps.refl _
      · show Q1 Z p0 o0 o1 o2 o3 o4 o5 o6 o7 h0 n0 _ T6.heap _
        rw [e6]
        exact ⟨by rw [own_pick, if_neg hc2, if_pos hc5], N0, rfl⟩
    · have pre7 : ∀ t, Steps p.tables e below (s₁.setTop (mkF m 19 #[.val (.int p0)] [(.int (2 : Int32)), (.int p0)])) t → Steps p.tables e below (s₁.setTop (entryFrame m #[(.int p0)] 1)) t := fun t k => by
        refine pre4 t ?_
        show Steps p.tables e below (s₁.setTop (mkF m 10 #[.val (.int p0)] [(.int (1 : Int32)), (.int p0)])) _
        refine XS.icmpYes X0.here hx rfl (pc0 := 10) (pc' := 17) rfl (hb hby d1_10) rfl (feq hc5).2 (by decide) (by decide) ?_
        show Steps p.tables e below (s₁.setTop (mkF m 17 #[.val (.int p0)] [])) _
        refine XS.iloadN X0.here hx rfl (hb hby d1_17) rfl ?_
        show Steps p.tables e below (s₁.setTop (mkF m 18 #[.val (.int p0)] [(.int p0)])) _
        refine XS.iconst X0.here hx rfl (hb hby d1_18) ?_
        exact k
      by_cases hc8 : p0 = (2 : Int32)
      · obtain ⟨T9, X9, e9, st9⟩ := getS2 X0 hx hZ hown (host := "") (Or.inl (hw _ (List.mem_of_getElem? (i := 38) rfl))) Via.refl e0 S_IN_DOUBT (g := (mkF m 22 #[.val (.int p0)] [])) rfl (hb hby d1_22)
        obtain ⟨fs, hr, hrun, hended, hW, hsame⟩ := X9.leave (v := some (.ref o2)) (fun h => by rw [Bd.returns] at h; cases h)
        refine ⟨_, _, pre7 _ ?_, hrun, hended, _, _, rfl, ?_, ⟨_, rfl⟩, hW, hsame.mono (by decide) (by decide)⟩
        · show Steps p.tables e below (s₁.setTop (mkF m 19 #[.val (.int p0)] [(.int (2 : Int32)), (.int p0)])) _
          refine XS.icmpNo X0.here hx rfl (hb hby d1_19) rfl (teq hc8).2 ?_
          show Steps p.tables e below (s₁.setTop (mkF m 22 #[.val (.int p0)] [])) _
          refine st9 _ ?_
          show Steps p.tables e below (T9.setTop (mkF m 25 #[.val (.int p0)] [(.ref o2)])) _
          jvm_step X9.here [X9.here.top, hx, (hb hby d1_25), X9.method', Bd.returns, Value.isRef, FieldType.isReference]
          first | (intro acts; rw [hr _ acts rfl rfl rfl]) | rw [hr _ _ rfl rfl rfl]
          exact Steps.refl _
        · show Q1 Z p0 o0 o1 o2 o3 o4 o5 o6 o7 h0 n0 _ T9.heap _
          rw [e9]
          exact ⟨by rw [own_pick, if_neg hc2, if_neg hc5, if_pos hc8], N0, rfl⟩
      · have pre10 : ∀ t, Steps p.tables e below (s₁.setTop (mkF m 28 #[.val (.int p0)] [(.int (3 : Int32)), (.int p0)])) t → Steps p.tables e below (s₁.setTop (entryFrame m #[(.int p0)] 1)) t := fun t k => by
          refine pre7 t ?_
          show Steps p.tables e below (s₁.setTop (mkF m 19 #[.val (.int p0)] [(.int (2 : Int32)), (.int p0)])) _
          refine XS.icmpYes X0.here hx rfl (pc0 := 19) (pc' := 26) rfl (hb hby d1_19) rfl (feq hc8).2 (by decide) (by decide) ?_
          show Steps p.tables e below (s₁.setTop (mkF m 26 #[.val (.int p0)] [])) _
          refine XS.iloadN X0.here hx rfl (hb hby d1_26) rfl ?_
          show Steps p.tables e below (s₁.setTop (mkF m 27 #[.val (.int p0)] [(.int p0)])) _
          refine XS.iconst X0.here hx rfl (hb hby d1_27) ?_
          exact k
        by_cases hc11 : p0 = (3 : Int32)
        · obtain ⟨T12, X12, e12, st12⟩ := getS2 X0 hx hZ hown (host := "") (Or.inl (hw _ (List.mem_of_getElem? (i := 35) rfl))) Via.refl e0 S_UNKNOWN (g := (mkF m 31 #[.val (.int p0)] [])) rfl (hb hby d1_31)
          obtain ⟨fs, hr, hrun, hended, hW, hsame⟩ := X12.leave (v := some (.ref o3)) (fun h => by rw [Bd.returns] at h; cases h)
          refine ⟨_, _, pre10 _ ?_, hrun, hended, _, _, rfl, ?_, ⟨_, rfl⟩, hW, hsame.mono (by decide) (by decide)⟩
          · show Steps p.tables e below (s₁.setTop (mkF m 28 #[.val (.int p0)] [(.int (3 : Int32)), (.int p0)])) _
            refine XS.icmpNo X0.here hx rfl (hb hby d1_28) rfl (teq hc11).2 ?_
            show Steps p.tables e below (s₁.setTop (mkF m 31 #[.val (.int p0)] [])) _
            refine st12 _ ?_
            show Steps p.tables e below (T12.setTop (mkF m 34 #[.val (.int p0)] [(.ref o3)])) _
            jvm_step X12.here [X12.here.top, hx, (hb hby d1_34), X12.method', Bd.returns, Value.isRef, FieldType.isReference]
            first | (intro acts; rw [hr _ acts rfl rfl rfl]) | rw [hr _ _ rfl rfl rfl]
            exact Steps.refl _
          · show Q1 Z p0 o0 o1 o2 o3 o4 o5 o6 o7 h0 n0 _ T12.heap _
            rw [e12]
            exact ⟨by rw [own_pick, if_neg hc2, if_neg hc5, if_neg hc8, if_pos hc11], N0, rfl⟩
        · have pre13 : ∀ t, Steps p.tables e below (s₁.setTop (mkF m 37 #[.val (.int p0)] [(.int (4 : Int32)), (.int p0)])) t → Steps p.tables e below (s₁.setTop (entryFrame m #[(.int p0)] 1)) t := fun t k => by
            refine pre10 t ?_
            show Steps p.tables e below (s₁.setTop (mkF m 28 #[.val (.int p0)] [(.int (3 : Int32)), (.int p0)])) _
            refine XS.icmpYes X0.here hx rfl (pc0 := 28) (pc' := 35) rfl (hb hby d1_28) rfl (feq hc11).2 (by decide) (by decide) ?_
            show Steps p.tables e below (s₁.setTop (mkF m 35 #[.val (.int p0)] [])) _
            refine XS.iloadN X0.here hx rfl (hb hby d1_35) rfl ?_
            show Steps p.tables e below (s₁.setTop (mkF m 36 #[.val (.int p0)] [(.int p0)])) _
            refine XS.iconst X0.here hx rfl (hb hby d1_36) ?_
            exact k
          by_cases hc14 : p0 = (4 : Int32)
          · obtain ⟨T15, X15, e15, st15⟩ := getS2 X0 hx hZ hown (host := "") (Or.inl (hw _ (List.mem_of_getElem? (i := 32) rfl))) Via.refl e0 S_FORCED_COMMIT (g := (mkF m 40 #[.val (.int p0)] [])) rfl (hb hby d1_40)
            obtain ⟨fs, hr, hrun, hended, hW, hsame⟩ := X15.leave (v := some (.ref o4)) (fun h => by rw [Bd.returns] at h; cases h)
            refine ⟨_, _, pre13 _ ?_, hrun, hended, _, _, rfl, ?_, ⟨_, rfl⟩, hW, hsame.mono (by decide) (by decide)⟩
            · show Steps p.tables e below (s₁.setTop (mkF m 37 #[.val (.int p0)] [(.int (4 : Int32)), (.int p0)])) _
              refine XS.icmpNo X0.here hx rfl (hb hby d1_37) rfl (teq hc14).2 ?_
              show Steps p.tables e below (s₁.setTop (mkF m 40 #[.val (.int p0)] [])) _
              refine st15 _ ?_
              show Steps p.tables e below (T15.setTop (mkF m 43 #[.val (.int p0)] [(.ref o4)])) _
              jvm_step X15.here [X15.here.top, hx, (hb hby d1_43), X15.method', Bd.returns, Value.isRef, FieldType.isReference]
              first | (intro acts; rw [hr _ acts rfl rfl rfl]) | rw [hr _ _ rfl rfl rfl]
              exact Steps.refl _
            · show Q1 Z p0 o0 o1 o2 o3 o4 o5 o6 o7 h0 n0 _ T15.heap _
              rw [e15]
              exact ⟨by rw [own_pick, if_neg hc2, if_neg hc5, if_neg hc8, if_neg hc11, if_pos hc14], N0, rfl⟩
          · have pre16 : ∀ t, Steps p.tables e below (s₁.setTop (mkF m 46 #[.val (.int p0)] [(.int (5 : Int32)), (.int p0)])) t → Steps p.tables e below (s₁.setTop (entryFrame m #[(.int p0)] 1)) t := fun t k => by
              refine pre13 t ?_
              show Steps p.tables e below (s₁.setTop (mkF m 37 #[.val (.int p0)] [(.int (4 : Int32)), (.int p0)])) _
              refine XS.icmpYes X0.here hx rfl (pc0 := 37) (pc' := 44) rfl (hb hby d1_37) rfl (feq hc14).2 (by decide) (by decide) ?_
              show Steps p.tables e below (s₁.setTop (mkF m 44 #[.val (.int p0)] [])) _
              refine XS.iloadN X0.here hx rfl (hb hby d1_44) rfl ?_
              show Steps p.tables e below (s₁.setTop (mkF m 45 #[.val (.int p0)] [(.int p0)])) _
              refine XS.iconst X0.here hx rfl (hb hby d1_45) ?_
              exact k
            by_cases hc17 : p0 = (5 : Int32)
            · obtain ⟨T18, X18, e18, st18⟩ := getS2 X0 hx hZ hown (host := "") (Or.inl (hw _ (List.mem_of_getElem? (i := 33) rfl))) Via.refl e0 S_FORCED_ABORT (g := (mkF m 49 #[.val (.int p0)] [])) rfl (hb hby d1_49)
              obtain ⟨fs, hr, hrun, hended, hW, hsame⟩ := X18.leave (v := some (.ref o5)) (fun h => by rw [Bd.returns] at h; cases h)
              refine ⟨_, _, pre16 _ ?_, hrun, hended, _, _, rfl, ?_, ⟨_, rfl⟩, hW, hsame.mono (by decide) (by decide)⟩
              · show Steps p.tables e below (s₁.setTop (mkF m 46 #[.val (.int p0)] [(.int (5 : Int32)), (.int p0)])) _
                refine XS.icmpNo X0.here hx rfl (hb hby d1_46) rfl (teq hc17).2 ?_
                show Steps p.tables e below (s₁.setTop (mkF m 49 #[.val (.int p0)] [])) _
                refine st18 _ ?_
                show Steps p.tables e below (T18.setTop (mkF m 52 #[.val (.int p0)] [(.ref o5)])) _
                jvm_step X18.here [X18.here.top, hx, (hb hby d1_52), X18.method', Bd.returns, Value.isRef, FieldType.isReference]
                first | (intro acts; rw [hr _ acts rfl rfl rfl]) | rw [hr _ _ rfl rfl rfl]
                exact Steps.refl _
              · show Q1 Z p0 o0 o1 o2 o3 o4 o5 o6 o7 h0 n0 _ T18.heap _
                rw [e18]
                exact ⟨by rw [own_pick, if_neg hc2, if_neg hc5, if_neg hc8, if_neg hc11, if_neg hc14, if_pos hc17], N0, rfl⟩
            · have pre19 : ∀ t, Steps p.tables e below (s₁.setTop (mkF m 56 #[.val (.int p0)] [(.int (6 : Int32)), (.int p0)])) t → Steps p.tables e below (s₁.setTop (entryFrame m #[(.int p0)] 1)) t := fun t k => by
                refine pre16 t ?_
                show Steps p.tables e below (s₁.setTop (mkF m 46 #[.val (.int p0)] [(.int (5 : Int32)), (.int p0)])) _
                refine XS.icmpYes X0.here hx rfl (pc0 := 46) (pc' := 53) rfl (hb hby d1_46) rfl (feq hc17).2 (by decide) (by decide) ?_
                show Steps p.tables e below (s₁.setTop (mkF m 53 #[.val (.int p0)] [])) _
                refine XS.iloadN X0.here hx rfl (hb hby d1_53) rfl ?_
                show Steps p.tables e below (s₁.setTop (mkF m 54 #[.val (.int p0)] [(.int p0)])) _
                refine XS.bipush X0.here hx rfl (hb hby d1_54) ?_
                exact k
              by_cases hc20 : p0 = (6 : Int32)
              · obtain ⟨T21, X21, e21, st21⟩ := getS2 X0 hx hZ hown (host := "") (Or.inl (hw _ (List.mem_of_getElem? (i := 29) rfl))) Via.refl e0 S_FORCED_COMMIT_CONFLICT (g := (mkF m 59 #[.val (.int p0)] [])) rfl (hb hby d1_59)
                obtain ⟨fs, hr, hrun, hended, hW, hsame⟩ := X21.leave (v := some (.ref o6)) (fun h => by rw [Bd.returns] at h; cases h)
                refine ⟨_, _, pre19 _ ?_, hrun, hended, _, _, rfl, ?_, ⟨_, rfl⟩, hW, hsame.mono (by decide) (by decide)⟩
                · show Steps p.tables e below (s₁.setTop (mkF m 56 #[.val (.int p0)] [(.int (6 : Int32)), (.int p0)])) _
                  refine XS.icmpNo X0.here hx rfl (hb hby d1_56) rfl (teq hc20).2 ?_
                  show Steps p.tables e below (s₁.setTop (mkF m 59 #[.val (.int p0)] [])) _
                  refine st21 _ ?_
                  show Steps p.tables e below (T21.setTop (mkF m 62 #[.val (.int p0)] [(.ref o6)])) _
                  jvm_step X21.here [X21.here.top, hx, (hb hby d1_62), X21.method', Bd.returns, Value.isRef, FieldType.isReference]
                  first | (intro acts; rw [hr _ acts rfl rfl rfl]) | rw [hr _ _ rfl rfl rfl]
                  exact Steps.refl _
                · show Q1 Z p0 o0 o1 o2 o3 o4 o5 o6 o7 h0 n0 _ T21.heap _
                  rw [e21]
                  exact ⟨by rw [own_pick, if_neg hc2, if_neg hc5, if_neg hc8, if_neg hc11, if_neg hc14, if_neg hc17, if_pos hc20], N0, rfl⟩
              · obtain ⟨T22, X22, e22, st22⟩ := getS2 X0 hx hZ hown (host := "") (Or.inl (hw _ (List.mem_of_getElem? (i := 34) rfl))) Via.refl e0 S_FORCED_ABORT_CONFLICT (g := (mkF m 63 #[.val (.int p0)] [])) rfl (hb hby d1_63)
                obtain ⟨fs, hr, hrun, hended, hW, hsame⟩ := X22.leave (v := some (.ref o7)) (fun h => by rw [Bd.returns] at h; cases h)
                refine ⟨_, _, pre19 _ ?_, hrun, hended, _, _, rfl, ?_, ⟨_, rfl⟩, hW, hsame.mono (by decide) (by decide)⟩
                · show Steps p.tables e below (s₁.setTop (mkF m 56 #[.val (.int p0)] [(.int (6 : Int32)), (.int p0)])) _
                  refine XS.icmpYes X0.here hx rfl (pc0 := 56) (pc' := 63) rfl (hb hby d1_56) rfl (feq hc20).2 (by decide) (by decide) ?_
                  show Steps p.tables e below (s₁.setTop (mkF m 63 #[.val (.int p0)] [])) _
                  refine st22 _ ?_
                  show Steps p.tables e below (T22.setTop (mkF m 66 #[.val (.int p0)] [(.ref o7)])) _
                  jvm_step X22.here [X22.here.top, hx, (hb hby d1_66), X22.method', Bd.returns, Value.isRef, FieldType.isReference]
                  first | (intro acts; rw [hr _ acts rfl rfl rfl]) | rw [hr _ _ rfl rfl rfl]
                  exact Steps.refl _
                · show Q1 Z p0 o0 o1 o2 o3 o4 o5 o6 o7 h0 n0 _ T22.heap _
                  rw [e22]
                  exact ⟨by rw [own_pick, if_neg hc2, if_neg hc5, if_neg hc8, if_neg hc11, if_neg hc14, if_neg hc17, if_neg hc20], N0, rfl⟩
theorem d2_0 : decode prog_99_method_4_code 0 = .ok (.iload_n 0, 1) := by decide +kernel
theorem d2_1 : decode prog_99_method_4_code 1 = .ok (.ifCond .eq 17, 3) := by decide +kernel
theorem d2_18 : decode prog_99_method_4_code 18 = .ok (.iload_n 1, 1) := by decide +kernel
theorem d2_19 : decode prog_99_method_4_code 19 = .ok (.ifCond .eq 9, 3) := by decide +kernel
theorem d2_28 : decode prog_99_method_4_code 28 = .ok (.getstatic 19, 3) := by decide +kernel
theorem d2_31 : decode prog_99_method_4_code 31 = .ok (.areturn, 1) := by decide +kernel
theorem d2_22 : decode prog_99_method_4_code 22 = .ok (.getstatic 25, 3) := by decide +kernel
theorem d2_25 : decode prog_99_method_4_code 25 = .ok (.goto 6, 3) := by decide +kernel
theorem d2_4 : decode prog_99_method_4_code 4 = .ok (.iload_n 1, 1) := by decide +kernel
theorem d2_5 : decode prog_99_method_4_code 5 = .ok (.ifCond .eq 9, 3) := by decide +kernel
theorem d2_14 : decode prog_99_method_4_code 14 = .ok (.getstatic 16, 3) := by decide +kernel
theorem d2_17 : decode prog_99_method_4_code 17 = .ok (.areturn, 1) := by decide +kernel
theorem d2_8 : decode prog_99_method_4_code 8 = .ok (.getstatic 22, 3) := by decide +kernel
theorem d2_11 : decode prog_99_method_4_code 11 = .ok (.goto 6, 3) := by decide +kernel
theorem ef_rm2 (m : MethodId) (x0 : Int32) (x1 : Int32) : entryFrame m #[(.int x0), (.int x1)] 2 = mkF m 0 #[.val (.int x0), .val (.int x1)] [] := by first | (simp [entryFrame, mkF, argsToLocals, Value.category]; done) | rfl
theorem pn_1 : plainName "com/example/unanimity/unanimity/engine/Outcome" = true := by first | (simp [plainName, overriddenIn]; done) | decide +kernel
def Q2 (Z : State) (p0 : Int32) (p1 : Int32) (o0 : Addr) (o1 : Addr) (o2 : Addr) (o3 : Addr) (o4 : Addr) (o5 : Addr) (o6 : Addr) (o7 : Addr) (h0 : Heap) (n0 : Nat) (v : Option Value) (h : Heap) (L : List Loc) : Prop := v = some (.ref (own_forced p0 p1 o4 o5 o6 o7)) ∧ Fr n0 L ∧ h = h0
set_option maxRecDepth 65536 in
set_option maxHeartbeats 40000000 in
theorem rm2 (l : Launch) (Z : State) (aw : Array Value) (hw : ∀ d ∈ tables_1, d.before aw Z = true) (ws : List Jvm.Cond) (p0 : Int32) (p1 : Int32) (o0 : Addr) (o1 : Addr) (o2 : Addr) (o3 : Addr) (o4 : Addr) (o5 : Addr) (o6 : Addr) (o7 : Addr) (h0 : Heap) (n0 : Nat) (Z0 : n0 ≤ h0.size) (S_COMMITTED : Sta Z h0 "com/example/unanimity/unanimity/engine/Outcome" "COMMITTED" "Lcom/example/unanimity/unanimity/engine/Outcome;" (.ref o0)) (S_ABORTED : Sta Z h0 "com/example/unanimity/unanimity/engine/Outcome" "ABORTED" "Lcom/example/unanimity/unanimity/engine/Outcome;" (.ref o1)) (S_IN_DOUBT : Sta Z h0 "com/example/unanimity/unanimity/engine/Outcome" "IN_DOUBT" "Lcom/example/unanimity/unanimity/engine/Outcome;" (.ref o2)) (S_UNKNOWN : Sta Z h0 "com/example/unanimity/unanimity/engine/Outcome" "UNKNOWN" "Lcom/example/unanimity/unanimity/engine/Outcome;" (.ref o3)) (S_FORCED_COMMIT : Sta Z h0 "com/example/unanimity/unanimity/engine/Outcome" "FORCED_COMMIT" "Lcom/example/unanimity/unanimity/engine/Outcome;" (.ref o4)) (S_FORCED_ABORT : Sta Z h0 "com/example/unanimity/unanimity/engine/Outcome" "FORCED_ABORT" "Lcom/example/unanimity/unanimity/engine/Outcome;" (.ref o5)) (S_FORCED_COMMIT_CONFLICT : Sta Z h0 "com/example/unanimity/unanimity/engine/Outcome" "FORCED_COMMIT_CONFLICT" "Lcom/example/unanimity/unanimity/engine/Outcome;" (.ref o6)) (S_FORCED_ABORT_CONFLICT : Sta Z h0 "com/example/unanimity/unanimity/engine/Outcome" "FORCED_ABORT_CONFLICT" "Lcom/example/unanimity/unanimity/engine/Outcome;" (.ref o7)) :
    MetFree l (⟨"com/example/unanimity/unanimity/engine/Outcome", "forced", "(ZZ)Lcom/example/unanimity/unanimity/engine/Outcome;"⟩ : MethodName) (head1 (Jvm.Cond.code (⟨"com/example/unanimity/unanimity/engine/Outcome", "forced", "(ZZ)Lcom/example/unanimity/unanimity/engine/Outcome;"⟩ : MethodName) prog_99_method_4_code 2 (some (.object "com/example/unanimity/unanimity/engine/Outcome")) :: ws) ({ frames := 0, cells := 0, slots := 0, locals := 0 } : Room)) (fun a U => a = #[(.int p0), (.int p1)] ∧ Z.Warmed39 U.vm ∧ U.heap = h0) (fun _ _ _ _ _ => True) (fun _ U oc U' => ∃ v L, oc = .returned v ∧ Q2 Z p0 p1 o0 o1 o2 o3 o4 o5 o6 o7 h0 n0 v U'.heap L ∧ FrameEnd U oc U' L ({ frames := 0, cells := 0, slots := 0, locals := 0 } : Room).cells ({ frames := 0, cells := 0, slots := 0, locals := 0 } : Room).slots) := by
  refine MetFree.of_bodySF (plainFor_of_name pn_1) hisR ?_
  intro p e s m args below meth c s₁ Bd hml0 hP hK
  obtain ⟨rfl, hZ, hh⟩ := hP
  have hx := Bd.exec
  have hby := Bd.bytes
  have hml : c.maxLocals = 2 := hml0
  have hown : s.vm.findClass "com/example/unanimity/unanimity/engine/Outcome" = some m.cls := findClass_of_methodNamed Bd.named
  have hnm := (name_of_methodNamed Bd.named Bd.method).1
  have X0 : Stand p l e ({ frames := 0, cells := 0, slots := 0, locals := 0 } : Room) s m #[(.int p0), (.int p1)] below meth c s₁ [] 0 0 := Stand.of_body Bd
  have e0 : s₁.heap = h0 := by rw [← hh, Bd.state]; rfl
  have N0 := Fr.nil n0
  have pre0 : ∀ t, Steps p.tables e below (s₁.setTop (mkF m 0 #[.val (.int p0), .val (.int p1)] [])) t → Steps p.tables e below (s₁.setTop (entryFrame m #[(.int p0), (.int p1)] 2)) t := fun t k => castTop (ef_rm2 m p0 p1) k
  have pre1 : ∀ t, Steps p.tables e below (s₁.setTop (mkF m 1 #[.val (.int p0), .val (.int p1)] [(.int p0)])) t → Steps p.tables e below (s₁.setTop (entryFrame m #[(.int p0), (.int p1)] 2)) t := fun t k => by
    refine pre0 t ?_
    show Steps p.tables e below (s₁.setTop (mkF m 0 #[.val (.int p0), .val (.int p1)] [])) _
    refine XS.iloadN X0.here hx rfl (hb hby d2_0) rfl ?_
    exact k
  by_cases hc2 : p0 = (0 : Int32)
  · have pre3 : ∀ t, Steps p.tables e below (s₁.setTop (mkF m 19 #[.val (.int p0), .val (.int p1)] [(.int p1)])) t → Steps p.tables e below (s₁.setTop (entryFrame m #[(.int p0), (.int p1)] 2)) t := fun t k => by
      refine pre1 t ?_
      show Steps p.tables e below (s₁.setTop (mkF m 1 #[.val (.int p0), .val (.int p1)] [(.int p0)])) _
      refine XS.ifYes X0.here hx rfl (pc0 := 1) (pc' := 18) rfl (hb hby d2_1) rfl ((if0 _ _).trans (teq hc2).1) (by decide) (by decide) ?_
      show Steps p.tables e below (s₁.setTop (mkF m 18 #[.val (.int p0), .val (.int p1)] [])) _
      refine XS.iloadN X0.here hx rfl (hb hby d2_18) rfl ?_
      exact k
    by_cases hc4 : p1 = (0 : Int32)
    · obtain ⟨T5, X5, e5, st5⟩ := getS2 X0 hx hZ hown (host := "") (Or.inl (hw _ (List.mem_of_getElem? (i := 19) rfl))) Via.refl e0 S_FORCED_ABORT (g := (mkF m 28 #[.val (.int p0), .val (.int p1)] [])) rfl (hb hby d2_28)
      obtain ⟨fs, hr, hrun, hended, hW, hsame⟩ := X5.leave (v := some (.ref o5)) (fun h => by rw [Bd.returns] at h; cases h)
      refine ⟨_, _, pre3 _ ?_, hrun, hended, _, _, rfl, ?_, ⟨_, rfl⟩, hW, hsame.mono (by decide) (by decide)⟩
      · show Steps p.tables e below (s₁.setTop (mkF m 19 #[.val (.int p0), .val (.int p1)] [(.int p1)])) _
        refine XS.ifYes X0.here hx rfl (pc0 := 19) (pc' := 28) rfl (hb hby d2_19) rfl ((if0 _ _).trans (teq hc4).1) (by decide) (by decide) ?_
        show Steps p.tables e below (s₁.setTop (mkF m 28 #[.val (.int p0), .val (.int p1)] [])) _
        refine st5 _ ?_
        show Steps p.tables e below (T5.setTop (mkF m 31 #[.val (.int p0), .val (.int p1)] [(.ref o5)])) _
        jvm_step X5.here [X5.here.top, hx, (hb hby d2_31), X5.method', Bd.returns, Value.isRef, FieldType.isReference]
        first | (intro acts; rw [hr _ acts rfl rfl rfl]) | rw [hr _ _ rfl rfl rfl]
        exact Steps.refl _
      · show Q2 Z p0 p1 o0 o1 o2 o3 o4 o5 o6 o7 h0 n0 _ T5.heap _
        rw [e5]
        exact ⟨by rw [own_forced, if_pos hc2, if_pos hc4], N0, rfl⟩
    · obtain ⟨T6, X6, e6, st6⟩ := getS2 X0 hx hZ hown (host := "") (Or.inl (hw _ (List.mem_of_getElem? (i := 21) rfl))) Via.refl e0 S_FORCED_ABORT_CONFLICT (g := (mkF m 22 #[.val (.int p0), .val (.int p1)] [])) rfl (hb hby d2_22)
      obtain ⟨fs, hr, hrun, hended, hW, hsame⟩ := X6.leave (v := some (.ref o7)) (fun h => by rw [Bd.returns] at h; cases h)
      refine ⟨_, _, pre3 _ ?_, hrun, hended, _, _, rfl, ?_, ⟨_, rfl⟩, hW, hsame.mono (by decide) (by decide)⟩
      · show Steps p.tables e below (s₁.setTop (mkF m 19 #[.val (.int p0), .val (.int p1)] [(.int p1)])) _
        refine XS.ifNo X0.here hx rfl (hb hby d2_19) rfl ((if0 _ _).trans (feq hc4).1) ?_
        show Steps p.tables e below (s₁.setTop (mkF m 22 #[.val (.int p0), .val (.int p1)] [])) _
        refine st6 _ ?_
        show Steps p.tables e below (T6.setTop (mkF m 25 #[.val (.int p0), .val (.int p1)] [(.ref o7)])) _
        refine XS.goto X6.here hx rfl (pc0 := 25) (pc' := 31) rfl (hb hby d2_25) (by decide) (by decide) ?_
        show Steps p.tables e below (T6.setTop (mkF m 31 #[.val (.int p0), .val (.int p1)] [(.ref o7)])) _
        jvm_step X6.here [X6.here.top, hx, (hb hby d2_31), X6.method', Bd.returns, Value.isRef, FieldType.isReference]
        first | (intro acts; rw [hr _ acts rfl rfl rfl]) | rw [hr _ _ rfl rfl rfl]
        exact Steps.refl _
      · show Q2 Z p0 p1 o0 o1 o2 o3 o4 o5 o6 o7 h0 n0 _ T6.heap _
        rw [e6]
        exact ⟨by rw [own_forced, if_pos hc2, if_neg hc4], N0, rfl⟩
  · have pre7 : ∀ t, Steps p.tables e below (s₁.setTop (mkF m 5 #[.val (.int p0), .val (.int p1)] [(.int p1)])) t → Steps p.tables e below (s₁.setTop (entryFrame m #[(.int p0), (.int p1)] 2)) t := fun t k => by
      refine pre1 t ?_
      show Steps p.tables e below (s₁.setTop (mkF m 1 #[.val (.int p0), .val (.int p1)] [(.int p0)])) _
      refine XS.ifNo X0.here hx rfl (hb hby d2_1) rfl ((if0 _ _).trans (feq hc2).1) ?_
      show Steps p.tables e below (s₁.setTop (mkF m 4 #[.val (.int p0), .val (.int p1)] [])) _
      refine XS.iloadN X0.here hx rfl (hb hby d2_4) rfl ?_
      exact k
    by_cases hc8 : p1 = (0 : Int32)
    · obtain ⟨T9, X9, e9, st9⟩ := getS2 X0 hx hZ hown (host := "") (Or.inl (hw _ (List.mem_of_getElem? (i := 30) rfl))) Via.refl e0 S_FORCED_COMMIT (g := (mkF m 14 #[.val (.int p0), .val (.int p1)] [])) rfl (hb hby d2_14)
      obtain ⟨fs, hr, hrun, hended, hW, hsame⟩ := X9.leave (v := some (.ref o4)) (fun h => by rw [Bd.returns] at h; cases h)
      refine ⟨_, _, pre7 _ ?_, hrun, hended, _, _, rfl, ?_, ⟨_, rfl⟩, hW, hsame.mono (by decide) (by decide)⟩
      · show Steps p.tables e below (s₁.setTop (mkF m 5 #[.val (.int p0), .val (.int p1)] [(.int p1)])) _
        refine XS.ifYes X0.here hx rfl (pc0 := 5) (pc' := 14) rfl (hb hby d2_5) rfl ((if0 _ _).trans (teq hc8).1) (by decide) (by decide) ?_
        show Steps p.tables e below (s₁.setTop (mkF m 14 #[.val (.int p0), .val (.int p1)] [])) _
        refine st9 _ ?_
        show Steps p.tables e below (T9.setTop (mkF m 17 #[.val (.int p0), .val (.int p1)] [(.ref o4)])) _
        jvm_step X9.here [X9.here.top, hx, (hb hby d2_17), X9.method', Bd.returns, Value.isRef, FieldType.isReference]
        first | (intro acts; rw [hr _ acts rfl rfl rfl]) | rw [hr _ _ rfl rfl rfl]
        exact Steps.refl _
      · show Q2 Z p0 p1 o0 o1 o2 o3 o4 o5 o6 o7 h0 n0 _ T9.heap _
        rw [e9]
        exact ⟨by rw [own_forced, if_neg hc2, if_pos hc8], N0, rfl⟩
    · obtain ⟨T10, X10, e10, st10⟩ := getS2 X0 hx hZ hown (host := "") (Or.inl (hw _ (List.mem_of_getElem? (i := 10) rfl))) Via.refl e0 S_FORCED_COMMIT_CONFLICT (g := (mkF m 8 #[.val (.int p0), .val (.int p1)] [])) rfl (hb hby d2_8)
      obtain ⟨fs, hr, hrun, hended, hW, hsame⟩ := X10.leave (v := some (.ref o6)) (fun h => by rw [Bd.returns] at h; cases h)
      refine ⟨_, _, pre7 _ ?_, hrun, hended, _, _, rfl, ?_, ⟨_, rfl⟩, hW, hsame.mono (by decide) (by decide)⟩
      · show Steps p.tables e below (s₁.setTop (mkF m 5 #[.val (.int p0), .val (.int p1)] [(.int p1)])) _
        refine XS.ifNo X0.here hx rfl (hb hby d2_5) rfl ((if0 _ _).trans (feq hc8).1) ?_
        show Steps p.tables e below (s₁.setTop (mkF m 8 #[.val (.int p0), .val (.int p1)] [])) _
        refine st10 _ ?_
        show Steps p.tables e below (T10.setTop (mkF m 11 #[.val (.int p0), .val (.int p1)] [(.ref o6)])) _
        refine XS.goto X10.here hx rfl (pc0 := 11) (pc' := 17) rfl (hb hby d2_11) (by decide) (by decide) ?_
        show Steps p.tables e below (T10.setTop (mkF m 17 #[.val (.int p0), .val (.int p1)] [(.ref o6)])) _
        jvm_step X10.here [X10.here.top, hx, (hb hby d2_17), X10.method', Bd.returns, Value.isRef, FieldType.isReference]
        first | (intro acts; rw [hr _ acts rfl rfl rfl]) | rw [hr _ _ rfl rfl rfl]
        exact Steps.refl _
      · show Q2 Z p0 p1 o0 o1 o2 o3 o4 o5 o6 o7 h0 n0 _ T10.heap _
        rw [e10]
        exact ⟨by rw [own_forced, if_neg hc2, if_neg hc8], N0, rfl⟩
theorem d3_0 : decode prog_99_method_6_code 0 = .ok (.aload_n 0, 1) := by decide +kernel
theorem d3_1 : decode prog_99_method_6_code 1 = .ok (.getstatic 7, 3) := by decide +kernel
theorem d3_4 : decode prog_99_method_6_code 4 = .ok (.if_acmp .eq 17, 3) := by decide +kernel
theorem d3_21 : decode prog_99_method_6_code 21 = .ok (.iconst 1, 1) := by decide +kernel
theorem d3_22 : decode prog_99_method_6_code 22 = .ok (.goto 4, 3) := by decide +kernel
theorem d3_26 : decode prog_99_method_6_code 26 = .ok (.ireturn, 1) := by decide +kernel
theorem d3_7 : decode prog_99_method_6_code 7 = .ok (.aload_n 0, 1) := by decide +kernel
theorem d3_8 : decode prog_99_method_6_code 8 = .ok (.getstatic 19, 3) := by decide +kernel
theorem d3_11 : decode prog_99_method_6_code 11 = .ok (.if_acmp .eq 10, 3) := by decide +kernel
theorem d3_14 : decode prog_99_method_6_code 14 = .ok (.aload_n 0, 1) := by decide +kernel
theorem d3_15 : decode prog_99_method_6_code 15 = .ok (.getstatic 25, 3) := by decide +kernel
theorem d3_18 : decode prog_99_method_6_code 18 = .ok (.if_acmp .ne 7, 3) := by decide +kernel
theorem d3_25 : decode prog_99_method_6_code 25 = .ok (.iconst 0, 1) := by decide +kernel
theorem ef_rm3 (m : MethodId) (x0 : Addr) : entryFrame m #[(.ref x0)] 1 = mkF m 0 #[.val (.ref x0)] [] := by first | (simp [entryFrame, mkF, argsToLocals, Value.category]; done) | rfl
def Q3 (Z : State) (a0 : Addr) (o0 : Addr) (o1 : Addr) (o2 : Addr) (o3 : Addr) (o4 : Addr) (o5 : Addr) (o6 : Addr) (o7 : Addr) (h0 : Heap) (n0 : Nat) (v : Option Value) (h : Heap) (L : List Loc) : Prop := v = some (.int (own_three a0 o1 o5 o7)) ∧ Fr n0 L ∧ h = h0
set_option maxRecDepth 65536 in
set_option maxHeartbeats 40000000 in
theorem rm3 (l : Launch) (Z : State) (aw : Array Value) (hw : ∀ d ∈ tables_1, d.before aw Z = true) (ws : List Jvm.Cond) (a0 : Addr) (o0 : Addr) (o1 : Addr) (o2 : Addr) (o3 : Addr) (o4 : Addr) (o5 : Addr) (o6 : Addr) (o7 : Addr) (h0 : Heap) (n0 : Nat) (Z0 : n0 ≤ h0.size) (S_COMMITTED : Sta Z h0 "com/example/unanimity/unanimity/engine/Outcome" "COMMITTED" "Lcom/example/unanimity/unanimity/engine/Outcome;" (.ref o0)) (S_ABORTED : Sta Z h0 "com/example/unanimity/unanimity/engine/Outcome" "ABORTED" "Lcom/example/unanimity/unanimity/engine/Outcome;" (.ref o1)) (S_IN_DOUBT : Sta Z h0 "com/example/unanimity/unanimity/engine/Outcome" "IN_DOUBT" "Lcom/example/unanimity/unanimity/engine/Outcome;" (.ref o2)) (S_UNKNOWN : Sta Z h0 "com/example/unanimity/unanimity/engine/Outcome" "UNKNOWN" "Lcom/example/unanimity/unanimity/engine/Outcome;" (.ref o3)) (S_FORCED_COMMIT : Sta Z h0 "com/example/unanimity/unanimity/engine/Outcome" "FORCED_COMMIT" "Lcom/example/unanimity/unanimity/engine/Outcome;" (.ref o4)) (S_FORCED_ABORT : Sta Z h0 "com/example/unanimity/unanimity/engine/Outcome" "FORCED_ABORT" "Lcom/example/unanimity/unanimity/engine/Outcome;" (.ref o5)) (S_FORCED_COMMIT_CONFLICT : Sta Z h0 "com/example/unanimity/unanimity/engine/Outcome" "FORCED_COMMIT_CONFLICT" "Lcom/example/unanimity/unanimity/engine/Outcome;" (.ref o6)) (S_FORCED_ABORT_CONFLICT : Sta Z h0 "com/example/unanimity/unanimity/engine/Outcome" "FORCED_ABORT_CONFLICT" "Lcom/example/unanimity/unanimity/engine/Outcome;" (.ref o7)) :
    MetFree l (⟨"com/example/unanimity/unanimity/engine/Outcome", "abortedHere", "()Z"⟩ : MethodName) (head1 (Jvm.Cond.code (⟨"com/example/unanimity/unanimity/engine/Outcome", "abortedHere", "()Z"⟩ : MethodName) prog_99_method_6_code 1 (some .boolean) :: ws) ({ frames := 0, cells := 0, slots := 0, locals := 0 } : Room)) (fun a U => a = #[(.ref a0)] ∧ Z.Warmed39 U.vm ∧ U.heap = h0) (fun _ _ _ _ _ => True) (fun _ U oc U' => ∃ v L, oc = .returned v ∧ Q3 Z a0 o0 o1 o2 o3 o4 o5 o6 o7 h0 n0 v U'.heap L ∧ FrameEnd U oc U' L ({ frames := 0, cells := 0, slots := 0, locals := 0 } : Room).cells ({ frames := 0, cells := 0, slots := 0, locals := 0 } : Room).slots) := by
  refine MetFree.of_bodySF (plainFor_of_name pn_1) hisR ?_
  intro p e s m args below meth c s₁ Bd hml0 hP hK
  obtain ⟨rfl, hZ, hh⟩ := hP
  have hx := Bd.exec
  have hby := Bd.bytes
  have hml : c.maxLocals = 1 := hml0
  have hown : s.vm.findClass "com/example/unanimity/unanimity/engine/Outcome" = some m.cls := findClass_of_methodNamed Bd.named
  have hnm := (name_of_methodNamed Bd.named Bd.method).1
  have X0 : Stand p l e ({ frames := 0, cells := 0, slots := 0, locals := 0 } : Room) s m #[(.ref a0)] below meth c s₁ [] 0 0 := Stand.of_body Bd
  have e0 : s₁.heap = h0 := by rw [← hh, Bd.state]; rfl
  have N0 := Fr.nil n0
  have pre0 : ∀ t, Steps p.tables e below (s₁.setTop (mkF m 0 #[.val (.ref a0)] [])) t → Steps p.tables e below (s₁.setTop (entryFrame m #[(.ref a0)] 1)) t := fun t k => castTop (ef_rm3 m a0) k
  obtain ⟨T1, X1, e1, st1⟩ := getS2 X0 hx hZ hown (host := "") (Or.inl (hw _ (List.mem_of_getElem? (i := 17) rfl))) Via.refl e0 S_ABORTED (g := (mkF m 1 #[.val (.ref a0)] [(.ref a0)])) rfl (hb hby d3_1)
  have pre2 : ∀ t, Steps p.tables e below (T1.setTop (mkF m 4 #[.val (.ref a0)] [(.ref o1), (.ref a0)])) t → Steps p.tables e below (s₁.setTop (entryFrame m #[(.ref a0)] 1)) t := fun t k => by
    refine pre0 t ?_
    show Steps p.tables e below (s₁.setTop (mkF m 0 #[.val (.ref a0)] [])) _
    refine XS.aloadN X0.here hx rfl (hb hby d3_0) rfl rfl ?_
    show Steps p.tables e below (s₁.setTop (mkF m 1 #[.val (.ref a0)] [(.ref a0)])) _
    refine st1 _ ?_
    exact k
  by_cases hc3 : a0 = o1
  · obtain ⟨fs, hr, hrun, hended, hW, hsame⟩ := X1.leave (v := some (.int (1 : Int32))) (fun h => by rw [Bd.returns] at h; cases h)
    refine ⟨_, _, pre2 _ ?_, hrun, hended, _, _, rfl, ?_, ⟨_, rfl⟩, hW, hsame.mono (by decide) (by decide)⟩
    · show Steps p.tables e below (T1.setTop (mkF m 4 #[.val (.ref a0)] [(.ref o1), (.ref a0)])) _
      refine Jvm.RoadKit.acmp (g := (mkF m 4 #[.val (.ref a0)] [(.ref o1), (.ref a0)])) X1 hx rfl rfl rfl (pc0 := 4) (pc' := 21) (same := true) rfl (hb hby d3_4) rfl (decide_eq_true (congrArg Value.ref hc3)) (by decide) (by decide) ?_
      show Steps p.tables e below (T1.setTop (mkF m 21 #[.val (.ref a0)] [])) _
      refine XS.iconst X1.here hx rfl (hb hby d3_21) ?_
      show Steps p.tables e below (T1.setTop (mkF m 22 #[.val (.ref a0)] [(.int (1 : Int32))])) _
      refine XS.goto X1.here hx rfl (pc0 := 22) (pc' := 26) rfl (hb hby d3_22) (by decide) (by decide) ?_
      show Steps p.tables e below (T1.setTop (mkF m 26 #[.val (.ref a0)] [(.int (1 : Int32))])) _
      exact retN X1 hx (t := .boolean) Bd.returns (by simp) (hb hby d3_26) hr
    · show Q3 Z a0 o0 o1 o2 o3 o4 o5 o6 o7 h0 n0 _ T1.heap _
      rw [e1]
      exact ⟨by rw [own_three, if_pos hc3], N0, rfl⟩
  · obtain ⟨T4, X4, e4, st4⟩ := getS2 X1 hx hZ hown (host := "") (Or.inl (hw _ (List.mem_of_getElem? (i := 19) rfl))) Via.refl e1 S_FORCED_ABORT (g := (mkF m 8 #[.val (.ref a0)] [(.ref a0)])) rfl (hb hby d3_8)
    have pre5 : ∀ t, Steps p.tables e below (T4.setTop (mkF m 11 #[.val (.ref a0)] [(.ref o5), (.ref a0)])) t → Steps p.tables e below (s₁.setTop (entryFrame m #[(.ref a0)] 1)) t := fun t k => by
      refine pre2 t ?_
      show Steps p.tables e below (T1.setTop (mkF m 4 #[.val (.ref a0)] [(.ref o1), (.ref a0)])) _
      refine Jvm.RoadKit.acmp (g := (mkF m 4 #[.val (.ref a0)] [(.ref o1), (.ref a0)])) X1 hx rfl rfl rfl (pc0 := 4) (pc' := 7) (same := false) rfl (hb hby d3_4) rfl (decide_eq_false fun q => hc3 (Value.ref.inj q)) (by decide) (by decide) ?_
      show Steps p.tables e below (T1.setTop (mkF m 7 #[.val (.ref a0)] [])) _
      refine XS.aloadN X1.here hx rfl (hb hby d3_7) rfl rfl ?_
      show Steps p.tables e below (T1.setTop (mkF m 8 #[.val (.ref a0)] [(.ref a0)])) _
      refine st4 _ ?_
      exact k
    by_cases hc6 : a0 = o5
    · obtain ⟨fs, hr, hrun, hended, hW, hsame⟩ := X4.leave (v := some (.int (1 : Int32))) (fun h => by rw [Bd.returns] at h; cases h)
      refine ⟨_, _, pre5 _ ?_, hrun, hended, _, _, rfl, ?_, ⟨_, rfl⟩, hW, hsame.mono (by decide) (by decide)⟩
      · show Steps p.tables e below (T4.setTop (mkF m 11 #[.val (.ref a0)] [(.ref o5), (.ref a0)])) _
        refine Jvm.RoadKit.acmp (g := (mkF m 11 #[.val (.ref a0)] [(.ref o5), (.ref a0)])) X4 hx rfl rfl rfl (pc0 := 11) (pc' := 21) (same := true) rfl (hb hby d3_11) rfl (decide_eq_true (congrArg Value.ref hc6)) (by decide) (by decide) ?_
        show Steps p.tables e below (T4.setTop (mkF m 21 #[.val (.ref a0)] [])) _
        refine XS.iconst X4.here hx rfl (hb hby d3_21) ?_
        show Steps p.tables e below (T4.setTop (mkF m 22 #[.val (.ref a0)] [(.int (1 : Int32))])) _
        refine XS.goto X4.here hx rfl (pc0 := 22) (pc' := 26) rfl (hb hby d3_22) (by decide) (by decide) ?_
        show Steps p.tables e below (T4.setTop (mkF m 26 #[.val (.ref a0)] [(.int (1 : Int32))])) _
        exact retN X4 hx (t := .boolean) Bd.returns (by simp) (hb hby d3_26) hr
      · show Q3 Z a0 o0 o1 o2 o3 o4 o5 o6 o7 h0 n0 _ T4.heap _
        rw [e4]
        exact ⟨by rw [own_three, if_neg hc3, if_pos hc6], N0, rfl⟩
    · obtain ⟨T7, X7, e7, st7⟩ := getS2 X4 hx hZ hown (host := "") (Or.inl (hw _ (List.mem_of_getElem? (i := 21) rfl))) Via.refl e4 S_FORCED_ABORT_CONFLICT (g := (mkF m 15 #[.val (.ref a0)] [(.ref a0)])) rfl (hb hby d3_15)
      have pre8 : ∀ t, Steps p.tables e below (T7.setTop (mkF m 18 #[.val (.ref a0)] [(.ref o7), (.ref a0)])) t → Steps p.tables e below (s₁.setTop (entryFrame m #[(.ref a0)] 1)) t := fun t k => by
        refine pre5 t ?_
        show Steps p.tables e below (T4.setTop (mkF m 11 #[.val (.ref a0)] [(.ref o5), (.ref a0)])) _
        refine Jvm.RoadKit.acmp (g := (mkF m 11 #[.val (.ref a0)] [(.ref o5), (.ref a0)])) X4 hx rfl rfl rfl (pc0 := 11) (pc' := 14) (same := false) rfl (hb hby d3_11) rfl (decide_eq_false fun q => hc6 (Value.ref.inj q)) (by decide) (by decide) ?_
        show Steps p.tables e below (T4.setTop (mkF m 14 #[.val (.ref a0)] [])) _
        refine XS.aloadN X4.here hx rfl (hb hby d3_14) rfl rfl ?_
        show Steps p.tables e below (T4.setTop (mkF m 15 #[.val (.ref a0)] [(.ref a0)])) _
        refine st7 _ ?_
        exact k
      by_cases hc9 : a0 = o7
      · obtain ⟨fs, hr, hrun, hended, hW, hsame⟩ := X7.leave (v := some (.int (1 : Int32))) (fun h => by rw [Bd.returns] at h; cases h)
        refine ⟨_, _, pre8 _ ?_, hrun, hended, _, _, rfl, ?_, ⟨_, rfl⟩, hW, hsame.mono (by decide) (by decide)⟩
        · show Steps p.tables e below (T7.setTop (mkF m 18 #[.val (.ref a0)] [(.ref o7), (.ref a0)])) _
          refine Jvm.RoadKit.acmp (g := (mkF m 18 #[.val (.ref a0)] [(.ref o7), (.ref a0)])) X7 hx rfl rfl rfl (pc0 := 18) (pc' := 21) (same := true) rfl (hb hby d3_18) rfl (decide_eq_true (congrArg Value.ref hc9)) (by decide) (by decide) ?_
          show Steps p.tables e below (T7.setTop (mkF m 21 #[.val (.ref a0)] [])) _
          refine XS.iconst X7.here hx rfl (hb hby d3_21) ?_
          show Steps p.tables e below (T7.setTop (mkF m 22 #[.val (.ref a0)] [(.int (1 : Int32))])) _
          refine XS.goto X7.here hx rfl (pc0 := 22) (pc' := 26) rfl (hb hby d3_22) (by decide) (by decide) ?_
          show Steps p.tables e below (T7.setTop (mkF m 26 #[.val (.ref a0)] [(.int (1 : Int32))])) _
          exact retN X7 hx (t := .boolean) Bd.returns (by simp) (hb hby d3_26) hr
        · show Q3 Z a0 o0 o1 o2 o3 o4 o5 o6 o7 h0 n0 _ T7.heap _
          rw [e7]
          exact ⟨by rw [own_three, if_neg hc3, if_neg hc6, if_pos hc9], N0, rfl⟩
      · obtain ⟨fs, hr, hrun, hended, hW, hsame⟩ := X7.leave (v := some (.int (0 : Int32))) (fun h => by rw [Bd.returns] at h; cases h)
        refine ⟨_, _, pre8 _ ?_, hrun, hended, _, _, rfl, ?_, ⟨_, rfl⟩, hW, hsame.mono (by decide) (by decide)⟩
        · show Steps p.tables e below (T7.setTop (mkF m 18 #[.val (.ref a0)] [(.ref o7), (.ref a0)])) _
          refine Jvm.RoadKit.acmp (g := (mkF m 18 #[.val (.ref a0)] [(.ref o7), (.ref a0)])) X7 hx rfl rfl rfl (pc0 := 18) (pc' := 25) (same := false) rfl (hb hby d3_18) rfl (decide_eq_false fun q => hc9 (Value.ref.inj q)) (by decide) (by decide) ?_
          show Steps p.tables e below (T7.setTop (mkF m 25 #[.val (.ref a0)] [])) _
          refine XS.iconst X7.here hx rfl (hb hby d3_25) ?_
          show Steps p.tables e below (T7.setTop (mkF m 26 #[.val (.ref a0)] [(.int (0 : Int32))])) _
          exact retN X7 hx (t := .boolean) Bd.returns (by simp) (hb hby d3_26) hr
        · show Q3 Z a0 o0 o1 o2 o3 o4 o5 o6 o7 h0 n0 _ T7.heap _
          rw [e7]
          exact ⟨by rw [own_three, if_neg hc3, if_neg hc6, if_neg hc9], N0, rfl⟩
theorem d4_0 : decode prog_99_method_5_code 0 = .ok (.aload_n 0, 1) := by decide +kernel
theorem d4_1 : decode prog_99_method_5_code 1 = .ok (.getstatic 3, 3) := by decide +kernel
theorem d4_4 : decode prog_99_method_5_code 4 = .ok (.if_acmp .eq 17, 3) := by decide +kernel
theorem d4_21 : decode prog_99_method_5_code 21 = .ok (.iconst 1, 1) := by decide +kernel
theorem d4_22 : decode prog_99_method_5_code 22 = .ok (.goto 4, 3) := by decide +kernel
theorem d4_26 : decode prog_99_method_5_code 26 = .ok (.ireturn, 1) := by decide +kernel
theorem d4_7 : decode prog_99_method_5_code 7 = .ok (.aload_n 0, 1) := by decide +kernel
theorem d4_8 : decode prog_99_method_5_code 8 = .ok (.getstatic 16, 3) := by decide +kernel
theorem d4_11 : decode prog_99_method_5_code 11 = .ok (.if_acmp .eq 10, 3) := by decide +kernel
theorem d4_14 : decode prog_99_method_5_code 14 = .ok (.aload_n 0, 1) := by decide +kernel
theorem d4_15 : decode prog_99_method_5_code 15 = .ok (.getstatic 22, 3) := by decide +kernel
theorem d4_18 : decode prog_99_method_5_code 18 = .ok (.if_acmp .ne 7, 3) := by decide +kernel
theorem d4_25 : decode prog_99_method_5_code 25 = .ok (.iconst 0, 1) := by decide +kernel
theorem ef_rm4 (m : MethodId) (x0 : Addr) : entryFrame m #[(.ref x0)] 1 = mkF m 0 #[.val (.ref x0)] [] := by first | (simp [entryFrame, mkF, argsToLocals, Value.category]; done) | rfl
def Q4 (Z : State) (a0 : Addr) (o0 : Addr) (o1 : Addr) (o2 : Addr) (o3 : Addr) (o4 : Addr) (o5 : Addr) (o6 : Addr) (o7 : Addr) (h0 : Heap) (n0 : Nat) (v : Option Value) (h : Heap) (L : List Loc) : Prop := v = some (.int (own_three a0 o0 o4 o6)) ∧ Fr n0 L ∧ h = h0
set_option maxRecDepth 65536 in
set_option maxHeartbeats 40000000 in
theorem rm4 (l : Launch) (Z : State) (aw : Array Value) (hw : ∀ d ∈ tables_1, d.before aw Z = true) (ws : List Jvm.Cond) (a0 : Addr) (o0 : Addr) (o1 : Addr) (o2 : Addr) (o3 : Addr) (o4 : Addr) (o5 : Addr) (o6 : Addr) (o7 : Addr) (h0 : Heap) (n0 : Nat) (Z0 : n0 ≤ h0.size) (S_COMMITTED : Sta Z h0 "com/example/unanimity/unanimity/engine/Outcome" "COMMITTED" "Lcom/example/unanimity/unanimity/engine/Outcome;" (.ref o0)) (S_ABORTED : Sta Z h0 "com/example/unanimity/unanimity/engine/Outcome" "ABORTED" "Lcom/example/unanimity/unanimity/engine/Outcome;" (.ref o1)) (S_IN_DOUBT : Sta Z h0 "com/example/unanimity/unanimity/engine/Outcome" "IN_DOUBT" "Lcom/example/unanimity/unanimity/engine/Outcome;" (.ref o2)) (S_UNKNOWN : Sta Z h0 "com/example/unanimity/unanimity/engine/Outcome" "UNKNOWN" "Lcom/example/unanimity/unanimity/engine/Outcome;" (.ref o3)) (S_FORCED_COMMIT : Sta Z h0 "com/example/unanimity/unanimity/engine/Outcome" "FORCED_COMMIT" "Lcom/example/unanimity/unanimity/engine/Outcome;" (.ref o4)) (S_FORCED_ABORT : Sta Z h0 "com/example/unanimity/unanimity/engine/Outcome" "FORCED_ABORT" "Lcom/example/unanimity/unanimity/engine/Outcome;" (.ref o5)) (S_FORCED_COMMIT_CONFLICT : Sta Z h0 "com/example/unanimity/unanimity/engine/Outcome" "FORCED_COMMIT_CONFLICT" "Lcom/example/unanimity/unanimity/engine/Outcome;" (.ref o6)) (S_FORCED_ABORT_CONFLICT : Sta Z h0 "com/example/unanimity/unanimity/engine/Outcome" "FORCED_ABORT_CONFLICT" "Lcom/example/unanimity/unanimity/engine/Outcome;" (.ref o7)) :
    MetFree l (⟨"com/example/unanimity/unanimity/engine/Outcome", "committedHere", "()Z"⟩ : MethodName) (head1 (Jvm.Cond.code (⟨"com/example/unanimity/unanimity/engine/Outcome", "committedHere", "()Z"⟩ : MethodName) prog_99_method_5_code 1 (some .boolean) :: ws) ({ frames := 0, cells := 0, slots := 0, locals := 0 } : Room)) (fun a U => a = #[(.ref a0)] ∧ Z.Warmed39 U.vm ∧ U.heap = h0) (fun _ _ _ _ _ => True) (fun _ U oc U' => ∃ v L, oc = .returned v ∧ Q4 Z a0 o0 o1 o2 o3 o4 o5 o6 o7 h0 n0 v U'.heap L ∧ FrameEnd U oc U' L ({ frames := 0, cells := 0, slots := 0, locals := 0 } : Room).cells ({ frames := 0, cells := 0, slots := 0, locals := 0 } : Room).slots) := by
  refine MetFree.of_bodySF (plainFor_of_name pn_1) hisR ?_
  intro p e s m args below meth c s₁ Bd hml0 hP hK
  obtain ⟨rfl, hZ, hh⟩ := hP
  have hx := Bd.exec
  have hby := Bd.bytes
  have hml : c.maxLocals = 1 := hml0
  have hown : s.vm.findClass "com/example/unanimity/unanimity/engine/Outcome" = some m.cls := findClass_of_methodNamed Bd.named
  have hnm := (name_of_methodNamed Bd.named Bd.method).1
  have X0 : Stand p l e ({ frames := 0, cells := 0, slots := 0, locals := 0 } : Room) s m #[(.ref a0)] below meth c s₁ [] 0 0 := Stand.of_body Bd
  have e0 : s₁.heap = h0 := by rw [← hh, Bd.state]; rfl
  have N0 := Fr.nil n0
  have pre0 : ∀ t, Steps p.tables e below (s₁.setTop (mkF m 0 #[.val (.ref a0)] [])) t → Steps p.tables e below (s₁.setTop (entryFrame m #[(.ref a0)] 1)) t := fun t k => castTop (ef_rm4 m a0) k
  obtain ⟨T1, X1, e1, st1⟩ := getS2 X0 hx hZ hown (host := "") (Or.inl (hw _ (List.mem_of_getElem? (i := 28) rfl))) Via.refl e0 S_COMMITTED (g := (mkF m 1 #[.val (.ref a0)] [(.ref a0)])) rfl (hb hby d4_1)
  have pre2 : ∀ t, Steps p.tables e below (T1.setTop (mkF m 4 #[.val (.ref a0)] [(.ref o0), (.ref a0)])) t → Steps p.tables e below (s₁.setTop (entryFrame m #[(.ref a0)] 1)) t := fun t k => by
    refine pre0 t ?_
    show Steps p.tables e below (s₁.setTop (mkF m 0 #[.val (.ref a0)] [])) _
    refine XS.aloadN X0.here hx rfl (hb hby d4_0) rfl rfl ?_
    show Steps p.tables e below (s₁.setTop (mkF m 1 #[.val (.ref a0)] [(.ref a0)])) _
    refine st1 _ ?_
    exact k
  by_cases hc3 : a0 = o0
  · obtain ⟨fs, hr, hrun, hended, hW, hsame⟩ := X1.leave (v := some (.int (1 : Int32))) (fun h => by rw [Bd.returns] at h; cases h)
    refine ⟨_, _, pre2 _ ?_, hrun, hended, _, _, rfl, ?_, ⟨_, rfl⟩, hW, hsame.mono (by decide) (by decide)⟩
    · show Steps p.tables e below (T1.setTop (mkF m 4 #[.val (.ref a0)] [(.ref o0), (.ref a0)])) _
      refine Jvm.RoadKit.acmp (g := (mkF m 4 #[.val (.ref a0)] [(.ref o0), (.ref a0)])) X1 hx rfl rfl rfl (pc0 := 4) (pc' := 21) (same := true) rfl (hb hby d4_4) rfl (decide_eq_true (congrArg Value.ref hc3)) (by decide) (by decide) ?_
      show Steps p.tables e below (T1.setTop (mkF m 21 #[.val (.ref a0)] [])) _
      refine XS.iconst X1.here hx rfl (hb hby d4_21) ?_
      show Steps p.tables e below (T1.setTop (mkF m 22 #[.val (.ref a0)] [(.int (1 : Int32))])) _
      refine XS.goto X1.here hx rfl (pc0 := 22) (pc' := 26) rfl (hb hby d4_22) (by decide) (by decide) ?_
      show Steps p.tables e below (T1.setTop (mkF m 26 #[.val (.ref a0)] [(.int (1 : Int32))])) _
      exact retN X1 hx (t := .boolean) Bd.returns (by simp) (hb hby d4_26) hr
    · show Q4 Z a0 o0 o1 o2 o3 o4 o5 o6 o7 h0 n0 _ T1.heap _
      rw [e1]
      exact ⟨by rw [own_three, if_pos hc3], N0, rfl⟩
  · obtain ⟨T4, X4, e4, st4⟩ := getS2 X1 hx hZ hown (host := "") (Or.inl (hw _ (List.mem_of_getElem? (i := 30) rfl))) Via.refl e1 S_FORCED_COMMIT (g := (mkF m 8 #[.val (.ref a0)] [(.ref a0)])) rfl (hb hby d4_8)
    have pre5 : ∀ t, Steps p.tables e below (T4.setTop (mkF m 11 #[.val (.ref a0)] [(.ref o4), (.ref a0)])) t → Steps p.tables e below (s₁.setTop (entryFrame m #[(.ref a0)] 1)) t := fun t k => by
      refine pre2 t ?_
      show Steps p.tables e below (T1.setTop (mkF m 4 #[.val (.ref a0)] [(.ref o0), (.ref a0)])) _
      refine Jvm.RoadKit.acmp (g := (mkF m 4 #[.val (.ref a0)] [(.ref o0), (.ref a0)])) X1 hx rfl rfl rfl (pc0 := 4) (pc' := 7) (same := false) rfl (hb hby d4_4) rfl (decide_eq_false fun q => hc3 (Value.ref.inj q)) (by decide) (by decide) ?_
      show Steps p.tables e below (T1.setTop (mkF m 7 #[.val (.ref a0)] [])) _
      refine XS.aloadN X1.here hx rfl (hb hby d4_7) rfl rfl ?_
      show Steps p.tables e below (T1.setTop (mkF m 8 #[.val (.ref a0)] [(.ref a0)])) _
      refine st4 _ ?_
      exact k
    by_cases hc6 : a0 = o4
    · obtain ⟨fs, hr, hrun, hended, hW, hsame⟩ := X4.leave (v := some (.int (1 : Int32))) (fun h => by rw [Bd.returns] at h; cases h)
      refine ⟨_, _, pre5 _ ?_, hrun, hended, _, _, rfl, ?_, ⟨_, rfl⟩, hW, hsame.mono (by decide) (by decide)⟩
      · show Steps p.tables e below (T4.setTop (mkF m 11 #[.val (.ref a0)] [(.ref o4), (.ref a0)])) _
        refine Jvm.RoadKit.acmp (g := (mkF m 11 #[.val (.ref a0)] [(.ref o4), (.ref a0)])) X4 hx rfl rfl rfl (pc0 := 11) (pc' := 21) (same := true) rfl (hb hby d4_11) rfl (decide_eq_true (congrArg Value.ref hc6)) (by decide) (by decide) ?_
        show Steps p.tables e below (T4.setTop (mkF m 21 #[.val (.ref a0)] [])) _
        refine XS.iconst X4.here hx rfl (hb hby d4_21) ?_
        show Steps p.tables e below (T4.setTop (mkF m 22 #[.val (.ref a0)] [(.int (1 : Int32))])) _
        refine XS.goto X4.here hx rfl (pc0 := 22) (pc' := 26) rfl (hb hby d4_22) (by decide) (by decide) ?_
        show Steps p.tables e below (T4.setTop (mkF m 26 #[.val (.ref a0)] [(.int (1 : Int32))])) _
        exact retN X4 hx (t := .boolean) Bd.returns (by simp) (hb hby d4_26) hr
      · show Q4 Z a0 o0 o1 o2 o3 o4 o5 o6 o7 h0 n0 _ T4.heap _
        rw [e4]
        exact ⟨by rw [own_three, if_neg hc3, if_pos hc6], N0, rfl⟩
    · obtain ⟨T7, X7, e7, st7⟩ := getS2 X4 hx hZ hown (host := "") (Or.inl (hw _ (List.mem_of_getElem? (i := 10) rfl))) Via.refl e4 S_FORCED_COMMIT_CONFLICT (g := (mkF m 15 #[.val (.ref a0)] [(.ref a0)])) rfl (hb hby d4_15)
      have pre8 : ∀ t, Steps p.tables e below (T7.setTop (mkF m 18 #[.val (.ref a0)] [(.ref o6), (.ref a0)])) t → Steps p.tables e below (s₁.setTop (entryFrame m #[(.ref a0)] 1)) t := fun t k => by
        refine pre5 t ?_
        show Steps p.tables e below (T4.setTop (mkF m 11 #[.val (.ref a0)] [(.ref o4), (.ref a0)])) _
        refine Jvm.RoadKit.acmp (g := (mkF m 11 #[.val (.ref a0)] [(.ref o4), (.ref a0)])) X4 hx rfl rfl rfl (pc0 := 11) (pc' := 14) (same := false) rfl (hb hby d4_11) rfl (decide_eq_false fun q => hc6 (Value.ref.inj q)) (by decide) (by decide) ?_
        show Steps p.tables e below (T4.setTop (mkF m 14 #[.val (.ref a0)] [])) _
        refine XS.aloadN X4.here hx rfl (hb hby d4_14) rfl rfl ?_
        show Steps p.tables e below (T4.setTop (mkF m 15 #[.val (.ref a0)] [(.ref a0)])) _
        refine st7 _ ?_
        exact k
      by_cases hc9 : a0 = o6
      · obtain ⟨fs, hr, hrun, hended, hW, hsame⟩ := X7.leave (v := some (.int (1 : Int32))) (fun h => by rw [Bd.returns] at h; cases h)
        refine ⟨_, _, pre8 _ ?_, hrun, hended, _, _, rfl, ?_, ⟨_, rfl⟩, hW, hsame.mono (by decide) (by decide)⟩
        · show Steps p.tables e below (T7.setTop (mkF m 18 #[.val (.ref a0)] [(.ref o6), (.ref a0)])) _
          refine Jvm.RoadKit.acmp (g := (mkF m 18 #[.val (.ref a0)] [(.ref o6), (.ref a0)])) X7 hx rfl rfl rfl (pc0 := 18) (pc' := 21) (same := true) rfl (hb hby d4_18) rfl (decide_eq_true (congrArg Value.ref hc9)) (by decide) (by decide) ?_
          show Steps p.tables e below (T7.setTop (mkF m 21 #[.val (.ref a0)] [])) _
          refine XS.iconst X7.here hx rfl (hb hby d4_21) ?_
          show Steps p.tables e below (T7.setTop (mkF m 22 #[.val (.ref a0)] [(.int (1 : Int32))])) _
          refine XS.goto X7.here hx rfl (pc0 := 22) (pc' := 26) rfl (hb hby d4_22) (by decide) (by decide) ?_
          show Steps p.tables e below (T7.setTop (mkF m 26 #[.val (.ref a0)] [(.int (1 : Int32))])) _
          exact retN X7 hx (t := .boolean) Bd.returns (by simp) (hb hby d4_26) hr
        · show Q4 Z a0 o0 o1 o2 o3 o4 o5 o6 o7 h0 n0 _ T7.heap _
          rw [e7]
          exact ⟨by rw [own_three, if_neg hc3, if_neg hc6, if_pos hc9], N0, rfl⟩
      · obtain ⟨fs, hr, hrun, hended, hW, hsame⟩ := X7.leave (v := some (.int (0 : Int32))) (fun h => by rw [Bd.returns] at h; cases h)
        refine ⟨_, _, pre8 _ ?_, hrun, hended, _, _, rfl, ?_, ⟨_, rfl⟩, hW, hsame.mono (by decide) (by decide)⟩
        · show Steps p.tables e below (T7.setTop (mkF m 18 #[.val (.ref a0)] [(.ref o6), (.ref a0)])) _
          refine Jvm.RoadKit.acmp (g := (mkF m 18 #[.val (.ref a0)] [(.ref o6), (.ref a0)])) X7 hx rfl rfl rfl (pc0 := 18) (pc' := 25) (same := false) rfl (hb hby d4_18) rfl (decide_eq_false fun q => hc9 (Value.ref.inj q)) (by decide) (by decide) ?_
          show Steps p.tables e below (T7.setTop (mkF m 25 #[.val (.ref a0)] [])) _
          refine XS.iconst X7.here hx rfl (hb hby d4_25) ?_
          show Steps p.tables e below (T7.setTop (mkF m 26 #[.val (.ref a0)] [(.int (0 : Int32))])) _
          exact retN X7 hx (t := .boolean) Bd.returns (by simp) (hb hby d4_26) hr
        · show Q4 Z a0 o0 o1 o2 o3 o4 o5 o6 o7 h0 n0 _ T7.heap _
          rw [e7]
          exact ⟨by rw [own_three, if_neg hc3, if_neg hc6, if_neg hc9], N0, rfl⟩
theorem pd_0 : parseMethodDescriptor "(I)Lcom/example/unanimity/unanimity/engine/Outcome;" = some ⟨[.int], some (.object "com/example/unanimity/unanimity/engine/Outcome")⟩ := by decide +kernel
theorem pd_1 : parseMethodDescriptor "(ZZ)Lcom/example/unanimity/unanimity/engine/Outcome;" = some ⟨[.boolean, .boolean], some (.object "com/example/unanimity/unanimity/engine/Outcome")⟩ := by decide +kernel
theorem pd_2 : parseMethodDescriptor "()Z" = some ⟨[], some .boolean⟩ := by decide +kernel
theorem ef_rm0 (m : MethodId) (x0 : Int32) (x1 : Int32) : entryFrame m #[(.int x0), (.int x1)] maxLocals = mkF m 0 #[.val (.int x0), .val (.int x1), .unset, .unset, .unset, .unset, .unset, .unset, .unset, .unset] [] := by first | (simp [entryFrame, mkF, argsToLocals, Value.category, maxLocals]; done) | rfl
def Q0 (Z : State) (p0 : Int32) (p1 : Int32) (o0 : Addr) (o1 : Addr) (o2 : Addr) (o3 : Addr) (o4 : Addr) (o5 : Addr) (o6 : Addr) (o7 : Addr) (h0 : Heap) (n0 : Nat) (v : Option Value) (h : Heap) (L : List Loc) : Prop := v = some (.int 1) ∧ Fr n0 L
set_option maxRecDepth 65536 in
set_option maxHeartbeats 40000000 in
theorem rm0 (l : Launch) (Z : State) (aw : Array Value) (hw : ∀ d ∈ tables_1, d.before aw Z = true) (ws : List Jvm.Cond) (p0 : Int32) (p1 : Int32) (o0 : Addr) (o1 : Addr) (o2 : Addr) (o3 : Addr) (o4 : Addr) (o5 : Addr) (o6 : Addr) (o7 : Addr) (h0 : Heap) (n0 : Nat) (Z0 : n0 ≤ h0.size) (S_COMMITTED : Sta Z h0 "com/example/unanimity/unanimity/engine/Outcome" "COMMITTED" "Lcom/example/unanimity/unanimity/engine/Outcome;" (.ref o0)) (S_ABORTED : Sta Z h0 "com/example/unanimity/unanimity/engine/Outcome" "ABORTED" "Lcom/example/unanimity/unanimity/engine/Outcome;" (.ref o1)) (S_IN_DOUBT : Sta Z h0 "com/example/unanimity/unanimity/engine/Outcome" "IN_DOUBT" "Lcom/example/unanimity/unanimity/engine/Outcome;" (.ref o2)) (S_UNKNOWN : Sta Z h0 "com/example/unanimity/unanimity/engine/Outcome" "UNKNOWN" "Lcom/example/unanimity/unanimity/engine/Outcome;" (.ref o3)) (S_FORCED_COMMIT : Sta Z h0 "com/example/unanimity/unanimity/engine/Outcome" "FORCED_COMMIT" "Lcom/example/unanimity/unanimity/engine/Outcome;" (.ref o4)) (S_FORCED_ABORT : Sta Z h0 "com/example/unanimity/unanimity/engine/Outcome" "FORCED_ABORT" "Lcom/example/unanimity/unanimity/engine/Outcome;" (.ref o5)) (S_FORCED_COMMIT_CONFLICT : Sta Z h0 "com/example/unanimity/unanimity/engine/Outcome" "FORCED_COMMIT_CONFLICT" "Lcom/example/unanimity/unanimity/engine/Outcome;" (.ref o6)) (S_FORCED_ABORT_CONFLICT : Sta Z h0 "com/example/unanimity/unanimity/engine/Outcome" "FORCED_ABORT_CONFLICT" "Lcom/example/unanimity/unanimity/engine/Outcome;" (.ref o7)) (E0 : Exa Z h0 o0 "com/example/unanimity/unanimity/engine/Outcome") (E1 : Exa Z h0 o1 "com/example/unanimity/unanimity/engine/Outcome") (E2 : Exa Z h0 o2 "com/example/unanimity/unanimity/engine/Outcome") (E3 : Exa Z h0 o3 "com/example/unanimity/unanimity/engine/Outcome") (E4 : Exa Z h0 o4 "com/example/unanimity/unanimity/engine/Outcome") (E5 : Exa Z h0 o5 "com/example/unanimity/unanimity/engine/Outcome") (E6 : Exa Z h0 o6 "com/example/unanimity/unanimity/engine/Outcome") (E7 : Exa Z h0 o7 "com/example/unanimity/unanimity/engine/Outcome") (d0_1 : o0 ≠ o1) (d0_2 : o0 ≠ o2) (d0_3 : o0 ≠ o3) (d0_4 : o0 ≠ o4) (d0_5 : o0 ≠ o5) (d0_6 : o0 ≠ o6) (d0_7 : o0 ≠ o7) (d1_2 : o1 ≠ o2) (d1_3 : o1 ≠ o3) (d1_4 : o1 ≠ o4) (d1_5 : o1 ≠ o5) (d1_6 : o1 ≠ o6) (d1_7 : o1 ≠ o7) (d2_4 : o2 ≠ o4) (d2_5 : o2 ≠ o5) (d2_6 : o2 ≠ o6) (d2_7 : o2 ≠ o7) (d3_4 : o3 ≠ o4) (d3_5 : o3 ≠ o5) (d3_6 : o3 ≠ o6) (d3_7 : o3 ≠ o7) (d4_5 : o4 ≠ o5) (d4_6 : o4 ≠ o6) (d4_7 : o4 ≠ o7) (d5_6 : o5 ≠ o6) (d5_7 : o5 ≠ o7) (d6_7 : o6 ≠ o7) :
    MetFree l x (head1 (Jvm.Cond.code x code maxLocals ret :: ws) room_1) (fun a U => a = #[(.int p0), (.int p1)] ∧ Z.Warmed39 U.vm ∧ U.heap = h0) (fun _ _ _ _ _ => True) (fun _ U oc U' => ∃ v L, oc = .returned v ∧ Q0 Z p0 p1 o0 o1 o2 o3 o4 o5 o6 o7 h0 n0 v U'.heap L ∧ FrameEnd U oc U' L room_1.cells room_1.slots) := by
  refine MetFree.of_bodySF (plainFor_of_name pn_0) hisR ?_
  intro p e s m args below meth c s₁ Bd hml0 hP hK
  obtain ⟨rfl, hZ, hh⟩ := hP
  have hx := Bd.exec
  have hby := Bd.bytes
  have hml : c.maxLocals = 10 := hml0
  have hown : s.vm.findClass "com/example/unanimity/unanimity/engine/OutcomeAbortedHerePinLaw" = some m.cls := findClass_of_methodNamed Bd.named
  have hnm := (name_of_methodNamed Bd.named Bd.method).1
  have X0 : Stand p l e room_1 s m #[(.int p0), (.int p1)] below meth c s₁ [] 0 0 := Stand.of_body Bd
  have e0 : s₁.heap = h0 := by rw [← hh, Bd.state]; rfl
  have N0 := Fr.nil n0
  have pre0 : ∀ t, Steps p.tables e below (s₁.setTop (mkF m 0 #[.val (.int p0), .val (.int p1), .unset, .unset, .unset, .unset, .unset, .unset, .unset, .unset] [])) t → Steps p.tables e below (s₁.setTop (entryFrame m #[(.int p0), (.int p1)] maxLocals)) t := fun t k => castTop (ef_rm0 m p0 p1) k
  have pre1 : ∀ t, Steps p.tables e below (s₁.setTop (mkF m 5 #[.val (.int p0), .val (.int p1), .val (.int (p0 &&& (7 : Int32))), .unset, .unset, .unset, .unset, .unset, .unset, .unset] [])) t → Steps p.tables e below (s₁.setTop (entryFrame m #[(.int p0), (.int p1)] maxLocals)) t := fun t k => by
    refine pre0 t ?_
    show Steps p.tables e below (s₁.setTop (mkF m 0 #[.val (.int p0), .val (.int p1), .unset, .unset, .unset, .unset, .unset, .unset, .unset, .unset] [])) _
    refine XS.iloadN X0.here hx rfl (hb hby at_0) rfl ?_
    show Steps p.tables e below (s₁.setTop (mkF m 1 #[.val (.int p0), .val (.int p1), .unset, .unset, .unset, .unset, .unset, .unset, .unset, .unset] [(.int p0)])) _
    refine XS.bipush X0.here hx rfl (hb hby at_1) ?_
    show Steps p.tables e below (s₁.setTop (mkF m 3 #[.val (.int p0), .val (.int p1), .unset, .unset, .unset, .unset, .unset, .unset, .unset, .unset] [(.int (7 : Int32)), (.int p0)])) _
    refine XS.iand X0.here hx rfl (hb hby at_3) rfl ?_
    show Steps p.tables e below (s₁.setTop (mkF m 4 #[.val (.int p0), .val (.int p1), .unset, .unset, .unset, .unset, .unset, .unset, .unset, .unset] [(.int (p0 &&& (7 : Int32)))])) _
    refine XS.istoreN X0.here hx rfl (hb hby at_4) rfl (l' := #[.val (.int p0), .val (.int p1), .val (.int (p0 &&& (7 : Int32))), .unset, .unset, .unset, .unset, .unset, .unset, .unset]) rfl ?_
    exact k
  have hk := own_and7 p0
  obtain ⟨k, gk⟩ : ∃ z, z = (p0 &&& (7 : Int32)) := ⟨_, rfl⟩
  rw [← gk] at hk pre1
  rcases hk with rfl | rfl | rfl | rfl | rfl | rfl | rfl | rfl
  · obtain ⟨_, _, ⟨T2, L2, k2, n2⟩, -, X2, ⟨Lc2, hQ2, l2, y2, z2⟩, st2⟩ := Jvm.LawKit.callS X0 hx (y := (⟨"com/example/unanimity/unanimity/engine/OutcomeAbortedHerePinLaw", "pick", "(I)Lcom/example/unanimity/unanimity/engine/Outcome;"⟩ : MethodName)) hown (mvT hZ (hw _ (List.mem_of_getElem? (i := 0) rfl))) (mvT hZ (hw _ (List.mem_of_getElem? (i := 1) rfl))) (mvT hZ (hw _ (List.mem_of_getElem? (i := 2) rfl))) (mvT hZ (hw _ (List.mem_of_getElem? (i := 3) rfl))) (by decide) (backOf (W := 0) (rm1 l Z aw hw [] (0 : Int32) o0 o1 o2 o3 o4 o5 o6 o7 h0 n0 Z0 S_COMMITTED S_ABORTED S_IN_DOUBT S_UNKNOWN S_FORCED_COMMIT S_FORCED_ABORT S_FORCED_COMMIT_CONFLICT S_FORCED_ABORT_CONFLICT) hZ (hw _ (List.mem_of_getElem? (i := 3) rfl)) (hw _ (List.mem_of_getElem? (i := 2) rfl)) (by decide) (by decide)) (g := (mkF m 6 #[.val (.int p0), .val (.int p1), .val (.int (0 : Int32)), .unset, .unset, .unset, .unset, .unset, .unset, .unset] [(.int (0 : Int32))])) rfl (by rw [hml]; rfl) (argsL := [(.int (0 : Int32))]) (rest := []) (lenOf pd_0 rfl) rfl (by show 2 * 0 + _ ≤ _; exact Nat.le_of_eq rfl) (hb hby at_6) (fun _ _ => ⟨rfl, e0, (by decide : 0 + 0 ≤ _), (by decide : 0 + 0 ≤ _)⟩)
    dsimp only [Pt.U, Pt.locs, Pt.cells, Pt.slots] at X2 l2 y2 z2 st2 hQ2
    subst l2 y2 z2
    obtain ⟨hv2, N2q, e2⟩ := hQ2
    rw [show own_pick (0 : Int32) o0 o1 o2 o3 o4 o5 o6 o7 = o0 from rfl] at hv2
    subst hv2
    have N2 := Fr.app N0 N2q
    have pre3 : ∀ t, Steps p.tables e below (T2.setTop (mkF m 45 #[.val (.int p0), .val (.int p1), .val (.int (0 : Int32)), .val (.ref o0), .val (.int (0 : Int32)), .unset, .unset, .unset, .unset, .unset] [(.int (p1 &&& (1 : Int32)))])) t → Steps p.tables e below (s₁.setTop (entryFrame m #[(.int p0), (.int p1)] maxLocals)) t := fun t k => by
      refine pre1 t ?_
      show Steps p.tables e below (s₁.setTop (mkF m 5 #[.val (.int p0), .val (.int p1), .val (.int (0 : Int32)), .unset, .unset, .unset, .unset, .unset, .unset, .unset] [])) _
      refine XS.iloadN X0.here hx rfl (hb hby at_5) rfl ?_
      show Steps p.tables e below (s₁.setTop (mkF m 6 #[.val (.int p0), .val (.int p1), .val (.int (0 : Int32)), .unset, .unset, .unset, .unset, .unset, .unset, .unset] [(.int (0 : Int32))])) _
      refine st2 _ ?_
      show Steps p.tables e below (T2.setTop (mkF m 9 #[.val (.int p0), .val (.int p1), .val (.int (0 : Int32)), .unset, .unset, .unset, .unset, .unset, .unset, .unset] [(.ref o0)])) _
      refine XS.astoreN X2.here hx rfl (hb hby at_9) rfl rfl (l' := #[.val (.int p0), .val (.int p1), .val (.int (0 : Int32)), .val (.ref o0), .unset, .unset, .unset, .unset, .unset, .unset]) rfl ?_
      show Steps p.tables e below (T2.setTop (mkF m 10 #[.val (.int p0), .val (.int p1), .val (.int (0 : Int32)), .val (.ref o0), .unset, .unset, .unset, .unset, .unset, .unset] [])) _
      refine XS.iloadN X2.here hx rfl (hb hby at_10) rfl ?_
      show Steps p.tables e below (T2.setTop (mkF m 11 #[.val (.int p0), .val (.int p1), .val (.int (0 : Int32)), .val (.ref o0), .unset, .unset, .unset, .unset, .unset, .unset] [(.int (0 : Int32))])) _
      refine XS.iconst X2.here hx rfl (hb hby at_11) ?_
      show Steps p.tables e below (T2.setTop (mkF m 12 #[.val (.int p0), .val (.int p1), .val (.int (0 : Int32)), .val (.ref o0), .unset, .unset, .unset, .unset, .unset, .unset] [(.int (4 : Int32)), (.int (0 : Int32))])) _
      refine XS.icmpNo X2.here hx rfl (hb hby at_12) rfl (tlt (by decide : (0 : Int32) < (4 : Int32))).2.1 ?_
      show Steps p.tables e below (T2.setTop (mkF m 15 #[.val (.int p0), .val (.int p1), .val (.int (0 : Int32)), .val (.ref o0), .unset, .unset, .unset, .unset, .unset, .unset] [])) _
      refine XS.iloadN X2.here hx rfl (hb hby at_15) rfl ?_
      show Steps p.tables e below (T2.setTop (mkF m 16 #[.val (.int p0), .val (.int p1), .val (.int (0 : Int32)), .val (.ref o0), .unset, .unset, .unset, .unset, .unset, .unset] [(.int (0 : Int32))])) _
      refine XS.iconst X2.here hx rfl (hb hby at_16) ?_
      show Steps p.tables e below (T2.setTop (mkF m 17 #[.val (.int p0), .val (.int p1), .val (.int (0 : Int32)), .val (.ref o0), .unset, .unset, .unset, .unset, .unset, .unset] [(.int (1 : Int32)), (.int (0 : Int32))])) _
      refine XS.icmpYes X2.here hx rfl (pc0 := 17) (pc' := 24) rfl (hb hby at_17) rfl (feq (by decide : ¬ ((0 : Int32) = (1 : Int32)))).2 (by decide) (by decide) ?_
      show Steps p.tables e below (T2.setTop (mkF m 24 #[.val (.int p0), .val (.int p1), .val (.int (0 : Int32)), .val (.ref o0), .unset, .unset, .unset, .unset, .unset, .unset] [])) _
      refine XS.iconst X2.here hx rfl (hb hby at_24) ?_
      show Steps p.tables e below (T2.setTop (mkF m 25 #[.val (.int p0), .val (.int p1), .val (.int (0 : Int32)), .val (.ref o0), .unset, .unset, .unset, .unset, .unset, .unset] [(.int (0 : Int32))])) _
      refine XS.goto X2.here hx rfl (pc0 := 25) (pc' := 40) rfl (hb hby at_25) (by decide) (by decide) ?_
      show Steps p.tables e below (T2.setTop (mkF m 40 #[.val (.int p0), .val (.int p1), .val (.int (0 : Int32)), .val (.ref o0), .unset, .unset, .unset, .unset, .unset, .unset] [(.int (0 : Int32))])) _
      refine XS.istore X2.here hx rfl (hb hby at_40) rfl (l' := #[.val (.int p0), .val (.int p1), .val (.int (0 : Int32)), .val (.ref o0), .val (.int (0 : Int32)), .unset, .unset, .unset, .unset, .unset]) rfl ?_
      show Steps p.tables e below (T2.setTop (mkF m 42 #[.val (.int p0), .val (.int p1), .val (.int (0 : Int32)), .val (.ref o0), .val (.int (0 : Int32)), .unset, .unset, .unset, .unset, .unset] [])) _
      refine XS.iloadN X2.here hx rfl (hb hby at_42) rfl ?_
      show Steps p.tables e below (T2.setTop (mkF m 43 #[.val (.int p0), .val (.int p1), .val (.int (0 : Int32)), .val (.ref o0), .val (.int (0 : Int32)), .unset, .unset, .unset, .unset, .unset] [(.int p1)])) _
      refine XS.iconst X2.here hx rfl (hb hby at_43) ?_
      show Steps p.tables e below (T2.setTop (mkF m 44 #[.val (.int p0), .val (.int p1), .val (.int (0 : Int32)), .val (.ref o0), .val (.int (0 : Int32)), .unset, .unset, .unset, .unset, .unset] [(.int (1 : Int32)), (.int p1)])) _
      refine XS.iand X2.here hx rfl (hb hby at_44) rfl ?_
      exact k
    by_cases hc4 : (p1 &&& (1 : Int32)) = (0 : Int32)
    · have pre5 : ∀ t, Steps p.tables e below (T2.setTop (mkF m 58 #[.val (.int p0), .val (.int p1), .val (.int (0 : Int32)), .val (.ref o0), .val (.int (0 : Int32)), .val (.int (0 : Int32)), .unset, .unset, .unset, .unset] [(.int (p1 &&& (2 : Int32)))])) t → Steps p.tables e below (s₁.setTop (entryFrame m #[(.int p0), (.int p1)] maxLocals)) t := fun t k => by
        refine pre3 t ?_
        show Steps p.tables e below (T2.setTop (mkF m 45 #[.val (.int p0), .val (.int p1), .val (.int (0 : Int32)), .val (.ref o0), .val (.int (0 : Int32)), .unset, .unset, .unset, .unset, .unset] [(.int (p1 &&& (1 : Int32)))])) _
        refine XS.ifYes X2.here hx rfl (pc0 := 45) (pc' := 52) rfl (hb hby at_45) rfl ((if0 _ _).trans (teq hc4).1) (by decide) (by decide) ?_
        show Steps p.tables e below (T2.setTop (mkF m 52 #[.val (.int p0), .val (.int p1), .val (.int (0 : Int32)), .val (.ref o0), .val (.int (0 : Int32)), .unset, .unset, .unset, .unset, .unset] [])) _
        refine XS.iconst X2.here hx rfl (hb hby at_52) ?_
        show Steps p.tables e below (T2.setTop (mkF m 53 #[.val (.int p0), .val (.int p1), .val (.int (0 : Int32)), .val (.ref o0), .val (.int (0 : Int32)), .unset, .unset, .unset, .unset, .unset] [(.int (0 : Int32))])) _
        refine XS.istore X2.here hx rfl (hb hby at_53) rfl (l' := #[.val (.int p0), .val (.int p1), .val (.int (0 : Int32)), .val (.ref o0), .val (.int (0 : Int32)), .val (.int (0 : Int32)), .unset, .unset, .unset, .unset]) rfl ?_
        show Steps p.tables e below (T2.setTop (mkF m 55 #[.val (.int p0), .val (.int p1), .val (.int (0 : Int32)), .val (.ref o0), .val (.int (0 : Int32)), .val (.int (0 : Int32)), .unset, .unset, .unset, .unset] [])) _
        refine XS.iloadN X2.here hx rfl (hb hby at_55) rfl ?_
        show Steps p.tables e below (T2.setTop (mkF m 56 #[.val (.int p0), .val (.int p1), .val (.int (0 : Int32)), .val (.ref o0), .val (.int (0 : Int32)), .val (.int (0 : Int32)), .unset, .unset, .unset, .unset] [(.int p1)])) _
        refine XS.iconst X2.here hx rfl (hb hby at_56) ?_
        show Steps p.tables e below (T2.setTop (mkF m 57 #[.val (.int p0), .val (.int p1), .val (.int (0 : Int32)), .val (.ref o0), .val (.int (0 : Int32)), .val (.int (0 : Int32)), .unset, .unset, .unset, .unset] [(.int (2 : Int32)), (.int p1)])) _
        refine XS.iand X2.here hx rfl (hb hby at_57) rfl ?_
        exact k
      by_cases hc6 : (p1 &&& (2 : Int32)) = (0 : Int32)
      · obtain ⟨_, _, ⟨T7, L7, k7, n7⟩, -, X7, ⟨Lc7, hQ7, l7, y7, z7⟩, st7⟩ := Jvm.LawKit.callS X2 hx (y := (⟨"com/example/unanimity/unanimity/engine/Outcome", "forced", "(ZZ)Lcom/example/unanimity/unanimity/engine/Outcome;"⟩ : MethodName)) hown (mvT hZ (hw _ (List.mem_of_getElem? (i := 7) rfl))) (mvT hZ (hw _ (List.mem_of_getElem? (i := 8) rfl))) (mvT hZ (hw _ (List.mem_of_getElem? (i := 5) rfl))) (mvT hZ (hw _ (List.mem_of_getElem? (i := 9) rfl))) (by decide) (backOf (W := 0) (rm2 l Z aw hw [] (0 : Int32) (0 : Int32) o0 o1 o2 o3 o4 o5 o6 o7 h0 n0 Z0 S_COMMITTED S_ABORTED S_IN_DOUBT S_UNKNOWN S_FORCED_COMMIT S_FORCED_ABORT S_FORCED_COMMIT_CONFLICT S_FORCED_ABORT_CONFLICT) hZ (hw _ (List.mem_of_getElem? (i := 9) rfl)) (hw _ (List.mem_of_getElem? (i := 5) rfl)) (by decide) (by decide)) (g := (mkF m 72 #[.val (.int p0), .val (.int p1), .val (.int (0 : Int32)), .val (.ref o0), .val (.int (0 : Int32)), .val (.int (0 : Int32)), .val (.int (0 : Int32)), .unset, .unset, .unset] [(.int (0 : Int32)), (.int (0 : Int32))])) rfl (by rw [hml]; rfl) (argsL := [(.int (0 : Int32)), (.int (0 : Int32))]) (rest := []) (lenOf pd_1 rfl) rfl (by show 2 * 0 + _ ≤ _; exact Nat.le_of_eq rfl) (hb hby at_72) (fun _ _ => ⟨rfl, e2, (by decide : 0 + 0 ≤ _), (by decide : 0 + 0 ≤ _)⟩)
        dsimp only [Pt.U, Pt.locs, Pt.cells, Pt.slots] at X7 l7 y7 z7 st7 hQ7
        subst l7 y7 z7
        obtain ⟨hv7, N7q, e7⟩ := hQ7
        rw [show own_forced (0 : Int32) (0 : Int32) o4 o5 o6 o7 = o5 from rfl] at hv7
        subst hv7
        have N7 := Fr.app N2 N7q
        obtain ⟨cq8, kq8, q8a, q8b, q8c⟩ := isOf hZ e7 E0
        obtain ⟨_, _, ⟨T8, L8, k8, n8⟩, -, X8, ⟨Lc8, hQ8, l8, y8, z8⟩, st8⟩ := X7.virtualBack hx (y := (⟨"com/example/unanimity/unanimity/engine/Outcome", "abortedHere", "()Z"⟩ : MethodName)) (z := (⟨"com/example/unanimity/unanimity/engine/Outcome", "abortedHere", "()Z"⟩ : MethodName)) hown (mvT hZ (hw _ (List.mem_of_getElem? (i := 12) rfl))) (mvT hZ (hw _ (List.mem_of_getElem? (i := 13) rfl))) (notFace_of_selects (args := #[]) (mvT hZ (hw _ (List.mem_of_getElem? (i := 15) rfl)))) (mvT hZ (hw _ (List.mem_of_getElem? (i := 15) rfl))) (mvT hZ (hw _ (List.mem_of_getElem? (i := 14) rfl))) (by decide) (backOf (W := 0) (rm3 l Z aw hw [] o0 o0 o1 o2 o3 o4 o5 o6 o7 h0 n0 Z0 S_COMMITTED S_ABORTED S_IN_DOUBT S_UNKNOWN S_FORCED_COMMIT S_FORCED_ABORT S_FORCED_COMMIT_CONFLICT S_FORCED_ABORT_CONFLICT) hZ (hw _ (List.mem_of_getElem? (i := 16) rfl)) (hw _ (List.mem_of_getElem? (i := 5) rfl)) (by decide) (by decide)) q8a q8c (g := (mkF m 78 #[.val (.int p0), .val (.int p1), .val (.int (0 : Int32)), .val (.ref o0), .val (.int (0 : Int32)), .val (.int (0 : Int32)), .val (.int (0 : Int32)), .val (.ref o5), .unset, .unset] [(.ref o0)])) rfl (by rw [hml]; rfl) (Steps.refl _) (argsL := []) (rest := []) (lenOf pd_2 rfl) rfl (by show 2 * 0 + _ ≤ _; exact Nat.le_of_eq rfl) (hb hby at_78) (fun _ _ => ⟨rfl, e7, (by decide : 0 + 0 ≤ _), (by decide : 0 + 0 ≤ _)⟩)
        dsimp only [Pt.U, Pt.locs, Pt.cells, Pt.slots] at X8 l8 y8 z8 st8 hQ8
        subst l8 y8 z8
        obtain ⟨hv8, N8q, e8⟩ := hQ8
        rw [own_three_no d0_1 d0_5 d0_7] at hv8
        subst hv8
        have N8 := Fr.app N7 N8q
        obtain ⟨cq9, kq9, q9a, q9b, q9c⟩ := isOf hZ e8 E0
        obtain ⟨_, _, ⟨T9, L9, k9, n9⟩, -, X9, ⟨Lc9, hQ9, l9, y9, z9⟩, st9⟩ := X8.virtualBack hx (y := (⟨"com/example/unanimity/unanimity/engine/Outcome", "committedHere", "()Z"⟩ : MethodName)) (z := (⟨"com/example/unanimity/unanimity/engine/Outcome", "committedHere", "()Z"⟩ : MethodName)) hown (mvT hZ (hw _ (List.mem_of_getElem? (i := 23) rfl))) (mvT hZ (hw _ (List.mem_of_getElem? (i := 24) rfl))) (notFace_of_selects (args := #[]) (mvT hZ (hw _ (List.mem_of_getElem? (i := 26) rfl)))) (mvT hZ (hw _ (List.mem_of_getElem? (i := 26) rfl))) (mvT hZ (hw _ (List.mem_of_getElem? (i := 25) rfl))) (by decide) (backOf (W := 0) (rm4 l Z aw hw [] o0 o0 o1 o2 o3 o4 o5 o6 o7 h0 n0 Z0 S_COMMITTED S_ABORTED S_IN_DOUBT S_UNKNOWN S_FORCED_COMMIT S_FORCED_ABORT S_FORCED_COMMIT_CONFLICT S_FORCED_ABORT_CONFLICT) hZ (hw _ (List.mem_of_getElem? (i := 27) rfl)) (hw _ (List.mem_of_getElem? (i := 5) rfl)) (by decide) (by decide)) q9a q9c (g := (mkF m 84 #[.val (.int p0), .val (.int p1), .val (.int (0 : Int32)), .val (.ref o0), .val (.int (0 : Int32)), .val (.int (0 : Int32)), .val (.int (0 : Int32)), .val (.ref o5), .val (.int (0 : Int32)), .unset] [(.ref o0)])) rfl (by rw [hml]; rfl) (Steps.refl _) (argsL := []) (rest := []) (lenOf pd_2 rfl) rfl (by show 2 * 0 + _ ≤ _; exact Nat.le_of_eq rfl) (hb hby at_84) (fun _ _ => ⟨rfl, e8, (by decide : 0 + 0 ≤ _), (by decide : 0 + 0 ≤ _)⟩)
        dsimp only [Pt.U, Pt.locs, Pt.cells, Pt.slots] at X9 l9 y9 z9 st9 hQ9
        subst l9 y9 z9
        obtain ⟨hv9, N9q, e9⟩ := hQ9
        rw [own_three_hit1] at hv9
        subst hv9
        have N9 := Fr.app N8 N9q
        obtain ⟨cq10, kq10, q10a, q10b, q10c⟩ := isOf hZ e9 E5
        obtain ⟨_, _, ⟨T10, L10, k10, n10⟩, -, X10, ⟨Lc10, hQ10, l10, y10, z10⟩, st10⟩ := X9.virtualBack hx (y := (⟨"com/example/unanimity/unanimity/engine/Outcome", "abortedHere", "()Z"⟩ : MethodName)) (z := (⟨"com/example/unanimity/unanimity/engine/Outcome", "abortedHere", "()Z"⟩ : MethodName)) hown (mvT hZ (hw _ (List.mem_of_getElem? (i := 12) rfl))) (mvT hZ (hw _ (List.mem_of_getElem? (i := 13) rfl))) (notFace_of_selects (args := #[]) (mvT hZ (hw _ (List.mem_of_getElem? (i := 15) rfl)))) (mvT hZ (hw _ (List.mem_of_getElem? (i := 15) rfl))) (mvT hZ (hw _ (List.mem_of_getElem? (i := 14) rfl))) (by decide) (backOf (W := 0) (rm3 l Z aw hw [] o5 o0 o1 o2 o3 o4 o5 o6 o7 h0 n0 Z0 S_COMMITTED S_ABORTED S_IN_DOUBT S_UNKNOWN S_FORCED_COMMIT S_FORCED_ABORT S_FORCED_COMMIT_CONFLICT S_FORCED_ABORT_CONFLICT) hZ (hw _ (List.mem_of_getElem? (i := 16) rfl)) (hw _ (List.mem_of_getElem? (i := 5) rfl)) (by decide) (by decide)) q10a q10c (g := (mkF m 98 #[.val (.int p0), .val (.int p1), .val (.int (0 : Int32)), .val (.ref o0), .val (.int (0 : Int32)), .val (.int (0 : Int32)), .val (.int (0 : Int32)), .val (.ref o5), .val (.int (0 : Int32)), .val (.int (1 : Int32))] [(.ref o5)])) rfl (by rw [hml]; rfl) (Steps.refl _) (argsL := []) (rest := []) (lenOf pd_2 rfl) rfl (by show 2 * 0 + _ ≤ _; exact Nat.le_of_eq rfl) (hb hby at_98) (fun _ _ => ⟨rfl, e9, (by decide : 0 + 0 ≤ _), (by decide : 0 + 0 ≤ _)⟩)
        dsimp only [Pt.U, Pt.locs, Pt.cells, Pt.slots] at X10 l10 y10 z10 st10 hQ10
        subst l10 y10 z10
        obtain ⟨hv10, N10q, e10⟩ := hQ10
        rw [own_three_hit2] at hv10
        subst hv10
        have N10 := Fr.app N9 N10q
        obtain ⟨fs, hr, hrun, hended, hW, hsame⟩ := X10.leave (v := some (.int (1 : Int32))) (fun h => by rw [Bd.returns] at h; cases h)
        refine ⟨_, _, pre5 _ ?_, hrun, hended, _, _, rfl, ?_, ⟨_, rfl⟩, hW, hsame.mono (by decide) (by decide)⟩
        · show Steps p.tables e below (T2.setTop (mkF m 58 #[.val (.int p0), .val (.int p1), .val (.int (0 : Int32)), .val (.ref o0), .val (.int (0 : Int32)), .val (.int (0 : Int32)), .unset, .unset, .unset, .unset] [(.int (p1 &&& (2 : Int32)))])) _
          refine XS.ifYes X2.here hx rfl (pc0 := 58) (pc' := 65) rfl (hb hby at_58) rfl ((if0 _ _).trans (teq hc6).1) (by decide) (by decide) ?_
          show Steps p.tables e below (T2.setTop (mkF m 65 #[.val (.int p0), .val (.int p1), .val (.int (0 : Int32)), .val (.ref o0), .val (.int (0 : Int32)), .val (.int (0 : Int32)), .unset, .unset, .unset, .unset] [])) _
          refine XS.iconst X2.here hx rfl (hb hby at_65) ?_
          show Steps p.tables e below (T2.setTop (mkF m 66 #[.val (.int p0), .val (.int p1), .val (.int (0 : Int32)), .val (.ref o0), .val (.int (0 : Int32)), .val (.int (0 : Int32)), .unset, .unset, .unset, .unset] [(.int (0 : Int32))])) _
          refine XS.istore X2.here hx rfl (hb hby at_66) rfl (l' := #[.val (.int p0), .val (.int p1), .val (.int (0 : Int32)), .val (.ref o0), .val (.int (0 : Int32)), .val (.int (0 : Int32)), .val (.int (0 : Int32)), .unset, .unset, .unset]) rfl ?_
          show Steps p.tables e below (T2.setTop (mkF m 68 #[.val (.int p0), .val (.int p1), .val (.int (0 : Int32)), .val (.ref o0), .val (.int (0 : Int32)), .val (.int (0 : Int32)), .val (.int (0 : Int32)), .unset, .unset, .unset] [])) _
          refine XS.iload X2.here hx rfl (hb hby at_68) rfl ?_
          show Steps p.tables e below (T2.setTop (mkF m 70 #[.val (.int p0), .val (.int p1), .val (.int (0 : Int32)), .val (.ref o0), .val (.int (0 : Int32)), .val (.int (0 : Int32)), .val (.int (0 : Int32)), .unset, .unset, .unset] [(.int (0 : Int32))])) _
          refine XS.iload X2.here hx rfl (hb hby at_70) rfl ?_
          show Steps p.tables e below (T2.setTop (mkF m 72 #[.val (.int p0), .val (.int p1), .val (.int (0 : Int32)), .val (.ref o0), .val (.int (0 : Int32)), .val (.int (0 : Int32)), .val (.int (0 : Int32)), .unset, .unset, .unset] [(.int (0 : Int32)), (.int (0 : Int32))])) _
          refine st7 _ ?_
          show Steps p.tables e below (T7.setTop (mkF m 75 #[.val (.int p0), .val (.int p1), .val (.int (0 : Int32)), .val (.ref o0), .val (.int (0 : Int32)), .val (.int (0 : Int32)), .val (.int (0 : Int32)), .unset, .unset, .unset] [(.ref o5)])) _
          refine XS.astore X7.here hx rfl (hb hby at_75) rfl rfl (l' := #[.val (.int p0), .val (.int p1), .val (.int (0 : Int32)), .val (.ref o0), .val (.int (0 : Int32)), .val (.int (0 : Int32)), .val (.int (0 : Int32)), .val (.ref o5), .unset, .unset]) rfl ?_
          show Steps p.tables e below (T7.setTop (mkF m 77 #[.val (.int p0), .val (.int p1), .val (.int (0 : Int32)), .val (.ref o0), .val (.int (0 : Int32)), .val (.int (0 : Int32)), .val (.int (0 : Int32)), .val (.ref o5), .unset, .unset] [])) _
          refine XS.aloadN X7.here hx rfl (hb hby at_77) rfl rfl ?_
          show Steps p.tables e below (T7.setTop (mkF m 78 #[.val (.int p0), .val (.int p1), .val (.int (0 : Int32)), .val (.ref o0), .val (.int (0 : Int32)), .val (.int (0 : Int32)), .val (.int (0 : Int32)), .val (.ref o5), .unset, .unset] [(.ref o0)])) _
          refine st8.trans ?_
          show Steps p.tables e below (T8.setTop (mkF m 81 #[.val (.int p0), .val (.int p1), .val (.int (0 : Int32)), .val (.ref o0), .val (.int (0 : Int32)), .val (.int (0 : Int32)), .val (.int (0 : Int32)), .val (.ref o5), .unset, .unset] [(.int (0 : Int32))])) _
          refine XS.istore X8.here hx rfl (hb hby at_81) rfl (l' := #[.val (.int p0), .val (.int p1), .val (.int (0 : Int32)), .val (.ref o0), .val (.int (0 : Int32)), .val (.int (0 : Int32)), .val (.int (0 : Int32)), .val (.ref o5), .val (.int (0 : Int32)), .unset]) rfl ?_
          show Steps p.tables e below (T8.setTop (mkF m 83 #[.val (.int p0), .val (.int p1), .val (.int (0 : Int32)), .val (.ref o0), .val (.int (0 : Int32)), .val (.int (0 : Int32)), .val (.int (0 : Int32)), .val (.ref o5), .val (.int (0 : Int32)), .unset] [])) _
          refine XS.aloadN X8.here hx rfl (hb hby at_83) rfl rfl ?_
          show Steps p.tables e below (T8.setTop (mkF m 84 #[.val (.int p0), .val (.int p1), .val (.int (0 : Int32)), .val (.ref o0), .val (.int (0 : Int32)), .val (.int (0 : Int32)), .val (.int (0 : Int32)), .val (.ref o5), .val (.int (0 : Int32)), .unset] [(.ref o0)])) _
          refine st9.trans ?_
          show Steps p.tables e below (T9.setTop (mkF m 87 #[.val (.int p0), .val (.int p1), .val (.int (0 : Int32)), .val (.ref o0), .val (.int (0 : Int32)), .val (.int (0 : Int32)), .val (.int (0 : Int32)), .val (.ref o5), .val (.int (0 : Int32)), .unset] [(.int (1 : Int32))])) _
          refine XS.istore X9.here hx rfl (hb hby at_87) rfl (l' := #[.val (.int p0), .val (.int p1), .val (.int (0 : Int32)), .val (.ref o0), .val (.int (0 : Int32)), .val (.int (0 : Int32)), .val (.int (0 : Int32)), .val (.ref o5), .val (.int (0 : Int32)), .val (.int (1 : Int32))]) rfl ?_
          show Steps p.tables e below (T9.setTop (mkF m 89 #[.val (.int p0), .val (.int p1), .val (.int (0 : Int32)), .val (.ref o0), .val (.int (0 : Int32)), .val (.int (0 : Int32)), .val (.int (0 : Int32)), .val (.ref o5), .val (.int (0 : Int32)), .val (.int (1 : Int32))] [])) _
          refine XS.iload X9.here hx rfl (hb hby at_89) rfl ?_
          show Steps p.tables e below (T9.setTop (mkF m 91 #[.val (.int p0), .val (.int p1), .val (.int (0 : Int32)), .val (.ref o0), .val (.int (0 : Int32)), .val (.int (0 : Int32)), .val (.int (0 : Int32)), .val (.ref o5), .val (.int (0 : Int32)), .val (.int (1 : Int32))] [(.int (0 : Int32))])) _
          refine XS.iload X9.here hx rfl (hb hby at_91) rfl ?_
          show Steps p.tables e below (T9.setTop (mkF m 93 #[.val (.int p0), .val (.int p1), .val (.int (0 : Int32)), .val (.ref o0), .val (.int (0 : Int32)), .val (.int (0 : Int32)), .val (.int (0 : Int32)), .val (.ref o5), .val (.int (0 : Int32)), .val (.int (1 : Int32))] [(.int (0 : Int32)), (.int (0 : Int32))])) _
          refine XS.icmpNo X9.here hx rfl (hb hby at_93) rfl (teq (by decide : (0 : Int32) = (0 : Int32))).2 ?_
          show Steps p.tables e below (T9.setTop (mkF m 96 #[.val (.int p0), .val (.int p1), .val (.int (0 : Int32)), .val (.ref o0), .val (.int (0 : Int32)), .val (.int (0 : Int32)), .val (.int (0 : Int32)), .val (.ref o5), .val (.int (0 : Int32)), .val (.int (1 : Int32))] [])) _
          refine XS.aload X9.here hx rfl (hb hby at_96) rfl rfl ?_
          show Steps p.tables e below (T9.setTop (mkF m 98 #[.val (.int p0), .val (.int p1), .val (.int (0 : Int32)), .val (.ref o0), .val (.int (0 : Int32)), .val (.int (0 : Int32)), .val (.int (0 : Int32)), .val (.ref o5), .val (.int (0 : Int32)), .val (.int (1 : Int32))] [(.ref o5)])) _
          refine st10.trans ?_
          show Steps p.tables e below (T10.setTop (mkF m 101 #[.val (.int p0), .val (.int p1), .val (.int (0 : Int32)), .val (.ref o0), .val (.int (0 : Int32)), .val (.int (0 : Int32)), .val (.int (0 : Int32)), .val (.ref o5), .val (.int (0 : Int32)), .val (.int (1 : Int32))] [(.int (1 : Int32))])) _
          refine XS.iload X10.here hx rfl (hb hby at_101) rfl ?_
          show Steps p.tables e below (T10.setTop (mkF m 103 #[.val (.int p0), .val (.int p1), .val (.int (0 : Int32)), .val (.ref o0), .val (.int (0 : Int32)), .val (.int (0 : Int32)), .val (.int (0 : Int32)), .val (.ref o5), .val (.int (0 : Int32)), .val (.int (1 : Int32))] [(.int (0 : Int32)), (.int (1 : Int32))])) _
          refine XS.ifNo X10.here hx rfl (hb hby at_103) rfl ((if0 _ _).trans (teq (by decide : (0 : Int32) = (0 : Int32))).2) ?_
          show Steps p.tables e below (T10.setTop (mkF m 106 #[.val (.int p0), .val (.int p1), .val (.int (0 : Int32)), .val (.ref o0), .val (.int (0 : Int32)), .val (.int (0 : Int32)), .val (.int (0 : Int32)), .val (.ref o5), .val (.int (0 : Int32)), .val (.int (1 : Int32))] [(.int (1 : Int32))])) _
          refine XS.iconst X10.here hx rfl (hb hby at_106) ?_
          show Steps p.tables e below (T10.setTop (mkF m 107 #[.val (.int p0), .val (.int p1), .val (.int (0 : Int32)), .val (.ref o0), .val (.int (0 : Int32)), .val (.int (0 : Int32)), .val (.int (0 : Int32)), .val (.ref o5), .val (.int (0 : Int32)), .val (.int (1 : Int32))] [(.int (1 : Int32)), (.int (1 : Int32))])) _
          refine XS.goto X10.here hx rfl (pc0 := 107) (pc' := 111) rfl (hb hby at_107) (by decide) (by decide) ?_
          show Steps p.tables e below (T10.setTop (mkF m 111 #[.val (.int p0), .val (.int p1), .val (.int (0 : Int32)), .val (.ref o0), .val (.int (0 : Int32)), .val (.int (0 : Int32)), .val (.int (0 : Int32)), .val (.ref o5), .val (.int (0 : Int32)), .val (.int (1 : Int32))] [(.int (1 : Int32)), (.int (1 : Int32))])) _
          refine XS.icmpNo X10.here hx rfl (hb hby at_111) rfl (teq (by decide : (1 : Int32) = (1 : Int32))).2 ?_
          show Steps p.tables e below (T10.setTop (mkF m 114 #[.val (.int p0), .val (.int p1), .val (.int (0 : Int32)), .val (.ref o0), .val (.int (0 : Int32)), .val (.int (0 : Int32)), .val (.int (0 : Int32)), .val (.ref o5), .val (.int (0 : Int32)), .val (.int (1 : Int32))] [])) _
          refine XS.iload X10.here hx rfl (hb hby at_114) rfl ?_
          show Steps p.tables e below (T10.setTop (mkF m 116 #[.val (.int p0), .val (.int p1), .val (.int (0 : Int32)), .val (.ref o0), .val (.int (0 : Int32)), .val (.int (0 : Int32)), .val (.int (0 : Int32)), .val (.ref o5), .val (.int (0 : Int32)), .val (.int (1 : Int32))] [(.int (0 : Int32))])) _
          refine XS.ifYes X10.here hx rfl (pc0 := 116) (pc' := 124) rfl (hb hby at_116) rfl ((if0 _ _).trans (teq (by decide : (0 : Int32) = (0 : Int32))).1) (by decide) (by decide) ?_
          show Steps p.tables e below (T10.setTop (mkF m 124 #[.val (.int p0), .val (.int p1), .val (.int (0 : Int32)), .val (.ref o0), .val (.int (0 : Int32)), .val (.int (0 : Int32)), .val (.int (0 : Int32)), .val (.ref o5), .val (.int (0 : Int32)), .val (.int (1 : Int32))] [])) _
          refine XS.iconst X10.here hx rfl (hb hby at_124) ?_
          show Steps p.tables e below (T10.setTop (mkF m 125 #[.val (.int p0), .val (.int p1), .val (.int (0 : Int32)), .val (.ref o0), .val (.int (0 : Int32)), .val (.int (0 : Int32)), .val (.int (0 : Int32)), .val (.ref o5), .val (.int (0 : Int32)), .val (.int (1 : Int32))] [(.int (1 : Int32))])) _
          refine XS.goto X10.here hx rfl (pc0 := 125) (pc' := 129) rfl (hb hby at_125) (by decide) (by decide) ?_
          show Steps p.tables e below (T10.setTop (mkF m 129 #[.val (.int p0), .val (.int p1), .val (.int (0 : Int32)), .val (.ref o0), .val (.int (0 : Int32)), .val (.int (0 : Int32)), .val (.int (0 : Int32)), .val (.ref o5), .val (.int (0 : Int32)), .val (.int (1 : Int32))] [(.int (1 : Int32))])) _
          exact retN X10 hx (t := .boolean) Bd.returns (by simp) (hb hby at_129) hr
        · show Q0 Z p0 p1 o0 o1 o2 o3 o4 o5 o6 o7 h0 n0 _ T10.heap _
          rw [e10]
          exact ⟨rfl, N10⟩
      · obtain ⟨_, _, ⟨T11, L11, k11, n11⟩, -, X11, ⟨Lc11, hQ11, l11, y11, z11⟩, st11⟩ := Jvm.LawKit.callS X2 hx (y := (⟨"com/example/unanimity/unanimity/engine/Outcome", "forced", "(ZZ)Lcom/example/unanimity/unanimity/engine/Outcome;"⟩ : MethodName)) hown (mvT hZ (hw _ (List.mem_of_getElem? (i := 7) rfl))) (mvT hZ (hw _ (List.mem_of_getElem? (i := 8) rfl))) (mvT hZ (hw _ (List.mem_of_getElem? (i := 5) rfl))) (mvT hZ (hw _ (List.mem_of_getElem? (i := 9) rfl))) (by decide) (backOf (W := 0) (rm2 l Z aw hw [] (0 : Int32) (1 : Int32) o0 o1 o2 o3 o4 o5 o6 o7 h0 n0 Z0 S_COMMITTED S_ABORTED S_IN_DOUBT S_UNKNOWN S_FORCED_COMMIT S_FORCED_ABORT S_FORCED_COMMIT_CONFLICT S_FORCED_ABORT_CONFLICT) hZ (hw _ (List.mem_of_getElem? (i := 9) rfl)) (hw _ (List.mem_of_getElem? (i := 5) rfl)) (by decide) (by decide)) (g := (mkF m 72 #[.val (.int p0), .val (.int p1), .val (.int (0 : Int32)), .val (.ref o0), .val (.int (0 : Int32)), .val (.int (0 : Int32)), .val (.int (1 : Int32)), .unset, .unset, .unset] [(.int (1 : Int32)), (.int (0 : Int32))])) rfl (by rw [hml]; rfl) (argsL := [(.int (0 : Int32)), (.int (1 : Int32))]) (rest := []) (lenOf pd_1 rfl) rfl (by show 2 * 0 + _ ≤ _; exact Nat.le_of_eq rfl) (hb hby at_72) (fun _ _ => ⟨rfl, e2, (by decide : 0 + 0 ≤ _), (by decide : 0 + 0 ≤ _)⟩)
        dsimp only [Pt.U, Pt.locs, Pt.cells, Pt.slots] at X11 l11 y11 z11 st11 hQ11
        subst l11 y11 z11
        obtain ⟨hv11, N11q, e11⟩ := hQ11
        rw [show own_forced (0 : Int32) (1 : Int32) o4 o5 o6 o7 = o7 from rfl] at hv11
        subst hv11
        have N11 := Fr.app N2 N11q
        obtain ⟨cq12, kq12, q12a, q12b, q12c⟩ := isOf hZ e11 E0
        obtain ⟨_, _, ⟨T12, L12, k12, n12⟩, -, X12, ⟨Lc12, hQ12, l12, y12, z12⟩, st12⟩ := X11.virtualBack hx (y := (⟨"com/example/unanimity/unanimity/engine/Outcome", "abortedHere", "()Z"⟩ : MethodName)) (z := (⟨"com/example/unanimity/unanimity/engine/Outcome", "abortedHere", "()Z"⟩ : MethodName)) hown (mvT hZ (hw _ (List.mem_of_getElem? (i := 12) rfl))) (mvT hZ (hw _ (List.mem_of_getElem? (i := 13) rfl))) (notFace_of_selects (args := #[]) (mvT hZ (hw _ (List.mem_of_getElem? (i := 15) rfl)))) (mvT hZ (hw _ (List.mem_of_getElem? (i := 15) rfl))) (mvT hZ (hw _ (List.mem_of_getElem? (i := 14) rfl))) (by decide) (backOf (W := 0) (rm3 l Z aw hw [] o0 o0 o1 o2 o3 o4 o5 o6 o7 h0 n0 Z0 S_COMMITTED S_ABORTED S_IN_DOUBT S_UNKNOWN S_FORCED_COMMIT S_FORCED_ABORT S_FORCED_COMMIT_CONFLICT S_FORCED_ABORT_CONFLICT) hZ (hw _ (List.mem_of_getElem? (i := 16) rfl)) (hw _ (List.mem_of_getElem? (i := 5) rfl)) (by decide) (by decide)) q12a q12c (g := (mkF m 78 #[.val (.int p0), .val (.int p1), .val (.int (0 : Int32)), .val (.ref o0), .val (.int (0 : Int32)), .val (.int (0 : Int32)), .val (.int (1 : Int32)), .val (.ref o7), .unset, .unset] [(.ref o0)])) rfl (by rw [hml]; rfl) (Steps.refl _) (argsL := []) (rest := []) (lenOf pd_2 rfl) rfl (by show 2 * 0 + _ ≤ _; exact Nat.le_of_eq rfl) (hb hby at_78) (fun _ _ => ⟨rfl, e11, (by decide : 0 + 0 ≤ _), (by decide : 0 + 0 ≤ _)⟩)
        dsimp only [Pt.U, Pt.locs, Pt.cells, Pt.slots] at X12 l12 y12 z12 st12 hQ12
        subst l12 y12 z12
        obtain ⟨hv12, N12q, e12⟩ := hQ12
        rw [own_three_no d0_1 d0_5 d0_7] at hv12
        subst hv12
        have N12 := Fr.app N11 N12q
        obtain ⟨cq13, kq13, q13a, q13b, q13c⟩ := isOf hZ e12 E0
        obtain ⟨_, _, ⟨T13, L13, k13, n13⟩, -, X13, ⟨Lc13, hQ13, l13, y13, z13⟩, st13⟩ := X12.virtualBack hx (y := (⟨"com/example/unanimity/unanimity/engine/Outcome", "committedHere", "()Z"⟩ : MethodName)) (z := (⟨"com/example/unanimity/unanimity/engine/Outcome", "committedHere", "()Z"⟩ : MethodName)) hown (mvT hZ (hw _ (List.mem_of_getElem? (i := 23) rfl))) (mvT hZ (hw _ (List.mem_of_getElem? (i := 24) rfl))) (notFace_of_selects (args := #[]) (mvT hZ (hw _ (List.mem_of_getElem? (i := 26) rfl)))) (mvT hZ (hw _ (List.mem_of_getElem? (i := 26) rfl))) (mvT hZ (hw _ (List.mem_of_getElem? (i := 25) rfl))) (by decide) (backOf (W := 0) (rm4 l Z aw hw [] o0 o0 o1 o2 o3 o4 o5 o6 o7 h0 n0 Z0 S_COMMITTED S_ABORTED S_IN_DOUBT S_UNKNOWN S_FORCED_COMMIT S_FORCED_ABORT S_FORCED_COMMIT_CONFLICT S_FORCED_ABORT_CONFLICT) hZ (hw _ (List.mem_of_getElem? (i := 27) rfl)) (hw _ (List.mem_of_getElem? (i := 5) rfl)) (by decide) (by decide)) q13a q13c (g := (mkF m 84 #[.val (.int p0), .val (.int p1), .val (.int (0 : Int32)), .val (.ref o0), .val (.int (0 : Int32)), .val (.int (0 : Int32)), .val (.int (1 : Int32)), .val (.ref o7), .val (.int (0 : Int32)), .unset] [(.ref o0)])) rfl (by rw [hml]; rfl) (Steps.refl _) (argsL := []) (rest := []) (lenOf pd_2 rfl) rfl (by show 2 * 0 + _ ≤ _; exact Nat.le_of_eq rfl) (hb hby at_84) (fun _ _ => ⟨rfl, e12, (by decide : 0 + 0 ≤ _), (by decide : 0 + 0 ≤ _)⟩)
        dsimp only [Pt.U, Pt.locs, Pt.cells, Pt.slots] at X13 l13 y13 z13 st13 hQ13
        subst l13 y13 z13
        obtain ⟨hv13, N13q, e13⟩ := hQ13
        rw [own_three_hit1] at hv13
        subst hv13
        have N13 := Fr.app N12 N13q
        obtain ⟨cq14, kq14, q14a, q14b, q14c⟩ := isOf hZ e13 E7
        obtain ⟨_, _, ⟨T14, L14, k14, n14⟩, -, X14, ⟨Lc14, hQ14, l14, y14, z14⟩, st14⟩ := X13.virtualBack hx (y := (⟨"com/example/unanimity/unanimity/engine/Outcome", "abortedHere", "()Z"⟩ : MethodName)) (z := (⟨"com/example/unanimity/unanimity/engine/Outcome", "abortedHere", "()Z"⟩ : MethodName)) hown (mvT hZ (hw _ (List.mem_of_getElem? (i := 12) rfl))) (mvT hZ (hw _ (List.mem_of_getElem? (i := 13) rfl))) (notFace_of_selects (args := #[]) (mvT hZ (hw _ (List.mem_of_getElem? (i := 15) rfl)))) (mvT hZ (hw _ (List.mem_of_getElem? (i := 15) rfl))) (mvT hZ (hw _ (List.mem_of_getElem? (i := 14) rfl))) (by decide) (backOf (W := 0) (rm3 l Z aw hw [] o7 o0 o1 o2 o3 o4 o5 o6 o7 h0 n0 Z0 S_COMMITTED S_ABORTED S_IN_DOUBT S_UNKNOWN S_FORCED_COMMIT S_FORCED_ABORT S_FORCED_COMMIT_CONFLICT S_FORCED_ABORT_CONFLICT) hZ (hw _ (List.mem_of_getElem? (i := 16) rfl)) (hw _ (List.mem_of_getElem? (i := 5) rfl)) (by decide) (by decide)) q14a q14c (g := (mkF m 98 #[.val (.int p0), .val (.int p1), .val (.int (0 : Int32)), .val (.ref o0), .val (.int (0 : Int32)), .val (.int (0 : Int32)), .val (.int (1 : Int32)), .val (.ref o7), .val (.int (0 : Int32)), .val (.int (1 : Int32))] [(.ref o7)])) rfl (by rw [hml]; rfl) (Steps.refl _) (argsL := []) (rest := []) (lenOf pd_2 rfl) rfl (by show 2 * 0 + _ ≤ _; exact Nat.le_of_eq rfl) (hb hby at_98) (fun _ _ => ⟨rfl, e13, (by decide : 0 + 0 ≤ _), (by decide : 0 + 0 ≤ _)⟩)
        dsimp only [Pt.U, Pt.locs, Pt.cells, Pt.slots] at X14 l14 y14 z14 st14 hQ14
        subst l14 y14 z14
        obtain ⟨hv14, N14q, e14⟩ := hQ14
        rw [own_three_hit3] at hv14
        subst hv14
        have N14 := Fr.app N13 N14q
        obtain ⟨fs, hr, hrun, hended, hW, hsame⟩ := X14.leave (v := some (.int (1 : Int32))) (fun h => by rw [Bd.returns] at h; cases h)
        refine ⟨_, _, pre5 _ ?_, hrun, hended, _, _, rfl, ?_, ⟨_, rfl⟩, hW, hsame.mono (by decide) (by decide)⟩
        · show Steps p.tables e below (T2.setTop (mkF m 58 #[.val (.int p0), .val (.int p1), .val (.int (0 : Int32)), .val (.ref o0), .val (.int (0 : Int32)), .val (.int (0 : Int32)), .unset, .unset, .unset, .unset] [(.int (p1 &&& (2 : Int32)))])) _
          refine XS.ifNo X2.here hx rfl (hb hby at_58) rfl ((if0 _ _).trans (feq hc6).1) ?_
          show Steps p.tables e below (T2.setTop (mkF m 61 #[.val (.int p0), .val (.int p1), .val (.int (0 : Int32)), .val (.ref o0), .val (.int (0 : Int32)), .val (.int (0 : Int32)), .unset, .unset, .unset, .unset] [])) _
          refine XS.iconst X2.here hx rfl (hb hby at_61) ?_
          show Steps p.tables e below (T2.setTop (mkF m 62 #[.val (.int p0), .val (.int p1), .val (.int (0 : Int32)), .val (.ref o0), .val (.int (0 : Int32)), .val (.int (0 : Int32)), .unset, .unset, .unset, .unset] [(.int (1 : Int32))])) _
          refine XS.goto X2.here hx rfl (pc0 := 62) (pc' := 66) rfl (hb hby at_62) (by decide) (by decide) ?_
          show Steps p.tables e below (T2.setTop (mkF m 66 #[.val (.int p0), .val (.int p1), .val (.int (0 : Int32)), .val (.ref o0), .val (.int (0 : Int32)), .val (.int (0 : Int32)), .unset, .unset, .unset, .unset] [(.int (1 : Int32))])) _
          refine XS.istore X2.here hx rfl (hb hby at_66) rfl (l' := #[.val (.int p0), .val (.int p1), .val (.int (0 : Int32)), .val (.ref o0), .val (.int (0 : Int32)), .val (.int (0 : Int32)), .val (.int (1 : Int32)), .unset, .unset, .unset]) rfl ?_
          show Steps p.tables e below (T2.setTop (mkF m 68 #[.val (.int p0), .val (.int p1), .val (.int (0 : Int32)), .val (.ref o0), .val (.int (0 : Int32)), .val (.int (0 : Int32)), .val (.int (1 : Int32)), .unset, .unset, .unset] [])) _
          refine XS.iload X2.here hx rfl (hb hby at_68) rfl ?_
          show Steps p.tables e below (T2.setTop (mkF m 70 #[.val (.int p0), .val (.int p1), .val (.int (0 : Int32)), .val (.ref o0), .val (.int (0 : Int32)), .val (.int (0 : Int32)), .val (.int (1 : Int32)), .unset, .unset, .unset] [(.int (0 : Int32))])) _
          refine XS.iload X2.here hx rfl (hb hby at_70) rfl ?_
          show Steps p.tables e below (T2.setTop (mkF m 72 #[.val (.int p0), .val (.int p1), .val (.int (0 : Int32)), .val (.ref o0), .val (.int (0 : Int32)), .val (.int (0 : Int32)), .val (.int (1 : Int32)), .unset, .unset, .unset] [(.int (1 : Int32)), (.int (0 : Int32))])) _
          refine st11 _ ?_
          show Steps p.tables e below (T11.setTop (mkF m 75 #[.val (.int p0), .val (.int p1), .val (.int (0 : Int32)), .val (.ref o0), .val (.int (0 : Int32)), .val (.int (0 : Int32)), .val (.int (1 : Int32)), .unset, .unset, .unset] [(.ref o7)])) _
          refine XS.astore X11.here hx rfl (hb hby at_75) rfl rfl (l' := #[.val (.int p0), .val (.int p1), .val (.int (0 : Int32)), .val (.ref o0), .val (.int (0 : Int32)), .val (.int (0 : Int32)), .val (.int (1 : Int32)), .val (.ref o7), .unset, .unset]) rfl ?_
          show Steps p.tables e below (T11.setTop (mkF m 77 #[.val (.int p0), .val (.int p1), .val (.int (0 : Int32)), .val (.ref o0), .val (.int (0 : Int32)), .val (.int (0 : Int32)), .val (.int (1 : Int32)), .val (.ref o7), .unset, .unset] [])) _
          refine XS.aloadN X11.here hx rfl (hb hby at_77) rfl rfl ?_
          show Steps p.tables e below (T11.setTop (mkF m 78 #[.val (.int p0), .val (.int p1), .val (.int (0 : Int32)), .val (.ref o0), .val (.int (0 : Int32)), .val (.int (0 : Int32)), .val (.int (1 : Int32)), .val (.ref o7), .unset, .unset] [(.ref o0)])) _
          refine st12.trans ?_
          show Steps p.tables e below (T12.setTop (mkF m 81 #[.val (.int p0), .val (.int p1), .val (.int (0 : Int32)), .val (.ref o0), .val (.int (0 : Int32)), .val (.int (0 : Int32)), .val (.int (1 : Int32)), .val (.ref o7), .unset, .unset] [(.int (0 : Int32))])) _
          refine XS.istore X12.here hx rfl (hb hby at_81) rfl (l' := #[.val (.int p0), .val (.int p1), .val (.int (0 : Int32)), .val (.ref o0), .val (.int (0 : Int32)), .val (.int (0 : Int32)), .val (.int (1 : Int32)), .val (.ref o7), .val (.int (0 : Int32)), .unset]) rfl ?_
          show Steps p.tables e below (T12.setTop (mkF m 83 #[.val (.int p0), .val (.int p1), .val (.int (0 : Int32)), .val (.ref o0), .val (.int (0 : Int32)), .val (.int (0 : Int32)), .val (.int (1 : Int32)), .val (.ref o7), .val (.int (0 : Int32)), .unset] [])) _
          refine XS.aloadN X12.here hx rfl (hb hby at_83) rfl rfl ?_
          show Steps p.tables e below (T12.setTop (mkF m 84 #[.val (.int p0), .val (.int p1), .val (.int (0 : Int32)), .val (.ref o0), .val (.int (0 : Int32)), .val (.int (0 : Int32)), .val (.int (1 : Int32)), .val (.ref o7), .val (.int (0 : Int32)), .unset] [(.ref o0)])) _
          refine st13.trans ?_
          show Steps p.tables e below (T13.setTop (mkF m 87 #[.val (.int p0), .val (.int p1), .val (.int (0 : Int32)), .val (.ref o0), .val (.int (0 : Int32)), .val (.int (0 : Int32)), .val (.int (1 : Int32)), .val (.ref o7), .val (.int (0 : Int32)), .unset] [(.int (1 : Int32))])) _
          refine XS.istore X13.here hx rfl (hb hby at_87) rfl (l' := #[.val (.int p0), .val (.int p1), .val (.int (0 : Int32)), .val (.ref o0), .val (.int (0 : Int32)), .val (.int (0 : Int32)), .val (.int (1 : Int32)), .val (.ref o7), .val (.int (0 : Int32)), .val (.int (1 : Int32))]) rfl ?_
          show Steps p.tables e below (T13.setTop (mkF m 89 #[.val (.int p0), .val (.int p1), .val (.int (0 : Int32)), .val (.ref o0), .val (.int (0 : Int32)), .val (.int (0 : Int32)), .val (.int (1 : Int32)), .val (.ref o7), .val (.int (0 : Int32)), .val (.int (1 : Int32))] [])) _
          refine XS.iload X13.here hx rfl (hb hby at_89) rfl ?_
          show Steps p.tables e below (T13.setTop (mkF m 91 #[.val (.int p0), .val (.int p1), .val (.int (0 : Int32)), .val (.ref o0), .val (.int (0 : Int32)), .val (.int (0 : Int32)), .val (.int (1 : Int32)), .val (.ref o7), .val (.int (0 : Int32)), .val (.int (1 : Int32))] [(.int (0 : Int32))])) _
          refine XS.iload X13.here hx rfl (hb hby at_91) rfl ?_
          show Steps p.tables e below (T13.setTop (mkF m 93 #[.val (.int p0), .val (.int p1), .val (.int (0 : Int32)), .val (.ref o0), .val (.int (0 : Int32)), .val (.int (0 : Int32)), .val (.int (1 : Int32)), .val (.ref o7), .val (.int (0 : Int32)), .val (.int (1 : Int32))] [(.int (0 : Int32)), (.int (0 : Int32))])) _
          refine XS.icmpNo X13.here hx rfl (hb hby at_93) rfl (teq (by decide : (0 : Int32) = (0 : Int32))).2 ?_
          show Steps p.tables e below (T13.setTop (mkF m 96 #[.val (.int p0), .val (.int p1), .val (.int (0 : Int32)), .val (.ref o0), .val (.int (0 : Int32)), .val (.int (0 : Int32)), .val (.int (1 : Int32)), .val (.ref o7), .val (.int (0 : Int32)), .val (.int (1 : Int32))] [])) _
          refine XS.aload X13.here hx rfl (hb hby at_96) rfl rfl ?_
          show Steps p.tables e below (T13.setTop (mkF m 98 #[.val (.int p0), .val (.int p1), .val (.int (0 : Int32)), .val (.ref o0), .val (.int (0 : Int32)), .val (.int (0 : Int32)), .val (.int (1 : Int32)), .val (.ref o7), .val (.int (0 : Int32)), .val (.int (1 : Int32))] [(.ref o7)])) _
          refine st14.trans ?_
          show Steps p.tables e below (T14.setTop (mkF m 101 #[.val (.int p0), .val (.int p1), .val (.int (0 : Int32)), .val (.ref o0), .val (.int (0 : Int32)), .val (.int (0 : Int32)), .val (.int (1 : Int32)), .val (.ref o7), .val (.int (0 : Int32)), .val (.int (1 : Int32))] [(.int (1 : Int32))])) _
          refine XS.iload X14.here hx rfl (hb hby at_101) rfl ?_
          show Steps p.tables e below (T14.setTop (mkF m 103 #[.val (.int p0), .val (.int p1), .val (.int (0 : Int32)), .val (.ref o0), .val (.int (0 : Int32)), .val (.int (0 : Int32)), .val (.int (1 : Int32)), .val (.ref o7), .val (.int (0 : Int32)), .val (.int (1 : Int32))] [(.int (0 : Int32)), (.int (1 : Int32))])) _
          refine XS.ifNo X14.here hx rfl (hb hby at_103) rfl ((if0 _ _).trans (teq (by decide : (0 : Int32) = (0 : Int32))).2) ?_
          show Steps p.tables e below (T14.setTop (mkF m 106 #[.val (.int p0), .val (.int p1), .val (.int (0 : Int32)), .val (.ref o0), .val (.int (0 : Int32)), .val (.int (0 : Int32)), .val (.int (1 : Int32)), .val (.ref o7), .val (.int (0 : Int32)), .val (.int (1 : Int32))] [(.int (1 : Int32))])) _
          refine XS.iconst X14.here hx rfl (hb hby at_106) ?_
          show Steps p.tables e below (T14.setTop (mkF m 107 #[.val (.int p0), .val (.int p1), .val (.int (0 : Int32)), .val (.ref o0), .val (.int (0 : Int32)), .val (.int (0 : Int32)), .val (.int (1 : Int32)), .val (.ref o7), .val (.int (0 : Int32)), .val (.int (1 : Int32))] [(.int (1 : Int32)), (.int (1 : Int32))])) _
          refine XS.goto X14.here hx rfl (pc0 := 107) (pc' := 111) rfl (hb hby at_107) (by decide) (by decide) ?_
          show Steps p.tables e below (T14.setTop (mkF m 111 #[.val (.int p0), .val (.int p1), .val (.int (0 : Int32)), .val (.ref o0), .val (.int (0 : Int32)), .val (.int (0 : Int32)), .val (.int (1 : Int32)), .val (.ref o7), .val (.int (0 : Int32)), .val (.int (1 : Int32))] [(.int (1 : Int32)), (.int (1 : Int32))])) _
          refine XS.icmpNo X14.here hx rfl (hb hby at_111) rfl (teq (by decide : (1 : Int32) = (1 : Int32))).2 ?_
          show Steps p.tables e below (T14.setTop (mkF m 114 #[.val (.int p0), .val (.int p1), .val (.int (0 : Int32)), .val (.ref o0), .val (.int (0 : Int32)), .val (.int (0 : Int32)), .val (.int (1 : Int32)), .val (.ref o7), .val (.int (0 : Int32)), .val (.int (1 : Int32))] [])) _
          refine XS.iload X14.here hx rfl (hb hby at_114) rfl ?_
          show Steps p.tables e below (T14.setTop (mkF m 116 #[.val (.int p0), .val (.int p1), .val (.int (0 : Int32)), .val (.ref o0), .val (.int (0 : Int32)), .val (.int (0 : Int32)), .val (.int (1 : Int32)), .val (.ref o7), .val (.int (0 : Int32)), .val (.int (1 : Int32))] [(.int (0 : Int32))])) _
          refine XS.ifYes X14.here hx rfl (pc0 := 116) (pc' := 124) rfl (hb hby at_116) rfl ((if0 _ _).trans (teq (by decide : (0 : Int32) = (0 : Int32))).1) (by decide) (by decide) ?_
          show Steps p.tables e below (T14.setTop (mkF m 124 #[.val (.int p0), .val (.int p1), .val (.int (0 : Int32)), .val (.ref o0), .val (.int (0 : Int32)), .val (.int (0 : Int32)), .val (.int (1 : Int32)), .val (.ref o7), .val (.int (0 : Int32)), .val (.int (1 : Int32))] [])) _
          refine XS.iconst X14.here hx rfl (hb hby at_124) ?_
          show Steps p.tables e below (T14.setTop (mkF m 125 #[.val (.int p0), .val (.int p1), .val (.int (0 : Int32)), .val (.ref o0), .val (.int (0 : Int32)), .val (.int (0 : Int32)), .val (.int (1 : Int32)), .val (.ref o7), .val (.int (0 : Int32)), .val (.int (1 : Int32))] [(.int (1 : Int32))])) _
          refine XS.goto X14.here hx rfl (pc0 := 125) (pc' := 129) rfl (hb hby at_125) (by decide) (by decide) ?_
          show Steps p.tables e below (T14.setTop (mkF m 129 #[.val (.int p0), .val (.int p1), .val (.int (0 : Int32)), .val (.ref o0), .val (.int (0 : Int32)), .val (.int (0 : Int32)), .val (.int (1 : Int32)), .val (.ref o7), .val (.int (0 : Int32)), .val (.int (1 : Int32))] [(.int (1 : Int32))])) _
          exact retN X14 hx (t := .boolean) Bd.returns (by simp) (hb hby at_129) hr
        · show Q0 Z p0 p1 o0 o1 o2 o3 o4 o5 o6 o7 h0 n0 _ T14.heap _
          rw [e14]
          exact ⟨rfl, N14⟩
    · have pre15 : ∀ t, Steps p.tables e below (T2.setTop (mkF m 58 #[.val (.int p0), .val (.int p1), .val (.int (0 : Int32)), .val (.ref o0), .val (.int (0 : Int32)), .val (.int (1 : Int32)), .unset, .unset, .unset, .unset] [(.int (p1 &&& (2 : Int32)))])) t → Steps p.tables e below (s₁.setTop (entryFrame m #[(.int p0), (.int p1)] maxLocals)) t := fun t k => by
        refine pre3 t ?_
        show Steps p.tables e below (T2.setTop (mkF m 45 #[.val (.int p0), .val (.int p1), .val (.int (0 : Int32)), .val (.ref o0), .val (.int (0 : Int32)), .unset, .unset, .unset, .unset, .unset] [(.int (p1 &&& (1 : Int32)))])) _
        refine XS.ifNo X2.here hx rfl (hb hby at_45) rfl ((if0 _ _).trans (feq hc4).1) ?_
        show Steps p.tables e below (T2.setTop (mkF m 48 #[.val (.int p0), .val (.int p1), .val (.int (0 : Int32)), .val (.ref o0), .val (.int (0 : Int32)), .unset, .unset, .unset, .unset, .unset] [])) _
        refine XS.iconst X2.here hx rfl (hb hby at_48) ?_
        show Steps p.tables e below (T2.setTop (mkF m 49 #[.val (.int p0), .val (.int p1), .val (.int (0 : Int32)), .val (.ref o0), .val (.int (0 : Int32)), .unset, .unset, .unset, .unset, .unset] [(.int (1 : Int32))])) _
        refine XS.goto X2.here hx rfl (pc0 := 49) (pc' := 53) rfl (hb hby at_49) (by decide) (by decide) ?_
        show Steps p.tables e below (T2.setTop (mkF m 53 #[.val (.int p0), .val (.int p1), .val (.int (0 : Int32)), .val (.ref o0), .val (.int (0 : Int32)), .unset, .unset, .unset, .unset, .unset] [(.int (1 : Int32))])) _
        refine XS.istore X2.here hx rfl (hb hby at_53) rfl (l' := #[.val (.int p0), .val (.int p1), .val (.int (0 : Int32)), .val (.ref o0), .val (.int (0 : Int32)), .val (.int (1 : Int32)), .unset, .unset, .unset, .unset]) rfl ?_
        show Steps p.tables e below (T2.setTop (mkF m 55 #[.val (.int p0), .val (.int p1), .val (.int (0 : Int32)), .val (.ref o0), .val (.int (0 : Int32)), .val (.int (1 : Int32)), .unset, .unset, .unset, .unset] [])) _
        refine XS.iloadN X2.here hx rfl (hb hby at_55) rfl ?_
        show Steps p.tables e below (T2.setTop (mkF m 56 #[.val (.int p0), .val (.int p1), .val (.int (0 : Int32)), .val (.ref o0), .val (.int (0 : Int32)), .val (.int (1 : Int32)), .unset, .unset, .unset, .unset] [(.int p1)])) _
        refine XS.iconst X2.here hx rfl (hb hby at_56) ?_
        show Steps p.tables e below (T2.setTop (mkF m 57 #[.val (.int p0), .val (.int p1), .val (.int (0 : Int32)), .val (.ref o0), .val (.int (0 : Int32)), .val (.int (1 : Int32)), .unset, .unset, .unset, .unset] [(.int (2 : Int32)), (.int p1)])) _
        refine XS.iand X2.here hx rfl (hb hby at_57) rfl ?_
        exact k
      by_cases hc16 : (p1 &&& (2 : Int32)) = (0 : Int32)
      · obtain ⟨_, _, ⟨T17, L17, k17, n17⟩, -, X17, ⟨Lc17, hQ17, l17, y17, z17⟩, st17⟩ := Jvm.LawKit.callS X2 hx (y := (⟨"com/example/unanimity/unanimity/engine/Outcome", "forced", "(ZZ)Lcom/example/unanimity/unanimity/engine/Outcome;"⟩ : MethodName)) hown (mvT hZ (hw _ (List.mem_of_getElem? (i := 7) rfl))) (mvT hZ (hw _ (List.mem_of_getElem? (i := 8) rfl))) (mvT hZ (hw _ (List.mem_of_getElem? (i := 5) rfl))) (mvT hZ (hw _ (List.mem_of_getElem? (i := 9) rfl))) (by decide) (backOf (W := 0) (rm2 l Z aw hw [] (1 : Int32) (0 : Int32) o0 o1 o2 o3 o4 o5 o6 o7 h0 n0 Z0 S_COMMITTED S_ABORTED S_IN_DOUBT S_UNKNOWN S_FORCED_COMMIT S_FORCED_ABORT S_FORCED_COMMIT_CONFLICT S_FORCED_ABORT_CONFLICT) hZ (hw _ (List.mem_of_getElem? (i := 9) rfl)) (hw _ (List.mem_of_getElem? (i := 5) rfl)) (by decide) (by decide)) (g := (mkF m 72 #[.val (.int p0), .val (.int p1), .val (.int (0 : Int32)), .val (.ref o0), .val (.int (0 : Int32)), .val (.int (1 : Int32)), .val (.int (0 : Int32)), .unset, .unset, .unset] [(.int (0 : Int32)), (.int (1 : Int32))])) rfl (by rw [hml]; rfl) (argsL := [(.int (1 : Int32)), (.int (0 : Int32))]) (rest := []) (lenOf pd_1 rfl) rfl (by show 2 * 0 + _ ≤ _; exact Nat.le_of_eq rfl) (hb hby at_72) (fun _ _ => ⟨rfl, e2, (by decide : 0 + 0 ≤ _), (by decide : 0 + 0 ≤ _)⟩)
        dsimp only [Pt.U, Pt.locs, Pt.cells, Pt.slots] at X17 l17 y17 z17 st17 hQ17
        subst l17 y17 z17
        obtain ⟨hv17, N17q, e17⟩ := hQ17
        rw [show own_forced (1 : Int32) (0 : Int32) o4 o5 o6 o7 = o4 from rfl] at hv17
        subst hv17
        have N17 := Fr.app N2 N17q
        obtain ⟨cq18, kq18, q18a, q18b, q18c⟩ := isOf hZ e17 E0
        obtain ⟨_, _, ⟨T18, L18, k18, n18⟩, -, X18, ⟨Lc18, hQ18, l18, y18, z18⟩, st18⟩ := X17.virtualBack hx (y := (⟨"com/example/unanimity/unanimity/engine/Outcome", "abortedHere", "()Z"⟩ : MethodName)) (z := (⟨"com/example/unanimity/unanimity/engine/Outcome", "abortedHere", "()Z"⟩ : MethodName)) hown (mvT hZ (hw _ (List.mem_of_getElem? (i := 12) rfl))) (mvT hZ (hw _ (List.mem_of_getElem? (i := 13) rfl))) (notFace_of_selects (args := #[]) (mvT hZ (hw _ (List.mem_of_getElem? (i := 15) rfl)))) (mvT hZ (hw _ (List.mem_of_getElem? (i := 15) rfl))) (mvT hZ (hw _ (List.mem_of_getElem? (i := 14) rfl))) (by decide) (backOf (W := 0) (rm3 l Z aw hw [] o0 o0 o1 o2 o3 o4 o5 o6 o7 h0 n0 Z0 S_COMMITTED S_ABORTED S_IN_DOUBT S_UNKNOWN S_FORCED_COMMIT S_FORCED_ABORT S_FORCED_COMMIT_CONFLICT S_FORCED_ABORT_CONFLICT) hZ (hw _ (List.mem_of_getElem? (i := 16) rfl)) (hw _ (List.mem_of_getElem? (i := 5) rfl)) (by decide) (by decide)) q18a q18c (g := (mkF m 78 #[.val (.int p0), .val (.int p1), .val (.int (0 : Int32)), .val (.ref o0), .val (.int (0 : Int32)), .val (.int (1 : Int32)), .val (.int (0 : Int32)), .val (.ref o4), .unset, .unset] [(.ref o0)])) rfl (by rw [hml]; rfl) (Steps.refl _) (argsL := []) (rest := []) (lenOf pd_2 rfl) rfl (by show 2 * 0 + _ ≤ _; exact Nat.le_of_eq rfl) (hb hby at_78) (fun _ _ => ⟨rfl, e17, (by decide : 0 + 0 ≤ _), (by decide : 0 + 0 ≤ _)⟩)
        dsimp only [Pt.U, Pt.locs, Pt.cells, Pt.slots] at X18 l18 y18 z18 st18 hQ18
        subst l18 y18 z18
        obtain ⟨hv18, N18q, e18⟩ := hQ18
        rw [own_three_no d0_1 d0_5 d0_7] at hv18
        subst hv18
        have N18 := Fr.app N17 N18q
        obtain ⟨cq19, kq19, q19a, q19b, q19c⟩ := isOf hZ e18 E0
        obtain ⟨_, _, ⟨T19, L19, k19, n19⟩, -, X19, ⟨Lc19, hQ19, l19, y19, z19⟩, st19⟩ := X18.virtualBack hx (y := (⟨"com/example/unanimity/unanimity/engine/Outcome", "committedHere", "()Z"⟩ : MethodName)) (z := (⟨"com/example/unanimity/unanimity/engine/Outcome", "committedHere", "()Z"⟩ : MethodName)) hown (mvT hZ (hw _ (List.mem_of_getElem? (i := 23) rfl))) (mvT hZ (hw _ (List.mem_of_getElem? (i := 24) rfl))) (notFace_of_selects (args := #[]) (mvT hZ (hw _ (List.mem_of_getElem? (i := 26) rfl)))) (mvT hZ (hw _ (List.mem_of_getElem? (i := 26) rfl))) (mvT hZ (hw _ (List.mem_of_getElem? (i := 25) rfl))) (by decide) (backOf (W := 0) (rm4 l Z aw hw [] o0 o0 o1 o2 o3 o4 o5 o6 o7 h0 n0 Z0 S_COMMITTED S_ABORTED S_IN_DOUBT S_UNKNOWN S_FORCED_COMMIT S_FORCED_ABORT S_FORCED_COMMIT_CONFLICT S_FORCED_ABORT_CONFLICT) hZ (hw _ (List.mem_of_getElem? (i := 27) rfl)) (hw _ (List.mem_of_getElem? (i := 5) rfl)) (by decide) (by decide)) q19a q19c (g := (mkF m 84 #[.val (.int p0), .val (.int p1), .val (.int (0 : Int32)), .val (.ref o0), .val (.int (0 : Int32)), .val (.int (1 : Int32)), .val (.int (0 : Int32)), .val (.ref o4), .val (.int (0 : Int32)), .unset] [(.ref o0)])) rfl (by rw [hml]; rfl) (Steps.refl _) (argsL := []) (rest := []) (lenOf pd_2 rfl) rfl (by show 2 * 0 + _ ≤ _; exact Nat.le_of_eq rfl) (hb hby at_84) (fun _ _ => ⟨rfl, e18, (by decide : 0 + 0 ≤ _), (by decide : 0 + 0 ≤ _)⟩)
        dsimp only [Pt.U, Pt.locs, Pt.cells, Pt.slots] at X19 l19 y19 z19 st19 hQ19
        subst l19 y19 z19
        obtain ⟨hv19, N19q, e19⟩ := hQ19
        rw [own_three_hit1] at hv19
        subst hv19
        have N19 := Fr.app N18 N19q
        obtain ⟨cq20, kq20, q20a, q20b, q20c⟩ := isOf hZ e19 E4
        obtain ⟨_, _, ⟨T20, L20, k20, n20⟩, -, X20, ⟨Lc20, hQ20, l20, y20, z20⟩, st20⟩ := X19.virtualBack hx (y := (⟨"com/example/unanimity/unanimity/engine/Outcome", "abortedHere", "()Z"⟩ : MethodName)) (z := (⟨"com/example/unanimity/unanimity/engine/Outcome", "abortedHere", "()Z"⟩ : MethodName)) hown (mvT hZ (hw _ (List.mem_of_getElem? (i := 12) rfl))) (mvT hZ (hw _ (List.mem_of_getElem? (i := 13) rfl))) (notFace_of_selects (args := #[]) (mvT hZ (hw _ (List.mem_of_getElem? (i := 15) rfl)))) (mvT hZ (hw _ (List.mem_of_getElem? (i := 15) rfl))) (mvT hZ (hw _ (List.mem_of_getElem? (i := 14) rfl))) (by decide) (backOf (W := 0) (rm3 l Z aw hw [] o4 o0 o1 o2 o3 o4 o5 o6 o7 h0 n0 Z0 S_COMMITTED S_ABORTED S_IN_DOUBT S_UNKNOWN S_FORCED_COMMIT S_FORCED_ABORT S_FORCED_COMMIT_CONFLICT S_FORCED_ABORT_CONFLICT) hZ (hw _ (List.mem_of_getElem? (i := 16) rfl)) (hw _ (List.mem_of_getElem? (i := 5) rfl)) (by decide) (by decide)) q20a q20c (g := (mkF m 98 #[.val (.int p0), .val (.int p1), .val (.int (0 : Int32)), .val (.ref o0), .val (.int (0 : Int32)), .val (.int (1 : Int32)), .val (.int (0 : Int32)), .val (.ref o4), .val (.int (0 : Int32)), .val (.int (1 : Int32))] [(.ref o4)])) rfl (by rw [hml]; rfl) (Steps.refl _) (argsL := []) (rest := []) (lenOf pd_2 rfl) rfl (by show 2 * 0 + _ ≤ _; exact Nat.le_of_eq rfl) (hb hby at_98) (fun _ _ => ⟨rfl, e19, (by decide : 0 + 0 ≤ _), (by decide : 0 + 0 ≤ _)⟩)
        dsimp only [Pt.U, Pt.locs, Pt.cells, Pt.slots] at X20 l20 y20 z20 st20 hQ20
        subst l20 y20 z20
        obtain ⟨hv20, N20q, e20⟩ := hQ20
        rw [own_three_no (Ne.symm d1_4) d4_5 d4_7] at hv20
        subst hv20
        have N20 := Fr.app N19 N20q
        obtain ⟨fs, hr, hrun, hended, hW, hsame⟩ := X20.leave (v := some (.int (1 : Int32))) (fun h => by rw [Bd.returns] at h; cases h)
        refine ⟨_, _, pre15 _ ?_, hrun, hended, _, _, rfl, ?_, ⟨_, rfl⟩, hW, hsame.mono (by decide) (by decide)⟩
        · show Steps p.tables e below (T2.setTop (mkF m 58 #[.val (.int p0), .val (.int p1), .val (.int (0 : Int32)), .val (.ref o0), .val (.int (0 : Int32)), .val (.int (1 : Int32)), .unset, .unset, .unset, .unset] [(.int (p1 &&& (2 : Int32)))])) _
          refine XS.ifYes X2.here hx rfl (pc0 := 58) (pc' := 65) rfl (hb hby at_58) rfl ((if0 _ _).trans (teq hc16).1) (by decide) (by decide) ?_
          show Steps p.tables e below (T2.setTop (mkF m 65 #[.val (.int p0), .val (.int p1), .val (.int (0 : Int32)), .val (.ref o0), .val (.int (0 : Int32)), .val (.int (1 : Int32)), .unset, .unset, .unset, .unset] [])) _
          refine XS.iconst X2.here hx rfl (hb hby at_65) ?_
          show Steps p.tables e below (T2.setTop (mkF m 66 #[.val (.int p0), .val (.int p1), .val (.int (0 : Int32)), .val (.ref o0), .val (.int (0 : Int32)), .val (.int (1 : Int32)), .unset, .unset, .unset, .unset] [(.int (0 : Int32))])) _
          refine XS.istore X2.here hx rfl (hb hby at_66) rfl (l' := #[.val (.int p0), .val (.int p1), .val (.int (0 : Int32)), .val (.ref o0), .val (.int (0 : Int32)), .val (.int (1 : Int32)), .val (.int (0 : Int32)), .unset, .unset, .unset]) rfl ?_
          show Steps p.tables e below (T2.setTop (mkF m 68 #[.val (.int p0), .val (.int p1), .val (.int (0 : Int32)), .val (.ref o0), .val (.int (0 : Int32)), .val (.int (1 : Int32)), .val (.int (0 : Int32)), .unset, .unset, .unset] [])) _
          refine XS.iload X2.here hx rfl (hb hby at_68) rfl ?_
          show Steps p.tables e below (T2.setTop (mkF m 70 #[.val (.int p0), .val (.int p1), .val (.int (0 : Int32)), .val (.ref o0), .val (.int (0 : Int32)), .val (.int (1 : Int32)), .val (.int (0 : Int32)), .unset, .unset, .unset] [(.int (1 : Int32))])) _
          refine XS.iload X2.here hx rfl (hb hby at_70) rfl ?_
          show Steps p.tables e below (T2.setTop (mkF m 72 #[.val (.int p0), .val (.int p1), .val (.int (0 : Int32)), .val (.ref o0), .val (.int (0 : Int32)), .val (.int (1 : Int32)), .val (.int (0 : Int32)), .unset, .unset, .unset] [(.int (0 : Int32)), (.int (1 : Int32))])) _
          refine st17 _ ?_
          show Steps p.tables e below (T17.setTop (mkF m 75 #[.val (.int p0), .val (.int p1), .val (.int (0 : Int32)), .val (.ref o0), .val (.int (0 : Int32)), .val (.int (1 : Int32)), .val (.int (0 : Int32)), .unset, .unset, .unset] [(.ref o4)])) _
          refine XS.astore X17.here hx rfl (hb hby at_75) rfl rfl (l' := #[.val (.int p0), .val (.int p1), .val (.int (0 : Int32)), .val (.ref o0), .val (.int (0 : Int32)), .val (.int (1 : Int32)), .val (.int (0 : Int32)), .val (.ref o4), .unset, .unset]) rfl ?_
          show Steps p.tables e below (T17.setTop (mkF m 77 #[.val (.int p0), .val (.int p1), .val (.int (0 : Int32)), .val (.ref o0), .val (.int (0 : Int32)), .val (.int (1 : Int32)), .val (.int (0 : Int32)), .val (.ref o4), .unset, .unset] [])) _
          refine XS.aloadN X17.here hx rfl (hb hby at_77) rfl rfl ?_
          show Steps p.tables e below (T17.setTop (mkF m 78 #[.val (.int p0), .val (.int p1), .val (.int (0 : Int32)), .val (.ref o0), .val (.int (0 : Int32)), .val (.int (1 : Int32)), .val (.int (0 : Int32)), .val (.ref o4), .unset, .unset] [(.ref o0)])) _
          refine st18.trans ?_
          show Steps p.tables e below (T18.setTop (mkF m 81 #[.val (.int p0), .val (.int p1), .val (.int (0 : Int32)), .val (.ref o0), .val (.int (0 : Int32)), .val (.int (1 : Int32)), .val (.int (0 : Int32)), .val (.ref o4), .unset, .unset] [(.int (0 : Int32))])) _
          refine XS.istore X18.here hx rfl (hb hby at_81) rfl (l' := #[.val (.int p0), .val (.int p1), .val (.int (0 : Int32)), .val (.ref o0), .val (.int (0 : Int32)), .val (.int (1 : Int32)), .val (.int (0 : Int32)), .val (.ref o4), .val (.int (0 : Int32)), .unset]) rfl ?_
          show Steps p.tables e below (T18.setTop (mkF m 83 #[.val (.int p0), .val (.int p1), .val (.int (0 : Int32)), .val (.ref o0), .val (.int (0 : Int32)), .val (.int (1 : Int32)), .val (.int (0 : Int32)), .val (.ref o4), .val (.int (0 : Int32)), .unset] [])) _
          refine XS.aloadN X18.here hx rfl (hb hby at_83) rfl rfl ?_
          show Steps p.tables e below (T18.setTop (mkF m 84 #[.val (.int p0), .val (.int p1), .val (.int (0 : Int32)), .val (.ref o0), .val (.int (0 : Int32)), .val (.int (1 : Int32)), .val (.int (0 : Int32)), .val (.ref o4), .val (.int (0 : Int32)), .unset] [(.ref o0)])) _
          refine st19.trans ?_
          show Steps p.tables e below (T19.setTop (mkF m 87 #[.val (.int p0), .val (.int p1), .val (.int (0 : Int32)), .val (.ref o0), .val (.int (0 : Int32)), .val (.int (1 : Int32)), .val (.int (0 : Int32)), .val (.ref o4), .val (.int (0 : Int32)), .unset] [(.int (1 : Int32))])) _
          refine XS.istore X19.here hx rfl (hb hby at_87) rfl (l' := #[.val (.int p0), .val (.int p1), .val (.int (0 : Int32)), .val (.ref o0), .val (.int (0 : Int32)), .val (.int (1 : Int32)), .val (.int (0 : Int32)), .val (.ref o4), .val (.int (0 : Int32)), .val (.int (1 : Int32))]) rfl ?_
          show Steps p.tables e below (T19.setTop (mkF m 89 #[.val (.int p0), .val (.int p1), .val (.int (0 : Int32)), .val (.ref o0), .val (.int (0 : Int32)), .val (.int (1 : Int32)), .val (.int (0 : Int32)), .val (.ref o4), .val (.int (0 : Int32)), .val (.int (1 : Int32))] [])) _
          refine XS.iload X19.here hx rfl (hb hby at_89) rfl ?_
          show Steps p.tables e below (T19.setTop (mkF m 91 #[.val (.int p0), .val (.int p1), .val (.int (0 : Int32)), .val (.ref o0), .val (.int (0 : Int32)), .val (.int (1 : Int32)), .val (.int (0 : Int32)), .val (.ref o4), .val (.int (0 : Int32)), .val (.int (1 : Int32))] [(.int (0 : Int32))])) _
          refine XS.iload X19.here hx rfl (hb hby at_91) rfl ?_
          show Steps p.tables e below (T19.setTop (mkF m 93 #[.val (.int p0), .val (.int p1), .val (.int (0 : Int32)), .val (.ref o0), .val (.int (0 : Int32)), .val (.int (1 : Int32)), .val (.int (0 : Int32)), .val (.ref o4), .val (.int (0 : Int32)), .val (.int (1 : Int32))] [(.int (0 : Int32)), (.int (0 : Int32))])) _
          refine XS.icmpNo X19.here hx rfl (hb hby at_93) rfl (teq (by decide : (0 : Int32) = (0 : Int32))).2 ?_
          show Steps p.tables e below (T19.setTop (mkF m 96 #[.val (.int p0), .val (.int p1), .val (.int (0 : Int32)), .val (.ref o0), .val (.int (0 : Int32)), .val (.int (1 : Int32)), .val (.int (0 : Int32)), .val (.ref o4), .val (.int (0 : Int32)), .val (.int (1 : Int32))] [])) _
          refine XS.aload X19.here hx rfl (hb hby at_96) rfl rfl ?_
          show Steps p.tables e below (T19.setTop (mkF m 98 #[.val (.int p0), .val (.int p1), .val (.int (0 : Int32)), .val (.ref o0), .val (.int (0 : Int32)), .val (.int (1 : Int32)), .val (.int (0 : Int32)), .val (.ref o4), .val (.int (0 : Int32)), .val (.int (1 : Int32))] [(.ref o4)])) _
          refine st20.trans ?_
          show Steps p.tables e below (T20.setTop (mkF m 101 #[.val (.int p0), .val (.int p1), .val (.int (0 : Int32)), .val (.ref o0), .val (.int (0 : Int32)), .val (.int (1 : Int32)), .val (.int (0 : Int32)), .val (.ref o4), .val (.int (0 : Int32)), .val (.int (1 : Int32))] [(.int (0 : Int32))])) _
          refine XS.iload X20.here hx rfl (hb hby at_101) rfl ?_
          show Steps p.tables e below (T20.setTop (mkF m 103 #[.val (.int p0), .val (.int p1), .val (.int (0 : Int32)), .val (.ref o0), .val (.int (0 : Int32)), .val (.int (1 : Int32)), .val (.int (0 : Int32)), .val (.ref o4), .val (.int (0 : Int32)), .val (.int (1 : Int32))] [(.int (1 : Int32)), (.int (0 : Int32))])) _
          refine XS.ifYes X20.here hx rfl (pc0 := 103) (pc' := 110) rfl (hb hby at_103) rfl ((if0 _ _).trans (feq (by decide : ¬ ((1 : Int32) = (0 : Int32)))).2) (by decide) (by decide) ?_
          show Steps p.tables e below (T20.setTop (mkF m 110 #[.val (.int p0), .val (.int p1), .val (.int (0 : Int32)), .val (.ref o0), .val (.int (0 : Int32)), .val (.int (1 : Int32)), .val (.int (0 : Int32)), .val (.ref o4), .val (.int (0 : Int32)), .val (.int (1 : Int32))] [(.int (0 : Int32))])) _
          refine XS.iconst X20.here hx rfl (hb hby at_110) ?_
          show Steps p.tables e below (T20.setTop (mkF m 111 #[.val (.int p0), .val (.int p1), .val (.int (0 : Int32)), .val (.ref o0), .val (.int (0 : Int32)), .val (.int (1 : Int32)), .val (.int (0 : Int32)), .val (.ref o4), .val (.int (0 : Int32)), .val (.int (1 : Int32))] [(.int (0 : Int32)), (.int (0 : Int32))])) _
          refine XS.icmpNo X20.here hx rfl (hb hby at_111) rfl (teq (by decide : (0 : Int32) = (0 : Int32))).2 ?_
          show Steps p.tables e below (T20.setTop (mkF m 114 #[.val (.int p0), .val (.int p1), .val (.int (0 : Int32)), .val (.ref o0), .val (.int (0 : Int32)), .val (.int (1 : Int32)), .val (.int (0 : Int32)), .val (.ref o4), .val (.int (0 : Int32)), .val (.int (1 : Int32))] [])) _
          refine XS.iload X20.here hx rfl (hb hby at_114) rfl ?_
          show Steps p.tables e below (T20.setTop (mkF m 116 #[.val (.int p0), .val (.int p1), .val (.int (0 : Int32)), .val (.ref o0), .val (.int (0 : Int32)), .val (.int (1 : Int32)), .val (.int (0 : Int32)), .val (.ref o4), .val (.int (0 : Int32)), .val (.int (1 : Int32))] [(.int (0 : Int32))])) _
          refine XS.ifYes X20.here hx rfl (pc0 := 116) (pc' := 124) rfl (hb hby at_116) rfl ((if0 _ _).trans (teq (by decide : (0 : Int32) = (0 : Int32))).1) (by decide) (by decide) ?_
          show Steps p.tables e below (T20.setTop (mkF m 124 #[.val (.int p0), .val (.int p1), .val (.int (0 : Int32)), .val (.ref o0), .val (.int (0 : Int32)), .val (.int (1 : Int32)), .val (.int (0 : Int32)), .val (.ref o4), .val (.int (0 : Int32)), .val (.int (1 : Int32))] [])) _
          refine XS.iconst X20.here hx rfl (hb hby at_124) ?_
          show Steps p.tables e below (T20.setTop (mkF m 125 #[.val (.int p0), .val (.int p1), .val (.int (0 : Int32)), .val (.ref o0), .val (.int (0 : Int32)), .val (.int (1 : Int32)), .val (.int (0 : Int32)), .val (.ref o4), .val (.int (0 : Int32)), .val (.int (1 : Int32))] [(.int (1 : Int32))])) _
          refine XS.goto X20.here hx rfl (pc0 := 125) (pc' := 129) rfl (hb hby at_125) (by decide) (by decide) ?_
          show Steps p.tables e below (T20.setTop (mkF m 129 #[.val (.int p0), .val (.int p1), .val (.int (0 : Int32)), .val (.ref o0), .val (.int (0 : Int32)), .val (.int (1 : Int32)), .val (.int (0 : Int32)), .val (.ref o4), .val (.int (0 : Int32)), .val (.int (1 : Int32))] [(.int (1 : Int32))])) _
          exact retN X20 hx (t := .boolean) Bd.returns (by simp) (hb hby at_129) hr
        · show Q0 Z p0 p1 o0 o1 o2 o3 o4 o5 o6 o7 h0 n0 _ T20.heap _
          rw [e20]
          exact ⟨rfl, N20⟩
      · obtain ⟨_, _, ⟨T21, L21, k21, n21⟩, -, X21, ⟨Lc21, hQ21, l21, y21, z21⟩, st21⟩ := Jvm.LawKit.callS X2 hx (y := (⟨"com/example/unanimity/unanimity/engine/Outcome", "forced", "(ZZ)Lcom/example/unanimity/unanimity/engine/Outcome;"⟩ : MethodName)) hown (mvT hZ (hw _ (List.mem_of_getElem? (i := 7) rfl))) (mvT hZ (hw _ (List.mem_of_getElem? (i := 8) rfl))) (mvT hZ (hw _ (List.mem_of_getElem? (i := 5) rfl))) (mvT hZ (hw _ (List.mem_of_getElem? (i := 9) rfl))) (by decide) (backOf (W := 0) (rm2 l Z aw hw [] (1 : Int32) (1 : Int32) o0 o1 o2 o3 o4 o5 o6 o7 h0 n0 Z0 S_COMMITTED S_ABORTED S_IN_DOUBT S_UNKNOWN S_FORCED_COMMIT S_FORCED_ABORT S_FORCED_COMMIT_CONFLICT S_FORCED_ABORT_CONFLICT) hZ (hw _ (List.mem_of_getElem? (i := 9) rfl)) (hw _ (List.mem_of_getElem? (i := 5) rfl)) (by decide) (by decide)) (g := (mkF m 72 #[.val (.int p0), .val (.int p1), .val (.int (0 : Int32)), .val (.ref o0), .val (.int (0 : Int32)), .val (.int (1 : Int32)), .val (.int (1 : Int32)), .unset, .unset, .unset] [(.int (1 : Int32)), (.int (1 : Int32))])) rfl (by rw [hml]; rfl) (argsL := [(.int (1 : Int32)), (.int (1 : Int32))]) (rest := []) (lenOf pd_1 rfl) rfl (by show 2 * 0 + _ ≤ _; exact Nat.le_of_eq rfl) (hb hby at_72) (fun _ _ => ⟨rfl, e2, (by decide : 0 + 0 ≤ _), (by decide : 0 + 0 ≤ _)⟩)
        dsimp only [Pt.U, Pt.locs, Pt.cells, Pt.slots] at X21 l21 y21 z21 st21 hQ21
        subst l21 y21 z21
        obtain ⟨hv21, N21q, e21⟩ := hQ21
        rw [show own_forced (1 : Int32) (1 : Int32) o4 o5 o6 o7 = o6 from rfl] at hv21
        subst hv21
        have N21 := Fr.app N2 N21q
        obtain ⟨cq22, kq22, q22a, q22b, q22c⟩ := isOf hZ e21 E0
        obtain ⟨_, _, ⟨T22, L22, k22, n22⟩, -, X22, ⟨Lc22, hQ22, l22, y22, z22⟩, st22⟩ := X21.virtualBack hx (y := (⟨"com/example/unanimity/unanimity/engine/Outcome", "abortedHere", "()Z"⟩ : MethodName)) (z := (⟨"com/example/unanimity/unanimity/engine/Outcome", "abortedHere", "()Z"⟩ : MethodName)) hown (mvT hZ (hw _ (List.mem_of_getElem? (i := 12) rfl))) (mvT hZ (hw _ (List.mem_of_getElem? (i := 13) rfl))) (notFace_of_selects (args := #[]) (mvT hZ (hw _ (List.mem_of_getElem? (i := 15) rfl)))) (mvT hZ (hw _ (List.mem_of_getElem? (i := 15) rfl))) (mvT hZ (hw _ (List.mem_of_getElem? (i := 14) rfl))) (by decide) (backOf (W := 0) (rm3 l Z aw hw [] o0 o0 o1 o2 o3 o4 o5 o6 o7 h0 n0 Z0 S_COMMITTED S_ABORTED S_IN_DOUBT S_UNKNOWN S_FORCED_COMMIT S_FORCED_ABORT S_FORCED_COMMIT_CONFLICT S_FORCED_ABORT_CONFLICT) hZ (hw _ (List.mem_of_getElem? (i := 16) rfl)) (hw _ (List.mem_of_getElem? (i := 5) rfl)) (by decide) (by decide)) q22a q22c (g := (mkF m 78 #[.val (.int p0), .val (.int p1), .val (.int (0 : Int32)), .val (.ref o0), .val (.int (0 : Int32)), .val (.int (1 : Int32)), .val (.int (1 : Int32)), .val (.ref o6), .unset, .unset] [(.ref o0)])) rfl (by rw [hml]; rfl) (Steps.refl _) (argsL := []) (rest := []) (lenOf pd_2 rfl) rfl (by show 2 * 0 + _ ≤ _; exact Nat.le_of_eq rfl) (hb hby at_78) (fun _ _ => ⟨rfl, e21, (by decide : 0 + 0 ≤ _), (by decide : 0 + 0 ≤ _)⟩)
        dsimp only [Pt.U, Pt.locs, Pt.cells, Pt.slots] at X22 l22 y22 z22 st22 hQ22
        subst l22 y22 z22
        obtain ⟨hv22, N22q, e22⟩ := hQ22
        rw [own_three_no d0_1 d0_5 d0_7] at hv22
        subst hv22
        have N22 := Fr.app N21 N22q
        obtain ⟨cq23, kq23, q23a, q23b, q23c⟩ := isOf hZ e22 E0
        obtain ⟨_, _, ⟨T23, L23, k23, n23⟩, -, X23, ⟨Lc23, hQ23, l23, y23, z23⟩, st23⟩ := X22.virtualBack hx (y := (⟨"com/example/unanimity/unanimity/engine/Outcome", "committedHere", "()Z"⟩ : MethodName)) (z := (⟨"com/example/unanimity/unanimity/engine/Outcome", "committedHere", "()Z"⟩ : MethodName)) hown (mvT hZ (hw _ (List.mem_of_getElem? (i := 23) rfl))) (mvT hZ (hw _ (List.mem_of_getElem? (i := 24) rfl))) (notFace_of_selects (args := #[]) (mvT hZ (hw _ (List.mem_of_getElem? (i := 26) rfl)))) (mvT hZ (hw _ (List.mem_of_getElem? (i := 26) rfl))) (mvT hZ (hw _ (List.mem_of_getElem? (i := 25) rfl))) (by decide) (backOf (W := 0) (rm4 l Z aw hw [] o0 o0 o1 o2 o3 o4 o5 o6 o7 h0 n0 Z0 S_COMMITTED S_ABORTED S_IN_DOUBT S_UNKNOWN S_FORCED_COMMIT S_FORCED_ABORT S_FORCED_COMMIT_CONFLICT S_FORCED_ABORT_CONFLICT) hZ (hw _ (List.mem_of_getElem? (i := 27) rfl)) (hw _ (List.mem_of_getElem? (i := 5) rfl)) (by decide) (by decide)) q23a q23c (g := (mkF m 84 #[.val (.int p0), .val (.int p1), .val (.int (0 : Int32)), .val (.ref o0), .val (.int (0 : Int32)), .val (.int (1 : Int32)), .val (.int (1 : Int32)), .val (.ref o6), .val (.int (0 : Int32)), .unset] [(.ref o0)])) rfl (by rw [hml]; rfl) (Steps.refl _) (argsL := []) (rest := []) (lenOf pd_2 rfl) rfl (by show 2 * 0 + _ ≤ _; exact Nat.le_of_eq rfl) (hb hby at_84) (fun _ _ => ⟨rfl, e22, (by decide : 0 + 0 ≤ _), (by decide : 0 + 0 ≤ _)⟩)
        dsimp only [Pt.U, Pt.locs, Pt.cells, Pt.slots] at X23 l23 y23 z23 st23 hQ23
        subst l23 y23 z23
        obtain ⟨hv23, N23q, e23⟩ := hQ23
        rw [own_three_hit1] at hv23
        subst hv23
        have N23 := Fr.app N22 N23q
        obtain ⟨cq24, kq24, q24a, q24b, q24c⟩ := isOf hZ e23 E6
        obtain ⟨_, _, ⟨T24, L24, k24, n24⟩, -, X24, ⟨Lc24, hQ24, l24, y24, z24⟩, st24⟩ := X23.virtualBack hx (y := (⟨"com/example/unanimity/unanimity/engine/Outcome", "abortedHere", "()Z"⟩ : MethodName)) (z := (⟨"com/example/unanimity/unanimity/engine/Outcome", "abortedHere", "()Z"⟩ : MethodName)) hown (mvT hZ (hw _ (List.mem_of_getElem? (i := 12) rfl))) (mvT hZ (hw _ (List.mem_of_getElem? (i := 13) rfl))) (notFace_of_selects (args := #[]) (mvT hZ (hw _ (List.mem_of_getElem? (i := 15) rfl)))) (mvT hZ (hw _ (List.mem_of_getElem? (i := 15) rfl))) (mvT hZ (hw _ (List.mem_of_getElem? (i := 14) rfl))) (by decide) (backOf (W := 0) (rm3 l Z aw hw [] o6 o0 o1 o2 o3 o4 o5 o6 o7 h0 n0 Z0 S_COMMITTED S_ABORTED S_IN_DOUBT S_UNKNOWN S_FORCED_COMMIT S_FORCED_ABORT S_FORCED_COMMIT_CONFLICT S_FORCED_ABORT_CONFLICT) hZ (hw _ (List.mem_of_getElem? (i := 16) rfl)) (hw _ (List.mem_of_getElem? (i := 5) rfl)) (by decide) (by decide)) q24a q24c (g := (mkF m 98 #[.val (.int p0), .val (.int p1), .val (.int (0 : Int32)), .val (.ref o0), .val (.int (0 : Int32)), .val (.int (1 : Int32)), .val (.int (1 : Int32)), .val (.ref o6), .val (.int (0 : Int32)), .val (.int (1 : Int32))] [(.ref o6)])) rfl (by rw [hml]; rfl) (Steps.refl _) (argsL := []) (rest := []) (lenOf pd_2 rfl) rfl (by show 2 * 0 + _ ≤ _; exact Nat.le_of_eq rfl) (hb hby at_98) (fun _ _ => ⟨rfl, e23, (by decide : 0 + 0 ≤ _), (by decide : 0 + 0 ≤ _)⟩)
        dsimp only [Pt.U, Pt.locs, Pt.cells, Pt.slots] at X24 l24 y24 z24 st24 hQ24
        subst l24 y24 z24
        obtain ⟨hv24, N24q, e24⟩ := hQ24
        rw [own_three_no (Ne.symm d1_6) (Ne.symm d5_6) d6_7] at hv24
        subst hv24
        have N24 := Fr.app N23 N24q
        obtain ⟨fs, hr, hrun, hended, hW, hsame⟩ := X24.leave (v := some (.int (1 : Int32))) (fun h => by rw [Bd.returns] at h; cases h)
        refine ⟨_, _, pre15 _ ?_, hrun, hended, _, _, rfl, ?_, ⟨_, rfl⟩, hW, hsame.mono (by decide) (by decide)⟩
        · show Steps p.tables e below (T2.setTop (mkF m 58 #[.val (.int p0), .val (.int p1), .val (.int (0 : Int32)), .val (.ref o0), .val (.int (0 : Int32)), .val (.int (1 : Int32)), .unset, .unset, .unset, .unset] [(.int (p1 &&& (2 : Int32)))])) _
          refine XS.ifNo X2.here hx rfl (hb hby at_58) rfl ((if0 _ _).trans (feq hc16).1) ?_
          show Steps p.tables e below (T2.setTop (mkF m 61 #[.val (.int p0), .val (.int p1), .val (.int (0 : Int32)), .val (.ref o0), .val (.int (0 : Int32)), .val (.int (1 : Int32)), .unset, .unset, .unset, .unset] [])) _
          refine XS.iconst X2.here hx rfl (hb hby at_61) ?_
          show Steps p.tables e below (T2.setTop (mkF m 62 #[.val (.int p0), .val (.int p1), .val (.int (0 : Int32)), .val (.ref o0), .val (.int (0 : Int32)), .val (.int (1 : Int32)), .unset, .unset, .unset, .unset] [(.int (1 : Int32))])) _
          refine XS.goto X2.here hx rfl (pc0 := 62) (pc' := 66) rfl (hb hby at_62) (by decide) (by decide) ?_
          show Steps p.tables e below (T2.setTop (mkF m 66 #[.val (.int p0), .val (.int p1), .val (.int (0 : Int32)), .val (.ref o0), .val (.int (0 : Int32)), .val (.int (1 : Int32)), .unset, .unset, .unset, .unset] [(.int (1 : Int32))])) _
          refine XS.istore X2.here hx rfl (hb hby at_66) rfl (l' := #[.val (.int p0), .val (.int p1), .val (.int (0 : Int32)), .val (.ref o0), .val (.int (0 : Int32)), .val (.int (1 : Int32)), .val (.int (1 : Int32)), .unset, .unset, .unset]) rfl ?_
          show Steps p.tables e below (T2.setTop (mkF m 68 #[.val (.int p0), .val (.int p1), .val (.int (0 : Int32)), .val (.ref o0), .val (.int (0 : Int32)), .val (.int (1 : Int32)), .val (.int (1 : Int32)), .unset, .unset, .unset] [])) _
          refine XS.iload X2.here hx rfl (hb hby at_68) rfl ?_
          show Steps p.tables e below (T2.setTop (mkF m 70 #[.val (.int p0), .val (.int p1), .val (.int (0 : Int32)), .val (.ref o0), .val (.int (0 : Int32)), .val (.int (1 : Int32)), .val (.int (1 : Int32)), .unset, .unset, .unset] [(.int (1 : Int32))])) _
          refine XS.iload X2.here hx rfl (hb hby at_70) rfl ?_
          show Steps p.tables e below (T2.setTop (mkF m 72 #[.val (.int p0), .val (.int p1), .val (.int (0 : Int32)), .val (.ref o0), .val (.int (0 : Int32)), .val (.int (1 : Int32)), .val (.int (1 : Int32)), .unset, .unset, .unset] [(.int (1 : Int32)), (.int (1 : Int32))])) _
          refine st21 _ ?_
          show Steps p.tables e below (T21.setTop (mkF m 75 #[.val (.int p0), .val (.int p1), .val (.int (0 : Int32)), .val (.ref o0), .val (.int (0 : Int32)), .val (.int (1 : Int32)), .val (.int (1 : Int32)), .unset, .unset, .unset] [(.ref o6)])) _
          refine XS.astore X21.here hx rfl (hb hby at_75) rfl rfl (l' := #[.val (.int p0), .val (.int p1), .val (.int (0 : Int32)), .val (.ref o0), .val (.int (0 : Int32)), .val (.int (1 : Int32)), .val (.int (1 : Int32)), .val (.ref o6), .unset, .unset]) rfl ?_
          show Steps p.tables e below (T21.setTop (mkF m 77 #[.val (.int p0), .val (.int p1), .val (.int (0 : Int32)), .val (.ref o0), .val (.int (0 : Int32)), .val (.int (1 : Int32)), .val (.int (1 : Int32)), .val (.ref o6), .unset, .unset] [])) _
          refine XS.aloadN X21.here hx rfl (hb hby at_77) rfl rfl ?_
          show Steps p.tables e below (T21.setTop (mkF m 78 #[.val (.int p0), .val (.int p1), .val (.int (0 : Int32)), .val (.ref o0), .val (.int (0 : Int32)), .val (.int (1 : Int32)), .val (.int (1 : Int32)), .val (.ref o6), .unset, .unset] [(.ref o0)])) _
          refine st22.trans ?_
          show Steps p.tables e below (T22.setTop (mkF m 81 #[.val (.int p0), .val (.int p1), .val (.int (0 : Int32)), .val (.ref o0), .val (.int (0 : Int32)), .val (.int (1 : Int32)), .val (.int (1 : Int32)), .val (.ref o6), .unset, .unset] [(.int (0 : Int32))])) _
          refine XS.istore X22.here hx rfl (hb hby at_81) rfl (l' := #[.val (.int p0), .val (.int p1), .val (.int (0 : Int32)), .val (.ref o0), .val (.int (0 : Int32)), .val (.int (1 : Int32)), .val (.int (1 : Int32)), .val (.ref o6), .val (.int (0 : Int32)), .unset]) rfl ?_
          show Steps p.tables e below (T22.setTop (mkF m 83 #[.val (.int p0), .val (.int p1), .val (.int (0 : Int32)), .val (.ref o0), .val (.int (0 : Int32)), .val (.int (1 : Int32)), .val (.int (1 : Int32)), .val (.ref o6), .val (.int (0 : Int32)), .unset] [])) _
          refine XS.aloadN X22.here hx rfl (hb hby at_83) rfl rfl ?_
          show Steps p.tables e below (T22.setTop (mkF m 84 #[.val (.int p0), .val (.int p1), .val (.int (0 : Int32)), .val (.ref o0), .val (.int (0 : Int32)), .val (.int (1 : Int32)), .val (.int (1 : Int32)), .val (.ref o6), .val (.int (0 : Int32)), .unset] [(.ref o0)])) _
          refine st23.trans ?_
          show Steps p.tables e below (T23.setTop (mkF m 87 #[.val (.int p0), .val (.int p1), .val (.int (0 : Int32)), .val (.ref o0), .val (.int (0 : Int32)), .val (.int (1 : Int32)), .val (.int (1 : Int32)), .val (.ref o6), .val (.int (0 : Int32)), .unset] [(.int (1 : Int32))])) _
          refine XS.istore X23.here hx rfl (hb hby at_87) rfl (l' := #[.val (.int p0), .val (.int p1), .val (.int (0 : Int32)), .val (.ref o0), .val (.int (0 : Int32)), .val (.int (1 : Int32)), .val (.int (1 : Int32)), .val (.ref o6), .val (.int (0 : Int32)), .val (.int (1 : Int32))]) rfl ?_
          show Steps p.tables e below (T23.setTop (mkF m 89 #[.val (.int p0), .val (.int p1), .val (.int (0 : Int32)), .val (.ref o0), .val (.int (0 : Int32)), .val (.int (1 : Int32)), .val (.int (1 : Int32)), .val (.ref o6), .val (.int (0 : Int32)), .val (.int (1 : Int32))] [])) _
          refine XS.iload X23.here hx rfl (hb hby at_89) rfl ?_
          show Steps p.tables e below (T23.setTop (mkF m 91 #[.val (.int p0), .val (.int p1), .val (.int (0 : Int32)), .val (.ref o0), .val (.int (0 : Int32)), .val (.int (1 : Int32)), .val (.int (1 : Int32)), .val (.ref o6), .val (.int (0 : Int32)), .val (.int (1 : Int32))] [(.int (0 : Int32))])) _
          refine XS.iload X23.here hx rfl (hb hby at_91) rfl ?_
          show Steps p.tables e below (T23.setTop (mkF m 93 #[.val (.int p0), .val (.int p1), .val (.int (0 : Int32)), .val (.ref o0), .val (.int (0 : Int32)), .val (.int (1 : Int32)), .val (.int (1 : Int32)), .val (.ref o6), .val (.int (0 : Int32)), .val (.int (1 : Int32))] [(.int (0 : Int32)), (.int (0 : Int32))])) _
          refine XS.icmpNo X23.here hx rfl (hb hby at_93) rfl (teq (by decide : (0 : Int32) = (0 : Int32))).2 ?_
          show Steps p.tables e below (T23.setTop (mkF m 96 #[.val (.int p0), .val (.int p1), .val (.int (0 : Int32)), .val (.ref o0), .val (.int (0 : Int32)), .val (.int (1 : Int32)), .val (.int (1 : Int32)), .val (.ref o6), .val (.int (0 : Int32)), .val (.int (1 : Int32))] [])) _
          refine XS.aload X23.here hx rfl (hb hby at_96) rfl rfl ?_
          show Steps p.tables e below (T23.setTop (mkF m 98 #[.val (.int p0), .val (.int p1), .val (.int (0 : Int32)), .val (.ref o0), .val (.int (0 : Int32)), .val (.int (1 : Int32)), .val (.int (1 : Int32)), .val (.ref o6), .val (.int (0 : Int32)), .val (.int (1 : Int32))] [(.ref o6)])) _
          refine st24.trans ?_
          show Steps p.tables e below (T24.setTop (mkF m 101 #[.val (.int p0), .val (.int p1), .val (.int (0 : Int32)), .val (.ref o0), .val (.int (0 : Int32)), .val (.int (1 : Int32)), .val (.int (1 : Int32)), .val (.ref o6), .val (.int (0 : Int32)), .val (.int (1 : Int32))] [(.int (0 : Int32))])) _
          refine XS.iload X24.here hx rfl (hb hby at_101) rfl ?_
          show Steps p.tables e below (T24.setTop (mkF m 103 #[.val (.int p0), .val (.int p1), .val (.int (0 : Int32)), .val (.ref o0), .val (.int (0 : Int32)), .val (.int (1 : Int32)), .val (.int (1 : Int32)), .val (.ref o6), .val (.int (0 : Int32)), .val (.int (1 : Int32))] [(.int (1 : Int32)), (.int (0 : Int32))])) _
          refine XS.ifYes X24.here hx rfl (pc0 := 103) (pc' := 110) rfl (hb hby at_103) rfl ((if0 _ _).trans (feq (by decide : ¬ ((1 : Int32) = (0 : Int32)))).2) (by decide) (by decide) ?_
          show Steps p.tables e below (T24.setTop (mkF m 110 #[.val (.int p0), .val (.int p1), .val (.int (0 : Int32)), .val (.ref o0), .val (.int (0 : Int32)), .val (.int (1 : Int32)), .val (.int (1 : Int32)), .val (.ref o6), .val (.int (0 : Int32)), .val (.int (1 : Int32))] [(.int (0 : Int32))])) _
          refine XS.iconst X24.here hx rfl (hb hby at_110) ?_
          show Steps p.tables e below (T24.setTop (mkF m 111 #[.val (.int p0), .val (.int p1), .val (.int (0 : Int32)), .val (.ref o0), .val (.int (0 : Int32)), .val (.int (1 : Int32)), .val (.int (1 : Int32)), .val (.ref o6), .val (.int (0 : Int32)), .val (.int (1 : Int32))] [(.int (0 : Int32)), (.int (0 : Int32))])) _
          refine XS.icmpNo X24.here hx rfl (hb hby at_111) rfl (teq (by decide : (0 : Int32) = (0 : Int32))).2 ?_
          show Steps p.tables e below (T24.setTop (mkF m 114 #[.val (.int p0), .val (.int p1), .val (.int (0 : Int32)), .val (.ref o0), .val (.int (0 : Int32)), .val (.int (1 : Int32)), .val (.int (1 : Int32)), .val (.ref o6), .val (.int (0 : Int32)), .val (.int (1 : Int32))] [])) _
          refine XS.iload X24.here hx rfl (hb hby at_114) rfl ?_
          show Steps p.tables e below (T24.setTop (mkF m 116 #[.val (.int p0), .val (.int p1), .val (.int (0 : Int32)), .val (.ref o0), .val (.int (0 : Int32)), .val (.int (1 : Int32)), .val (.int (1 : Int32)), .val (.ref o6), .val (.int (0 : Int32)), .val (.int (1 : Int32))] [(.int (0 : Int32))])) _
          refine XS.ifYes X24.here hx rfl (pc0 := 116) (pc' := 124) rfl (hb hby at_116) rfl ((if0 _ _).trans (teq (by decide : (0 : Int32) = (0 : Int32))).1) (by decide) (by decide) ?_
          show Steps p.tables e below (T24.setTop (mkF m 124 #[.val (.int p0), .val (.int p1), .val (.int (0 : Int32)), .val (.ref o0), .val (.int (0 : Int32)), .val (.int (1 : Int32)), .val (.int (1 : Int32)), .val (.ref o6), .val (.int (0 : Int32)), .val (.int (1 : Int32))] [])) _
          refine XS.iconst X24.here hx rfl (hb hby at_124) ?_
          show Steps p.tables e below (T24.setTop (mkF m 125 #[.val (.int p0), .val (.int p1), .val (.int (0 : Int32)), .val (.ref o0), .val (.int (0 : Int32)), .val (.int (1 : Int32)), .val (.int (1 : Int32)), .val (.ref o6), .val (.int (0 : Int32)), .val (.int (1 : Int32))] [(.int (1 : Int32))])) _
          refine XS.goto X24.here hx rfl (pc0 := 125) (pc' := 129) rfl (hb hby at_125) (by decide) (by decide) ?_
          show Steps p.tables e below (T24.setTop (mkF m 129 #[.val (.int p0), .val (.int p1), .val (.int (0 : Int32)), .val (.ref o0), .val (.int (0 : Int32)), .val (.int (1 : Int32)), .val (.int (1 : Int32)), .val (.ref o6), .val (.int (0 : Int32)), .val (.int (1 : Int32))] [(.int (1 : Int32))])) _
          exact retN X24 hx (t := .boolean) Bd.returns (by simp) (hb hby at_129) hr
        · show Q0 Z p0 p1 o0 o1 o2 o3 o4 o5 o6 o7 h0 n0 _ T24.heap _
          rw [e24]
          exact ⟨rfl, N24⟩
  · obtain ⟨_, _, ⟨T25, L25, k25, n25⟩, -, X25, ⟨Lc25, hQ25, l25, y25, z25⟩, st25⟩ := Jvm.LawKit.callS X0 hx (y := (⟨"com/example/unanimity/unanimity/engine/OutcomeAbortedHerePinLaw", "pick", "(I)Lcom/example/unanimity/unanimity/engine/Outcome;"⟩ : MethodName)) hown (mvT hZ (hw _ (List.mem_of_getElem? (i := 0) rfl))) (mvT hZ (hw _ (List.mem_of_getElem? (i := 1) rfl))) (mvT hZ (hw _ (List.mem_of_getElem? (i := 2) rfl))) (mvT hZ (hw _ (List.mem_of_getElem? (i := 3) rfl))) (by decide) (backOf (W := 0) (rm1 l Z aw hw [] (1 : Int32) o0 o1 o2 o3 o4 o5 o6 o7 h0 n0 Z0 S_COMMITTED S_ABORTED S_IN_DOUBT S_UNKNOWN S_FORCED_COMMIT S_FORCED_ABORT S_FORCED_COMMIT_CONFLICT S_FORCED_ABORT_CONFLICT) hZ (hw _ (List.mem_of_getElem? (i := 3) rfl)) (hw _ (List.mem_of_getElem? (i := 2) rfl)) (by decide) (by decide)) (g := (mkF m 6 #[.val (.int p0), .val (.int p1), .val (.int (1 : Int32)), .unset, .unset, .unset, .unset, .unset, .unset, .unset] [(.int (1 : Int32))])) rfl (by rw [hml]; rfl) (argsL := [(.int (1 : Int32))]) (rest := []) (lenOf pd_0 rfl) rfl (by show 2 * 0 + _ ≤ _; exact Nat.le_of_eq rfl) (hb hby at_6) (fun _ _ => ⟨rfl, e0, (by decide : 0 + 0 ≤ _), (by decide : 0 + 0 ≤ _)⟩)
    dsimp only [Pt.U, Pt.locs, Pt.cells, Pt.slots] at X25 l25 y25 z25 st25 hQ25
    subst l25 y25 z25
    obtain ⟨hv25, N25q, e25⟩ := hQ25
    rw [show own_pick (1 : Int32) o0 o1 o2 o3 o4 o5 o6 o7 = o1 from rfl] at hv25
    subst hv25
    have N25 := Fr.app N0 N25q
    have pre26 : ∀ t, Steps p.tables e below (T25.setTop (mkF m 45 #[.val (.int p0), .val (.int p1), .val (.int (1 : Int32)), .val (.ref o1), .val (.int (1 : Int32)), .unset, .unset, .unset, .unset, .unset] [(.int (p1 &&& (1 : Int32)))])) t → Steps p.tables e below (s₁.setTop (entryFrame m #[(.int p0), (.int p1)] maxLocals)) t := fun t k => by
      refine pre1 t ?_
      show Steps p.tables e below (s₁.setTop (mkF m 5 #[.val (.int p0), .val (.int p1), .val (.int (1 : Int32)), .unset, .unset, .unset, .unset, .unset, .unset, .unset] [])) _
      refine XS.iloadN X0.here hx rfl (hb hby at_5) rfl ?_
      show Steps p.tables e below (s₁.setTop (mkF m 6 #[.val (.int p0), .val (.int p1), .val (.int (1 : Int32)), .unset, .unset, .unset, .unset, .unset, .unset, .unset] [(.int (1 : Int32))])) _
      refine st25 _ ?_
      show Steps p.tables e below (T25.setTop (mkF m 9 #[.val (.int p0), .val (.int p1), .val (.int (1 : Int32)), .unset, .unset, .unset, .unset, .unset, .unset, .unset] [(.ref o1)])) _
      refine XS.astoreN X25.here hx rfl (hb hby at_9) rfl rfl (l' := #[.val (.int p0), .val (.int p1), .val (.int (1 : Int32)), .val (.ref o1), .unset, .unset, .unset, .unset, .unset, .unset]) rfl ?_
      show Steps p.tables e below (T25.setTop (mkF m 10 #[.val (.int p0), .val (.int p1), .val (.int (1 : Int32)), .val (.ref o1), .unset, .unset, .unset, .unset, .unset, .unset] [])) _
      refine XS.iloadN X25.here hx rfl (hb hby at_10) rfl ?_
      show Steps p.tables e below (T25.setTop (mkF m 11 #[.val (.int p0), .val (.int p1), .val (.int (1 : Int32)), .val (.ref o1), .unset, .unset, .unset, .unset, .unset, .unset] [(.int (1 : Int32))])) _
      refine XS.iconst X25.here hx rfl (hb hby at_11) ?_
      show Steps p.tables e below (T25.setTop (mkF m 12 #[.val (.int p0), .val (.int p1), .val (.int (1 : Int32)), .val (.ref o1), .unset, .unset, .unset, .unset, .unset, .unset] [(.int (4 : Int32)), (.int (1 : Int32))])) _
      refine XS.icmpNo X25.here hx rfl (hb hby at_12) rfl (tlt (by decide : (1 : Int32) < (4 : Int32))).2.1 ?_
      show Steps p.tables e below (T25.setTop (mkF m 15 #[.val (.int p0), .val (.int p1), .val (.int (1 : Int32)), .val (.ref o1), .unset, .unset, .unset, .unset, .unset, .unset] [])) _
      refine XS.iloadN X25.here hx rfl (hb hby at_15) rfl ?_
      show Steps p.tables e below (T25.setTop (mkF m 16 #[.val (.int p0), .val (.int p1), .val (.int (1 : Int32)), .val (.ref o1), .unset, .unset, .unset, .unset, .unset, .unset] [(.int (1 : Int32))])) _
      refine XS.iconst X25.here hx rfl (hb hby at_16) ?_
      show Steps p.tables e below (T25.setTop (mkF m 17 #[.val (.int p0), .val (.int p1), .val (.int (1 : Int32)), .val (.ref o1), .unset, .unset, .unset, .unset, .unset, .unset] [(.int (1 : Int32)), (.int (1 : Int32))])) _
      refine XS.icmpNo X25.here hx rfl (hb hby at_17) rfl (teq (by decide : (1 : Int32) = (1 : Int32))).2 ?_
      show Steps p.tables e below (T25.setTop (mkF m 20 #[.val (.int p0), .val (.int p1), .val (.int (1 : Int32)), .val (.ref o1), .unset, .unset, .unset, .unset, .unset, .unset] [])) _
      refine XS.iconst X25.here hx rfl (hb hby at_20) ?_
      show Steps p.tables e below (T25.setTop (mkF m 21 #[.val (.int p0), .val (.int p1), .val (.int (1 : Int32)), .val (.ref o1), .unset, .unset, .unset, .unset, .unset, .unset] [(.int (1 : Int32))])) _
      refine XS.goto X25.here hx rfl (pc0 := 21) (pc' := 40) rfl (hb hby at_21) (by decide) (by decide) ?_
      show Steps p.tables e below (T25.setTop (mkF m 40 #[.val (.int p0), .val (.int p1), .val (.int (1 : Int32)), .val (.ref o1), .unset, .unset, .unset, .unset, .unset, .unset] [(.int (1 : Int32))])) _
      refine XS.istore X25.here hx rfl (hb hby at_40) rfl (l' := #[.val (.int p0), .val (.int p1), .val (.int (1 : Int32)), .val (.ref o1), .val (.int (1 : Int32)), .unset, .unset, .unset, .unset, .unset]) rfl ?_
      show Steps p.tables e below (T25.setTop (mkF m 42 #[.val (.int p0), .val (.int p1), .val (.int (1 : Int32)), .val (.ref o1), .val (.int (1 : Int32)), .unset, .unset, .unset, .unset, .unset] [])) _
      refine XS.iloadN X25.here hx rfl (hb hby at_42) rfl ?_
      show Steps p.tables e below (T25.setTop (mkF m 43 #[.val (.int p0), .val (.int p1), .val (.int (1 : Int32)), .val (.ref o1), .val (.int (1 : Int32)), .unset, .unset, .unset, .unset, .unset] [(.int p1)])) _
      refine XS.iconst X25.here hx rfl (hb hby at_43) ?_
      show Steps p.tables e below (T25.setTop (mkF m 44 #[.val (.int p0), .val (.int p1), .val (.int (1 : Int32)), .val (.ref o1), .val (.int (1 : Int32)), .unset, .unset, .unset, .unset, .unset] [(.int (1 : Int32)), (.int p1)])) _
      refine XS.iand X25.here hx rfl (hb hby at_44) rfl ?_
      exact k
    by_cases hc27 : (p1 &&& (1 : Int32)) = (0 : Int32)
    · have pre28 : ∀ t, Steps p.tables e below (T25.setTop (mkF m 58 #[.val (.int p0), .val (.int p1), .val (.int (1 : Int32)), .val (.ref o1), .val (.int (1 : Int32)), .val (.int (0 : Int32)), .unset, .unset, .unset, .unset] [(.int (p1 &&& (2 : Int32)))])) t → Steps p.tables e below (s₁.setTop (entryFrame m #[(.int p0), (.int p1)] maxLocals)) t := fun t k => by
        refine pre26 t ?_
        show Steps p.tables e below (T25.setTop (mkF m 45 #[.val (.int p0), .val (.int p1), .val (.int (1 : Int32)), .val (.ref o1), .val (.int (1 : Int32)), .unset, .unset, .unset, .unset, .unset] [(.int (p1 &&& (1 : Int32)))])) _
        refine XS.ifYes X25.here hx rfl (pc0 := 45) (pc' := 52) rfl (hb hby at_45) rfl ((if0 _ _).trans (teq hc27).1) (by decide) (by decide) ?_
        show Steps p.tables e below (T25.setTop (mkF m 52 #[.val (.int p0), .val (.int p1), .val (.int (1 : Int32)), .val (.ref o1), .val (.int (1 : Int32)), .unset, .unset, .unset, .unset, .unset] [])) _
        refine XS.iconst X25.here hx rfl (hb hby at_52) ?_
        show Steps p.tables e below (T25.setTop (mkF m 53 #[.val (.int p0), .val (.int p1), .val (.int (1 : Int32)), .val (.ref o1), .val (.int (1 : Int32)), .unset, .unset, .unset, .unset, .unset] [(.int (0 : Int32))])) _
        refine XS.istore X25.here hx rfl (hb hby at_53) rfl (l' := #[.val (.int p0), .val (.int p1), .val (.int (1 : Int32)), .val (.ref o1), .val (.int (1 : Int32)), .val (.int (0 : Int32)), .unset, .unset, .unset, .unset]) rfl ?_
        show Steps p.tables e below (T25.setTop (mkF m 55 #[.val (.int p0), .val (.int p1), .val (.int (1 : Int32)), .val (.ref o1), .val (.int (1 : Int32)), .val (.int (0 : Int32)), .unset, .unset, .unset, .unset] [])) _
        refine XS.iloadN X25.here hx rfl (hb hby at_55) rfl ?_
        show Steps p.tables e below (T25.setTop (mkF m 56 #[.val (.int p0), .val (.int p1), .val (.int (1 : Int32)), .val (.ref o1), .val (.int (1 : Int32)), .val (.int (0 : Int32)), .unset, .unset, .unset, .unset] [(.int p1)])) _
        refine XS.iconst X25.here hx rfl (hb hby at_56) ?_
        show Steps p.tables e below (T25.setTop (mkF m 57 #[.val (.int p0), .val (.int p1), .val (.int (1 : Int32)), .val (.ref o1), .val (.int (1 : Int32)), .val (.int (0 : Int32)), .unset, .unset, .unset, .unset] [(.int (2 : Int32)), (.int p1)])) _
        refine XS.iand X25.here hx rfl (hb hby at_57) rfl ?_
        exact k
      by_cases hc29 : (p1 &&& (2 : Int32)) = (0 : Int32)
      · obtain ⟨_, _, ⟨T30, L30, k30, n30⟩, -, X30, ⟨Lc30, hQ30, l30, y30, z30⟩, st30⟩ := Jvm.LawKit.callS X25 hx (y := (⟨"com/example/unanimity/unanimity/engine/Outcome", "forced", "(ZZ)Lcom/example/unanimity/unanimity/engine/Outcome;"⟩ : MethodName)) hown (mvT hZ (hw _ (List.mem_of_getElem? (i := 7) rfl))) (mvT hZ (hw _ (List.mem_of_getElem? (i := 8) rfl))) (mvT hZ (hw _ (List.mem_of_getElem? (i := 5) rfl))) (mvT hZ (hw _ (List.mem_of_getElem? (i := 9) rfl))) (by decide) (backOf (W := 0) (rm2 l Z aw hw [] (0 : Int32) (0 : Int32) o0 o1 o2 o3 o4 o5 o6 o7 h0 n0 Z0 S_COMMITTED S_ABORTED S_IN_DOUBT S_UNKNOWN S_FORCED_COMMIT S_FORCED_ABORT S_FORCED_COMMIT_CONFLICT S_FORCED_ABORT_CONFLICT) hZ (hw _ (List.mem_of_getElem? (i := 9) rfl)) (hw _ (List.mem_of_getElem? (i := 5) rfl)) (by decide) (by decide)) (g := (mkF m 72 #[.val (.int p0), .val (.int p1), .val (.int (1 : Int32)), .val (.ref o1), .val (.int (1 : Int32)), .val (.int (0 : Int32)), .val (.int (0 : Int32)), .unset, .unset, .unset] [(.int (0 : Int32)), (.int (0 : Int32))])) rfl (by rw [hml]; rfl) (argsL := [(.int (0 : Int32)), (.int (0 : Int32))]) (rest := []) (lenOf pd_1 rfl) rfl (by show 2 * 0 + _ ≤ _; exact Nat.le_of_eq rfl) (hb hby at_72) (fun _ _ => ⟨rfl, e25, (by decide : 0 + 0 ≤ _), (by decide : 0 + 0 ≤ _)⟩)
        dsimp only [Pt.U, Pt.locs, Pt.cells, Pt.slots] at X30 l30 y30 z30 st30 hQ30
        subst l30 y30 z30
        obtain ⟨hv30, N30q, e30⟩ := hQ30
        rw [show own_forced (0 : Int32) (0 : Int32) o4 o5 o6 o7 = o5 from rfl] at hv30
        subst hv30
        have N30 := Fr.app N25 N30q
        obtain ⟨cq31, kq31, q31a, q31b, q31c⟩ := isOf hZ e30 E1
        obtain ⟨_, _, ⟨T31, L31, k31, n31⟩, -, X31, ⟨Lc31, hQ31, l31, y31, z31⟩, st31⟩ := X30.virtualBack hx (y := (⟨"com/example/unanimity/unanimity/engine/Outcome", "abortedHere", "()Z"⟩ : MethodName)) (z := (⟨"com/example/unanimity/unanimity/engine/Outcome", "abortedHere", "()Z"⟩ : MethodName)) hown (mvT hZ (hw _ (List.mem_of_getElem? (i := 12) rfl))) (mvT hZ (hw _ (List.mem_of_getElem? (i := 13) rfl))) (notFace_of_selects (args := #[]) (mvT hZ (hw _ (List.mem_of_getElem? (i := 15) rfl)))) (mvT hZ (hw _ (List.mem_of_getElem? (i := 15) rfl))) (mvT hZ (hw _ (List.mem_of_getElem? (i := 14) rfl))) (by decide) (backOf (W := 0) (rm3 l Z aw hw [] o1 o0 o1 o2 o3 o4 o5 o6 o7 h0 n0 Z0 S_COMMITTED S_ABORTED S_IN_DOUBT S_UNKNOWN S_FORCED_COMMIT S_FORCED_ABORT S_FORCED_COMMIT_CONFLICT S_FORCED_ABORT_CONFLICT) hZ (hw _ (List.mem_of_getElem? (i := 16) rfl)) (hw _ (List.mem_of_getElem? (i := 5) rfl)) (by decide) (by decide)) q31a q31c (g := (mkF m 78 #[.val (.int p0), .val (.int p1), .val (.int (1 : Int32)), .val (.ref o1), .val (.int (1 : Int32)), .val (.int (0 : Int32)), .val (.int (0 : Int32)), .val (.ref o5), .unset, .unset] [(.ref o1)])) rfl (by rw [hml]; rfl) (Steps.refl _) (argsL := []) (rest := []) (lenOf pd_2 rfl) rfl (by show 2 * 0 + _ ≤ _; exact Nat.le_of_eq rfl) (hb hby at_78) (fun _ _ => ⟨rfl, e30, (by decide : 0 + 0 ≤ _), (by decide : 0 + 0 ≤ _)⟩)
        dsimp only [Pt.U, Pt.locs, Pt.cells, Pt.slots] at X31 l31 y31 z31 st31 hQ31
        subst l31 y31 z31
        obtain ⟨hv31, N31q, e31⟩ := hQ31
        rw [own_three_hit1] at hv31
        subst hv31
        have N31 := Fr.app N30 N31q
        obtain ⟨cq32, kq32, q32a, q32b, q32c⟩ := isOf hZ e31 E1
        obtain ⟨_, _, ⟨T32, L32, k32, n32⟩, -, X32, ⟨Lc32, hQ32, l32, y32, z32⟩, st32⟩ := X31.virtualBack hx (y := (⟨"com/example/unanimity/unanimity/engine/Outcome", "committedHere", "()Z"⟩ : MethodName)) (z := (⟨"com/example/unanimity/unanimity/engine/Outcome", "committedHere", "()Z"⟩ : MethodName)) hown (mvT hZ (hw _ (List.mem_of_getElem? (i := 23) rfl))) (mvT hZ (hw _ (List.mem_of_getElem? (i := 24) rfl))) (notFace_of_selects (args := #[]) (mvT hZ (hw _ (List.mem_of_getElem? (i := 26) rfl)))) (mvT hZ (hw _ (List.mem_of_getElem? (i := 26) rfl))) (mvT hZ (hw _ (List.mem_of_getElem? (i := 25) rfl))) (by decide) (backOf (W := 0) (rm4 l Z aw hw [] o1 o0 o1 o2 o3 o4 o5 o6 o7 h0 n0 Z0 S_COMMITTED S_ABORTED S_IN_DOUBT S_UNKNOWN S_FORCED_COMMIT S_FORCED_ABORT S_FORCED_COMMIT_CONFLICT S_FORCED_ABORT_CONFLICT) hZ (hw _ (List.mem_of_getElem? (i := 27) rfl)) (hw _ (List.mem_of_getElem? (i := 5) rfl)) (by decide) (by decide)) q32a q32c (g := (mkF m 84 #[.val (.int p0), .val (.int p1), .val (.int (1 : Int32)), .val (.ref o1), .val (.int (1 : Int32)), .val (.int (0 : Int32)), .val (.int (0 : Int32)), .val (.ref o5), .val (.int (1 : Int32)), .unset] [(.ref o1)])) rfl (by rw [hml]; rfl) (Steps.refl _) (argsL := []) (rest := []) (lenOf pd_2 rfl) rfl (by show 2 * 0 + _ ≤ _; exact Nat.le_of_eq rfl) (hb hby at_84) (fun _ _ => ⟨rfl, e31, (by decide : 0 + 0 ≤ _), (by decide : 0 + 0 ≤ _)⟩)
        dsimp only [Pt.U, Pt.locs, Pt.cells, Pt.slots] at X32 l32 y32 z32 st32 hQ32
        subst l32 y32 z32
        obtain ⟨hv32, N32q, e32⟩ := hQ32
        rw [own_three_no (Ne.symm d0_1) d1_4 d1_6] at hv32
        subst hv32
        have N32 := Fr.app N31 N32q
        obtain ⟨cq33, kq33, q33a, q33b, q33c⟩ := isOf hZ e32 E5
        obtain ⟨_, _, ⟨T33, L33, k33, n33⟩, -, X33, ⟨Lc33, hQ33, l33, y33, z33⟩, st33⟩ := X32.virtualBack hx (y := (⟨"com/example/unanimity/unanimity/engine/Outcome", "abortedHere", "()Z"⟩ : MethodName)) (z := (⟨"com/example/unanimity/unanimity/engine/Outcome", "abortedHere", "()Z"⟩ : MethodName)) hown (mvT hZ (hw _ (List.mem_of_getElem? (i := 12) rfl))) (mvT hZ (hw _ (List.mem_of_getElem? (i := 13) rfl))) (notFace_of_selects (args := #[]) (mvT hZ (hw _ (List.mem_of_getElem? (i := 15) rfl)))) (mvT hZ (hw _ (List.mem_of_getElem? (i := 15) rfl))) (mvT hZ (hw _ (List.mem_of_getElem? (i := 14) rfl))) (by decide) (backOf (W := 0) (rm3 l Z aw hw [] o5 o0 o1 o2 o3 o4 o5 o6 o7 h0 n0 Z0 S_COMMITTED S_ABORTED S_IN_DOUBT S_UNKNOWN S_FORCED_COMMIT S_FORCED_ABORT S_FORCED_COMMIT_CONFLICT S_FORCED_ABORT_CONFLICT) hZ (hw _ (List.mem_of_getElem? (i := 16) rfl)) (hw _ (List.mem_of_getElem? (i := 5) rfl)) (by decide) (by decide)) q33a q33c (g := (mkF m 98 #[.val (.int p0), .val (.int p1), .val (.int (1 : Int32)), .val (.ref o1), .val (.int (1 : Int32)), .val (.int (0 : Int32)), .val (.int (0 : Int32)), .val (.ref o5), .val (.int (1 : Int32)), .val (.int (0 : Int32))] [(.ref o5)])) rfl (by rw [hml]; rfl) (Steps.refl _) (argsL := []) (rest := []) (lenOf pd_2 rfl) rfl (by show 2 * 0 + _ ≤ _; exact Nat.le_of_eq rfl) (hb hby at_98) (fun _ _ => ⟨rfl, e32, (by decide : 0 + 0 ≤ _), (by decide : 0 + 0 ≤ _)⟩)
        dsimp only [Pt.U, Pt.locs, Pt.cells, Pt.slots] at X33 l33 y33 z33 st33 hQ33
        subst l33 y33 z33
        obtain ⟨hv33, N33q, e33⟩ := hQ33
        rw [own_three_hit2] at hv33
        subst hv33
        have N33 := Fr.app N32 N33q
        obtain ⟨fs, hr, hrun, hended, hW, hsame⟩ := X33.leave (v := some (.int (1 : Int32))) (fun h => by rw [Bd.returns] at h; cases h)
        refine ⟨_, _, pre28 _ ?_, hrun, hended, _, _, rfl, ?_, ⟨_, rfl⟩, hW, hsame.mono (by decide) (by decide)⟩
        · show Steps p.tables e below (T25.setTop (mkF m 58 #[.val (.int p0), .val (.int p1), .val (.int (1 : Int32)), .val (.ref o1), .val (.int (1 : Int32)), .val (.int (0 : Int32)), .unset, .unset, .unset, .unset] [(.int (p1 &&& (2 : Int32)))])) _
          refine XS.ifYes X25.here hx rfl (pc0 := 58) (pc' := 65) rfl (hb hby at_58) rfl ((if0 _ _).trans (teq hc29).1) (by decide) (by decide) ?_
          show Steps p.tables e below (T25.setTop (mkF m 65 #[.val (.int p0), .val (.int p1), .val (.int (1 : Int32)), .val (.ref o1), .val (.int (1 : Int32)), .val (.int (0 : Int32)), .unset, .unset, .unset, .unset] [])) _
          refine XS.iconst X25.here hx rfl (hb hby at_65) ?_
          show Steps p.tables e below (T25.setTop (mkF m 66 #[.val (.int p0), .val (.int p1), .val (.int (1 : Int32)), .val (.ref o1), .val (.int (1 : Int32)), .val (.int (0 : Int32)), .unset, .unset, .unset, .unset] [(.int (0 : Int32))])) _
          refine XS.istore X25.here hx rfl (hb hby at_66) rfl (l' := #[.val (.int p0), .val (.int p1), .val (.int (1 : Int32)), .val (.ref o1), .val (.int (1 : Int32)), .val (.int (0 : Int32)), .val (.int (0 : Int32)), .unset, .unset, .unset]) rfl ?_
          show Steps p.tables e below (T25.setTop (mkF m 68 #[.val (.int p0), .val (.int p1), .val (.int (1 : Int32)), .val (.ref o1), .val (.int (1 : Int32)), .val (.int (0 : Int32)), .val (.int (0 : Int32)), .unset, .unset, .unset] [])) _
          refine XS.iload X25.here hx rfl (hb hby at_68) rfl ?_
          show Steps p.tables e below (T25.setTop (mkF m 70 #[.val (.int p0), .val (.int p1), .val (.int (1 : Int32)), .val (.ref o1), .val (.int (1 : Int32)), .val (.int (0 : Int32)), .val (.int (0 : Int32)), .unset, .unset, .unset] [(.int (0 : Int32))])) _
          refine XS.iload X25.here hx rfl (hb hby at_70) rfl ?_
          show Steps p.tables e below (T25.setTop (mkF m 72 #[.val (.int p0), .val (.int p1), .val (.int (1 : Int32)), .val (.ref o1), .val (.int (1 : Int32)), .val (.int (0 : Int32)), .val (.int (0 : Int32)), .unset, .unset, .unset] [(.int (0 : Int32)), (.int (0 : Int32))])) _
          refine st30 _ ?_
          show Steps p.tables e below (T30.setTop (mkF m 75 #[.val (.int p0), .val (.int p1), .val (.int (1 : Int32)), .val (.ref o1), .val (.int (1 : Int32)), .val (.int (0 : Int32)), .val (.int (0 : Int32)), .unset, .unset, .unset] [(.ref o5)])) _
          refine XS.astore X30.here hx rfl (hb hby at_75) rfl rfl (l' := #[.val (.int p0), .val (.int p1), .val (.int (1 : Int32)), .val (.ref o1), .val (.int (1 : Int32)), .val (.int (0 : Int32)), .val (.int (0 : Int32)), .val (.ref o5), .unset, .unset]) rfl ?_
          show Steps p.tables e below (T30.setTop (mkF m 77 #[.val (.int p0), .val (.int p1), .val (.int (1 : Int32)), .val (.ref o1), .val (.int (1 : Int32)), .val (.int (0 : Int32)), .val (.int (0 : Int32)), .val (.ref o5), .unset, .unset] [])) _
          refine XS.aloadN X30.here hx rfl (hb hby at_77) rfl rfl ?_
          show Steps p.tables e below (T30.setTop (mkF m 78 #[.val (.int p0), .val (.int p1), .val (.int (1 : Int32)), .val (.ref o1), .val (.int (1 : Int32)), .val (.int (0 : Int32)), .val (.int (0 : Int32)), .val (.ref o5), .unset, .unset] [(.ref o1)])) _
          refine st31.trans ?_
          show Steps p.tables e below (T31.setTop (mkF m 81 #[.val (.int p0), .val (.int p1), .val (.int (1 : Int32)), .val (.ref o1), .val (.int (1 : Int32)), .val (.int (0 : Int32)), .val (.int (0 : Int32)), .val (.ref o5), .unset, .unset] [(.int (1 : Int32))])) _
          refine XS.istore X31.here hx rfl (hb hby at_81) rfl (l' := #[.val (.int p0), .val (.int p1), .val (.int (1 : Int32)), .val (.ref o1), .val (.int (1 : Int32)), .val (.int (0 : Int32)), .val (.int (0 : Int32)), .val (.ref o5), .val (.int (1 : Int32)), .unset]) rfl ?_
          show Steps p.tables e below (T31.setTop (mkF m 83 #[.val (.int p0), .val (.int p1), .val (.int (1 : Int32)), .val (.ref o1), .val (.int (1 : Int32)), .val (.int (0 : Int32)), .val (.int (0 : Int32)), .val (.ref o5), .val (.int (1 : Int32)), .unset] [])) _
          refine XS.aloadN X31.here hx rfl (hb hby at_83) rfl rfl ?_
          show Steps p.tables e below (T31.setTop (mkF m 84 #[.val (.int p0), .val (.int p1), .val (.int (1 : Int32)), .val (.ref o1), .val (.int (1 : Int32)), .val (.int (0 : Int32)), .val (.int (0 : Int32)), .val (.ref o5), .val (.int (1 : Int32)), .unset] [(.ref o1)])) _
          refine st32.trans ?_
          show Steps p.tables e below (T32.setTop (mkF m 87 #[.val (.int p0), .val (.int p1), .val (.int (1 : Int32)), .val (.ref o1), .val (.int (1 : Int32)), .val (.int (0 : Int32)), .val (.int (0 : Int32)), .val (.ref o5), .val (.int (1 : Int32)), .unset] [(.int (0 : Int32))])) _
          refine XS.istore X32.here hx rfl (hb hby at_87) rfl (l' := #[.val (.int p0), .val (.int p1), .val (.int (1 : Int32)), .val (.ref o1), .val (.int (1 : Int32)), .val (.int (0 : Int32)), .val (.int (0 : Int32)), .val (.ref o5), .val (.int (1 : Int32)), .val (.int (0 : Int32))]) rfl ?_
          show Steps p.tables e below (T32.setTop (mkF m 89 #[.val (.int p0), .val (.int p1), .val (.int (1 : Int32)), .val (.ref o1), .val (.int (1 : Int32)), .val (.int (0 : Int32)), .val (.int (0 : Int32)), .val (.ref o5), .val (.int (1 : Int32)), .val (.int (0 : Int32))] [])) _
          refine XS.iload X32.here hx rfl (hb hby at_89) rfl ?_
          show Steps p.tables e below (T32.setTop (mkF m 91 #[.val (.int p0), .val (.int p1), .val (.int (1 : Int32)), .val (.ref o1), .val (.int (1 : Int32)), .val (.int (0 : Int32)), .val (.int (0 : Int32)), .val (.ref o5), .val (.int (1 : Int32)), .val (.int (0 : Int32))] [(.int (1 : Int32))])) _
          refine XS.iload X32.here hx rfl (hb hby at_91) rfl ?_
          show Steps p.tables e below (T32.setTop (mkF m 93 #[.val (.int p0), .val (.int p1), .val (.int (1 : Int32)), .val (.ref o1), .val (.int (1 : Int32)), .val (.int (0 : Int32)), .val (.int (0 : Int32)), .val (.ref o5), .val (.int (1 : Int32)), .val (.int (0 : Int32))] [(.int (1 : Int32)), (.int (1 : Int32))])) _
          refine XS.icmpNo X32.here hx rfl (hb hby at_93) rfl (teq (by decide : (1 : Int32) = (1 : Int32))).2 ?_
          show Steps p.tables e below (T32.setTop (mkF m 96 #[.val (.int p0), .val (.int p1), .val (.int (1 : Int32)), .val (.ref o1), .val (.int (1 : Int32)), .val (.int (0 : Int32)), .val (.int (0 : Int32)), .val (.ref o5), .val (.int (1 : Int32)), .val (.int (0 : Int32))] [])) _
          refine XS.aload X32.here hx rfl (hb hby at_96) rfl rfl ?_
          show Steps p.tables e below (T32.setTop (mkF m 98 #[.val (.int p0), .val (.int p1), .val (.int (1 : Int32)), .val (.ref o1), .val (.int (1 : Int32)), .val (.int (0 : Int32)), .val (.int (0 : Int32)), .val (.ref o5), .val (.int (1 : Int32)), .val (.int (0 : Int32))] [(.ref o5)])) _
          refine st33.trans ?_
          show Steps p.tables e below (T33.setTop (mkF m 101 #[.val (.int p0), .val (.int p1), .val (.int (1 : Int32)), .val (.ref o1), .val (.int (1 : Int32)), .val (.int (0 : Int32)), .val (.int (0 : Int32)), .val (.ref o5), .val (.int (1 : Int32)), .val (.int (0 : Int32))] [(.int (1 : Int32))])) _
          refine XS.iload X33.here hx rfl (hb hby at_101) rfl ?_
          show Steps p.tables e below (T33.setTop (mkF m 103 #[.val (.int p0), .val (.int p1), .val (.int (1 : Int32)), .val (.ref o1), .val (.int (1 : Int32)), .val (.int (0 : Int32)), .val (.int (0 : Int32)), .val (.ref o5), .val (.int (1 : Int32)), .val (.int (0 : Int32))] [(.int (0 : Int32)), (.int (1 : Int32))])) _
          refine XS.ifNo X33.here hx rfl (hb hby at_103) rfl ((if0 _ _).trans (teq (by decide : (0 : Int32) = (0 : Int32))).2) ?_
          show Steps p.tables e below (T33.setTop (mkF m 106 #[.val (.int p0), .val (.int p1), .val (.int (1 : Int32)), .val (.ref o1), .val (.int (1 : Int32)), .val (.int (0 : Int32)), .val (.int (0 : Int32)), .val (.ref o5), .val (.int (1 : Int32)), .val (.int (0 : Int32))] [(.int (1 : Int32))])) _
          refine XS.iconst X33.here hx rfl (hb hby at_106) ?_
          show Steps p.tables e below (T33.setTop (mkF m 107 #[.val (.int p0), .val (.int p1), .val (.int (1 : Int32)), .val (.ref o1), .val (.int (1 : Int32)), .val (.int (0 : Int32)), .val (.int (0 : Int32)), .val (.ref o5), .val (.int (1 : Int32)), .val (.int (0 : Int32))] [(.int (1 : Int32)), (.int (1 : Int32))])) _
          refine XS.goto X33.here hx rfl (pc0 := 107) (pc' := 111) rfl (hb hby at_107) (by decide) (by decide) ?_
          show Steps p.tables e below (T33.setTop (mkF m 111 #[.val (.int p0), .val (.int p1), .val (.int (1 : Int32)), .val (.ref o1), .val (.int (1 : Int32)), .val (.int (0 : Int32)), .val (.int (0 : Int32)), .val (.ref o5), .val (.int (1 : Int32)), .val (.int (0 : Int32))] [(.int (1 : Int32)), (.int (1 : Int32))])) _
          refine XS.icmpNo X33.here hx rfl (hb hby at_111) rfl (teq (by decide : (1 : Int32) = (1 : Int32))).2 ?_
          show Steps p.tables e below (T33.setTop (mkF m 114 #[.val (.int p0), .val (.int p1), .val (.int (1 : Int32)), .val (.ref o1), .val (.int (1 : Int32)), .val (.int (0 : Int32)), .val (.int (0 : Int32)), .val (.ref o5), .val (.int (1 : Int32)), .val (.int (0 : Int32))] [])) _
          refine XS.iload X33.here hx rfl (hb hby at_114) rfl ?_
          show Steps p.tables e below (T33.setTop (mkF m 116 #[.val (.int p0), .val (.int p1), .val (.int (1 : Int32)), .val (.ref o1), .val (.int (1 : Int32)), .val (.int (0 : Int32)), .val (.int (0 : Int32)), .val (.ref o5), .val (.int (1 : Int32)), .val (.int (0 : Int32))] [(.int (1 : Int32))])) _
          refine XS.ifNo X33.here hx rfl (hb hby at_116) rfl ((if0 _ _).trans (feq (by decide : ¬ ((1 : Int32) = (0 : Int32)))).1) ?_
          show Steps p.tables e below (T33.setTop (mkF m 119 #[.val (.int p0), .val (.int p1), .val (.int (1 : Int32)), .val (.ref o1), .val (.int (1 : Int32)), .val (.int (0 : Int32)), .val (.int (0 : Int32)), .val (.ref o5), .val (.int (1 : Int32)), .val (.int (0 : Int32))] [])) _
          refine XS.iload X33.here hx rfl (hb hby at_119) rfl ?_
          show Steps p.tables e below (T33.setTop (mkF m 121 #[.val (.int p0), .val (.int p1), .val (.int (1 : Int32)), .val (.ref o1), .val (.int (1 : Int32)), .val (.int (0 : Int32)), .val (.int (0 : Int32)), .val (.ref o5), .val (.int (1 : Int32)), .val (.int (0 : Int32))] [(.int (0 : Int32))])) _
          refine XS.ifNo X33.here hx rfl (hb hby at_121) rfl ((if0 _ _).trans (teq (by decide : (0 : Int32) = (0 : Int32))).2) ?_
          show Steps p.tables e below (T33.setTop (mkF m 124 #[.val (.int p0), .val (.int p1), .val (.int (1 : Int32)), .val (.ref o1), .val (.int (1 : Int32)), .val (.int (0 : Int32)), .val (.int (0 : Int32)), .val (.ref o5), .val (.int (1 : Int32)), .val (.int (0 : Int32))] [])) _
          refine XS.iconst X33.here hx rfl (hb hby at_124) ?_
          show Steps p.tables e below (T33.setTop (mkF m 125 #[.val (.int p0), .val (.int p1), .val (.int (1 : Int32)), .val (.ref o1), .val (.int (1 : Int32)), .val (.int (0 : Int32)), .val (.int (0 : Int32)), .val (.ref o5), .val (.int (1 : Int32)), .val (.int (0 : Int32))] [(.int (1 : Int32))])) _
          refine XS.goto X33.here hx rfl (pc0 := 125) (pc' := 129) rfl (hb hby at_125) (by decide) (by decide) ?_
          show Steps p.tables e below (T33.setTop (mkF m 129 #[.val (.int p0), .val (.int p1), .val (.int (1 : Int32)), .val (.ref o1), .val (.int (1 : Int32)), .val (.int (0 : Int32)), .val (.int (0 : Int32)), .val (.ref o5), .val (.int (1 : Int32)), .val (.int (0 : Int32))] [(.int (1 : Int32))])) _
          exact retN X33 hx (t := .boolean) Bd.returns (by simp) (hb hby at_129) hr
        · show Q0 Z p0 p1 o0 o1 o2 o3 o4 o5 o6 o7 h0 n0 _ T33.heap _
          rw [e33]
          exact ⟨rfl, N33⟩
      · obtain ⟨_, _, ⟨T34, L34, k34, n34⟩, -, X34, ⟨Lc34, hQ34, l34, y34, z34⟩, st34⟩ := Jvm.LawKit.callS X25 hx (y := (⟨"com/example/unanimity/unanimity/engine/Outcome", "forced", "(ZZ)Lcom/example/unanimity/unanimity/engine/Outcome;"⟩ : MethodName)) hown (mvT hZ (hw _ (List.mem_of_getElem? (i := 7) rfl))) (mvT hZ (hw _ (List.mem_of_getElem? (i := 8) rfl))) (mvT hZ (hw _ (List.mem_of_getElem? (i := 5) rfl))) (mvT hZ (hw _ (List.mem_of_getElem? (i := 9) rfl))) (by decide) (backOf (W := 0) (rm2 l Z aw hw [] (0 : Int32) (1 : Int32) o0 o1 o2 o3 o4 o5 o6 o7 h0 n0 Z0 S_COMMITTED S_ABORTED S_IN_DOUBT S_UNKNOWN S_FORCED_COMMIT S_FORCED_ABORT S_FORCED_COMMIT_CONFLICT S_FORCED_ABORT_CONFLICT) hZ (hw _ (List.mem_of_getElem? (i := 9) rfl)) (hw _ (List.mem_of_getElem? (i := 5) rfl)) (by decide) (by decide)) (g := (mkF m 72 #[.val (.int p0), .val (.int p1), .val (.int (1 : Int32)), .val (.ref o1), .val (.int (1 : Int32)), .val (.int (0 : Int32)), .val (.int (1 : Int32)), .unset, .unset, .unset] [(.int (1 : Int32)), (.int (0 : Int32))])) rfl (by rw [hml]; rfl) (argsL := [(.int (0 : Int32)), (.int (1 : Int32))]) (rest := []) (lenOf pd_1 rfl) rfl (by show 2 * 0 + _ ≤ _; exact Nat.le_of_eq rfl) (hb hby at_72) (fun _ _ => ⟨rfl, e25, (by decide : 0 + 0 ≤ _), (by decide : 0 + 0 ≤ _)⟩)
        dsimp only [Pt.U, Pt.locs, Pt.cells, Pt.slots] at X34 l34 y34 z34 st34 hQ34
        subst l34 y34 z34
        obtain ⟨hv34, N34q, e34⟩ := hQ34
        rw [show own_forced (0 : Int32) (1 : Int32) o4 o5 o6 o7 = o7 from rfl] at hv34
        subst hv34
        have N34 := Fr.app N25 N34q
        obtain ⟨cq35, kq35, q35a, q35b, q35c⟩ := isOf hZ e34 E1
        obtain ⟨_, _, ⟨T35, L35, k35, n35⟩, -, X35, ⟨Lc35, hQ35, l35, y35, z35⟩, st35⟩ := X34.virtualBack hx (y := (⟨"com/example/unanimity/unanimity/engine/Outcome", "abortedHere", "()Z"⟩ : MethodName)) (z := (⟨"com/example/unanimity/unanimity/engine/Outcome", "abortedHere", "()Z"⟩ : MethodName)) hown (mvT hZ (hw _ (List.mem_of_getElem? (i := 12) rfl))) (mvT hZ (hw _ (List.mem_of_getElem? (i := 13) rfl))) (notFace_of_selects (args := #[]) (mvT hZ (hw _ (List.mem_of_getElem? (i := 15) rfl)))) (mvT hZ (hw _ (List.mem_of_getElem? (i := 15) rfl))) (mvT hZ (hw _ (List.mem_of_getElem? (i := 14) rfl))) (by decide) (backOf (W := 0) (rm3 l Z aw hw [] o1 o0 o1 o2 o3 o4 o5 o6 o7 h0 n0 Z0 S_COMMITTED S_ABORTED S_IN_DOUBT S_UNKNOWN S_FORCED_COMMIT S_FORCED_ABORT S_FORCED_COMMIT_CONFLICT S_FORCED_ABORT_CONFLICT) hZ (hw _ (List.mem_of_getElem? (i := 16) rfl)) (hw _ (List.mem_of_getElem? (i := 5) rfl)) (by decide) (by decide)) q35a q35c (g := (mkF m 78 #[.val (.int p0), .val (.int p1), .val (.int (1 : Int32)), .val (.ref o1), .val (.int (1 : Int32)), .val (.int (0 : Int32)), .val (.int (1 : Int32)), .val (.ref o7), .unset, .unset] [(.ref o1)])) rfl (by rw [hml]; rfl) (Steps.refl _) (argsL := []) (rest := []) (lenOf pd_2 rfl) rfl (by show 2 * 0 + _ ≤ _; exact Nat.le_of_eq rfl) (hb hby at_78) (fun _ _ => ⟨rfl, e34, (by decide : 0 + 0 ≤ _), (by decide : 0 + 0 ≤ _)⟩)
        dsimp only [Pt.U, Pt.locs, Pt.cells, Pt.slots] at X35 l35 y35 z35 st35 hQ35
        subst l35 y35 z35
        obtain ⟨hv35, N35q, e35⟩ := hQ35
        rw [own_three_hit1] at hv35
        subst hv35
        have N35 := Fr.app N34 N35q
        obtain ⟨cq36, kq36, q36a, q36b, q36c⟩ := isOf hZ e35 E1
        obtain ⟨_, _, ⟨T36, L36, k36, n36⟩, -, X36, ⟨Lc36, hQ36, l36, y36, z36⟩, st36⟩ := X35.virtualBack hx (y := (⟨"com/example/unanimity/unanimity/engine/Outcome", "committedHere", "()Z"⟩ : MethodName)) (z := (⟨"com/example/unanimity/unanimity/engine/Outcome", "committedHere", "()Z"⟩ : MethodName)) hown (mvT hZ (hw _ (List.mem_of_getElem? (i := 23) rfl))) (mvT hZ (hw _ (List.mem_of_getElem? (i := 24) rfl))) (notFace_of_selects (args := #[]) (mvT hZ (hw _ (List.mem_of_getElem? (i := 26) rfl)))) (mvT hZ (hw _ (List.mem_of_getElem? (i := 26) rfl))) (mvT hZ (hw _ (List.mem_of_getElem? (i := 25) rfl))) (by decide) (backOf (W := 0) (rm4 l Z aw hw [] o1 o0 o1 o2 o3 o4 o5 o6 o7 h0 n0 Z0 S_COMMITTED S_ABORTED S_IN_DOUBT S_UNKNOWN S_FORCED_COMMIT S_FORCED_ABORT S_FORCED_COMMIT_CONFLICT S_FORCED_ABORT_CONFLICT) hZ (hw _ (List.mem_of_getElem? (i := 27) rfl)) (hw _ (List.mem_of_getElem? (i := 5) rfl)) (by decide) (by decide)) q36a q36c (g := (mkF m 84 #[.val (.int p0), .val (.int p1), .val (.int (1 : Int32)), .val (.ref o1), .val (.int (1 : Int32)), .val (.int (0 : Int32)), .val (.int (1 : Int32)), .val (.ref o7), .val (.int (1 : Int32)), .unset] [(.ref o1)])) rfl (by rw [hml]; rfl) (Steps.refl _) (argsL := []) (rest := []) (lenOf pd_2 rfl) rfl (by show 2 * 0 + _ ≤ _; exact Nat.le_of_eq rfl) (hb hby at_84) (fun _ _ => ⟨rfl, e35, (by decide : 0 + 0 ≤ _), (by decide : 0 + 0 ≤ _)⟩)
        dsimp only [Pt.U, Pt.locs, Pt.cells, Pt.slots] at X36 l36 y36 z36 st36 hQ36
        subst l36 y36 z36
        obtain ⟨hv36, N36q, e36⟩ := hQ36
        rw [own_three_no (Ne.symm d0_1) d1_4 d1_6] at hv36
        subst hv36
        have N36 := Fr.app N35 N36q
        obtain ⟨cq37, kq37, q37a, q37b, q37c⟩ := isOf hZ e36 E7
        obtain ⟨_, _, ⟨T37, L37, k37, n37⟩, -, X37, ⟨Lc37, hQ37, l37, y37, z37⟩, st37⟩ := X36.virtualBack hx (y := (⟨"com/example/unanimity/unanimity/engine/Outcome", "abortedHere", "()Z"⟩ : MethodName)) (z := (⟨"com/example/unanimity/unanimity/engine/Outcome", "abortedHere", "()Z"⟩ : MethodName)) hown (mvT hZ (hw _ (List.mem_of_getElem? (i := 12) rfl))) (mvT hZ (hw _ (List.mem_of_getElem? (i := 13) rfl))) (notFace_of_selects (args := #[]) (mvT hZ (hw _ (List.mem_of_getElem? (i := 15) rfl)))) (mvT hZ (hw _ (List.mem_of_getElem? (i := 15) rfl))) (mvT hZ (hw _ (List.mem_of_getElem? (i := 14) rfl))) (by decide) (backOf (W := 0) (rm3 l Z aw hw [] o7 o0 o1 o2 o3 o4 o5 o6 o7 h0 n0 Z0 S_COMMITTED S_ABORTED S_IN_DOUBT S_UNKNOWN S_FORCED_COMMIT S_FORCED_ABORT S_FORCED_COMMIT_CONFLICT S_FORCED_ABORT_CONFLICT) hZ (hw _ (List.mem_of_getElem? (i := 16) rfl)) (hw _ (List.mem_of_getElem? (i := 5) rfl)) (by decide) (by decide)) q37a q37c (g := (mkF m 98 #[.val (.int p0), .val (.int p1), .val (.int (1 : Int32)), .val (.ref o1), .val (.int (1 : Int32)), .val (.int (0 : Int32)), .val (.int (1 : Int32)), .val (.ref o7), .val (.int (1 : Int32)), .val (.int (0 : Int32))] [(.ref o7)])) rfl (by rw [hml]; rfl) (Steps.refl _) (argsL := []) (rest := []) (lenOf pd_2 rfl) rfl (by show 2 * 0 + _ ≤ _; exact Nat.le_of_eq rfl) (hb hby at_98) (fun _ _ => ⟨rfl, e36, (by decide : 0 + 0 ≤ _), (by decide : 0 + 0 ≤ _)⟩)
        dsimp only [Pt.U, Pt.locs, Pt.cells, Pt.slots] at X37 l37 y37 z37 st37 hQ37
        subst l37 y37 z37
        obtain ⟨hv37, N37q, e37⟩ := hQ37
        rw [own_three_hit3] at hv37
        subst hv37
        have N37 := Fr.app N36 N37q
        obtain ⟨fs, hr, hrun, hended, hW, hsame⟩ := X37.leave (v := some (.int (1 : Int32))) (fun h => by rw [Bd.returns] at h; cases h)
        refine ⟨_, _, pre28 _ ?_, hrun, hended, _, _, rfl, ?_, ⟨_, rfl⟩, hW, hsame.mono (by decide) (by decide)⟩
        · show Steps p.tables e below (T25.setTop (mkF m 58 #[.val (.int p0), .val (.int p1), .val (.int (1 : Int32)), .val (.ref o1), .val (.int (1 : Int32)), .val (.int (0 : Int32)), .unset, .unset, .unset, .unset] [(.int (p1 &&& (2 : Int32)))])) _
          refine XS.ifNo X25.here hx rfl (hb hby at_58) rfl ((if0 _ _).trans (feq hc29).1) ?_
          show Steps p.tables e below (T25.setTop (mkF m 61 #[.val (.int p0), .val (.int p1), .val (.int (1 : Int32)), .val (.ref o1), .val (.int (1 : Int32)), .val (.int (0 : Int32)), .unset, .unset, .unset, .unset] [])) _
          refine XS.iconst X25.here hx rfl (hb hby at_61) ?_
          show Steps p.tables e below (T25.setTop (mkF m 62 #[.val (.int p0), .val (.int p1), .val (.int (1 : Int32)), .val (.ref o1), .val (.int (1 : Int32)), .val (.int (0 : Int32)), .unset, .unset, .unset, .unset] [(.int (1 : Int32))])) _
          refine XS.goto X25.here hx rfl (pc0 := 62) (pc' := 66) rfl (hb hby at_62) (by decide) (by decide) ?_
          show Steps p.tables e below (T25.setTop (mkF m 66 #[.val (.int p0), .val (.int p1), .val (.int (1 : Int32)), .val (.ref o1), .val (.int (1 : Int32)), .val (.int (0 : Int32)), .unset, .unset, .unset, .unset] [(.int (1 : Int32))])) _
          refine XS.istore X25.here hx rfl (hb hby at_66) rfl (l' := #[.val (.int p0), .val (.int p1), .val (.int (1 : Int32)), .val (.ref o1), .val (.int (1 : Int32)), .val (.int (0 : Int32)), .val (.int (1 : Int32)), .unset, .unset, .unset]) rfl ?_
          show Steps p.tables e below (T25.setTop (mkF m 68 #[.val (.int p0), .val (.int p1), .val (.int (1 : Int32)), .val (.ref o1), .val (.int (1 : Int32)), .val (.int (0 : Int32)), .val (.int (1 : Int32)), .unset, .unset, .unset] [])) _
          refine XS.iload X25.here hx rfl (hb hby at_68) rfl ?_
          show Steps p.tables e below (T25.setTop (mkF m 70 #[.val (.int p0), .val (.int p1), .val (.int (1 : Int32)), .val (.ref o1), .val (.int (1 : Int32)), .val (.int (0 : Int32)), .val (.int (1 : Int32)), .unset, .unset, .unset] [(.int (0 : Int32))])) _
          refine XS.iload X25.here hx rfl (hb hby at_70) rfl ?_
          show Steps p.tables e below (T25.setTop (mkF m 72 #[.val (.int p0), .val (.int p1), .val (.int (1 : Int32)), .val (.ref o1), .val (.int (1 : Int32)), .val (.int (0 : Int32)), .val (.int (1 : Int32)), .unset, .unset, .unset] [(.int (1 : Int32)), (.int (0 : Int32))])) _
          refine st34 _ ?_
          show Steps p.tables e below (T34.setTop (mkF m 75 #[.val (.int p0), .val (.int p1), .val (.int (1 : Int32)), .val (.ref o1), .val (.int (1 : Int32)), .val (.int (0 : Int32)), .val (.int (1 : Int32)), .unset, .unset, .unset] [(.ref o7)])) _
          refine XS.astore X34.here hx rfl (hb hby at_75) rfl rfl (l' := #[.val (.int p0), .val (.int p1), .val (.int (1 : Int32)), .val (.ref o1), .val (.int (1 : Int32)), .val (.int (0 : Int32)), .val (.int (1 : Int32)), .val (.ref o7), .unset, .unset]) rfl ?_
          show Steps p.tables e below (T34.setTop (mkF m 77 #[.val (.int p0), .val (.int p1), .val (.int (1 : Int32)), .val (.ref o1), .val (.int (1 : Int32)), .val (.int (0 : Int32)), .val (.int (1 : Int32)), .val (.ref o7), .unset, .unset] [])) _
          refine XS.aloadN X34.here hx rfl (hb hby at_77) rfl rfl ?_
          show Steps p.tables e below (T34.setTop (mkF m 78 #[.val (.int p0), .val (.int p1), .val (.int (1 : Int32)), .val (.ref o1), .val (.int (1 : Int32)), .val (.int (0 : Int32)), .val (.int (1 : Int32)), .val (.ref o7), .unset, .unset] [(.ref o1)])) _
          refine st35.trans ?_
          show Steps p.tables e below (T35.setTop (mkF m 81 #[.val (.int p0), .val (.int p1), .val (.int (1 : Int32)), .val (.ref o1), .val (.int (1 : Int32)), .val (.int (0 : Int32)), .val (.int (1 : Int32)), .val (.ref o7), .unset, .unset] [(.int (1 : Int32))])) _
          refine XS.istore X35.here hx rfl (hb hby at_81) rfl (l' := #[.val (.int p0), .val (.int p1), .val (.int (1 : Int32)), .val (.ref o1), .val (.int (1 : Int32)), .val (.int (0 : Int32)), .val (.int (1 : Int32)), .val (.ref o7), .val (.int (1 : Int32)), .unset]) rfl ?_
          show Steps p.tables e below (T35.setTop (mkF m 83 #[.val (.int p0), .val (.int p1), .val (.int (1 : Int32)), .val (.ref o1), .val (.int (1 : Int32)), .val (.int (0 : Int32)), .val (.int (1 : Int32)), .val (.ref o7), .val (.int (1 : Int32)), .unset] [])) _
          refine XS.aloadN X35.here hx rfl (hb hby at_83) rfl rfl ?_
          show Steps p.tables e below (T35.setTop (mkF m 84 #[.val (.int p0), .val (.int p1), .val (.int (1 : Int32)), .val (.ref o1), .val (.int (1 : Int32)), .val (.int (0 : Int32)), .val (.int (1 : Int32)), .val (.ref o7), .val (.int (1 : Int32)), .unset] [(.ref o1)])) _
          refine st36.trans ?_
          show Steps p.tables e below (T36.setTop (mkF m 87 #[.val (.int p0), .val (.int p1), .val (.int (1 : Int32)), .val (.ref o1), .val (.int (1 : Int32)), .val (.int (0 : Int32)), .val (.int (1 : Int32)), .val (.ref o7), .val (.int (1 : Int32)), .unset] [(.int (0 : Int32))])) _
          refine XS.istore X36.here hx rfl (hb hby at_87) rfl (l' := #[.val (.int p0), .val (.int p1), .val (.int (1 : Int32)), .val (.ref o1), .val (.int (1 : Int32)), .val (.int (0 : Int32)), .val (.int (1 : Int32)), .val (.ref o7), .val (.int (1 : Int32)), .val (.int (0 : Int32))]) rfl ?_
          show Steps p.tables e below (T36.setTop (mkF m 89 #[.val (.int p0), .val (.int p1), .val (.int (1 : Int32)), .val (.ref o1), .val (.int (1 : Int32)), .val (.int (0 : Int32)), .val (.int (1 : Int32)), .val (.ref o7), .val (.int (1 : Int32)), .val (.int (0 : Int32))] [])) _
          refine XS.iload X36.here hx rfl (hb hby at_89) rfl ?_
          show Steps p.tables e below (T36.setTop (mkF m 91 #[.val (.int p0), .val (.int p1), .val (.int (1 : Int32)), .val (.ref o1), .val (.int (1 : Int32)), .val (.int (0 : Int32)), .val (.int (1 : Int32)), .val (.ref o7), .val (.int (1 : Int32)), .val (.int (0 : Int32))] [(.int (1 : Int32))])) _
          refine XS.iload X36.here hx rfl (hb hby at_91) rfl ?_
          show Steps p.tables e below (T36.setTop (mkF m 93 #[.val (.int p0), .val (.int p1), .val (.int (1 : Int32)), .val (.ref o1), .val (.int (1 : Int32)), .val (.int (0 : Int32)), .val (.int (1 : Int32)), .val (.ref o7), .val (.int (1 : Int32)), .val (.int (0 : Int32))] [(.int (1 : Int32)), (.int (1 : Int32))])) _
          refine XS.icmpNo X36.here hx rfl (hb hby at_93) rfl (teq (by decide : (1 : Int32) = (1 : Int32))).2 ?_
          show Steps p.tables e below (T36.setTop (mkF m 96 #[.val (.int p0), .val (.int p1), .val (.int (1 : Int32)), .val (.ref o1), .val (.int (1 : Int32)), .val (.int (0 : Int32)), .val (.int (1 : Int32)), .val (.ref o7), .val (.int (1 : Int32)), .val (.int (0 : Int32))] [])) _
          refine XS.aload X36.here hx rfl (hb hby at_96) rfl rfl ?_
          show Steps p.tables e below (T36.setTop (mkF m 98 #[.val (.int p0), .val (.int p1), .val (.int (1 : Int32)), .val (.ref o1), .val (.int (1 : Int32)), .val (.int (0 : Int32)), .val (.int (1 : Int32)), .val (.ref o7), .val (.int (1 : Int32)), .val (.int (0 : Int32))] [(.ref o7)])) _
          refine st37.trans ?_
          show Steps p.tables e below (T37.setTop (mkF m 101 #[.val (.int p0), .val (.int p1), .val (.int (1 : Int32)), .val (.ref o1), .val (.int (1 : Int32)), .val (.int (0 : Int32)), .val (.int (1 : Int32)), .val (.ref o7), .val (.int (1 : Int32)), .val (.int (0 : Int32))] [(.int (1 : Int32))])) _
          refine XS.iload X37.here hx rfl (hb hby at_101) rfl ?_
          show Steps p.tables e below (T37.setTop (mkF m 103 #[.val (.int p0), .val (.int p1), .val (.int (1 : Int32)), .val (.ref o1), .val (.int (1 : Int32)), .val (.int (0 : Int32)), .val (.int (1 : Int32)), .val (.ref o7), .val (.int (1 : Int32)), .val (.int (0 : Int32))] [(.int (0 : Int32)), (.int (1 : Int32))])) _
          refine XS.ifNo X37.here hx rfl (hb hby at_103) rfl ((if0 _ _).trans (teq (by decide : (0 : Int32) = (0 : Int32))).2) ?_
          show Steps p.tables e below (T37.setTop (mkF m 106 #[.val (.int p0), .val (.int p1), .val (.int (1 : Int32)), .val (.ref o1), .val (.int (1 : Int32)), .val (.int (0 : Int32)), .val (.int (1 : Int32)), .val (.ref o7), .val (.int (1 : Int32)), .val (.int (0 : Int32))] [(.int (1 : Int32))])) _
          refine XS.iconst X37.here hx rfl (hb hby at_106) ?_
          show Steps p.tables e below (T37.setTop (mkF m 107 #[.val (.int p0), .val (.int p1), .val (.int (1 : Int32)), .val (.ref o1), .val (.int (1 : Int32)), .val (.int (0 : Int32)), .val (.int (1 : Int32)), .val (.ref o7), .val (.int (1 : Int32)), .val (.int (0 : Int32))] [(.int (1 : Int32)), (.int (1 : Int32))])) _
          refine XS.goto X37.here hx rfl (pc0 := 107) (pc' := 111) rfl (hb hby at_107) (by decide) (by decide) ?_
          show Steps p.tables e below (T37.setTop (mkF m 111 #[.val (.int p0), .val (.int p1), .val (.int (1 : Int32)), .val (.ref o1), .val (.int (1 : Int32)), .val (.int (0 : Int32)), .val (.int (1 : Int32)), .val (.ref o7), .val (.int (1 : Int32)), .val (.int (0 : Int32))] [(.int (1 : Int32)), (.int (1 : Int32))])) _
          refine XS.icmpNo X37.here hx rfl (hb hby at_111) rfl (teq (by decide : (1 : Int32) = (1 : Int32))).2 ?_
          show Steps p.tables e below (T37.setTop (mkF m 114 #[.val (.int p0), .val (.int p1), .val (.int (1 : Int32)), .val (.ref o1), .val (.int (1 : Int32)), .val (.int (0 : Int32)), .val (.int (1 : Int32)), .val (.ref o7), .val (.int (1 : Int32)), .val (.int (0 : Int32))] [])) _
          refine XS.iload X37.here hx rfl (hb hby at_114) rfl ?_
          show Steps p.tables e below (T37.setTop (mkF m 116 #[.val (.int p0), .val (.int p1), .val (.int (1 : Int32)), .val (.ref o1), .val (.int (1 : Int32)), .val (.int (0 : Int32)), .val (.int (1 : Int32)), .val (.ref o7), .val (.int (1 : Int32)), .val (.int (0 : Int32))] [(.int (1 : Int32))])) _
          refine XS.ifNo X37.here hx rfl (hb hby at_116) rfl ((if0 _ _).trans (feq (by decide : ¬ ((1 : Int32) = (0 : Int32)))).1) ?_
          show Steps p.tables e below (T37.setTop (mkF m 119 #[.val (.int p0), .val (.int p1), .val (.int (1 : Int32)), .val (.ref o1), .val (.int (1 : Int32)), .val (.int (0 : Int32)), .val (.int (1 : Int32)), .val (.ref o7), .val (.int (1 : Int32)), .val (.int (0 : Int32))] [])) _
          refine XS.iload X37.here hx rfl (hb hby at_119) rfl ?_
          show Steps p.tables e below (T37.setTop (mkF m 121 #[.val (.int p0), .val (.int p1), .val (.int (1 : Int32)), .val (.ref o1), .val (.int (1 : Int32)), .val (.int (0 : Int32)), .val (.int (1 : Int32)), .val (.ref o7), .val (.int (1 : Int32)), .val (.int (0 : Int32))] [(.int (0 : Int32))])) _
          refine XS.ifNo X37.here hx rfl (hb hby at_121) rfl ((if0 _ _).trans (teq (by decide : (0 : Int32) = (0 : Int32))).2) ?_
          show Steps p.tables e below (T37.setTop (mkF m 124 #[.val (.int p0), .val (.int p1), .val (.int (1 : Int32)), .val (.ref o1), .val (.int (1 : Int32)), .val (.int (0 : Int32)), .val (.int (1 : Int32)), .val (.ref o7), .val (.int (1 : Int32)), .val (.int (0 : Int32))] [])) _
          refine XS.iconst X37.here hx rfl (hb hby at_124) ?_
          show Steps p.tables e below (T37.setTop (mkF m 125 #[.val (.int p0), .val (.int p1), .val (.int (1 : Int32)), .val (.ref o1), .val (.int (1 : Int32)), .val (.int (0 : Int32)), .val (.int (1 : Int32)), .val (.ref o7), .val (.int (1 : Int32)), .val (.int (0 : Int32))] [(.int (1 : Int32))])) _
          refine XS.goto X37.here hx rfl (pc0 := 125) (pc' := 129) rfl (hb hby at_125) (by decide) (by decide) ?_
          show Steps p.tables e below (T37.setTop (mkF m 129 #[.val (.int p0), .val (.int p1), .val (.int (1 : Int32)), .val (.ref o1), .val (.int (1 : Int32)), .val (.int (0 : Int32)), .val (.int (1 : Int32)), .val (.ref o7), .val (.int (1 : Int32)), .val (.int (0 : Int32))] [(.int (1 : Int32))])) _
          exact retN X37 hx (t := .boolean) Bd.returns (by simp) (hb hby at_129) hr
        · show Q0 Z p0 p1 o0 o1 o2 o3 o4 o5 o6 o7 h0 n0 _ T37.heap _
          rw [e37]
          exact ⟨rfl, N37⟩
    · have pre38 : ∀ t, Steps p.tables e below (T25.setTop (mkF m 58 #[.val (.int p0), .val (.int p1), .val (.int (1 : Int32)), .val (.ref o1), .val (.int (1 : Int32)), .val (.int (1 : Int32)), .unset, .unset, .unset, .unset] [(.int (p1 &&& (2 : Int32)))])) t → Steps p.tables e below (s₁.setTop (entryFrame m #[(.int p0), (.int p1)] maxLocals)) t := fun t k => by
        refine pre26 t ?_
        show Steps p.tables e below (T25.setTop (mkF m 45 #[.val (.int p0), .val (.int p1), .val (.int (1 : Int32)), .val (.ref o1), .val (.int (1 : Int32)), .unset, .unset, .unset, .unset, .unset] [(.int (p1 &&& (1 : Int32)))])) _
        refine XS.ifNo X25.here hx rfl (hb hby at_45) rfl ((if0 _ _).trans (feq hc27).1) ?_
        show Steps p.tables e below (T25.setTop (mkF m 48 #[.val (.int p0), .val (.int p1), .val (.int (1 : Int32)), .val (.ref o1), .val (.int (1 : Int32)), .unset, .unset, .unset, .unset, .unset] [])) _
        refine XS.iconst X25.here hx rfl (hb hby at_48) ?_
        show Steps p.tables e below (T25.setTop (mkF m 49 #[.val (.int p0), .val (.int p1), .val (.int (1 : Int32)), .val (.ref o1), .val (.int (1 : Int32)), .unset, .unset, .unset, .unset, .unset] [(.int (1 : Int32))])) _
        refine XS.goto X25.here hx rfl (pc0 := 49) (pc' := 53) rfl (hb hby at_49) (by decide) (by decide) ?_
        show Steps p.tables e below (T25.setTop (mkF m 53 #[.val (.int p0), .val (.int p1), .val (.int (1 : Int32)), .val (.ref o1), .val (.int (1 : Int32)), .unset, .unset, .unset, .unset, .unset] [(.int (1 : Int32))])) _
        refine XS.istore X25.here hx rfl (hb hby at_53) rfl (l' := #[.val (.int p0), .val (.int p1), .val (.int (1 : Int32)), .val (.ref o1), .val (.int (1 : Int32)), .val (.int (1 : Int32)), .unset, .unset, .unset, .unset]) rfl ?_
        show Steps p.tables e below (T25.setTop (mkF m 55 #[.val (.int p0), .val (.int p1), .val (.int (1 : Int32)), .val (.ref o1), .val (.int (1 : Int32)), .val (.int (1 : Int32)), .unset, .unset, .unset, .unset] [])) _
        refine XS.iloadN X25.here hx rfl (hb hby at_55) rfl ?_
        show Steps p.tables e below (T25.setTop (mkF m 56 #[.val (.int p0), .val (.int p1), .val (.int (1 : Int32)), .val (.ref o1), .val (.int (1 : Int32)), .val (.int (1 : Int32)), .unset, .unset, .unset, .unset] [(.int p1)])) _
        refine XS.iconst X25.here hx rfl (hb hby at_56) ?_
        show Steps p.tables e below (T25.setTop (mkF m 57 #[.val (.int p0), .val (.int p1), .val (.int (1 : Int32)), .val (.ref o1), .val (.int (1 : Int32)), .val (.int (1 : Int32)), .unset, .unset, .unset, .unset] [(.int (2 : Int32)), (.int p1)])) _
        refine XS.iand X25.here hx rfl (hb hby at_57) rfl ?_
        exact k
      by_cases hc39 : (p1 &&& (2 : Int32)) = (0 : Int32)
      · obtain ⟨_, _, ⟨T40, L40, k40, n40⟩, -, X40, ⟨Lc40, hQ40, l40, y40, z40⟩, st40⟩ := Jvm.LawKit.callS X25 hx (y := (⟨"com/example/unanimity/unanimity/engine/Outcome", "forced", "(ZZ)Lcom/example/unanimity/unanimity/engine/Outcome;"⟩ : MethodName)) hown (mvT hZ (hw _ (List.mem_of_getElem? (i := 7) rfl))) (mvT hZ (hw _ (List.mem_of_getElem? (i := 8) rfl))) (mvT hZ (hw _ (List.mem_of_getElem? (i := 5) rfl))) (mvT hZ (hw _ (List.mem_of_getElem? (i := 9) rfl))) (by decide) (backOf (W := 0) (rm2 l Z aw hw [] (1 : Int32) (0 : Int32) o0 o1 o2 o3 o4 o5 o6 o7 h0 n0 Z0 S_COMMITTED S_ABORTED S_IN_DOUBT S_UNKNOWN S_FORCED_COMMIT S_FORCED_ABORT S_FORCED_COMMIT_CONFLICT S_FORCED_ABORT_CONFLICT) hZ (hw _ (List.mem_of_getElem? (i := 9) rfl)) (hw _ (List.mem_of_getElem? (i := 5) rfl)) (by decide) (by decide)) (g := (mkF m 72 #[.val (.int p0), .val (.int p1), .val (.int (1 : Int32)), .val (.ref o1), .val (.int (1 : Int32)), .val (.int (1 : Int32)), .val (.int (0 : Int32)), .unset, .unset, .unset] [(.int (0 : Int32)), (.int (1 : Int32))])) rfl (by rw [hml]; rfl) (argsL := [(.int (1 : Int32)), (.int (0 : Int32))]) (rest := []) (lenOf pd_1 rfl) rfl (by show 2 * 0 + _ ≤ _; exact Nat.le_of_eq rfl) (hb hby at_72) (fun _ _ => ⟨rfl, e25, (by decide : 0 + 0 ≤ _), (by decide : 0 + 0 ≤ _)⟩)
        dsimp only [Pt.U, Pt.locs, Pt.cells, Pt.slots] at X40 l40 y40 z40 st40 hQ40
        subst l40 y40 z40
        obtain ⟨hv40, N40q, e40⟩ := hQ40
        rw [show own_forced (1 : Int32) (0 : Int32) o4 o5 o6 o7 = o4 from rfl] at hv40
        subst hv40
        have N40 := Fr.app N25 N40q
        obtain ⟨cq41, kq41, q41a, q41b, q41c⟩ := isOf hZ e40 E1
        obtain ⟨_, _, ⟨T41, L41, k41, n41⟩, -, X41, ⟨Lc41, hQ41, l41, y41, z41⟩, st41⟩ := X40.virtualBack hx (y := (⟨"com/example/unanimity/unanimity/engine/Outcome", "abortedHere", "()Z"⟩ : MethodName)) (z := (⟨"com/example/unanimity/unanimity/engine/Outcome", "abortedHere", "()Z"⟩ : MethodName)) hown (mvT hZ (hw _ (List.mem_of_getElem? (i := 12) rfl))) (mvT hZ (hw _ (List.mem_of_getElem? (i := 13) rfl))) (notFace_of_selects (args := #[]) (mvT hZ (hw _ (List.mem_of_getElem? (i := 15) rfl)))) (mvT hZ (hw _ (List.mem_of_getElem? (i := 15) rfl))) (mvT hZ (hw _ (List.mem_of_getElem? (i := 14) rfl))) (by decide) (backOf (W := 0) (rm3 l Z aw hw [] o1 o0 o1 o2 o3 o4 o5 o6 o7 h0 n0 Z0 S_COMMITTED S_ABORTED S_IN_DOUBT S_UNKNOWN S_FORCED_COMMIT S_FORCED_ABORT S_FORCED_COMMIT_CONFLICT S_FORCED_ABORT_CONFLICT) hZ (hw _ (List.mem_of_getElem? (i := 16) rfl)) (hw _ (List.mem_of_getElem? (i := 5) rfl)) (by decide) (by decide)) q41a q41c (g := (mkF m 78 #[.val (.int p0), .val (.int p1), .val (.int (1 : Int32)), .val (.ref o1), .val (.int (1 : Int32)), .val (.int (1 : Int32)), .val (.int (0 : Int32)), .val (.ref o4), .unset, .unset] [(.ref o1)])) rfl (by rw [hml]; rfl) (Steps.refl _) (argsL := []) (rest := []) (lenOf pd_2 rfl) rfl (by show 2 * 0 + _ ≤ _; exact Nat.le_of_eq rfl) (hb hby at_78) (fun _ _ => ⟨rfl, e40, (by decide : 0 + 0 ≤ _), (by decide : 0 + 0 ≤ _)⟩)
        dsimp only [Pt.U, Pt.locs, Pt.cells, Pt.slots] at X41 l41 y41 z41 st41 hQ41
        subst l41 y41 z41
        obtain ⟨hv41, N41q, e41⟩ := hQ41
        rw [own_three_hit1] at hv41
        subst hv41
        have N41 := Fr.app N40 N41q
        obtain ⟨cq42, kq42, q42a, q42b, q42c⟩ := isOf hZ e41 E1
        obtain ⟨_, _, ⟨T42, L42, k42, n42⟩, -, X42, ⟨Lc42, hQ42, l42, y42, z42⟩, st42⟩ := X41.virtualBack hx (y := (⟨"com/example/unanimity/unanimity/engine/Outcome", "committedHere", "()Z"⟩ : MethodName)) (z := (⟨"com/example/unanimity/unanimity/engine/Outcome", "committedHere", "()Z"⟩ : MethodName)) hown (mvT hZ (hw _ (List.mem_of_getElem? (i := 23) rfl))) (mvT hZ (hw _ (List.mem_of_getElem? (i := 24) rfl))) (notFace_of_selects (args := #[]) (mvT hZ (hw _ (List.mem_of_getElem? (i := 26) rfl)))) (mvT hZ (hw _ (List.mem_of_getElem? (i := 26) rfl))) (mvT hZ (hw _ (List.mem_of_getElem? (i := 25) rfl))) (by decide) (backOf (W := 0) (rm4 l Z aw hw [] o1 o0 o1 o2 o3 o4 o5 o6 o7 h0 n0 Z0 S_COMMITTED S_ABORTED S_IN_DOUBT S_UNKNOWN S_FORCED_COMMIT S_FORCED_ABORT S_FORCED_COMMIT_CONFLICT S_FORCED_ABORT_CONFLICT) hZ (hw _ (List.mem_of_getElem? (i := 27) rfl)) (hw _ (List.mem_of_getElem? (i := 5) rfl)) (by decide) (by decide)) q42a q42c (g := (mkF m 84 #[.val (.int p0), .val (.int p1), .val (.int (1 : Int32)), .val (.ref o1), .val (.int (1 : Int32)), .val (.int (1 : Int32)), .val (.int (0 : Int32)), .val (.ref o4), .val (.int (1 : Int32)), .unset] [(.ref o1)])) rfl (by rw [hml]; rfl) (Steps.refl _) (argsL := []) (rest := []) (lenOf pd_2 rfl) rfl (by show 2 * 0 + _ ≤ _; exact Nat.le_of_eq rfl) (hb hby at_84) (fun _ _ => ⟨rfl, e41, (by decide : 0 + 0 ≤ _), (by decide : 0 + 0 ≤ _)⟩)
        dsimp only [Pt.U, Pt.locs, Pt.cells, Pt.slots] at X42 l42 y42 z42 st42 hQ42
        subst l42 y42 z42
        obtain ⟨hv42, N42q, e42⟩ := hQ42
        rw [own_three_no (Ne.symm d0_1) d1_4 d1_6] at hv42
        subst hv42
        have N42 := Fr.app N41 N42q
        obtain ⟨cq43, kq43, q43a, q43b, q43c⟩ := isOf hZ e42 E4
        obtain ⟨_, _, ⟨T43, L43, k43, n43⟩, -, X43, ⟨Lc43, hQ43, l43, y43, z43⟩, st43⟩ := X42.virtualBack hx (y := (⟨"com/example/unanimity/unanimity/engine/Outcome", "abortedHere", "()Z"⟩ : MethodName)) (z := (⟨"com/example/unanimity/unanimity/engine/Outcome", "abortedHere", "()Z"⟩ : MethodName)) hown (mvT hZ (hw _ (List.mem_of_getElem? (i := 12) rfl))) (mvT hZ (hw _ (List.mem_of_getElem? (i := 13) rfl))) (notFace_of_selects (args := #[]) (mvT hZ (hw _ (List.mem_of_getElem? (i := 15) rfl)))) (mvT hZ (hw _ (List.mem_of_getElem? (i := 15) rfl))) (mvT hZ (hw _ (List.mem_of_getElem? (i := 14) rfl))) (by decide) (backOf (W := 0) (rm3 l Z aw hw [] o4 o0 o1 o2 o3 o4 o5 o6 o7 h0 n0 Z0 S_COMMITTED S_ABORTED S_IN_DOUBT S_UNKNOWN S_FORCED_COMMIT S_FORCED_ABORT S_FORCED_COMMIT_CONFLICT S_FORCED_ABORT_CONFLICT) hZ (hw _ (List.mem_of_getElem? (i := 16) rfl)) (hw _ (List.mem_of_getElem? (i := 5) rfl)) (by decide) (by decide)) q43a q43c (g := (mkF m 98 #[.val (.int p0), .val (.int p1), .val (.int (1 : Int32)), .val (.ref o1), .val (.int (1 : Int32)), .val (.int (1 : Int32)), .val (.int (0 : Int32)), .val (.ref o4), .val (.int (1 : Int32)), .val (.int (0 : Int32))] [(.ref o4)])) rfl (by rw [hml]; rfl) (Steps.refl _) (argsL := []) (rest := []) (lenOf pd_2 rfl) rfl (by show 2 * 0 + _ ≤ _; exact Nat.le_of_eq rfl) (hb hby at_98) (fun _ _ => ⟨rfl, e42, (by decide : 0 + 0 ≤ _), (by decide : 0 + 0 ≤ _)⟩)
        dsimp only [Pt.U, Pt.locs, Pt.cells, Pt.slots] at X43 l43 y43 z43 st43 hQ43
        subst l43 y43 z43
        obtain ⟨hv43, N43q, e43⟩ := hQ43
        rw [own_three_no (Ne.symm d1_4) d4_5 d4_7] at hv43
        subst hv43
        have N43 := Fr.app N42 N43q
        obtain ⟨fs, hr, hrun, hended, hW, hsame⟩ := X43.leave (v := some (.int (1 : Int32))) (fun h => by rw [Bd.returns] at h; cases h)
        refine ⟨_, _, pre38 _ ?_, hrun, hended, _, _, rfl, ?_, ⟨_, rfl⟩, hW, hsame.mono (by decide) (by decide)⟩
        · show Steps p.tables e below (T25.setTop (mkF m 58 #[.val (.int p0), .val (.int p1), .val (.int (1 : Int32)), .val (.ref o1), .val (.int (1 : Int32)), .val (.int (1 : Int32)), .unset, .unset, .unset, .unset] [(.int (p1 &&& (2 : Int32)))])) _
          refine XS.ifYes X25.here hx rfl (pc0 := 58) (pc' := 65) rfl (hb hby at_58) rfl ((if0 _ _).trans (teq hc39).1) (by decide) (by decide) ?_
          show Steps p.tables e below (T25.setTop (mkF m 65 #[.val (.int p0), .val (.int p1), .val (.int (1 : Int32)), .val (.ref o1), .val (.int (1 : Int32)), .val (.int (1 : Int32)), .unset, .unset, .unset, .unset] [])) _
          refine XS.iconst X25.here hx rfl (hb hby at_65) ?_
          show Steps p.tables e below (T25.setTop (mkF m 66 #[.val (.int p0), .val (.int p1), .val (.int (1 : Int32)), .val (.ref o1), .val (.int (1 : Int32)), .val (.int (1 : Int32)), .unset, .unset, .unset, .unset] [(.int (0 : Int32))])) _
          refine XS.istore X25.here hx rfl (hb hby at_66) rfl (l' := #[.val (.int p0), .val (.int p1), .val (.int (1 : Int32)), .val (.ref o1), .val (.int (1 : Int32)), .val (.int (1 : Int32)), .val (.int (0 : Int32)), .unset, .unset, .unset]) rfl ?_
          show Steps p.tables e below (T25.setTop (mkF m 68 #[.val (.int p0), .val (.int p1), .val (.int (1 : Int32)), .val (.ref o1), .val (.int (1 : Int32)), .val (.int (1 : Int32)), .val (.int (0 : Int32)), .unset, .unset, .unset] [])) _
          refine XS.iload X25.here hx rfl (hb hby at_68) rfl ?_
          show Steps p.tables e below (T25.setTop (mkF m 70 #[.val (.int p0), .val (.int p1), .val (.int (1 : Int32)), .val (.ref o1), .val (.int (1 : Int32)), .val (.int (1 : Int32)), .val (.int (0 : Int32)), .unset, .unset, .unset] [(.int (1 : Int32))])) _
          refine XS.iload X25.here hx rfl (hb hby at_70) rfl ?_
          show Steps p.tables e below (T25.setTop (mkF m 72 #[.val (.int p0), .val (.int p1), .val (.int (1 : Int32)), .val (.ref o1), .val (.int (1 : Int32)), .val (.int (1 : Int32)), .val (.int (0 : Int32)), .unset, .unset, .unset] [(.int (0 : Int32)), (.int (1 : Int32))])) _
          refine st40 _ ?_
          show Steps p.tables e below (T40.setTop (mkF m 75 #[.val (.int p0), .val (.int p1), .val (.int (1 : Int32)), .val (.ref o1), .val (.int (1 : Int32)), .val (.int (1 : Int32)), .val (.int (0 : Int32)), .unset, .unset, .unset] [(.ref o4)])) _
          refine XS.astore X40.here hx rfl (hb hby at_75) rfl rfl (l' := #[.val (.int p0), .val (.int p1), .val (.int (1 : Int32)), .val (.ref o1), .val (.int (1 : Int32)), .val (.int (1 : Int32)), .val (.int (0 : Int32)), .val (.ref o4), .unset, .unset]) rfl ?_
          show Steps p.tables e below (T40.setTop (mkF m 77 #[.val (.int p0), .val (.int p1), .val (.int (1 : Int32)), .val (.ref o1), .val (.int (1 : Int32)), .val (.int (1 : Int32)), .val (.int (0 : Int32)), .val (.ref o4), .unset, .unset] [])) _
          refine XS.aloadN X40.here hx rfl (hb hby at_77) rfl rfl ?_
          show Steps p.tables e below (T40.setTop (mkF m 78 #[.val (.int p0), .val (.int p1), .val (.int (1 : Int32)), .val (.ref o1), .val (.int (1 : Int32)), .val (.int (1 : Int32)), .val (.int (0 : Int32)), .val (.ref o4), .unset, .unset] [(.ref o1)])) _
          refine st41.trans ?_
          show Steps p.tables e below (T41.setTop (mkF m 81 #[.val (.int p0), .val (.int p1), .val (.int (1 : Int32)), .val (.ref o1), .val (.int (1 : Int32)), .val (.int (1 : Int32)), .val (.int (0 : Int32)), .val (.ref o4), .unset, .unset] [(.int (1 : Int32))])) _
          refine XS.istore X41.here hx rfl (hb hby at_81) rfl (l' := #[.val (.int p0), .val (.int p1), .val (.int (1 : Int32)), .val (.ref o1), .val (.int (1 : Int32)), .val (.int (1 : Int32)), .val (.int (0 : Int32)), .val (.ref o4), .val (.int (1 : Int32)), .unset]) rfl ?_
          show Steps p.tables e below (T41.setTop (mkF m 83 #[.val (.int p0), .val (.int p1), .val (.int (1 : Int32)), .val (.ref o1), .val (.int (1 : Int32)), .val (.int (1 : Int32)), .val (.int (0 : Int32)), .val (.ref o4), .val (.int (1 : Int32)), .unset] [])) _
          refine XS.aloadN X41.here hx rfl (hb hby at_83) rfl rfl ?_
          show Steps p.tables e below (T41.setTop (mkF m 84 #[.val (.int p0), .val (.int p1), .val (.int (1 : Int32)), .val (.ref o1), .val (.int (1 : Int32)), .val (.int (1 : Int32)), .val (.int (0 : Int32)), .val (.ref o4), .val (.int (1 : Int32)), .unset] [(.ref o1)])) _
          refine st42.trans ?_
          show Steps p.tables e below (T42.setTop (mkF m 87 #[.val (.int p0), .val (.int p1), .val (.int (1 : Int32)), .val (.ref o1), .val (.int (1 : Int32)), .val (.int (1 : Int32)), .val (.int (0 : Int32)), .val (.ref o4), .val (.int (1 : Int32)), .unset] [(.int (0 : Int32))])) _
          refine XS.istore X42.here hx rfl (hb hby at_87) rfl (l' := #[.val (.int p0), .val (.int p1), .val (.int (1 : Int32)), .val (.ref o1), .val (.int (1 : Int32)), .val (.int (1 : Int32)), .val (.int (0 : Int32)), .val (.ref o4), .val (.int (1 : Int32)), .val (.int (0 : Int32))]) rfl ?_
          show Steps p.tables e below (T42.setTop (mkF m 89 #[.val (.int p0), .val (.int p1), .val (.int (1 : Int32)), .val (.ref o1), .val (.int (1 : Int32)), .val (.int (1 : Int32)), .val (.int (0 : Int32)), .val (.ref o4), .val (.int (1 : Int32)), .val (.int (0 : Int32))] [])) _
          refine XS.iload X42.here hx rfl (hb hby at_89) rfl ?_
          show Steps p.tables e below (T42.setTop (mkF m 91 #[.val (.int p0), .val (.int p1), .val (.int (1 : Int32)), .val (.ref o1), .val (.int (1 : Int32)), .val (.int (1 : Int32)), .val (.int (0 : Int32)), .val (.ref o4), .val (.int (1 : Int32)), .val (.int (0 : Int32))] [(.int (1 : Int32))])) _
          refine XS.iload X42.here hx rfl (hb hby at_91) rfl ?_
          show Steps p.tables e below (T42.setTop (mkF m 93 #[.val (.int p0), .val (.int p1), .val (.int (1 : Int32)), .val (.ref o1), .val (.int (1 : Int32)), .val (.int (1 : Int32)), .val (.int (0 : Int32)), .val (.ref o4), .val (.int (1 : Int32)), .val (.int (0 : Int32))] [(.int (1 : Int32)), (.int (1 : Int32))])) _
          refine XS.icmpNo X42.here hx rfl (hb hby at_93) rfl (teq (by decide : (1 : Int32) = (1 : Int32))).2 ?_
          show Steps p.tables e below (T42.setTop (mkF m 96 #[.val (.int p0), .val (.int p1), .val (.int (1 : Int32)), .val (.ref o1), .val (.int (1 : Int32)), .val (.int (1 : Int32)), .val (.int (0 : Int32)), .val (.ref o4), .val (.int (1 : Int32)), .val (.int (0 : Int32))] [])) _
          refine XS.aload X42.here hx rfl (hb hby at_96) rfl rfl ?_
          show Steps p.tables e below (T42.setTop (mkF m 98 #[.val (.int p0), .val (.int p1), .val (.int (1 : Int32)), .val (.ref o1), .val (.int (1 : Int32)), .val (.int (1 : Int32)), .val (.int (0 : Int32)), .val (.ref o4), .val (.int (1 : Int32)), .val (.int (0 : Int32))] [(.ref o4)])) _
          refine st43.trans ?_
          show Steps p.tables e below (T43.setTop (mkF m 101 #[.val (.int p0), .val (.int p1), .val (.int (1 : Int32)), .val (.ref o1), .val (.int (1 : Int32)), .val (.int (1 : Int32)), .val (.int (0 : Int32)), .val (.ref o4), .val (.int (1 : Int32)), .val (.int (0 : Int32))] [(.int (0 : Int32))])) _
          refine XS.iload X43.here hx rfl (hb hby at_101) rfl ?_
          show Steps p.tables e below (T43.setTop (mkF m 103 #[.val (.int p0), .val (.int p1), .val (.int (1 : Int32)), .val (.ref o1), .val (.int (1 : Int32)), .val (.int (1 : Int32)), .val (.int (0 : Int32)), .val (.ref o4), .val (.int (1 : Int32)), .val (.int (0 : Int32))] [(.int (1 : Int32)), (.int (0 : Int32))])) _
          refine XS.ifYes X43.here hx rfl (pc0 := 103) (pc' := 110) rfl (hb hby at_103) rfl ((if0 _ _).trans (feq (by decide : ¬ ((1 : Int32) = (0 : Int32)))).2) (by decide) (by decide) ?_
          show Steps p.tables e below (T43.setTop (mkF m 110 #[.val (.int p0), .val (.int p1), .val (.int (1 : Int32)), .val (.ref o1), .val (.int (1 : Int32)), .val (.int (1 : Int32)), .val (.int (0 : Int32)), .val (.ref o4), .val (.int (1 : Int32)), .val (.int (0 : Int32))] [(.int (0 : Int32))])) _
          refine XS.iconst X43.here hx rfl (hb hby at_110) ?_
          show Steps p.tables e below (T43.setTop (mkF m 111 #[.val (.int p0), .val (.int p1), .val (.int (1 : Int32)), .val (.ref o1), .val (.int (1 : Int32)), .val (.int (1 : Int32)), .val (.int (0 : Int32)), .val (.ref o4), .val (.int (1 : Int32)), .val (.int (0 : Int32))] [(.int (0 : Int32)), (.int (0 : Int32))])) _
          refine XS.icmpNo X43.here hx rfl (hb hby at_111) rfl (teq (by decide : (0 : Int32) = (0 : Int32))).2 ?_
          show Steps p.tables e below (T43.setTop (mkF m 114 #[.val (.int p0), .val (.int p1), .val (.int (1 : Int32)), .val (.ref o1), .val (.int (1 : Int32)), .val (.int (1 : Int32)), .val (.int (0 : Int32)), .val (.ref o4), .val (.int (1 : Int32)), .val (.int (0 : Int32))] [])) _
          refine XS.iload X43.here hx rfl (hb hby at_114) rfl ?_
          show Steps p.tables e below (T43.setTop (mkF m 116 #[.val (.int p0), .val (.int p1), .val (.int (1 : Int32)), .val (.ref o1), .val (.int (1 : Int32)), .val (.int (1 : Int32)), .val (.int (0 : Int32)), .val (.ref o4), .val (.int (1 : Int32)), .val (.int (0 : Int32))] [(.int (1 : Int32))])) _
          refine XS.ifNo X43.here hx rfl (hb hby at_116) rfl ((if0 _ _).trans (feq (by decide : ¬ ((1 : Int32) = (0 : Int32)))).1) ?_
          show Steps p.tables e below (T43.setTop (mkF m 119 #[.val (.int p0), .val (.int p1), .val (.int (1 : Int32)), .val (.ref o1), .val (.int (1 : Int32)), .val (.int (1 : Int32)), .val (.int (0 : Int32)), .val (.ref o4), .val (.int (1 : Int32)), .val (.int (0 : Int32))] [])) _
          refine XS.iload X43.here hx rfl (hb hby at_119) rfl ?_
          show Steps p.tables e below (T43.setTop (mkF m 121 #[.val (.int p0), .val (.int p1), .val (.int (1 : Int32)), .val (.ref o1), .val (.int (1 : Int32)), .val (.int (1 : Int32)), .val (.int (0 : Int32)), .val (.ref o4), .val (.int (1 : Int32)), .val (.int (0 : Int32))] [(.int (0 : Int32))])) _
          refine XS.ifNo X43.here hx rfl (hb hby at_121) rfl ((if0 _ _).trans (teq (by decide : (0 : Int32) = (0 : Int32))).2) ?_
          show Steps p.tables e below (T43.setTop (mkF m 124 #[.val (.int p0), .val (.int p1), .val (.int (1 : Int32)), .val (.ref o1), .val (.int (1 : Int32)), .val (.int (1 : Int32)), .val (.int (0 : Int32)), .val (.ref o4), .val (.int (1 : Int32)), .val (.int (0 : Int32))] [])) _
          refine XS.iconst X43.here hx rfl (hb hby at_124) ?_
          show Steps p.tables e below (T43.setTop (mkF m 125 #[.val (.int p0), .val (.int p1), .val (.int (1 : Int32)), .val (.ref o1), .val (.int (1 : Int32)), .val (.int (1 : Int32)), .val (.int (0 : Int32)), .val (.ref o4), .val (.int (1 : Int32)), .val (.int (0 : Int32))] [(.int (1 : Int32))])) _
          refine XS.goto X43.here hx rfl (pc0 := 125) (pc' := 129) rfl (hb hby at_125) (by decide) (by decide) ?_
          show Steps p.tables e below (T43.setTop (mkF m 129 #[.val (.int p0), .val (.int p1), .val (.int (1 : Int32)), .val (.ref o1), .val (.int (1 : Int32)), .val (.int (1 : Int32)), .val (.int (0 : Int32)), .val (.ref o4), .val (.int (1 : Int32)), .val (.int (0 : Int32))] [(.int (1 : Int32))])) _
          exact retN X43 hx (t := .boolean) Bd.returns (by simp) (hb hby at_129) hr
        · show Q0 Z p0 p1 o0 o1 o2 o3 o4 o5 o6 o7 h0 n0 _ T43.heap _
          rw [e43]
          exact ⟨rfl, N43⟩
      · obtain ⟨_, _, ⟨T44, L44, k44, n44⟩, -, X44, ⟨Lc44, hQ44, l44, y44, z44⟩, st44⟩ := Jvm.LawKit.callS X25 hx (y := (⟨"com/example/unanimity/unanimity/engine/Outcome", "forced", "(ZZ)Lcom/example/unanimity/unanimity/engine/Outcome;"⟩ : MethodName)) hown (mvT hZ (hw _ (List.mem_of_getElem? (i := 7) rfl))) (mvT hZ (hw _ (List.mem_of_getElem? (i := 8) rfl))) (mvT hZ (hw _ (List.mem_of_getElem? (i := 5) rfl))) (mvT hZ (hw _ (List.mem_of_getElem? (i := 9) rfl))) (by decide) (backOf (W := 0) (rm2 l Z aw hw [] (1 : Int32) (1 : Int32) o0 o1 o2 o3 o4 o5 o6 o7 h0 n0 Z0 S_COMMITTED S_ABORTED S_IN_DOUBT S_UNKNOWN S_FORCED_COMMIT S_FORCED_ABORT S_FORCED_COMMIT_CONFLICT S_FORCED_ABORT_CONFLICT) hZ (hw _ (List.mem_of_getElem? (i := 9) rfl)) (hw _ (List.mem_of_getElem? (i := 5) rfl)) (by decide) (by decide)) (g := (mkF m 72 #[.val (.int p0), .val (.int p1), .val (.int (1 : Int32)), .val (.ref o1), .val (.int (1 : Int32)), .val (.int (1 : Int32)), .val (.int (1 : Int32)), .unset, .unset, .unset] [(.int (1 : Int32)), (.int (1 : Int32))])) rfl (by rw [hml]; rfl) (argsL := [(.int (1 : Int32)), (.int (1 : Int32))]) (rest := []) (lenOf pd_1 rfl) rfl (by show 2 * 0 + _ ≤ _; exact Nat.le_of_eq rfl) (hb hby at_72) (fun _ _ => ⟨rfl, e25, (by decide : 0 + 0 ≤ _), (by decide : 0 + 0 ≤ _)⟩)
        dsimp only [Pt.U, Pt.locs, Pt.cells, Pt.slots] at X44 l44 y44 z44 st44 hQ44
        subst l44 y44 z44
        obtain ⟨hv44, N44q, e44⟩ := hQ44
        rw [show own_forced (1 : Int32) (1 : Int32) o4 o5 o6 o7 = o6 from rfl] at hv44
        subst hv44
        have N44 := Fr.app N25 N44q
        obtain ⟨cq45, kq45, q45a, q45b, q45c⟩ := isOf hZ e44 E1
        obtain ⟨_, _, ⟨T45, L45, k45, n45⟩, -, X45, ⟨Lc45, hQ45, l45, y45, z45⟩, st45⟩ := X44.virtualBack hx (y := (⟨"com/example/unanimity/unanimity/engine/Outcome", "abortedHere", "()Z"⟩ : MethodName)) (z := (⟨"com/example/unanimity/unanimity/engine/Outcome", "abortedHere", "()Z"⟩ : MethodName)) hown (mvT hZ (hw _ (List.mem_of_getElem? (i := 12) rfl))) (mvT hZ (hw _ (List.mem_of_getElem? (i := 13) rfl))) (notFace_of_selects (args := #[]) (mvT hZ (hw _ (List.mem_of_getElem? (i := 15) rfl)))) (mvT hZ (hw _ (List.mem_of_getElem? (i := 15) rfl))) (mvT hZ (hw _ (List.mem_of_getElem? (i := 14) rfl))) (by decide) (backOf (W := 0) (rm3 l Z aw hw [] o1 o0 o1 o2 o3 o4 o5 o6 o7 h0 n0 Z0 S_COMMITTED S_ABORTED S_IN_DOUBT S_UNKNOWN S_FORCED_COMMIT S_FORCED_ABORT S_FORCED_COMMIT_CONFLICT S_FORCED_ABORT_CONFLICT) hZ (hw _ (List.mem_of_getElem? (i := 16) rfl)) (hw _ (List.mem_of_getElem? (i := 5) rfl)) (by decide) (by decide)) q45a q45c (g := (mkF m 78 #[.val (.int p0), .val (.int p1), .val (.int (1 : Int32)), .val (.ref o1), .val (.int (1 : Int32)), .val (.int (1 : Int32)), .val (.int (1 : Int32)), .val (.ref o6), .unset, .unset] [(.ref o1)])) rfl (by rw [hml]; rfl) (Steps.refl _) (argsL := []) (rest := []) (lenOf pd_2 rfl) rfl (by show 2 * 0 + _ ≤ _; exact Nat.le_of_eq rfl) (hb hby at_78) (fun _ _ => ⟨rfl, e44, (by decide : 0 + 0 ≤ _), (by decide : 0 + 0 ≤ _)⟩)
        dsimp only [Pt.U, Pt.locs, Pt.cells, Pt.slots] at X45 l45 y45 z45 st45 hQ45
        subst l45 y45 z45
        obtain ⟨hv45, N45q, e45⟩ := hQ45
        rw [own_three_hit1] at hv45
        subst hv45
        have N45 := Fr.app N44 N45q
        obtain ⟨cq46, kq46, q46a, q46b, q46c⟩ := isOf hZ e45 E1
        obtain ⟨_, _, ⟨T46, L46, k46, n46⟩, -, X46, ⟨Lc46, hQ46, l46, y46, z46⟩, st46⟩ := X45.virtualBack hx (y := (⟨"com/example/unanimity/unanimity/engine/Outcome", "committedHere", "()Z"⟩ : MethodName)) (z := (⟨"com/example/unanimity/unanimity/engine/Outcome", "committedHere", "()Z"⟩ : MethodName)) hown (mvT hZ (hw _ (List.mem_of_getElem? (i := 23) rfl))) (mvT hZ (hw _ (List.mem_of_getElem? (i := 24) rfl))) (notFace_of_selects (args := #[]) (mvT hZ (hw _ (List.mem_of_getElem? (i := 26) rfl)))) (mvT hZ (hw _ (List.mem_of_getElem? (i := 26) rfl))) (mvT hZ (hw _ (List.mem_of_getElem? (i := 25) rfl))) (by decide) (backOf (W := 0) (rm4 l Z aw hw [] o1 o0 o1 o2 o3 o4 o5 o6 o7 h0 n0 Z0 S_COMMITTED S_ABORTED S_IN_DOUBT S_UNKNOWN S_FORCED_COMMIT S_FORCED_ABORT S_FORCED_COMMIT_CONFLICT S_FORCED_ABORT_CONFLICT) hZ (hw _ (List.mem_of_getElem? (i := 27) rfl)) (hw _ (List.mem_of_getElem? (i := 5) rfl)) (by decide) (by decide)) q46a q46c (g := (mkF m 84 #[.val (.int p0), .val (.int p1), .val (.int (1 : Int32)), .val (.ref o1), .val (.int (1 : Int32)), .val (.int (1 : Int32)), .val (.int (1 : Int32)), .val (.ref o6), .val (.int (1 : Int32)), .unset] [(.ref o1)])) rfl (by rw [hml]; rfl) (Steps.refl _) (argsL := []) (rest := []) (lenOf pd_2 rfl) rfl (by show 2 * 0 + _ ≤ _; exact Nat.le_of_eq rfl) (hb hby at_84) (fun _ _ => ⟨rfl, e45, (by decide : 0 + 0 ≤ _), (by decide : 0 + 0 ≤ _)⟩)
        dsimp only [Pt.U, Pt.locs, Pt.cells, Pt.slots] at X46 l46 y46 z46 st46 hQ46
        subst l46 y46 z46
        obtain ⟨hv46, N46q, e46⟩ := hQ46
        rw [own_three_no (Ne.symm d0_1) d1_4 d1_6] at hv46
        subst hv46
        have N46 := Fr.app N45 N46q
        obtain ⟨cq47, kq47, q47a, q47b, q47c⟩ := isOf hZ e46 E6
        obtain ⟨_, _, ⟨T47, L47, k47, n47⟩, -, X47, ⟨Lc47, hQ47, l47, y47, z47⟩, st47⟩ := X46.virtualBack hx (y := (⟨"com/example/unanimity/unanimity/engine/Outcome", "abortedHere", "()Z"⟩ : MethodName)) (z := (⟨"com/example/unanimity/unanimity/engine/Outcome", "abortedHere", "()Z"⟩ : MethodName)) hown (mvT hZ (hw _ (List.mem_of_getElem? (i := 12) rfl))) (mvT hZ (hw _ (List.mem_of_getElem? (i := 13) rfl))) (notFace_of_selects (args := #[]) (mvT hZ (hw _ (List.mem_of_getElem? (i := 15) rfl)))) (mvT hZ (hw _ (List.mem_of_getElem? (i := 15) rfl))) (mvT hZ (hw _ (List.mem_of_getElem? (i := 14) rfl))) (by decide) (backOf (W := 0) (rm3 l Z aw hw [] o6 o0 o1 o2 o3 o4 o5 o6 o7 h0 n0 Z0 S_COMMITTED S_ABORTED S_IN_DOUBT S_UNKNOWN S_FORCED_COMMIT S_FORCED_ABORT S_FORCED_COMMIT_CONFLICT S_FORCED_ABORT_CONFLICT) hZ (hw _ (List.mem_of_getElem? (i := 16) rfl)) (hw _ (List.mem_of_getElem? (i := 5) rfl)) (by decide) (by decide)) q47a q47c (g := (mkF m 98 #[.val (.int p0), .val (.int p1), .val (.int (1 : Int32)), .val (.ref o1), .val (.int (1 : Int32)), .val (.int (1 : Int32)), .val (.int (1 : Int32)), .val (.ref o6), .val (.int (1 : Int32)), .val (.int (0 : Int32))] [(.ref o6)])) rfl (by rw [hml]; rfl) (Steps.refl _) (argsL := []) (rest := []) (lenOf pd_2 rfl) rfl (by show 2 * 0 + _ ≤ _; exact Nat.le_of_eq rfl) (hb hby at_98) (fun _ _ => ⟨rfl, e46, (by decide : 0 + 0 ≤ _), (by decide : 0 + 0 ≤ _)⟩)
        dsimp only [Pt.U, Pt.locs, Pt.cells, Pt.slots] at X47 l47 y47 z47 st47 hQ47
        subst l47 y47 z47
        obtain ⟨hv47, N47q, e47⟩ := hQ47
        rw [own_three_no (Ne.symm d1_6) (Ne.symm d5_6) d6_7] at hv47
        subst hv47
        have N47 := Fr.app N46 N47q
        obtain ⟨fs, hr, hrun, hended, hW, hsame⟩ := X47.leave (v := some (.int (1 : Int32))) (fun h => by rw [Bd.returns] at h; cases h)
        refine ⟨_, _, pre38 _ ?_, hrun, hended, _, _, rfl, ?_, ⟨_, rfl⟩, hW, hsame.mono (by decide) (by decide)⟩
        · show Steps p.tables e below (T25.setTop (mkF m 58 #[.val (.int p0), .val (.int p1), .val (.int (1 : Int32)), .val (.ref o1), .val (.int (1 : Int32)), .val (.int (1 : Int32)), .unset, .unset, .unset, .unset] [(.int (p1 &&& (2 : Int32)))])) _
          refine XS.ifNo X25.here hx rfl (hb hby at_58) rfl ((if0 _ _).trans (feq hc39).1) ?_
          show Steps p.tables e below (T25.setTop (mkF m 61 #[.val (.int p0), .val (.int p1), .val (.int (1 : Int32)), .val (.ref o1), .val (.int (1 : Int32)), .val (.int (1 : Int32)), .unset, .unset, .unset, .unset] [])) _
          refine XS.iconst X25.here hx rfl (hb hby at_61) ?_
          show Steps p.tables e below (T25.setTop (mkF m 62 #[.val (.int p0), .val (.int p1), .val (.int (1 : Int32)), .val (.ref o1), .val (.int (1 : Int32)), .val (.int (1 : Int32)), .unset, .unset, .unset, .unset] [(.int (1 : Int32))])) _
          refine XS.goto X25.here hx rfl (pc0 := 62) (pc' := 66) rfl (hb hby at_62) (by decide) (by decide) ?_
          show Steps p.tables e below (T25.setTop (mkF m 66 #[.val (.int p0), .val (.int p1), .val (.int (1 : Int32)), .val (.ref o1), .val (.int (1 : Int32)), .val (.int (1 : Int32)), .unset, .unset, .unset, .unset] [(.int (1 : Int32))])) _
          refine XS.istore X25.here hx rfl (hb hby at_66) rfl (l' := #[.val (.int p0), .val (.int p1), .val (.int (1 : Int32)), .val (.ref o1), .val (.int (1 : Int32)), .val (.int (1 : Int32)), .val (.int (1 : Int32)), .unset, .unset, .unset]) rfl ?_
          show Steps p.tables e below (T25.setTop (mkF m 68 #[.val (.int p0), .val (.int p1), .val (.int (1 : Int32)), .val (.ref o1), .val (.int (1 : Int32)), .val (.int (1 : Int32)), .val (.int (1 : Int32)), .unset, .unset, .unset] [])) _
          refine XS.iload X25.here hx rfl (hb hby at_68) rfl ?_
          show Steps p.tables e below (T25.setTop (mkF m 70 #[.val (.int p0), .val (.int p1), .val (.int (1 : Int32)), .val (.ref o1), .val (.int (1 : Int32)), .val (.int (1 : Int32)), .val (.int (1 : Int32)), .unset, .unset, .unset] [(.int (1 : Int32))])) _
          refine XS.iload X25.here hx rfl (hb hby at_70) rfl ?_
          show Steps p.tables e below (T25.setTop (mkF m 72 #[.val (.int p0), .val (.int p1), .val (.int (1 : Int32)), .val (.ref o1), .val (.int (1 : Int32)), .val (.int (1 : Int32)), .val (.int (1 : Int32)), .unset, .unset, .unset] [(.int (1 : Int32)), (.int (1 : Int32))])) _
          refine st44 _ ?_
          show Steps p.tables e below (T44.setTop (mkF m 75 #[.val (.int p0), .val (.int p1), .val (.int (1 : Int32)), .val (.ref o1), .val (.int (1 : Int32)), .val (.int (1 : Int32)), .val (.int (1 : Int32)), .unset, .unset, .unset] [(.ref o6)])) _
          refine XS.astore X44.here hx rfl (hb hby at_75) rfl rfl (l' := #[.val (.int p0), .val (.int p1), .val (.int (1 : Int32)), .val (.ref o1), .val (.int (1 : Int32)), .val (.int (1 : Int32)), .val (.int (1 : Int32)), .val (.ref o6), .unset, .unset]) rfl ?_
          show Steps p.tables e below (T44.setTop (mkF m 77 #[.val (.int p0), .val (.int p1), .val (.int (1 : Int32)), .val (.ref o1), .val (.int (1 : Int32)), .val (.int (1 : Int32)), .val (.int (1 : Int32)), .val (.ref o6), .unset, .unset] [])) _
          refine XS.aloadN X44.here hx rfl (hb hby at_77) rfl rfl ?_
          show Steps p.tables e below (T44.setTop (mkF m 78 #[.val (.int p0), .val (.int p1), .val (.int (1 : Int32)), .val (.ref o1), .val (.int (1 : Int32)), .val (.int (1 : Int32)), .val (.int (1 : Int32)), .val (.ref o6), .unset, .unset] [(.ref o1)])) _
          refine st45.trans ?_
          show Steps p.tables e below (T45.setTop (mkF m 81 #[.val (.int p0), .val (.int p1), .val (.int (1 : Int32)), .val (.ref o1), .val (.int (1 : Int32)), .val (.int (1 : Int32)), .val (.int (1 : Int32)), .val (.ref o6), .unset, .unset] [(.int (1 : Int32))])) _
          refine XS.istore X45.here hx rfl (hb hby at_81) rfl (l' := #[.val (.int p0), .val (.int p1), .val (.int (1 : Int32)), .val (.ref o1), .val (.int (1 : Int32)), .val (.int (1 : Int32)), .val (.int (1 : Int32)), .val (.ref o6), .val (.int (1 : Int32)), .unset]) rfl ?_
          show Steps p.tables e below (T45.setTop (mkF m 83 #[.val (.int p0), .val (.int p1), .val (.int (1 : Int32)), .val (.ref o1), .val (.int (1 : Int32)), .val (.int (1 : Int32)), .val (.int (1 : Int32)), .val (.ref o6), .val (.int (1 : Int32)), .unset] [])) _
          refine XS.aloadN X45.here hx rfl (hb hby at_83) rfl rfl ?_
          show Steps p.tables e below (T45.setTop (mkF m 84 #[.val (.int p0), .val (.int p1), .val (.int (1 : Int32)), .val (.ref o1), .val (.int (1 : Int32)), .val (.int (1 : Int32)), .val (.int (1 : Int32)), .val (.ref o6), .val (.int (1 : Int32)), .unset] [(.ref o1)])) _
          refine st46.trans ?_
          show Steps p.tables e below (T46.setTop (mkF m 87 #[.val (.int p0), .val (.int p1), .val (.int (1 : Int32)), .val (.ref o1), .val (.int (1 : Int32)), .val (.int (1 : Int32)), .val (.int (1 : Int32)), .val (.ref o6), .val (.int (1 : Int32)), .unset] [(.int (0 : Int32))])) _
          refine XS.istore X46.here hx rfl (hb hby at_87) rfl (l' := #[.val (.int p0), .val (.int p1), .val (.int (1 : Int32)), .val (.ref o1), .val (.int (1 : Int32)), .val (.int (1 : Int32)), .val (.int (1 : Int32)), .val (.ref o6), .val (.int (1 : Int32)), .val (.int (0 : Int32))]) rfl ?_
          show Steps p.tables e below (T46.setTop (mkF m 89 #[.val (.int p0), .val (.int p1), .val (.int (1 : Int32)), .val (.ref o1), .val (.int (1 : Int32)), .val (.int (1 : Int32)), .val (.int (1 : Int32)), .val (.ref o6), .val (.int (1 : Int32)), .val (.int (0 : Int32))] [])) _
          refine XS.iload X46.here hx rfl (hb hby at_89) rfl ?_
          show Steps p.tables e below (T46.setTop (mkF m 91 #[.val (.int p0), .val (.int p1), .val (.int (1 : Int32)), .val (.ref o1), .val (.int (1 : Int32)), .val (.int (1 : Int32)), .val (.int (1 : Int32)), .val (.ref o6), .val (.int (1 : Int32)), .val (.int (0 : Int32))] [(.int (1 : Int32))])) _
          refine XS.iload X46.here hx rfl (hb hby at_91) rfl ?_
          show Steps p.tables e below (T46.setTop (mkF m 93 #[.val (.int p0), .val (.int p1), .val (.int (1 : Int32)), .val (.ref o1), .val (.int (1 : Int32)), .val (.int (1 : Int32)), .val (.int (1 : Int32)), .val (.ref o6), .val (.int (1 : Int32)), .val (.int (0 : Int32))] [(.int (1 : Int32)), (.int (1 : Int32))])) _
          refine XS.icmpNo X46.here hx rfl (hb hby at_93) rfl (teq (by decide : (1 : Int32) = (1 : Int32))).2 ?_
          show Steps p.tables e below (T46.setTop (mkF m 96 #[.val (.int p0), .val (.int p1), .val (.int (1 : Int32)), .val (.ref o1), .val (.int (1 : Int32)), .val (.int (1 : Int32)), .val (.int (1 : Int32)), .val (.ref o6), .val (.int (1 : Int32)), .val (.int (0 : Int32))] [])) _
          refine XS.aload X46.here hx rfl (hb hby at_96) rfl rfl ?_
          show Steps p.tables e below (T46.setTop (mkF m 98 #[.val (.int p0), .val (.int p1), .val (.int (1 : Int32)), .val (.ref o1), .val (.int (1 : Int32)), .val (.int (1 : Int32)), .val (.int (1 : Int32)), .val (.ref o6), .val (.int (1 : Int32)), .val (.int (0 : Int32))] [(.ref o6)])) _
          refine st47.trans ?_
          show Steps p.tables e below (T47.setTop (mkF m 101 #[.val (.int p0), .val (.int p1), .val (.int (1 : Int32)), .val (.ref o1), .val (.int (1 : Int32)), .val (.int (1 : Int32)), .val (.int (1 : Int32)), .val (.ref o6), .val (.int (1 : Int32)), .val (.int (0 : Int32))] [(.int (0 : Int32))])) _
          refine XS.iload X47.here hx rfl (hb hby at_101) rfl ?_
          show Steps p.tables e below (T47.setTop (mkF m 103 #[.val (.int p0), .val (.int p1), .val (.int (1 : Int32)), .val (.ref o1), .val (.int (1 : Int32)), .val (.int (1 : Int32)), .val (.int (1 : Int32)), .val (.ref o6), .val (.int (1 : Int32)), .val (.int (0 : Int32))] [(.int (1 : Int32)), (.int (0 : Int32))])) _
          refine XS.ifYes X47.here hx rfl (pc0 := 103) (pc' := 110) rfl (hb hby at_103) rfl ((if0 _ _).trans (feq (by decide : ¬ ((1 : Int32) = (0 : Int32)))).2) (by decide) (by decide) ?_
          show Steps p.tables e below (T47.setTop (mkF m 110 #[.val (.int p0), .val (.int p1), .val (.int (1 : Int32)), .val (.ref o1), .val (.int (1 : Int32)), .val (.int (1 : Int32)), .val (.int (1 : Int32)), .val (.ref o6), .val (.int (1 : Int32)), .val (.int (0 : Int32))] [(.int (0 : Int32))])) _
          refine XS.iconst X47.here hx rfl (hb hby at_110) ?_
          show Steps p.tables e below (T47.setTop (mkF m 111 #[.val (.int p0), .val (.int p1), .val (.int (1 : Int32)), .val (.ref o1), .val (.int (1 : Int32)), .val (.int (1 : Int32)), .val (.int (1 : Int32)), .val (.ref o6), .val (.int (1 : Int32)), .val (.int (0 : Int32))] [(.int (0 : Int32)), (.int (0 : Int32))])) _
          refine XS.icmpNo X47.here hx rfl (hb hby at_111) rfl (teq (by decide : (0 : Int32) = (0 : Int32))).2 ?_
          show Steps p.tables e below (T47.setTop (mkF m 114 #[.val (.int p0), .val (.int p1), .val (.int (1 : Int32)), .val (.ref o1), .val (.int (1 : Int32)), .val (.int (1 : Int32)), .val (.int (1 : Int32)), .val (.ref o6), .val (.int (1 : Int32)), .val (.int (0 : Int32))] [])) _
          refine XS.iload X47.here hx rfl (hb hby at_114) rfl ?_
          show Steps p.tables e below (T47.setTop (mkF m 116 #[.val (.int p0), .val (.int p1), .val (.int (1 : Int32)), .val (.ref o1), .val (.int (1 : Int32)), .val (.int (1 : Int32)), .val (.int (1 : Int32)), .val (.ref o6), .val (.int (1 : Int32)), .val (.int (0 : Int32))] [(.int (1 : Int32))])) _
          refine XS.ifNo X47.here hx rfl (hb hby at_116) rfl ((if0 _ _).trans (feq (by decide : ¬ ((1 : Int32) = (0 : Int32)))).1) ?_
          show Steps p.tables e below (T47.setTop (mkF m 119 #[.val (.int p0), .val (.int p1), .val (.int (1 : Int32)), .val (.ref o1), .val (.int (1 : Int32)), .val (.int (1 : Int32)), .val (.int (1 : Int32)), .val (.ref o6), .val (.int (1 : Int32)), .val (.int (0 : Int32))] [])) _
          refine XS.iload X47.here hx rfl (hb hby at_119) rfl ?_
          show Steps p.tables e below (T47.setTop (mkF m 121 #[.val (.int p0), .val (.int p1), .val (.int (1 : Int32)), .val (.ref o1), .val (.int (1 : Int32)), .val (.int (1 : Int32)), .val (.int (1 : Int32)), .val (.ref o6), .val (.int (1 : Int32)), .val (.int (0 : Int32))] [(.int (0 : Int32))])) _
          refine XS.ifNo X47.here hx rfl (hb hby at_121) rfl ((if0 _ _).trans (teq (by decide : (0 : Int32) = (0 : Int32))).2) ?_
          show Steps p.tables e below (T47.setTop (mkF m 124 #[.val (.int p0), .val (.int p1), .val (.int (1 : Int32)), .val (.ref o1), .val (.int (1 : Int32)), .val (.int (1 : Int32)), .val (.int (1 : Int32)), .val (.ref o6), .val (.int (1 : Int32)), .val (.int (0 : Int32))] [])) _
          refine XS.iconst X47.here hx rfl (hb hby at_124) ?_
          show Steps p.tables e below (T47.setTop (mkF m 125 #[.val (.int p0), .val (.int p1), .val (.int (1 : Int32)), .val (.ref o1), .val (.int (1 : Int32)), .val (.int (1 : Int32)), .val (.int (1 : Int32)), .val (.ref o6), .val (.int (1 : Int32)), .val (.int (0 : Int32))] [(.int (1 : Int32))])) _
          refine XS.goto X47.here hx rfl (pc0 := 125) (pc' := 129) rfl (hb hby at_125) (by decide) (by decide) ?_
          show Steps p.tables e below (T47.setTop (mkF m 129 #[.val (.int p0), .val (.int p1), .val (.int (1 : Int32)), .val (.ref o1), .val (.int (1 : Int32)), .val (.int (1 : Int32)), .val (.int (1 : Int32)), .val (.ref o6), .val (.int (1 : Int32)), .val (.int (0 : Int32))] [(.int (1 : Int32))])) _
          exact retN X47 hx (t := .boolean) Bd.returns (by simp) (hb hby at_129) hr
        · show Q0 Z p0 p1 o0 o1 o2 o3 o4 o5 o6 o7 h0 n0 _ T47.heap _
          rw [e47]
          exact ⟨rfl, N47⟩
  · obtain ⟨_, _, ⟨T48, L48, k48, n48⟩, -, X48, ⟨Lc48, hQ48, l48, y48, z48⟩, st48⟩ := Jvm.LawKit.callS X0 hx (y := (⟨"com/example/unanimity/unanimity/engine/OutcomeAbortedHerePinLaw", "pick", "(I)Lcom/example/unanimity/unanimity/engine/Outcome;"⟩ : MethodName)) hown (mvT hZ (hw _ (List.mem_of_getElem? (i := 0) rfl))) (mvT hZ (hw _ (List.mem_of_getElem? (i := 1) rfl))) (mvT hZ (hw _ (List.mem_of_getElem? (i := 2) rfl))) (mvT hZ (hw _ (List.mem_of_getElem? (i := 3) rfl))) (by decide) (backOf (W := 0) (rm1 l Z aw hw [] (2 : Int32) o0 o1 o2 o3 o4 o5 o6 o7 h0 n0 Z0 S_COMMITTED S_ABORTED S_IN_DOUBT S_UNKNOWN S_FORCED_COMMIT S_FORCED_ABORT S_FORCED_COMMIT_CONFLICT S_FORCED_ABORT_CONFLICT) hZ (hw _ (List.mem_of_getElem? (i := 3) rfl)) (hw _ (List.mem_of_getElem? (i := 2) rfl)) (by decide) (by decide)) (g := (mkF m 6 #[.val (.int p0), .val (.int p1), .val (.int (2 : Int32)), .unset, .unset, .unset, .unset, .unset, .unset, .unset] [(.int (2 : Int32))])) rfl (by rw [hml]; rfl) (argsL := [(.int (2 : Int32))]) (rest := []) (lenOf pd_0 rfl) rfl (by show 2 * 0 + _ ≤ _; exact Nat.le_of_eq rfl) (hb hby at_6) (fun _ _ => ⟨rfl, e0, (by decide : 0 + 0 ≤ _), (by decide : 0 + 0 ≤ _)⟩)
    dsimp only [Pt.U, Pt.locs, Pt.cells, Pt.slots] at X48 l48 y48 z48 st48 hQ48
    subst l48 y48 z48
    obtain ⟨hv48, N48q, e48⟩ := hQ48
    rw [show own_pick (2 : Int32) o0 o1 o2 o3 o4 o5 o6 o7 = o2 from rfl] at hv48
    subst hv48
    have N48 := Fr.app N0 N48q
    have pre49 : ∀ t, Steps p.tables e below (T48.setTop (mkF m 45 #[.val (.int p0), .val (.int p1), .val (.int (2 : Int32)), .val (.ref o2), .val (.int (0 : Int32)), .unset, .unset, .unset, .unset, .unset] [(.int (p1 &&& (1 : Int32)))])) t → Steps p.tables e below (s₁.setTop (entryFrame m #[(.int p0), (.int p1)] maxLocals)) t := fun t k => by
      refine pre1 t ?_
      show Steps p.tables e below (s₁.setTop (mkF m 5 #[.val (.int p0), .val (.int p1), .val (.int (2 : Int32)), .unset, .unset, .unset, .unset, .unset, .unset, .unset] [])) _
      refine XS.iloadN X0.here hx rfl (hb hby at_5) rfl ?_
      show Steps p.tables e below (s₁.setTop (mkF m 6 #[.val (.int p0), .val (.int p1), .val (.int (2 : Int32)), .unset, .unset, .unset, .unset, .unset, .unset, .unset] [(.int (2 : Int32))])) _
      refine st48 _ ?_
      show Steps p.tables e below (T48.setTop (mkF m 9 #[.val (.int p0), .val (.int p1), .val (.int (2 : Int32)), .unset, .unset, .unset, .unset, .unset, .unset, .unset] [(.ref o2)])) _
      refine XS.astoreN X48.here hx rfl (hb hby at_9) rfl rfl (l' := #[.val (.int p0), .val (.int p1), .val (.int (2 : Int32)), .val (.ref o2), .unset, .unset, .unset, .unset, .unset, .unset]) rfl ?_
      show Steps p.tables e below (T48.setTop (mkF m 10 #[.val (.int p0), .val (.int p1), .val (.int (2 : Int32)), .val (.ref o2), .unset, .unset, .unset, .unset, .unset, .unset] [])) _
      refine XS.iloadN X48.here hx rfl (hb hby at_10) rfl ?_
      show Steps p.tables e below (T48.setTop (mkF m 11 #[.val (.int p0), .val (.int p1), .val (.int (2 : Int32)), .val (.ref o2), .unset, .unset, .unset, .unset, .unset, .unset] [(.int (2 : Int32))])) _
      refine XS.iconst X48.here hx rfl (hb hby at_11) ?_
      show Steps p.tables e below (T48.setTop (mkF m 12 #[.val (.int p0), .val (.int p1), .val (.int (2 : Int32)), .val (.ref o2), .unset, .unset, .unset, .unset, .unset, .unset] [(.int (4 : Int32)), (.int (2 : Int32))])) _
      refine XS.icmpNo X48.here hx rfl (hb hby at_12) rfl (tlt (by decide : (2 : Int32) < (4 : Int32))).2.1 ?_
      show Steps p.tables e below (T48.setTop (mkF m 15 #[.val (.int p0), .val (.int p1), .val (.int (2 : Int32)), .val (.ref o2), .unset, .unset, .unset, .unset, .unset, .unset] [])) _
      refine XS.iloadN X48.here hx rfl (hb hby at_15) rfl ?_
      show Steps p.tables e below (T48.setTop (mkF m 16 #[.val (.int p0), .val (.int p1), .val (.int (2 : Int32)), .val (.ref o2), .unset, .unset, .unset, .unset, .unset, .unset] [(.int (2 : Int32))])) _
      refine XS.iconst X48.here hx rfl (hb hby at_16) ?_
      show Steps p.tables e below (T48.setTop (mkF m 17 #[.val (.int p0), .val (.int p1), .val (.int (2 : Int32)), .val (.ref o2), .unset, .unset, .unset, .unset, .unset, .unset] [(.int (1 : Int32)), (.int (2 : Int32))])) _
      refine XS.icmpYes X48.here hx rfl (pc0 := 17) (pc' := 24) rfl (hb hby at_17) rfl (feq (by decide : ¬ ((2 : Int32) = (1 : Int32)))).2 (by decide) (by decide) ?_
      show Steps p.tables e below (T48.setTop (mkF m 24 #[.val (.int p0), .val (.int p1), .val (.int (2 : Int32)), .val (.ref o2), .unset, .unset, .unset, .unset, .unset, .unset] [])) _
      refine XS.iconst X48.here hx rfl (hb hby at_24) ?_
      show Steps p.tables e below (T48.setTop (mkF m 25 #[.val (.int p0), .val (.int p1), .val (.int (2 : Int32)), .val (.ref o2), .unset, .unset, .unset, .unset, .unset, .unset] [(.int (0 : Int32))])) _
      refine XS.goto X48.here hx rfl (pc0 := 25) (pc' := 40) rfl (hb hby at_25) (by decide) (by decide) ?_
      show Steps p.tables e below (T48.setTop (mkF m 40 #[.val (.int p0), .val (.int p1), .val (.int (2 : Int32)), .val (.ref o2), .unset, .unset, .unset, .unset, .unset, .unset] [(.int (0 : Int32))])) _
      refine XS.istore X48.here hx rfl (hb hby at_40) rfl (l' := #[.val (.int p0), .val (.int p1), .val (.int (2 : Int32)), .val (.ref o2), .val (.int (0 : Int32)), .unset, .unset, .unset, .unset, .unset]) rfl ?_
      show Steps p.tables e below (T48.setTop (mkF m 42 #[.val (.int p0), .val (.int p1), .val (.int (2 : Int32)), .val (.ref o2), .val (.int (0 : Int32)), .unset, .unset, .unset, .unset, .unset] [])) _
      refine XS.iloadN X48.here hx rfl (hb hby at_42) rfl ?_
      show Steps p.tables e below (T48.setTop (mkF m 43 #[.val (.int p0), .val (.int p1), .val (.int (2 : Int32)), .val (.ref o2), .val (.int (0 : Int32)), .unset, .unset, .unset, .unset, .unset] [(.int p1)])) _
      refine XS.iconst X48.here hx rfl (hb hby at_43) ?_
      show Steps p.tables e below (T48.setTop (mkF m 44 #[.val (.int p0), .val (.int p1), .val (.int (2 : Int32)), .val (.ref o2), .val (.int (0 : Int32)), .unset, .unset, .unset, .unset, .unset] [(.int (1 : Int32)), (.int p1)])) _
      refine XS.iand X48.here hx rfl (hb hby at_44) rfl ?_
      exact k
    by_cases hc50 : (p1 &&& (1 : Int32)) = (0 : Int32)
    · have pre51 : ∀ t, Steps p.tables e below (T48.setTop (mkF m 58 #[.val (.int p0), .val (.int p1), .val (.int (2 : Int32)), .val (.ref o2), .val (.int (0 : Int32)), .val (.int (0 : Int32)), .unset, .unset, .unset, .unset] [(.int (p1 &&& (2 : Int32)))])) t → Steps p.tables e below (s₁.setTop (entryFrame m #[(.int p0), (.int p1)] maxLocals)) t := fun t k => by
        refine pre49 t ?_
        show Steps p.tables e below (T48.setTop (mkF m 45 #[.val (.int p0), .val (.int p1), .val (.int (2 : Int32)), .val (.ref o2), .val (.int (0 : Int32)), .unset, .unset, .unset, .unset, .unset] [(.int (p1 &&& (1 : Int32)))])) _
        refine XS.ifYes X48.here hx rfl (pc0 := 45) (pc' := 52) rfl (hb hby at_45) rfl ((if0 _ _).trans (teq hc50).1) (by decide) (by decide) ?_
        show Steps p.tables e below (T48.setTop (mkF m 52 #[.val (.int p0), .val (.int p1), .val (.int (2 : Int32)), .val (.ref o2), .val (.int (0 : Int32)), .unset, .unset, .unset, .unset, .unset] [])) _
        refine XS.iconst X48.here hx rfl (hb hby at_52) ?_
        show Steps p.tables e below (T48.setTop (mkF m 53 #[.val (.int p0), .val (.int p1), .val (.int (2 : Int32)), .val (.ref o2), .val (.int (0 : Int32)), .unset, .unset, .unset, .unset, .unset] [(.int (0 : Int32))])) _
        refine XS.istore X48.here hx rfl (hb hby at_53) rfl (l' := #[.val (.int p0), .val (.int p1), .val (.int (2 : Int32)), .val (.ref o2), .val (.int (0 : Int32)), .val (.int (0 : Int32)), .unset, .unset, .unset, .unset]) rfl ?_
        show Steps p.tables e below (T48.setTop (mkF m 55 #[.val (.int p0), .val (.int p1), .val (.int (2 : Int32)), .val (.ref o2), .val (.int (0 : Int32)), .val (.int (0 : Int32)), .unset, .unset, .unset, .unset] [])) _
        refine XS.iloadN X48.here hx rfl (hb hby at_55) rfl ?_
        show Steps p.tables e below (T48.setTop (mkF m 56 #[.val (.int p0), .val (.int p1), .val (.int (2 : Int32)), .val (.ref o2), .val (.int (0 : Int32)), .val (.int (0 : Int32)), .unset, .unset, .unset, .unset] [(.int p1)])) _
        refine XS.iconst X48.here hx rfl (hb hby at_56) ?_
        show Steps p.tables e below (T48.setTop (mkF m 57 #[.val (.int p0), .val (.int p1), .val (.int (2 : Int32)), .val (.ref o2), .val (.int (0 : Int32)), .val (.int (0 : Int32)), .unset, .unset, .unset, .unset] [(.int (2 : Int32)), (.int p1)])) _
        refine XS.iand X48.here hx rfl (hb hby at_57) rfl ?_
        exact k
      by_cases hc52 : (p1 &&& (2 : Int32)) = (0 : Int32)
      · obtain ⟨_, _, ⟨T53, L53, k53, n53⟩, -, X53, ⟨Lc53, hQ53, l53, y53, z53⟩, st53⟩ := Jvm.LawKit.callS X48 hx (y := (⟨"com/example/unanimity/unanimity/engine/Outcome", "forced", "(ZZ)Lcom/example/unanimity/unanimity/engine/Outcome;"⟩ : MethodName)) hown (mvT hZ (hw _ (List.mem_of_getElem? (i := 7) rfl))) (mvT hZ (hw _ (List.mem_of_getElem? (i := 8) rfl))) (mvT hZ (hw _ (List.mem_of_getElem? (i := 5) rfl))) (mvT hZ (hw _ (List.mem_of_getElem? (i := 9) rfl))) (by decide) (backOf (W := 0) (rm2 l Z aw hw [] (0 : Int32) (0 : Int32) o0 o1 o2 o3 o4 o5 o6 o7 h0 n0 Z0 S_COMMITTED S_ABORTED S_IN_DOUBT S_UNKNOWN S_FORCED_COMMIT S_FORCED_ABORT S_FORCED_COMMIT_CONFLICT S_FORCED_ABORT_CONFLICT) hZ (hw _ (List.mem_of_getElem? (i := 9) rfl)) (hw _ (List.mem_of_getElem? (i := 5) rfl)) (by decide) (by decide)) (g := (mkF m 72 #[.val (.int p0), .val (.int p1), .val (.int (2 : Int32)), .val (.ref o2), .val (.int (0 : Int32)), .val (.int (0 : Int32)), .val (.int (0 : Int32)), .unset, .unset, .unset] [(.int (0 : Int32)), (.int (0 : Int32))])) rfl (by rw [hml]; rfl) (argsL := [(.int (0 : Int32)), (.int (0 : Int32))]) (rest := []) (lenOf pd_1 rfl) rfl (by show 2 * 0 + _ ≤ _; exact Nat.le_of_eq rfl) (hb hby at_72) (fun _ _ => ⟨rfl, e48, (by decide : 0 + 0 ≤ _), (by decide : 0 + 0 ≤ _)⟩)
        dsimp only [Pt.U, Pt.locs, Pt.cells, Pt.slots] at X53 l53 y53 z53 st53 hQ53
        subst l53 y53 z53
        obtain ⟨hv53, N53q, e53⟩ := hQ53
        rw [show own_forced (0 : Int32) (0 : Int32) o4 o5 o6 o7 = o5 from rfl] at hv53
        subst hv53
        have N53 := Fr.app N48 N53q
        obtain ⟨cq54, kq54, q54a, q54b, q54c⟩ := isOf hZ e53 E2
        obtain ⟨_, _, ⟨T54, L54, k54, n54⟩, -, X54, ⟨Lc54, hQ54, l54, y54, z54⟩, st54⟩ := X53.virtualBack hx (y := (⟨"com/example/unanimity/unanimity/engine/Outcome", "abortedHere", "()Z"⟩ : MethodName)) (z := (⟨"com/example/unanimity/unanimity/engine/Outcome", "abortedHere", "()Z"⟩ : MethodName)) hown (mvT hZ (hw _ (List.mem_of_getElem? (i := 12) rfl))) (mvT hZ (hw _ (List.mem_of_getElem? (i := 13) rfl))) (notFace_of_selects (args := #[]) (mvT hZ (hw _ (List.mem_of_getElem? (i := 15) rfl)))) (mvT hZ (hw _ (List.mem_of_getElem? (i := 15) rfl))) (mvT hZ (hw _ (List.mem_of_getElem? (i := 14) rfl))) (by decide) (backOf (W := 0) (rm3 l Z aw hw [] o2 o0 o1 o2 o3 o4 o5 o6 o7 h0 n0 Z0 S_COMMITTED S_ABORTED S_IN_DOUBT S_UNKNOWN S_FORCED_COMMIT S_FORCED_ABORT S_FORCED_COMMIT_CONFLICT S_FORCED_ABORT_CONFLICT) hZ (hw _ (List.mem_of_getElem? (i := 16) rfl)) (hw _ (List.mem_of_getElem? (i := 5) rfl)) (by decide) (by decide)) q54a q54c (g := (mkF m 78 #[.val (.int p0), .val (.int p1), .val (.int (2 : Int32)), .val (.ref o2), .val (.int (0 : Int32)), .val (.int (0 : Int32)), .val (.int (0 : Int32)), .val (.ref o5), .unset, .unset] [(.ref o2)])) rfl (by rw [hml]; rfl) (Steps.refl _) (argsL := []) (rest := []) (lenOf pd_2 rfl) rfl (by show 2 * 0 + _ ≤ _; exact Nat.le_of_eq rfl) (hb hby at_78) (fun _ _ => ⟨rfl, e53, (by decide : 0 + 0 ≤ _), (by decide : 0 + 0 ≤ _)⟩)
        dsimp only [Pt.U, Pt.locs, Pt.cells, Pt.slots] at X54 l54 y54 z54 st54 hQ54
        subst l54 y54 z54
        obtain ⟨hv54, N54q, e54⟩ := hQ54
        rw [own_three_no (Ne.symm d1_2) d2_5 d2_7] at hv54
        subst hv54
        have N54 := Fr.app N53 N54q
        obtain ⟨cq55, kq55, q55a, q55b, q55c⟩ := isOf hZ e54 E2
        obtain ⟨_, _, ⟨T55, L55, k55, n55⟩, -, X55, ⟨Lc55, hQ55, l55, y55, z55⟩, st55⟩ := X54.virtualBack hx (y := (⟨"com/example/unanimity/unanimity/engine/Outcome", "committedHere", "()Z"⟩ : MethodName)) (z := (⟨"com/example/unanimity/unanimity/engine/Outcome", "committedHere", "()Z"⟩ : MethodName)) hown (mvT hZ (hw _ (List.mem_of_getElem? (i := 23) rfl))) (mvT hZ (hw _ (List.mem_of_getElem? (i := 24) rfl))) (notFace_of_selects (args := #[]) (mvT hZ (hw _ (List.mem_of_getElem? (i := 26) rfl)))) (mvT hZ (hw _ (List.mem_of_getElem? (i := 26) rfl))) (mvT hZ (hw _ (List.mem_of_getElem? (i := 25) rfl))) (by decide) (backOf (W := 0) (rm4 l Z aw hw [] o2 o0 o1 o2 o3 o4 o5 o6 o7 h0 n0 Z0 S_COMMITTED S_ABORTED S_IN_DOUBT S_UNKNOWN S_FORCED_COMMIT S_FORCED_ABORT S_FORCED_COMMIT_CONFLICT S_FORCED_ABORT_CONFLICT) hZ (hw _ (List.mem_of_getElem? (i := 27) rfl)) (hw _ (List.mem_of_getElem? (i := 5) rfl)) (by decide) (by decide)) q55a q55c (g := (mkF m 84 #[.val (.int p0), .val (.int p1), .val (.int (2 : Int32)), .val (.ref o2), .val (.int (0 : Int32)), .val (.int (0 : Int32)), .val (.int (0 : Int32)), .val (.ref o5), .val (.int (0 : Int32)), .unset] [(.ref o2)])) rfl (by rw [hml]; rfl) (Steps.refl _) (argsL := []) (rest := []) (lenOf pd_2 rfl) rfl (by show 2 * 0 + _ ≤ _; exact Nat.le_of_eq rfl) (hb hby at_84) (fun _ _ => ⟨rfl, e54, (by decide : 0 + 0 ≤ _), (by decide : 0 + 0 ≤ _)⟩)
        dsimp only [Pt.U, Pt.locs, Pt.cells, Pt.slots] at X55 l55 y55 z55 st55 hQ55
        subst l55 y55 z55
        obtain ⟨hv55, N55q, e55⟩ := hQ55
        rw [own_three_no (Ne.symm d0_2) d2_4 d2_6] at hv55
        subst hv55
        have N55 := Fr.app N54 N55q
        obtain ⟨cq56, kq56, q56a, q56b, q56c⟩ := isOf hZ e55 E5
        obtain ⟨_, _, ⟨T56, L56, k56, n56⟩, -, X56, ⟨Lc56, hQ56, l56, y56, z56⟩, st56⟩ := X55.virtualBack hx (y := (⟨"com/example/unanimity/unanimity/engine/Outcome", "abortedHere", "()Z"⟩ : MethodName)) (z := (⟨"com/example/unanimity/unanimity/engine/Outcome", "abortedHere", "()Z"⟩ : MethodName)) hown (mvT hZ (hw _ (List.mem_of_getElem? (i := 12) rfl))) (mvT hZ (hw _ (List.mem_of_getElem? (i := 13) rfl))) (notFace_of_selects (args := #[]) (mvT hZ (hw _ (List.mem_of_getElem? (i := 15) rfl)))) (mvT hZ (hw _ (List.mem_of_getElem? (i := 15) rfl))) (mvT hZ (hw _ (List.mem_of_getElem? (i := 14) rfl))) (by decide) (backOf (W := 0) (rm3 l Z aw hw [] o5 o0 o1 o2 o3 o4 o5 o6 o7 h0 n0 Z0 S_COMMITTED S_ABORTED S_IN_DOUBT S_UNKNOWN S_FORCED_COMMIT S_FORCED_ABORT S_FORCED_COMMIT_CONFLICT S_FORCED_ABORT_CONFLICT) hZ (hw _ (List.mem_of_getElem? (i := 16) rfl)) (hw _ (List.mem_of_getElem? (i := 5) rfl)) (by decide) (by decide)) q56a q56c (g := (mkF m 98 #[.val (.int p0), .val (.int p1), .val (.int (2 : Int32)), .val (.ref o2), .val (.int (0 : Int32)), .val (.int (0 : Int32)), .val (.int (0 : Int32)), .val (.ref o5), .val (.int (0 : Int32)), .val (.int (0 : Int32))] [(.ref o5)])) rfl (by rw [hml]; rfl) (Steps.refl _) (argsL := []) (rest := []) (lenOf pd_2 rfl) rfl (by show 2 * 0 + _ ≤ _; exact Nat.le_of_eq rfl) (hb hby at_98) (fun _ _ => ⟨rfl, e55, (by decide : 0 + 0 ≤ _), (by decide : 0 + 0 ≤ _)⟩)
        dsimp only [Pt.U, Pt.locs, Pt.cells, Pt.slots] at X56 l56 y56 z56 st56 hQ56
        subst l56 y56 z56
        obtain ⟨hv56, N56q, e56⟩ := hQ56
        rw [own_three_hit2] at hv56
        subst hv56
        have N56 := Fr.app N55 N56q
        obtain ⟨fs, hr, hrun, hended, hW, hsame⟩ := X56.leave (v := some (.int (1 : Int32))) (fun h => by rw [Bd.returns] at h; cases h)
        refine ⟨_, _, pre51 _ ?_, hrun, hended, _, _, rfl, ?_, ⟨_, rfl⟩, hW, hsame.mono (by decide) (by decide)⟩
        · show Steps p.tables e below (T48.setTop (mkF m 58 #[.val (.int p0), .val (.int p1), .val (.int (2 : Int32)), .val (.ref o2), .val (.int (0 : Int32)), .val (.int (0 : Int32)), .unset, .unset, .unset, .unset] [(.int (p1 &&& (2 : Int32)))])) _
          refine XS.ifYes X48.here hx rfl (pc0 := 58) (pc' := 65) rfl (hb hby at_58) rfl ((if0 _ _).trans (teq hc52).1) (by decide) (by decide) ?_
          show Steps p.tables e below (T48.setTop (mkF m 65 #[.val (.int p0), .val (.int p1), .val (.int (2 : Int32)), .val (.ref o2), .val (.int (0 : Int32)), .val (.int (0 : Int32)), .unset, .unset, .unset, .unset] [])) _
          refine XS.iconst X48.here hx rfl (hb hby at_65) ?_
          show Steps p.tables e below (T48.setTop (mkF m 66 #[.val (.int p0), .val (.int p1), .val (.int (2 : Int32)), .val (.ref o2), .val (.int (0 : Int32)), .val (.int (0 : Int32)), .unset, .unset, .unset, .unset] [(.int (0 : Int32))])) _
          refine XS.istore X48.here hx rfl (hb hby at_66) rfl (l' := #[.val (.int p0), .val (.int p1), .val (.int (2 : Int32)), .val (.ref o2), .val (.int (0 : Int32)), .val (.int (0 : Int32)), .val (.int (0 : Int32)), .unset, .unset, .unset]) rfl ?_
          show Steps p.tables e below (T48.setTop (mkF m 68 #[.val (.int p0), .val (.int p1), .val (.int (2 : Int32)), .val (.ref o2), .val (.int (0 : Int32)), .val (.int (0 : Int32)), .val (.int (0 : Int32)), .unset, .unset, .unset] [])) _
          refine XS.iload X48.here hx rfl (hb hby at_68) rfl ?_
          show Steps p.tables e below (T48.setTop (mkF m 70 #[.val (.int p0), .val (.int p1), .val (.int (2 : Int32)), .val (.ref o2), .val (.int (0 : Int32)), .val (.int (0 : Int32)), .val (.int (0 : Int32)), .unset, .unset, .unset] [(.int (0 : Int32))])) _
          refine XS.iload X48.here hx rfl (hb hby at_70) rfl ?_
          show Steps p.tables e below (T48.setTop (mkF m 72 #[.val (.int p0), .val (.int p1), .val (.int (2 : Int32)), .val (.ref o2), .val (.int (0 : Int32)), .val (.int (0 : Int32)), .val (.int (0 : Int32)), .unset, .unset, .unset] [(.int (0 : Int32)), (.int (0 : Int32))])) _
          refine st53 _ ?_
          show Steps p.tables e below (T53.setTop (mkF m 75 #[.val (.int p0), .val (.int p1), .val (.int (2 : Int32)), .val (.ref o2), .val (.int (0 : Int32)), .val (.int (0 : Int32)), .val (.int (0 : Int32)), .unset, .unset, .unset] [(.ref o5)])) _
          refine XS.astore X53.here hx rfl (hb hby at_75) rfl rfl (l' := #[.val (.int p0), .val (.int p1), .val (.int (2 : Int32)), .val (.ref o2), .val (.int (0 : Int32)), .val (.int (0 : Int32)), .val (.int (0 : Int32)), .val (.ref o5), .unset, .unset]) rfl ?_
          show Steps p.tables e below (T53.setTop (mkF m 77 #[.val (.int p0), .val (.int p1), .val (.int (2 : Int32)), .val (.ref o2), .val (.int (0 : Int32)), .val (.int (0 : Int32)), .val (.int (0 : Int32)), .val (.ref o5), .unset, .unset] [])) _
          refine XS.aloadN X53.here hx rfl (hb hby at_77) rfl rfl ?_
          show Steps p.tables e below (T53.setTop (mkF m 78 #[.val (.int p0), .val (.int p1), .val (.int (2 : Int32)), .val (.ref o2), .val (.int (0 : Int32)), .val (.int (0 : Int32)), .val (.int (0 : Int32)), .val (.ref o5), .unset, .unset] [(.ref o2)])) _
          refine st54.trans ?_
          show Steps p.tables e below (T54.setTop (mkF m 81 #[.val (.int p0), .val (.int p1), .val (.int (2 : Int32)), .val (.ref o2), .val (.int (0 : Int32)), .val (.int (0 : Int32)), .val (.int (0 : Int32)), .val (.ref o5), .unset, .unset] [(.int (0 : Int32))])) _
          refine XS.istore X54.here hx rfl (hb hby at_81) rfl (l' := #[.val (.int p0), .val (.int p1), .val (.int (2 : Int32)), .val (.ref o2), .val (.int (0 : Int32)), .val (.int (0 : Int32)), .val (.int (0 : Int32)), .val (.ref o5), .val (.int (0 : Int32)), .unset]) rfl ?_
          show Steps p.tables e below (T54.setTop (mkF m 83 #[.val (.int p0), .val (.int p1), .val (.int (2 : Int32)), .val (.ref o2), .val (.int (0 : Int32)), .val (.int (0 : Int32)), .val (.int (0 : Int32)), .val (.ref o5), .val (.int (0 : Int32)), .unset] [])) _
          refine XS.aloadN X54.here hx rfl (hb hby at_83) rfl rfl ?_
          show Steps p.tables e below (T54.setTop (mkF m 84 #[.val (.int p0), .val (.int p1), .val (.int (2 : Int32)), .val (.ref o2), .val (.int (0 : Int32)), .val (.int (0 : Int32)), .val (.int (0 : Int32)), .val (.ref o5), .val (.int (0 : Int32)), .unset] [(.ref o2)])) _
          refine st55.trans ?_
          show Steps p.tables e below (T55.setTop (mkF m 87 #[.val (.int p0), .val (.int p1), .val (.int (2 : Int32)), .val (.ref o2), .val (.int (0 : Int32)), .val (.int (0 : Int32)), .val (.int (0 : Int32)), .val (.ref o5), .val (.int (0 : Int32)), .unset] [(.int (0 : Int32))])) _
          refine XS.istore X55.here hx rfl (hb hby at_87) rfl (l' := #[.val (.int p0), .val (.int p1), .val (.int (2 : Int32)), .val (.ref o2), .val (.int (0 : Int32)), .val (.int (0 : Int32)), .val (.int (0 : Int32)), .val (.ref o5), .val (.int (0 : Int32)), .val (.int (0 : Int32))]) rfl ?_
          show Steps p.tables e below (T55.setTop (mkF m 89 #[.val (.int p0), .val (.int p1), .val (.int (2 : Int32)), .val (.ref o2), .val (.int (0 : Int32)), .val (.int (0 : Int32)), .val (.int (0 : Int32)), .val (.ref o5), .val (.int (0 : Int32)), .val (.int (0 : Int32))] [])) _
          refine XS.iload X55.here hx rfl (hb hby at_89) rfl ?_
          show Steps p.tables e below (T55.setTop (mkF m 91 #[.val (.int p0), .val (.int p1), .val (.int (2 : Int32)), .val (.ref o2), .val (.int (0 : Int32)), .val (.int (0 : Int32)), .val (.int (0 : Int32)), .val (.ref o5), .val (.int (0 : Int32)), .val (.int (0 : Int32))] [(.int (0 : Int32))])) _
          refine XS.iload X55.here hx rfl (hb hby at_91) rfl ?_
          show Steps p.tables e below (T55.setTop (mkF m 93 #[.val (.int p0), .val (.int p1), .val (.int (2 : Int32)), .val (.ref o2), .val (.int (0 : Int32)), .val (.int (0 : Int32)), .val (.int (0 : Int32)), .val (.ref o5), .val (.int (0 : Int32)), .val (.int (0 : Int32))] [(.int (0 : Int32)), (.int (0 : Int32))])) _
          refine XS.icmpNo X55.here hx rfl (hb hby at_93) rfl (teq (by decide : (0 : Int32) = (0 : Int32))).2 ?_
          show Steps p.tables e below (T55.setTop (mkF m 96 #[.val (.int p0), .val (.int p1), .val (.int (2 : Int32)), .val (.ref o2), .val (.int (0 : Int32)), .val (.int (0 : Int32)), .val (.int (0 : Int32)), .val (.ref o5), .val (.int (0 : Int32)), .val (.int (0 : Int32))] [])) _
          refine XS.aload X55.here hx rfl (hb hby at_96) rfl rfl ?_
          show Steps p.tables e below (T55.setTop (mkF m 98 #[.val (.int p0), .val (.int p1), .val (.int (2 : Int32)), .val (.ref o2), .val (.int (0 : Int32)), .val (.int (0 : Int32)), .val (.int (0 : Int32)), .val (.ref o5), .val (.int (0 : Int32)), .val (.int (0 : Int32))] [(.ref o5)])) _
          refine st56.trans ?_
          show Steps p.tables e below (T56.setTop (mkF m 101 #[.val (.int p0), .val (.int p1), .val (.int (2 : Int32)), .val (.ref o2), .val (.int (0 : Int32)), .val (.int (0 : Int32)), .val (.int (0 : Int32)), .val (.ref o5), .val (.int (0 : Int32)), .val (.int (0 : Int32))] [(.int (1 : Int32))])) _
          refine XS.iload X56.here hx rfl (hb hby at_101) rfl ?_
          show Steps p.tables e below (T56.setTop (mkF m 103 #[.val (.int p0), .val (.int p1), .val (.int (2 : Int32)), .val (.ref o2), .val (.int (0 : Int32)), .val (.int (0 : Int32)), .val (.int (0 : Int32)), .val (.ref o5), .val (.int (0 : Int32)), .val (.int (0 : Int32))] [(.int (0 : Int32)), (.int (1 : Int32))])) _
          refine XS.ifNo X56.here hx rfl (hb hby at_103) rfl ((if0 _ _).trans (teq (by decide : (0 : Int32) = (0 : Int32))).2) ?_
          show Steps p.tables e below (T56.setTop (mkF m 106 #[.val (.int p0), .val (.int p1), .val (.int (2 : Int32)), .val (.ref o2), .val (.int (0 : Int32)), .val (.int (0 : Int32)), .val (.int (0 : Int32)), .val (.ref o5), .val (.int (0 : Int32)), .val (.int (0 : Int32))] [(.int (1 : Int32))])) _
          refine XS.iconst X56.here hx rfl (hb hby at_106) ?_
          show Steps p.tables e below (T56.setTop (mkF m 107 #[.val (.int p0), .val (.int p1), .val (.int (2 : Int32)), .val (.ref o2), .val (.int (0 : Int32)), .val (.int (0 : Int32)), .val (.int (0 : Int32)), .val (.ref o5), .val (.int (0 : Int32)), .val (.int (0 : Int32))] [(.int (1 : Int32)), (.int (1 : Int32))])) _
          refine XS.goto X56.here hx rfl (pc0 := 107) (pc' := 111) rfl (hb hby at_107) (by decide) (by decide) ?_
          show Steps p.tables e below (T56.setTop (mkF m 111 #[.val (.int p0), .val (.int p1), .val (.int (2 : Int32)), .val (.ref o2), .val (.int (0 : Int32)), .val (.int (0 : Int32)), .val (.int (0 : Int32)), .val (.ref o5), .val (.int (0 : Int32)), .val (.int (0 : Int32))] [(.int (1 : Int32)), (.int (1 : Int32))])) _
          refine XS.icmpNo X56.here hx rfl (hb hby at_111) rfl (teq (by decide : (1 : Int32) = (1 : Int32))).2 ?_
          show Steps p.tables e below (T56.setTop (mkF m 114 #[.val (.int p0), .val (.int p1), .val (.int (2 : Int32)), .val (.ref o2), .val (.int (0 : Int32)), .val (.int (0 : Int32)), .val (.int (0 : Int32)), .val (.ref o5), .val (.int (0 : Int32)), .val (.int (0 : Int32))] [])) _
          refine XS.iload X56.here hx rfl (hb hby at_114) rfl ?_
          show Steps p.tables e below (T56.setTop (mkF m 116 #[.val (.int p0), .val (.int p1), .val (.int (2 : Int32)), .val (.ref o2), .val (.int (0 : Int32)), .val (.int (0 : Int32)), .val (.int (0 : Int32)), .val (.ref o5), .val (.int (0 : Int32)), .val (.int (0 : Int32))] [(.int (0 : Int32))])) _
          refine XS.ifYes X56.here hx rfl (pc0 := 116) (pc' := 124) rfl (hb hby at_116) rfl ((if0 _ _).trans (teq (by decide : (0 : Int32) = (0 : Int32))).1) (by decide) (by decide) ?_
          show Steps p.tables e below (T56.setTop (mkF m 124 #[.val (.int p0), .val (.int p1), .val (.int (2 : Int32)), .val (.ref o2), .val (.int (0 : Int32)), .val (.int (0 : Int32)), .val (.int (0 : Int32)), .val (.ref o5), .val (.int (0 : Int32)), .val (.int (0 : Int32))] [])) _
          refine XS.iconst X56.here hx rfl (hb hby at_124) ?_
          show Steps p.tables e below (T56.setTop (mkF m 125 #[.val (.int p0), .val (.int p1), .val (.int (2 : Int32)), .val (.ref o2), .val (.int (0 : Int32)), .val (.int (0 : Int32)), .val (.int (0 : Int32)), .val (.ref o5), .val (.int (0 : Int32)), .val (.int (0 : Int32))] [(.int (1 : Int32))])) _
          refine XS.goto X56.here hx rfl (pc0 := 125) (pc' := 129) rfl (hb hby at_125) (by decide) (by decide) ?_
          show Steps p.tables e below (T56.setTop (mkF m 129 #[.val (.int p0), .val (.int p1), .val (.int (2 : Int32)), .val (.ref o2), .val (.int (0 : Int32)), .val (.int (0 : Int32)), .val (.int (0 : Int32)), .val (.ref o5), .val (.int (0 : Int32)), .val (.int (0 : Int32))] [(.int (1 : Int32))])) _
          exact retN X56 hx (t := .boolean) Bd.returns (by simp) (hb hby at_129) hr
        · show Q0 Z p0 p1 o0 o1 o2 o3 o4 o5 o6 o7 h0 n0 _ T56.heap _
          rw [e56]
          exact ⟨rfl, N56⟩
      · obtain ⟨_, _, ⟨T57, L57, k57, n57⟩, -, X57, ⟨Lc57, hQ57, l57, y57, z57⟩, st57⟩ := Jvm.LawKit.callS X48 hx (y := (⟨"com/example/unanimity/unanimity/engine/Outcome", "forced", "(ZZ)Lcom/example/unanimity/unanimity/engine/Outcome;"⟩ : MethodName)) hown (mvT hZ (hw _ (List.mem_of_getElem? (i := 7) rfl))) (mvT hZ (hw _ (List.mem_of_getElem? (i := 8) rfl))) (mvT hZ (hw _ (List.mem_of_getElem? (i := 5) rfl))) (mvT hZ (hw _ (List.mem_of_getElem? (i := 9) rfl))) (by decide) (backOf (W := 0) (rm2 l Z aw hw [] (0 : Int32) (1 : Int32) o0 o1 o2 o3 o4 o5 o6 o7 h0 n0 Z0 S_COMMITTED S_ABORTED S_IN_DOUBT S_UNKNOWN S_FORCED_COMMIT S_FORCED_ABORT S_FORCED_COMMIT_CONFLICT S_FORCED_ABORT_CONFLICT) hZ (hw _ (List.mem_of_getElem? (i := 9) rfl)) (hw _ (List.mem_of_getElem? (i := 5) rfl)) (by decide) (by decide)) (g := (mkF m 72 #[.val (.int p0), .val (.int p1), .val (.int (2 : Int32)), .val (.ref o2), .val (.int (0 : Int32)), .val (.int (0 : Int32)), .val (.int (1 : Int32)), .unset, .unset, .unset] [(.int (1 : Int32)), (.int (0 : Int32))])) rfl (by rw [hml]; rfl) (argsL := [(.int (0 : Int32)), (.int (1 : Int32))]) (rest := []) (lenOf pd_1 rfl) rfl (by show 2 * 0 + _ ≤ _; exact Nat.le_of_eq rfl) (hb hby at_72) (fun _ _ => ⟨rfl, e48, (by decide : 0 + 0 ≤ _), (by decide : 0 + 0 ≤ _)⟩)
        dsimp only [Pt.U, Pt.locs, Pt.cells, Pt.slots] at X57 l57 y57 z57 st57 hQ57
        subst l57 y57 z57
        obtain ⟨hv57, N57q, e57⟩ := hQ57
        rw [show own_forced (0 : Int32) (1 : Int32) o4 o5 o6 o7 = o7 from rfl] at hv57
        subst hv57
        have N57 := Fr.app N48 N57q
        obtain ⟨cq58, kq58, q58a, q58b, q58c⟩ := isOf hZ e57 E2
        obtain ⟨_, _, ⟨T58, L58, k58, n58⟩, -, X58, ⟨Lc58, hQ58, l58, y58, z58⟩, st58⟩ := X57.virtualBack hx (y := (⟨"com/example/unanimity/unanimity/engine/Outcome", "abortedHere", "()Z"⟩ : MethodName)) (z := (⟨"com/example/unanimity/unanimity/engine/Outcome", "abortedHere", "()Z"⟩ : MethodName)) hown (mvT hZ (hw _ (List.mem_of_getElem? (i := 12) rfl))) (mvT hZ (hw _ (List.mem_of_getElem? (i := 13) rfl))) (notFace_of_selects (args := #[]) (mvT hZ (hw _ (List.mem_of_getElem? (i := 15) rfl)))) (mvT hZ (hw _ (List.mem_of_getElem? (i := 15) rfl))) (mvT hZ (hw _ (List.mem_of_getElem? (i := 14) rfl))) (by decide) (backOf (W := 0) (rm3 l Z aw hw [] o2 o0 o1 o2 o3 o4 o5 o6 o7 h0 n0 Z0 S_COMMITTED S_ABORTED S_IN_DOUBT S_UNKNOWN S_FORCED_COMMIT S_FORCED_ABORT S_FORCED_COMMIT_CONFLICT S_FORCED_ABORT_CONFLICT) hZ (hw _ (List.mem_of_getElem? (i := 16) rfl)) (hw _ (List.mem_of_getElem? (i := 5) rfl)) (by decide) (by decide)) q58a q58c (g := (mkF m 78 #[.val (.int p0), .val (.int p1), .val (.int (2 : Int32)), .val (.ref o2), .val (.int (0 : Int32)), .val (.int (0 : Int32)), .val (.int (1 : Int32)), .val (.ref o7), .unset, .unset] [(.ref o2)])) rfl (by rw [hml]; rfl) (Steps.refl _) (argsL := []) (rest := []) (lenOf pd_2 rfl) rfl (by show 2 * 0 + _ ≤ _; exact Nat.le_of_eq rfl) (hb hby at_78) (fun _ _ => ⟨rfl, e57, (by decide : 0 + 0 ≤ _), (by decide : 0 + 0 ≤ _)⟩)
        dsimp only [Pt.U, Pt.locs, Pt.cells, Pt.slots] at X58 l58 y58 z58 st58 hQ58
        subst l58 y58 z58
        obtain ⟨hv58, N58q, e58⟩ := hQ58
        rw [own_three_no (Ne.symm d1_2) d2_5 d2_7] at hv58
        subst hv58
        have N58 := Fr.app N57 N58q
        obtain ⟨cq59, kq59, q59a, q59b, q59c⟩ := isOf hZ e58 E2
        obtain ⟨_, _, ⟨T59, L59, k59, n59⟩, -, X59, ⟨Lc59, hQ59, l59, y59, z59⟩, st59⟩ := X58.virtualBack hx (y := (⟨"com/example/unanimity/unanimity/engine/Outcome", "committedHere", "()Z"⟩ : MethodName)) (z := (⟨"com/example/unanimity/unanimity/engine/Outcome", "committedHere", "()Z"⟩ : MethodName)) hown (mvT hZ (hw _ (List.mem_of_getElem? (i := 23) rfl))) (mvT hZ (hw _ (List.mem_of_getElem? (i := 24) rfl))) (notFace_of_selects (args := #[]) (mvT hZ (hw _ (List.mem_of_getElem? (i := 26) rfl)))) (mvT hZ (hw _ (List.mem_of_getElem? (i := 26) rfl))) (mvT hZ (hw _ (List.mem_of_getElem? (i := 25) rfl))) (by decide) (backOf (W := 0) (rm4 l Z aw hw [] o2 o0 o1 o2 o3 o4 o5 o6 o7 h0 n0 Z0 S_COMMITTED S_ABORTED S_IN_DOUBT S_UNKNOWN S_FORCED_COMMIT S_FORCED_ABORT S_FORCED_COMMIT_CONFLICT S_FORCED_ABORT_CONFLICT) hZ (hw _ (List.mem_of_getElem? (i := 27) rfl)) (hw _ (List.mem_of_getElem? (i := 5) rfl)) (by decide) (by decide)) q59a q59c (g := (mkF m 84 #[.val (.int p0), .val (.int p1), .val (.int (2 : Int32)), .val (.ref o2), .val (.int (0 : Int32)), .val (.int (0 : Int32)), .val (.int (1 : Int32)), .val (.ref o7), .val (.int (0 : Int32)), .unset] [(.ref o2)])) rfl (by rw [hml]; rfl) (Steps.refl _) (argsL := []) (rest := []) (lenOf pd_2 rfl) rfl (by show 2 * 0 + _ ≤ _; exact Nat.le_of_eq rfl) (hb hby at_84) (fun _ _ => ⟨rfl, e58, (by decide : 0 + 0 ≤ _), (by decide : 0 + 0 ≤ _)⟩)
        dsimp only [Pt.U, Pt.locs, Pt.cells, Pt.slots] at X59 l59 y59 z59 st59 hQ59
        subst l59 y59 z59
        obtain ⟨hv59, N59q, e59⟩ := hQ59
        rw [own_three_no (Ne.symm d0_2) d2_4 d2_6] at hv59
        subst hv59
        have N59 := Fr.app N58 N59q
        obtain ⟨cq60, kq60, q60a, q60b, q60c⟩ := isOf hZ e59 E7
        obtain ⟨_, _, ⟨T60, L60, k60, n60⟩, -, X60, ⟨Lc60, hQ60, l60, y60, z60⟩, st60⟩ := X59.virtualBack hx (y := (⟨"com/example/unanimity/unanimity/engine/Outcome", "abortedHere", "()Z"⟩ : MethodName)) (z := (⟨"com/example/unanimity/unanimity/engine/Outcome", "abortedHere", "()Z"⟩ : MethodName)) hown (mvT hZ (hw _ (List.mem_of_getElem? (i := 12) rfl))) (mvT hZ (hw _ (List.mem_of_getElem? (i := 13) rfl))) (notFace_of_selects (args := #[]) (mvT hZ (hw _ (List.mem_of_getElem? (i := 15) rfl)))) (mvT hZ (hw _ (List.mem_of_getElem? (i := 15) rfl))) (mvT hZ (hw _ (List.mem_of_getElem? (i := 14) rfl))) (by decide) (backOf (W := 0) (rm3 l Z aw hw [] o7 o0 o1 o2 o3 o4 o5 o6 o7 h0 n0 Z0 S_COMMITTED S_ABORTED S_IN_DOUBT S_UNKNOWN S_FORCED_COMMIT S_FORCED_ABORT S_FORCED_COMMIT_CONFLICT S_FORCED_ABORT_CONFLICT) hZ (hw _ (List.mem_of_getElem? (i := 16) rfl)) (hw _ (List.mem_of_getElem? (i := 5) rfl)) (by decide) (by decide)) q60a q60c (g := (mkF m 98 #[.val (.int p0), .val (.int p1), .val (.int (2 : Int32)), .val (.ref o2), .val (.int (0 : Int32)), .val (.int (0 : Int32)), .val (.int (1 : Int32)), .val (.ref o7), .val (.int (0 : Int32)), .val (.int (0 : Int32))] [(.ref o7)])) rfl (by rw [hml]; rfl) (Steps.refl _) (argsL := []) (rest := []) (lenOf pd_2 rfl) rfl (by show 2 * 0 + _ ≤ _; exact Nat.le_of_eq rfl) (hb hby at_98) (fun _ _ => ⟨rfl, e59, (by decide : 0 + 0 ≤ _), (by decide : 0 + 0 ≤ _)⟩)
        dsimp only [Pt.U, Pt.locs, Pt.cells, Pt.slots] at X60 l60 y60 z60 st60 hQ60
        subst l60 y60 z60
        obtain ⟨hv60, N60q, e60⟩ := hQ60
        rw [own_three_hit3] at hv60
        subst hv60
        have N60 := Fr.app N59 N60q
        obtain ⟨fs, hr, hrun, hended, hW, hsame⟩ := X60.leave (v := some (.int (1 : Int32))) (fun h => by rw [Bd.returns] at h; cases h)
        refine ⟨_, _, pre51 _ ?_, hrun, hended, _, _, rfl, ?_, ⟨_, rfl⟩, hW, hsame.mono (by decide) (by decide)⟩
        · show Steps p.tables e below (T48.setTop (mkF m 58 #[.val (.int p0), .val (.int p1), .val (.int (2 : Int32)), .val (.ref o2), .val (.int (0 : Int32)), .val (.int (0 : Int32)), .unset, .unset, .unset, .unset] [(.int (p1 &&& (2 : Int32)))])) _
          refine XS.ifNo X48.here hx rfl (hb hby at_58) rfl ((if0 _ _).trans (feq hc52).1) ?_
          show Steps p.tables e below (T48.setTop (mkF m 61 #[.val (.int p0), .val (.int p1), .val (.int (2 : Int32)), .val (.ref o2), .val (.int (0 : Int32)), .val (.int (0 : Int32)), .unset, .unset, .unset, .unset] [])) _
          refine XS.iconst X48.here hx rfl (hb hby at_61) ?_
          show Steps p.tables e below (T48.setTop (mkF m 62 #[.val (.int p0), .val (.int p1), .val (.int (2 : Int32)), .val (.ref o2), .val (.int (0 : Int32)), .val (.int (0 : Int32)), .unset, .unset, .unset, .unset] [(.int (1 : Int32))])) _
          refine XS.goto X48.here hx rfl (pc0 := 62) (pc' := 66) rfl (hb hby at_62) (by decide) (by decide) ?_
          show Steps p.tables e below (T48.setTop (mkF m 66 #[.val (.int p0), .val (.int p1), .val (.int (2 : Int32)), .val (.ref o2), .val (.int (0 : Int32)), .val (.int (0 : Int32)), .unset, .unset, .unset, .unset] [(.int (1 : Int32))])) _
          refine XS.istore X48.here hx rfl (hb hby at_66) rfl (l' := #[.val (.int p0), .val (.int p1), .val (.int (2 : Int32)), .val (.ref o2), .val (.int (0 : Int32)), .val (.int (0 : Int32)), .val (.int (1 : Int32)), .unset, .unset, .unset]) rfl ?_
          show Steps p.tables e below (T48.setTop (mkF m 68 #[.val (.int p0), .val (.int p1), .val (.int (2 : Int32)), .val (.ref o2), .val (.int (0 : Int32)), .val (.int (0 : Int32)), .val (.int (1 : Int32)), .unset, .unset, .unset] [])) _
          refine XS.iload X48.here hx rfl (hb hby at_68) rfl ?_
          show Steps p.tables e below (T48.setTop (mkF m 70 #[.val (.int p0), .val (.int p1), .val (.int (2 : Int32)), .val (.ref o2), .val (.int (0 : Int32)), .val (.int (0 : Int32)), .val (.int (1 : Int32)), .unset, .unset, .unset] [(.int (0 : Int32))])) _
          refine XS.iload X48.here hx rfl (hb hby at_70) rfl ?_
          show Steps p.tables e below (T48.setTop (mkF m 72 #[.val (.int p0), .val (.int p1), .val (.int (2 : Int32)), .val (.ref o2), .val (.int (0 : Int32)), .val (.int (0 : Int32)), .val (.int (1 : Int32)), .unset, .unset, .unset] [(.int (1 : Int32)), (.int (0 : Int32))])) _
          refine st57 _ ?_
          show Steps p.tables e below (T57.setTop (mkF m 75 #[.val (.int p0), .val (.int p1), .val (.int (2 : Int32)), .val (.ref o2), .val (.int (0 : Int32)), .val (.int (0 : Int32)), .val (.int (1 : Int32)), .unset, .unset, .unset] [(.ref o7)])) _
          refine XS.astore X57.here hx rfl (hb hby at_75) rfl rfl (l' := #[.val (.int p0), .val (.int p1), .val (.int (2 : Int32)), .val (.ref o2), .val (.int (0 : Int32)), .val (.int (0 : Int32)), .val (.int (1 : Int32)), .val (.ref o7), .unset, .unset]) rfl ?_
          show Steps p.tables e below (T57.setTop (mkF m 77 #[.val (.int p0), .val (.int p1), .val (.int (2 : Int32)), .val (.ref o2), .val (.int (0 : Int32)), .val (.int (0 : Int32)), .val (.int (1 : Int32)), .val (.ref o7), .unset, .unset] [])) _
          refine XS.aloadN X57.here hx rfl (hb hby at_77) rfl rfl ?_
          show Steps p.tables e below (T57.setTop (mkF m 78 #[.val (.int p0), .val (.int p1), .val (.int (2 : Int32)), .val (.ref o2), .val (.int (0 : Int32)), .val (.int (0 : Int32)), .val (.int (1 : Int32)), .val (.ref o7), .unset, .unset] [(.ref o2)])) _
          refine st58.trans ?_
          show Steps p.tables e below (T58.setTop (mkF m 81 #[.val (.int p0), .val (.int p1), .val (.int (2 : Int32)), .val (.ref o2), .val (.int (0 : Int32)), .val (.int (0 : Int32)), .val (.int (1 : Int32)), .val (.ref o7), .unset, .unset] [(.int (0 : Int32))])) _
          refine XS.istore X58.here hx rfl (hb hby at_81) rfl (l' := #[.val (.int p0), .val (.int p1), .val (.int (2 : Int32)), .val (.ref o2), .val (.int (0 : Int32)), .val (.int (0 : Int32)), .val (.int (1 : Int32)), .val (.ref o7), .val (.int (0 : Int32)), .unset]) rfl ?_
          show Steps p.tables e below (T58.setTop (mkF m 83 #[.val (.int p0), .val (.int p1), .val (.int (2 : Int32)), .val (.ref o2), .val (.int (0 : Int32)), .val (.int (0 : Int32)), .val (.int (1 : Int32)), .val (.ref o7), .val (.int (0 : Int32)), .unset] [])) _
          refine XS.aloadN X58.here hx rfl (hb hby at_83) rfl rfl ?_
          show Steps p.tables e below (T58.setTop (mkF m 84 #[.val (.int p0), .val (.int p1), .val (.int (2 : Int32)), .val (.ref o2), .val (.int (0 : Int32)), .val (.int (0 : Int32)), .val (.int (1 : Int32)), .val (.ref o7), .val (.int (0 : Int32)), .unset] [(.ref o2)])) _
          refine st59.trans ?_
          show Steps p.tables e below (T59.setTop (mkF m 87 #[.val (.int p0), .val (.int p1), .val (.int (2 : Int32)), .val (.ref o2), .val (.int (0 : Int32)), .val (.int (0 : Int32)), .val (.int (1 : Int32)), .val (.ref o7), .val (.int (0 : Int32)), .unset] [(.int (0 : Int32))])) _
          refine XS.istore X59.here hx rfl (hb hby at_87) rfl (l' := #[.val (.int p0), .val (.int p1), .val (.int (2 : Int32)), .val (.ref o2), .val (.int (0 : Int32)), .val (.int (0 : Int32)), .val (.int (1 : Int32)), .val (.ref o7), .val (.int (0 : Int32)), .val (.int (0 : Int32))]) rfl ?_
          show Steps p.tables e below (T59.setTop (mkF m 89 #[.val (.int p0), .val (.int p1), .val (.int (2 : Int32)), .val (.ref o2), .val (.int (0 : Int32)), .val (.int (0 : Int32)), .val (.int (1 : Int32)), .val (.ref o7), .val (.int (0 : Int32)), .val (.int (0 : Int32))] [])) _
          refine XS.iload X59.here hx rfl (hb hby at_89) rfl ?_
          show Steps p.tables e below (T59.setTop (mkF m 91 #[.val (.int p0), .val (.int p1), .val (.int (2 : Int32)), .val (.ref o2), .val (.int (0 : Int32)), .val (.int (0 : Int32)), .val (.int (1 : Int32)), .val (.ref o7), .val (.int (0 : Int32)), .val (.int (0 : Int32))] [(.int (0 : Int32))])) _
          refine XS.iload X59.here hx rfl (hb hby at_91) rfl ?_
          show Steps p.tables e below (T59.setTop (mkF m 93 #[.val (.int p0), .val (.int p1), .val (.int (2 : Int32)), .val (.ref o2), .val (.int (0 : Int32)), .val (.int (0 : Int32)), .val (.int (1 : Int32)), .val (.ref o7), .val (.int (0 : Int32)), .val (.int (0 : Int32))] [(.int (0 : Int32)), (.int (0 : Int32))])) _
          refine XS.icmpNo X59.here hx rfl (hb hby at_93) rfl (teq (by decide : (0 : Int32) = (0 : Int32))).2 ?_
          show Steps p.tables e below (T59.setTop (mkF m 96 #[.val (.int p0), .val (.int p1), .val (.int (2 : Int32)), .val (.ref o2), .val (.int (0 : Int32)), .val (.int (0 : Int32)), .val (.int (1 : Int32)), .val (.ref o7), .val (.int (0 : Int32)), .val (.int (0 : Int32))] [])) _
          refine XS.aload X59.here hx rfl (hb hby at_96) rfl rfl ?_
          show Steps p.tables e below (T59.setTop (mkF m 98 #[.val (.int p0), .val (.int p1), .val (.int (2 : Int32)), .val (.ref o2), .val (.int (0 : Int32)), .val (.int (0 : Int32)), .val (.int (1 : Int32)), .val (.ref o7), .val (.int (0 : Int32)), .val (.int (0 : Int32))] [(.ref o7)])) _
          refine st60.trans ?_
          show Steps p.tables e below (T60.setTop (mkF m 101 #[.val (.int p0), .val (.int p1), .val (.int (2 : Int32)), .val (.ref o2), .val (.int (0 : Int32)), .val (.int (0 : Int32)), .val (.int (1 : Int32)), .val (.ref o7), .val (.int (0 : Int32)), .val (.int (0 : Int32))] [(.int (1 : Int32))])) _
          refine XS.iload X60.here hx rfl (hb hby at_101) rfl ?_
          show Steps p.tables e below (T60.setTop (mkF m 103 #[.val (.int p0), .val (.int p1), .val (.int (2 : Int32)), .val (.ref o2), .val (.int (0 : Int32)), .val (.int (0 : Int32)), .val (.int (1 : Int32)), .val (.ref o7), .val (.int (0 : Int32)), .val (.int (0 : Int32))] [(.int (0 : Int32)), (.int (1 : Int32))])) _
          refine XS.ifNo X60.here hx rfl (hb hby at_103) rfl ((if0 _ _).trans (teq (by decide : (0 : Int32) = (0 : Int32))).2) ?_
          show Steps p.tables e below (T60.setTop (mkF m 106 #[.val (.int p0), .val (.int p1), .val (.int (2 : Int32)), .val (.ref o2), .val (.int (0 : Int32)), .val (.int (0 : Int32)), .val (.int (1 : Int32)), .val (.ref o7), .val (.int (0 : Int32)), .val (.int (0 : Int32))] [(.int (1 : Int32))])) _
          refine XS.iconst X60.here hx rfl (hb hby at_106) ?_
          show Steps p.tables e below (T60.setTop (mkF m 107 #[.val (.int p0), .val (.int p1), .val (.int (2 : Int32)), .val (.ref o2), .val (.int (0 : Int32)), .val (.int (0 : Int32)), .val (.int (1 : Int32)), .val (.ref o7), .val (.int (0 : Int32)), .val (.int (0 : Int32))] [(.int (1 : Int32)), (.int (1 : Int32))])) _
          refine XS.goto X60.here hx rfl (pc0 := 107) (pc' := 111) rfl (hb hby at_107) (by decide) (by decide) ?_
          show Steps p.tables e below (T60.setTop (mkF m 111 #[.val (.int p0), .val (.int p1), .val (.int (2 : Int32)), .val (.ref o2), .val (.int (0 : Int32)), .val (.int (0 : Int32)), .val (.int (1 : Int32)), .val (.ref o7), .val (.int (0 : Int32)), .val (.int (0 : Int32))] [(.int (1 : Int32)), (.int (1 : Int32))])) _
          refine XS.icmpNo X60.here hx rfl (hb hby at_111) rfl (teq (by decide : (1 : Int32) = (1 : Int32))).2 ?_
          show Steps p.tables e below (T60.setTop (mkF m 114 #[.val (.int p0), .val (.int p1), .val (.int (2 : Int32)), .val (.ref o2), .val (.int (0 : Int32)), .val (.int (0 : Int32)), .val (.int (1 : Int32)), .val (.ref o7), .val (.int (0 : Int32)), .val (.int (0 : Int32))] [])) _
          refine XS.iload X60.here hx rfl (hb hby at_114) rfl ?_
          show Steps p.tables e below (T60.setTop (mkF m 116 #[.val (.int p0), .val (.int p1), .val (.int (2 : Int32)), .val (.ref o2), .val (.int (0 : Int32)), .val (.int (0 : Int32)), .val (.int (1 : Int32)), .val (.ref o7), .val (.int (0 : Int32)), .val (.int (0 : Int32))] [(.int (0 : Int32))])) _
          refine XS.ifYes X60.here hx rfl (pc0 := 116) (pc' := 124) rfl (hb hby at_116) rfl ((if0 _ _).trans (teq (by decide : (0 : Int32) = (0 : Int32))).1) (by decide) (by decide) ?_
          show Steps p.tables e below (T60.setTop (mkF m 124 #[.val (.int p0), .val (.int p1), .val (.int (2 : Int32)), .val (.ref o2), .val (.int (0 : Int32)), .val (.int (0 : Int32)), .val (.int (1 : Int32)), .val (.ref o7), .val (.int (0 : Int32)), .val (.int (0 : Int32))] [])) _
          refine XS.iconst X60.here hx rfl (hb hby at_124) ?_
          show Steps p.tables e below (T60.setTop (mkF m 125 #[.val (.int p0), .val (.int p1), .val (.int (2 : Int32)), .val (.ref o2), .val (.int (0 : Int32)), .val (.int (0 : Int32)), .val (.int (1 : Int32)), .val (.ref o7), .val (.int (0 : Int32)), .val (.int (0 : Int32))] [(.int (1 : Int32))])) _
          refine XS.goto X60.here hx rfl (pc0 := 125) (pc' := 129) rfl (hb hby at_125) (by decide) (by decide) ?_
          show Steps p.tables e below (T60.setTop (mkF m 129 #[.val (.int p0), .val (.int p1), .val (.int (2 : Int32)), .val (.ref o2), .val (.int (0 : Int32)), .val (.int (0 : Int32)), .val (.int (1 : Int32)), .val (.ref o7), .val (.int (0 : Int32)), .val (.int (0 : Int32))] [(.int (1 : Int32))])) _
          exact retN X60 hx (t := .boolean) Bd.returns (by simp) (hb hby at_129) hr
        · show Q0 Z p0 p1 o0 o1 o2 o3 o4 o5 o6 o7 h0 n0 _ T60.heap _
          rw [e60]
          exact ⟨rfl, N60⟩
    · have pre61 : ∀ t, Steps p.tables e below (T48.setTop (mkF m 58 #[.val (.int p0), .val (.int p1), .val (.int (2 : Int32)), .val (.ref o2), .val (.int (0 : Int32)), .val (.int (1 : Int32)), .unset, .unset, .unset, .unset] [(.int (p1 &&& (2 : Int32)))])) t → Steps p.tables e below (s₁.setTop (entryFrame m #[(.int p0), (.int p1)] maxLocals)) t := fun t k => by
        refine pre49 t ?_
        show Steps p.tables e below (T48.setTop (mkF m 45 #[.val (.int p0), .val (.int p1), .val (.int (2 : Int32)), .val (.ref o2), .val (.int (0 : Int32)), .unset, .unset, .unset, .unset, .unset] [(.int (p1 &&& (1 : Int32)))])) _
        refine XS.ifNo X48.here hx rfl (hb hby at_45) rfl ((if0 _ _).trans (feq hc50).1) ?_
        show Steps p.tables e below (T48.setTop (mkF m 48 #[.val (.int p0), .val (.int p1), .val (.int (2 : Int32)), .val (.ref o2), .val (.int (0 : Int32)), .unset, .unset, .unset, .unset, .unset] [])) _
        refine XS.iconst X48.here hx rfl (hb hby at_48) ?_
        show Steps p.tables e below (T48.setTop (mkF m 49 #[.val (.int p0), .val (.int p1), .val (.int (2 : Int32)), .val (.ref o2), .val (.int (0 : Int32)), .unset, .unset, .unset, .unset, .unset] [(.int (1 : Int32))])) _
        refine XS.goto X48.here hx rfl (pc0 := 49) (pc' := 53) rfl (hb hby at_49) (by decide) (by decide) ?_
        show Steps p.tables e below (T48.setTop (mkF m 53 #[.val (.int p0), .val (.int p1), .val (.int (2 : Int32)), .val (.ref o2), .val (.int (0 : Int32)), .unset, .unset, .unset, .unset, .unset] [(.int (1 : Int32))])) _
        refine XS.istore X48.here hx rfl (hb hby at_53) rfl (l' := #[.val (.int p0), .val (.int p1), .val (.int (2 : Int32)), .val (.ref o2), .val (.int (0 : Int32)), .val (.int (1 : Int32)), .unset, .unset, .unset, .unset]) rfl ?_
        show Steps p.tables e below (T48.setTop (mkF m 55 #[.val (.int p0), .val (.int p1), .val (.int (2 : Int32)), .val (.ref o2), .val (.int (0 : Int32)), .val (.int (1 : Int32)), .unset, .unset, .unset, .unset] [])) _
        refine XS.iloadN X48.here hx rfl (hb hby at_55) rfl ?_
        show Steps p.tables e below (T48.setTop (mkF m 56 #[.val (.int p0), .val (.int p1), .val (.int (2 : Int32)), .val (.ref o2), .val (.int (0 : Int32)), .val (.int (1 : Int32)), .unset, .unset, .unset, .unset] [(.int p1)])) _
        refine XS.iconst X48.here hx rfl (hb hby at_56) ?_
        show Steps p.tables e below (T48.setTop (mkF m 57 #[.val (.int p0), .val (.int p1), .val (.int (2 : Int32)), .val (.ref o2), .val (.int (0 : Int32)), .val (.int (1 : Int32)), .unset, .unset, .unset, .unset] [(.int (2 : Int32)), (.int p1)])) _
        refine XS.iand X48.here hx rfl (hb hby at_57) rfl ?_
        exact k
      by_cases hc62 : (p1 &&& (2 : Int32)) = (0 : Int32)
      · obtain ⟨_, _, ⟨T63, L63, k63, n63⟩, -, X63, ⟨Lc63, hQ63, l63, y63, z63⟩, st63⟩ := Jvm.LawKit.callS X48 hx (y := (⟨"com/example/unanimity/unanimity/engine/Outcome", "forced", "(ZZ)Lcom/example/unanimity/unanimity/engine/Outcome;"⟩ : MethodName)) hown (mvT hZ (hw _ (List.mem_of_getElem? (i := 7) rfl))) (mvT hZ (hw _ (List.mem_of_getElem? (i := 8) rfl))) (mvT hZ (hw _ (List.mem_of_getElem? (i := 5) rfl))) (mvT hZ (hw _ (List.mem_of_getElem? (i := 9) rfl))) (by decide) (backOf (W := 0) (rm2 l Z aw hw [] (1 : Int32) (0 : Int32) o0 o1 o2 o3 o4 o5 o6 o7 h0 n0 Z0 S_COMMITTED S_ABORTED S_IN_DOUBT S_UNKNOWN S_FORCED_COMMIT S_FORCED_ABORT S_FORCED_COMMIT_CONFLICT S_FORCED_ABORT_CONFLICT) hZ (hw _ (List.mem_of_getElem? (i := 9) rfl)) (hw _ (List.mem_of_getElem? (i := 5) rfl)) (by decide) (by decide)) (g := (mkF m 72 #[.val (.int p0), .val (.int p1), .val (.int (2 : Int32)), .val (.ref o2), .val (.int (0 : Int32)), .val (.int (1 : Int32)), .val (.int (0 : Int32)), .unset, .unset, .unset] [(.int (0 : Int32)), (.int (1 : Int32))])) rfl (by rw [hml]; rfl) (argsL := [(.int (1 : Int32)), (.int (0 : Int32))]) (rest := []) (lenOf pd_1 rfl) rfl (by show 2 * 0 + _ ≤ _; exact Nat.le_of_eq rfl) (hb hby at_72) (fun _ _ => ⟨rfl, e48, (by decide : 0 + 0 ≤ _), (by decide : 0 + 0 ≤ _)⟩)
        dsimp only [Pt.U, Pt.locs, Pt.cells, Pt.slots] at X63 l63 y63 z63 st63 hQ63
        subst l63 y63 z63
        obtain ⟨hv63, N63q, e63⟩ := hQ63
        rw [show own_forced (1 : Int32) (0 : Int32) o4 o5 o6 o7 = o4 from rfl] at hv63
        subst hv63
        have N63 := Fr.app N48 N63q
        obtain ⟨cq64, kq64, q64a, q64b, q64c⟩ := isOf hZ e63 E2
        obtain ⟨_, _, ⟨T64, L64, k64, n64⟩, -, X64, ⟨Lc64, hQ64, l64, y64, z64⟩, st64⟩ := X63.virtualBack hx (y := (⟨"com/example/unanimity/unanimity/engine/Outcome", "abortedHere", "()Z"⟩ : MethodName)) (z := (⟨"com/example/unanimity/unanimity/engine/Outcome", "abortedHere", "()Z"⟩ : MethodName)) hown (mvT hZ (hw _ (List.mem_of_getElem? (i := 12) rfl))) (mvT hZ (hw _ (List.mem_of_getElem? (i := 13) rfl))) (notFace_of_selects (args := #[]) (mvT hZ (hw _ (List.mem_of_getElem? (i := 15) rfl)))) (mvT hZ (hw _ (List.mem_of_getElem? (i := 15) rfl))) (mvT hZ (hw _ (List.mem_of_getElem? (i := 14) rfl))) (by decide) (backOf (W := 0) (rm3 l Z aw hw [] o2 o0 o1 o2 o3 o4 o5 o6 o7 h0 n0 Z0 S_COMMITTED S_ABORTED S_IN_DOUBT S_UNKNOWN S_FORCED_COMMIT S_FORCED_ABORT S_FORCED_COMMIT_CONFLICT S_FORCED_ABORT_CONFLICT) hZ (hw _ (List.mem_of_getElem? (i := 16) rfl)) (hw _ (List.mem_of_getElem? (i := 5) rfl)) (by decide) (by decide)) q64a q64c (g := (mkF m 78 #[.val (.int p0), .val (.int p1), .val (.int (2 : Int32)), .val (.ref o2), .val (.int (0 : Int32)), .val (.int (1 : Int32)), .val (.int (0 : Int32)), .val (.ref o4), .unset, .unset] [(.ref o2)])) rfl (by rw [hml]; rfl) (Steps.refl _) (argsL := []) (rest := []) (lenOf pd_2 rfl) rfl (by show 2 * 0 + _ ≤ _; exact Nat.le_of_eq rfl) (hb hby at_78) (fun _ _ => ⟨rfl, e63, (by decide : 0 + 0 ≤ _), (by decide : 0 + 0 ≤ _)⟩)
        dsimp only [Pt.U, Pt.locs, Pt.cells, Pt.slots] at X64 l64 y64 z64 st64 hQ64
        subst l64 y64 z64
        obtain ⟨hv64, N64q, e64⟩ := hQ64
        rw [own_three_no (Ne.symm d1_2) d2_5 d2_7] at hv64
        subst hv64
        have N64 := Fr.app N63 N64q
        obtain ⟨cq65, kq65, q65a, q65b, q65c⟩ := isOf hZ e64 E2
        obtain ⟨_, _, ⟨T65, L65, k65, n65⟩, -, X65, ⟨Lc65, hQ65, l65, y65, z65⟩, st65⟩ := X64.virtualBack hx (y := (⟨"com/example/unanimity/unanimity/engine/Outcome", "committedHere", "()Z"⟩ : MethodName)) (z := (⟨"com/example/unanimity/unanimity/engine/Outcome", "committedHere", "()Z"⟩ : MethodName)) hown (mvT hZ (hw _ (List.mem_of_getElem? (i := 23) rfl))) (mvT hZ (hw _ (List.mem_of_getElem? (i := 24) rfl))) (notFace_of_selects (args := #[]) (mvT hZ (hw _ (List.mem_of_getElem? (i := 26) rfl)))) (mvT hZ (hw _ (List.mem_of_getElem? (i := 26) rfl))) (mvT hZ (hw _ (List.mem_of_getElem? (i := 25) rfl))) (by decide) (backOf (W := 0) (rm4 l Z aw hw [] o2 o0 o1 o2 o3 o4 o5 o6 o7 h0 n0 Z0 S_COMMITTED S_ABORTED S_IN_DOUBT S_UNKNOWN S_FORCED_COMMIT S_FORCED_ABORT S_FORCED_COMMIT_CONFLICT S_FORCED_ABORT_CONFLICT) hZ (hw _ (List.mem_of_getElem? (i := 27) rfl)) (hw _ (List.mem_of_getElem? (i := 5) rfl)) (by decide) (by decide)) q65a q65c (g := (mkF m 84 #[.val (.int p0), .val (.int p1), .val (.int (2 : Int32)), .val (.ref o2), .val (.int (0 : Int32)), .val (.int (1 : Int32)), .val (.int (0 : Int32)), .val (.ref o4), .val (.int (0 : Int32)), .unset] [(.ref o2)])) rfl (by rw [hml]; rfl) (Steps.refl _) (argsL := []) (rest := []) (lenOf pd_2 rfl) rfl (by show 2 * 0 + _ ≤ _; exact Nat.le_of_eq rfl) (hb hby at_84) (fun _ _ => ⟨rfl, e64, (by decide : 0 + 0 ≤ _), (by decide : 0 + 0 ≤ _)⟩)
        dsimp only [Pt.U, Pt.locs, Pt.cells, Pt.slots] at X65 l65 y65 z65 st65 hQ65
        subst l65 y65 z65
        obtain ⟨hv65, N65q, e65⟩ := hQ65
        rw [own_three_no (Ne.symm d0_2) d2_4 d2_6] at hv65
        subst hv65
        have N65 := Fr.app N64 N65q
        obtain ⟨cq66, kq66, q66a, q66b, q66c⟩ := isOf hZ e65 E4
        obtain ⟨_, _, ⟨T66, L66, k66, n66⟩, -, X66, ⟨Lc66, hQ66, l66, y66, z66⟩, st66⟩ := X65.virtualBack hx (y := (⟨"com/example/unanimity/unanimity/engine/Outcome", "abortedHere", "()Z"⟩ : MethodName)) (z := (⟨"com/example/unanimity/unanimity/engine/Outcome", "abortedHere", "()Z"⟩ : MethodName)) hown (mvT hZ (hw _ (List.mem_of_getElem? (i := 12) rfl))) (mvT hZ (hw _ (List.mem_of_getElem? (i := 13) rfl))) (notFace_of_selects (args := #[]) (mvT hZ (hw _ (List.mem_of_getElem? (i := 15) rfl)))) (mvT hZ (hw _ (List.mem_of_getElem? (i := 15) rfl))) (mvT hZ (hw _ (List.mem_of_getElem? (i := 14) rfl))) (by decide) (backOf (W := 0) (rm3 l Z aw hw [] o4 o0 o1 o2 o3 o4 o5 o6 o7 h0 n0 Z0 S_COMMITTED S_ABORTED S_IN_DOUBT S_UNKNOWN S_FORCED_COMMIT S_FORCED_ABORT S_FORCED_COMMIT_CONFLICT S_FORCED_ABORT_CONFLICT) hZ (hw _ (List.mem_of_getElem? (i := 16) rfl)) (hw _ (List.mem_of_getElem? (i := 5) rfl)) (by decide) (by decide)) q66a q66c (g := (mkF m 98 #[.val (.int p0), .val (.int p1), .val (.int (2 : Int32)), .val (.ref o2), .val (.int (0 : Int32)), .val (.int (1 : Int32)), .val (.int (0 : Int32)), .val (.ref o4), .val (.int (0 : Int32)), .val (.int (0 : Int32))] [(.ref o4)])) rfl (by rw [hml]; rfl) (Steps.refl _) (argsL := []) (rest := []) (lenOf pd_2 rfl) rfl (by show 2 * 0 + _ ≤ _; exact Nat.le_of_eq rfl) (hb hby at_98) (fun _ _ => ⟨rfl, e65, (by decide : 0 + 0 ≤ _), (by decide : 0 + 0 ≤ _)⟩)
        dsimp only [Pt.U, Pt.locs, Pt.cells, Pt.slots] at X66 l66 y66 z66 st66 hQ66
        subst l66 y66 z66
        obtain ⟨hv66, N66q, e66⟩ := hQ66
        rw [own_three_no (Ne.symm d1_4) d4_5 d4_7] at hv66
        subst hv66
        have N66 := Fr.app N65 N66q
        obtain ⟨fs, hr, hrun, hended, hW, hsame⟩ := X66.leave (v := some (.int (1 : Int32))) (fun h => by rw [Bd.returns] at h; cases h)
        refine ⟨_, _, pre61 _ ?_, hrun, hended, _, _, rfl, ?_, ⟨_, rfl⟩, hW, hsame.mono (by decide) (by decide)⟩
        · show Steps p.tables e below (T48.setTop (mkF m 58 #[.val (.int p0), .val (.int p1), .val (.int (2 : Int32)), .val (.ref o2), .val (.int (0 : Int32)), .val (.int (1 : Int32)), .unset, .unset, .unset, .unset] [(.int (p1 &&& (2 : Int32)))])) _
          refine XS.ifYes X48.here hx rfl (pc0 := 58) (pc' := 65) rfl (hb hby at_58) rfl ((if0 _ _).trans (teq hc62).1) (by decide) (by decide) ?_
          show Steps p.tables e below (T48.setTop (mkF m 65 #[.val (.int p0), .val (.int p1), .val (.int (2 : Int32)), .val (.ref o2), .val (.int (0 : Int32)), .val (.int (1 : Int32)), .unset, .unset, .unset, .unset] [])) _
          refine XS.iconst X48.here hx rfl (hb hby at_65) ?_
          show Steps p.tables e below (T48.setTop (mkF m 66 #[.val (.int p0), .val (.int p1), .val (.int (2 : Int32)), .val (.ref o2), .val (.int (0 : Int32)), .val (.int (1 : Int32)), .unset, .unset, .unset, .unset] [(.int (0 : Int32))])) _
          refine XS.istore X48.here hx rfl (hb hby at_66) rfl (l' := #[.val (.int p0), .val (.int p1), .val (.int (2 : Int32)), .val (.ref o2), .val (.int (0 : Int32)), .val (.int (1 : Int32)), .val (.int (0 : Int32)), .unset, .unset, .unset]) rfl ?_
          show Steps p.tables e below (T48.setTop (mkF m 68 #[.val (.int p0), .val (.int p1), .val (.int (2 : Int32)), .val (.ref o2), .val (.int (0 : Int32)), .val (.int (1 : Int32)), .val (.int (0 : Int32)), .unset, .unset, .unset] [])) _
          refine XS.iload X48.here hx rfl (hb hby at_68) rfl ?_
          show Steps p.tables e below (T48.setTop (mkF m 70 #[.val (.int p0), .val (.int p1), .val (.int (2 : Int32)), .val (.ref o2), .val (.int (0 : Int32)), .val (.int (1 : Int32)), .val (.int (0 : Int32)), .unset, .unset, .unset] [(.int (1 : Int32))])) _
          refine XS.iload X48.here hx rfl (hb hby at_70) rfl ?_
          show Steps p.tables e below (T48.setTop (mkF m 72 #[.val (.int p0), .val (.int p1), .val (.int (2 : Int32)), .val (.ref o2), .val (.int (0 : Int32)), .val (.int (1 : Int32)), .val (.int (0 : Int32)), .unset, .unset, .unset] [(.int (0 : Int32)), (.int (1 : Int32))])) _
          refine st63 _ ?_
          show Steps p.tables e below (T63.setTop (mkF m 75 #[.val (.int p0), .val (.int p1), .val (.int (2 : Int32)), .val (.ref o2), .val (.int (0 : Int32)), .val (.int (1 : Int32)), .val (.int (0 : Int32)), .unset, .unset, .unset] [(.ref o4)])) _
          refine XS.astore X63.here hx rfl (hb hby at_75) rfl rfl (l' := #[.val (.int p0), .val (.int p1), .val (.int (2 : Int32)), .val (.ref o2), .val (.int (0 : Int32)), .val (.int (1 : Int32)), .val (.int (0 : Int32)), .val (.ref o4), .unset, .unset]) rfl ?_
          show Steps p.tables e below (T63.setTop (mkF m 77 #[.val (.int p0), .val (.int p1), .val (.int (2 : Int32)), .val (.ref o2), .val (.int (0 : Int32)), .val (.int (1 : Int32)), .val (.int (0 : Int32)), .val (.ref o4), .unset, .unset] [])) _
          refine XS.aloadN X63.here hx rfl (hb hby at_77) rfl rfl ?_
          show Steps p.tables e below (T63.setTop (mkF m 78 #[.val (.int p0), .val (.int p1), .val (.int (2 : Int32)), .val (.ref o2), .val (.int (0 : Int32)), .val (.int (1 : Int32)), .val (.int (0 : Int32)), .val (.ref o4), .unset, .unset] [(.ref o2)])) _
          refine st64.trans ?_
          show Steps p.tables e below (T64.setTop (mkF m 81 #[.val (.int p0), .val (.int p1), .val (.int (2 : Int32)), .val (.ref o2), .val (.int (0 : Int32)), .val (.int (1 : Int32)), .val (.int (0 : Int32)), .val (.ref o4), .unset, .unset] [(.int (0 : Int32))])) _
          refine XS.istore X64.here hx rfl (hb hby at_81) rfl (l' := #[.val (.int p0), .val (.int p1), .val (.int (2 : Int32)), .val (.ref o2), .val (.int (0 : Int32)), .val (.int (1 : Int32)), .val (.int (0 : Int32)), .val (.ref o4), .val (.int (0 : Int32)), .unset]) rfl ?_
          show Steps p.tables e below (T64.setTop (mkF m 83 #[.val (.int p0), .val (.int p1), .val (.int (2 : Int32)), .val (.ref o2), .val (.int (0 : Int32)), .val (.int (1 : Int32)), .val (.int (0 : Int32)), .val (.ref o4), .val (.int (0 : Int32)), .unset] [])) _
          refine XS.aloadN X64.here hx rfl (hb hby at_83) rfl rfl ?_
          show Steps p.tables e below (T64.setTop (mkF m 84 #[.val (.int p0), .val (.int p1), .val (.int (2 : Int32)), .val (.ref o2), .val (.int (0 : Int32)), .val (.int (1 : Int32)), .val (.int (0 : Int32)), .val (.ref o4), .val (.int (0 : Int32)), .unset] [(.ref o2)])) _
          refine st65.trans ?_
          show Steps p.tables e below (T65.setTop (mkF m 87 #[.val (.int p0), .val (.int p1), .val (.int (2 : Int32)), .val (.ref o2), .val (.int (0 : Int32)), .val (.int (1 : Int32)), .val (.int (0 : Int32)), .val (.ref o4), .val (.int (0 : Int32)), .unset] [(.int (0 : Int32))])) _
          refine XS.istore X65.here hx rfl (hb hby at_87) rfl (l' := #[.val (.int p0), .val (.int p1), .val (.int (2 : Int32)), .val (.ref o2), .val (.int (0 : Int32)), .val (.int (1 : Int32)), .val (.int (0 : Int32)), .val (.ref o4), .val (.int (0 : Int32)), .val (.int (0 : Int32))]) rfl ?_
          show Steps p.tables e below (T65.setTop (mkF m 89 #[.val (.int p0), .val (.int p1), .val (.int (2 : Int32)), .val (.ref o2), .val (.int (0 : Int32)), .val (.int (1 : Int32)), .val (.int (0 : Int32)), .val (.ref o4), .val (.int (0 : Int32)), .val (.int (0 : Int32))] [])) _
          refine XS.iload X65.here hx rfl (hb hby at_89) rfl ?_
          show Steps p.tables e below (T65.setTop (mkF m 91 #[.val (.int p0), .val (.int p1), .val (.int (2 : Int32)), .val (.ref o2), .val (.int (0 : Int32)), .val (.int (1 : Int32)), .val (.int (0 : Int32)), .val (.ref o4), .val (.int (0 : Int32)), .val (.int (0 : Int32))] [(.int (0 : Int32))])) _
          refine XS.iload X65.here hx rfl (hb hby at_91) rfl ?_
          show Steps p.tables e below (T65.setTop (mkF m 93 #[.val (.int p0), .val (.int p1), .val (.int (2 : Int32)), .val (.ref o2), .val (.int (0 : Int32)), .val (.int (1 : Int32)), .val (.int (0 : Int32)), .val (.ref o4), .val (.int (0 : Int32)), .val (.int (0 : Int32))] [(.int (0 : Int32)), (.int (0 : Int32))])) _
          refine XS.icmpNo X65.here hx rfl (hb hby at_93) rfl (teq (by decide : (0 : Int32) = (0 : Int32))).2 ?_
          show Steps p.tables e below (T65.setTop (mkF m 96 #[.val (.int p0), .val (.int p1), .val (.int (2 : Int32)), .val (.ref o2), .val (.int (0 : Int32)), .val (.int (1 : Int32)), .val (.int (0 : Int32)), .val (.ref o4), .val (.int (0 : Int32)), .val (.int (0 : Int32))] [])) _
          refine XS.aload X65.here hx rfl (hb hby at_96) rfl rfl ?_
          show Steps p.tables e below (T65.setTop (mkF m 98 #[.val (.int p0), .val (.int p1), .val (.int (2 : Int32)), .val (.ref o2), .val (.int (0 : Int32)), .val (.int (1 : Int32)), .val (.int (0 : Int32)), .val (.ref o4), .val (.int (0 : Int32)), .val (.int (0 : Int32))] [(.ref o4)])) _
          refine st66.trans ?_
          show Steps p.tables e below (T66.setTop (mkF m 101 #[.val (.int p0), .val (.int p1), .val (.int (2 : Int32)), .val (.ref o2), .val (.int (0 : Int32)), .val (.int (1 : Int32)), .val (.int (0 : Int32)), .val (.ref o4), .val (.int (0 : Int32)), .val (.int (0 : Int32))] [(.int (0 : Int32))])) _
          refine XS.iload X66.here hx rfl (hb hby at_101) rfl ?_
          show Steps p.tables e below (T66.setTop (mkF m 103 #[.val (.int p0), .val (.int p1), .val (.int (2 : Int32)), .val (.ref o2), .val (.int (0 : Int32)), .val (.int (1 : Int32)), .val (.int (0 : Int32)), .val (.ref o4), .val (.int (0 : Int32)), .val (.int (0 : Int32))] [(.int (1 : Int32)), (.int (0 : Int32))])) _
          refine XS.ifYes X66.here hx rfl (pc0 := 103) (pc' := 110) rfl (hb hby at_103) rfl ((if0 _ _).trans (feq (by decide : ¬ ((1 : Int32) = (0 : Int32)))).2) (by decide) (by decide) ?_
          show Steps p.tables e below (T66.setTop (mkF m 110 #[.val (.int p0), .val (.int p1), .val (.int (2 : Int32)), .val (.ref o2), .val (.int (0 : Int32)), .val (.int (1 : Int32)), .val (.int (0 : Int32)), .val (.ref o4), .val (.int (0 : Int32)), .val (.int (0 : Int32))] [(.int (0 : Int32))])) _
          refine XS.iconst X66.here hx rfl (hb hby at_110) ?_
          show Steps p.tables e below (T66.setTop (mkF m 111 #[.val (.int p0), .val (.int p1), .val (.int (2 : Int32)), .val (.ref o2), .val (.int (0 : Int32)), .val (.int (1 : Int32)), .val (.int (0 : Int32)), .val (.ref o4), .val (.int (0 : Int32)), .val (.int (0 : Int32))] [(.int (0 : Int32)), (.int (0 : Int32))])) _
          refine XS.icmpNo X66.here hx rfl (hb hby at_111) rfl (teq (by decide : (0 : Int32) = (0 : Int32))).2 ?_
          show Steps p.tables e below (T66.setTop (mkF m 114 #[.val (.int p0), .val (.int p1), .val (.int (2 : Int32)), .val (.ref o2), .val (.int (0 : Int32)), .val (.int (1 : Int32)), .val (.int (0 : Int32)), .val (.ref o4), .val (.int (0 : Int32)), .val (.int (0 : Int32))] [])) _
          refine XS.iload X66.here hx rfl (hb hby at_114) rfl ?_
          show Steps p.tables e below (T66.setTop (mkF m 116 #[.val (.int p0), .val (.int p1), .val (.int (2 : Int32)), .val (.ref o2), .val (.int (0 : Int32)), .val (.int (1 : Int32)), .val (.int (0 : Int32)), .val (.ref o4), .val (.int (0 : Int32)), .val (.int (0 : Int32))] [(.int (0 : Int32))])) _
          refine XS.ifYes X66.here hx rfl (pc0 := 116) (pc' := 124) rfl (hb hby at_116) rfl ((if0 _ _).trans (teq (by decide : (0 : Int32) = (0 : Int32))).1) (by decide) (by decide) ?_
          show Steps p.tables e below (T66.setTop (mkF m 124 #[.val (.int p0), .val (.int p1), .val (.int (2 : Int32)), .val (.ref o2), .val (.int (0 : Int32)), .val (.int (1 : Int32)), .val (.int (0 : Int32)), .val (.ref o4), .val (.int (0 : Int32)), .val (.int (0 : Int32))] [])) _
          refine XS.iconst X66.here hx rfl (hb hby at_124) ?_
          show Steps p.tables e below (T66.setTop (mkF m 125 #[.val (.int p0), .val (.int p1), .val (.int (2 : Int32)), .val (.ref o2), .val (.int (0 : Int32)), .val (.int (1 : Int32)), .val (.int (0 : Int32)), .val (.ref o4), .val (.int (0 : Int32)), .val (.int (0 : Int32))] [(.int (1 : Int32))])) _
          refine XS.goto X66.here hx rfl (pc0 := 125) (pc' := 129) rfl (hb hby at_125) (by decide) (by decide) ?_
          show Steps p.tables e below (T66.setTop (mkF m 129 #[.val (.int p0), .val (.int p1), .val (.int (2 : Int32)), .val (.ref o2), .val (.int (0 : Int32)), .val (.int (1 : Int32)), .val (.int (0 : Int32)), .val (.ref o4), .val (.int (0 : Int32)), .val (.int (0 : Int32))] [(.int (1 : Int32))])) _
          exact retN X66 hx (t := .boolean) Bd.returns (by simp) (hb hby at_129) hr
        · show Q0 Z p0 p1 o0 o1 o2 o3 o4 o5 o6 o7 h0 n0 _ T66.heap _
          rw [e66]
          exact ⟨rfl, N66⟩
      · obtain ⟨_, _, ⟨T67, L67, k67, n67⟩, -, X67, ⟨Lc67, hQ67, l67, y67, z67⟩, st67⟩ := Jvm.LawKit.callS X48 hx (y := (⟨"com/example/unanimity/unanimity/engine/Outcome", "forced", "(ZZ)Lcom/example/unanimity/unanimity/engine/Outcome;"⟩ : MethodName)) hown (mvT hZ (hw _ (List.mem_of_getElem? (i := 7) rfl))) (mvT hZ (hw _ (List.mem_of_getElem? (i := 8) rfl))) (mvT hZ (hw _ (List.mem_of_getElem? (i := 5) rfl))) (mvT hZ (hw _ (List.mem_of_getElem? (i := 9) rfl))) (by decide) (backOf (W := 0) (rm2 l Z aw hw [] (1 : Int32) (1 : Int32) o0 o1 o2 o3 o4 o5 o6 o7 h0 n0 Z0 S_COMMITTED S_ABORTED S_IN_DOUBT S_UNKNOWN S_FORCED_COMMIT S_FORCED_ABORT S_FORCED_COMMIT_CONFLICT S_FORCED_ABORT_CONFLICT) hZ (hw _ (List.mem_of_getElem? (i := 9) rfl)) (hw _ (List.mem_of_getElem? (i := 5) rfl)) (by decide) (by decide)) (g := (mkF m 72 #[.val (.int p0), .val (.int p1), .val (.int (2 : Int32)), .val (.ref o2), .val (.int (0 : Int32)), .val (.int (1 : Int32)), .val (.int (1 : Int32)), .unset, .unset, .unset] [(.int (1 : Int32)), (.int (1 : Int32))])) rfl (by rw [hml]; rfl) (argsL := [(.int (1 : Int32)), (.int (1 : Int32))]) (rest := []) (lenOf pd_1 rfl) rfl (by show 2 * 0 + _ ≤ _; exact Nat.le_of_eq rfl) (hb hby at_72) (fun _ _ => ⟨rfl, e48, (by decide : 0 + 0 ≤ _), (by decide : 0 + 0 ≤ _)⟩)
        dsimp only [Pt.U, Pt.locs, Pt.cells, Pt.slots] at X67 l67 y67 z67 st67 hQ67
        subst l67 y67 z67
        obtain ⟨hv67, N67q, e67⟩ := hQ67
        rw [show own_forced (1 : Int32) (1 : Int32) o4 o5 o6 o7 = o6 from rfl] at hv67
        subst hv67
        have N67 := Fr.app N48 N67q
        obtain ⟨cq68, kq68, q68a, q68b, q68c⟩ := isOf hZ e67 E2
        obtain ⟨_, _, ⟨T68, L68, k68, n68⟩, -, X68, ⟨Lc68, hQ68, l68, y68, z68⟩, st68⟩ := X67.virtualBack hx (y := (⟨"com/example/unanimity/unanimity/engine/Outcome", "abortedHere", "()Z"⟩ : MethodName)) (z := (⟨"com/example/unanimity/unanimity/engine/Outcome", "abortedHere", "()Z"⟩ : MethodName)) hown (mvT hZ (hw _ (List.mem_of_getElem? (i := 12) rfl))) (mvT hZ (hw _ (List.mem_of_getElem? (i := 13) rfl))) (notFace_of_selects (args := #[]) (mvT hZ (hw _ (List.mem_of_getElem? (i := 15) rfl)))) (mvT hZ (hw _ (List.mem_of_getElem? (i := 15) rfl))) (mvT hZ (hw _ (List.mem_of_getElem? (i := 14) rfl))) (by decide) (backOf (W := 0) (rm3 l Z aw hw [] o2 o0 o1 o2 o3 o4 o5 o6 o7 h0 n0 Z0 S_COMMITTED S_ABORTED S_IN_DOUBT S_UNKNOWN S_FORCED_COMMIT S_FORCED_ABORT S_FORCED_COMMIT_CONFLICT S_FORCED_ABORT_CONFLICT) hZ (hw _ (List.mem_of_getElem? (i := 16) rfl)) (hw _ (List.mem_of_getElem? (i := 5) rfl)) (by decide) (by decide)) q68a q68c (g := (mkF m 78 #[.val (.int p0), .val (.int p1), .val (.int (2 : Int32)), .val (.ref o2), .val (.int (0 : Int32)), .val (.int (1 : Int32)), .val (.int (1 : Int32)), .val (.ref o6), .unset, .unset] [(.ref o2)])) rfl (by rw [hml]; rfl) (Steps.refl _) (argsL := []) (rest := []) (lenOf pd_2 rfl) rfl (by show 2 * 0 + _ ≤ _; exact Nat.le_of_eq rfl) (hb hby at_78) (fun _ _ => ⟨rfl, e67, (by decide : 0 + 0 ≤ _), (by decide : 0 + 0 ≤ _)⟩)
        dsimp only [Pt.U, Pt.locs, Pt.cells, Pt.slots] at X68 l68 y68 z68 st68 hQ68
        subst l68 y68 z68
        obtain ⟨hv68, N68q, e68⟩ := hQ68
        rw [own_three_no (Ne.symm d1_2) d2_5 d2_7] at hv68
        subst hv68
        have N68 := Fr.app N67 N68q
        obtain ⟨cq69, kq69, q69a, q69b, q69c⟩ := isOf hZ e68 E2
        obtain ⟨_, _, ⟨T69, L69, k69, n69⟩, -, X69, ⟨Lc69, hQ69, l69, y69, z69⟩, st69⟩ := X68.virtualBack hx (y := (⟨"com/example/unanimity/unanimity/engine/Outcome", "committedHere", "()Z"⟩ : MethodName)) (z := (⟨"com/example/unanimity/unanimity/engine/Outcome", "committedHere", "()Z"⟩ : MethodName)) hown (mvT hZ (hw _ (List.mem_of_getElem? (i := 23) rfl))) (mvT hZ (hw _ (List.mem_of_getElem? (i := 24) rfl))) (notFace_of_selects (args := #[]) (mvT hZ (hw _ (List.mem_of_getElem? (i := 26) rfl)))) (mvT hZ (hw _ (List.mem_of_getElem? (i := 26) rfl))) (mvT hZ (hw _ (List.mem_of_getElem? (i := 25) rfl))) (by decide) (backOf (W := 0) (rm4 l Z aw hw [] o2 o0 o1 o2 o3 o4 o5 o6 o7 h0 n0 Z0 S_COMMITTED S_ABORTED S_IN_DOUBT S_UNKNOWN S_FORCED_COMMIT S_FORCED_ABORT S_FORCED_COMMIT_CONFLICT S_FORCED_ABORT_CONFLICT) hZ (hw _ (List.mem_of_getElem? (i := 27) rfl)) (hw _ (List.mem_of_getElem? (i := 5) rfl)) (by decide) (by decide)) q69a q69c (g := (mkF m 84 #[.val (.int p0), .val (.int p1), .val (.int (2 : Int32)), .val (.ref o2), .val (.int (0 : Int32)), .val (.int (1 : Int32)), .val (.int (1 : Int32)), .val (.ref o6), .val (.int (0 : Int32)), .unset] [(.ref o2)])) rfl (by rw [hml]; rfl) (Steps.refl _) (argsL := []) (rest := []) (lenOf pd_2 rfl) rfl (by show 2 * 0 + _ ≤ _; exact Nat.le_of_eq rfl) (hb hby at_84) (fun _ _ => ⟨rfl, e68, (by decide : 0 + 0 ≤ _), (by decide : 0 + 0 ≤ _)⟩)
        dsimp only [Pt.U, Pt.locs, Pt.cells, Pt.slots] at X69 l69 y69 z69 st69 hQ69
        subst l69 y69 z69
        obtain ⟨hv69, N69q, e69⟩ := hQ69
        rw [own_three_no (Ne.symm d0_2) d2_4 d2_6] at hv69
        subst hv69
        have N69 := Fr.app N68 N69q
        obtain ⟨cq70, kq70, q70a, q70b, q70c⟩ := isOf hZ e69 E6
        obtain ⟨_, _, ⟨T70, L70, k70, n70⟩, -, X70, ⟨Lc70, hQ70, l70, y70, z70⟩, st70⟩ := X69.virtualBack hx (y := (⟨"com/example/unanimity/unanimity/engine/Outcome", "abortedHere", "()Z"⟩ : MethodName)) (z := (⟨"com/example/unanimity/unanimity/engine/Outcome", "abortedHere", "()Z"⟩ : MethodName)) hown (mvT hZ (hw _ (List.mem_of_getElem? (i := 12) rfl))) (mvT hZ (hw _ (List.mem_of_getElem? (i := 13) rfl))) (notFace_of_selects (args := #[]) (mvT hZ (hw _ (List.mem_of_getElem? (i := 15) rfl)))) (mvT hZ (hw _ (List.mem_of_getElem? (i := 15) rfl))) (mvT hZ (hw _ (List.mem_of_getElem? (i := 14) rfl))) (by decide) (backOf (W := 0) (rm3 l Z aw hw [] o6 o0 o1 o2 o3 o4 o5 o6 o7 h0 n0 Z0 S_COMMITTED S_ABORTED S_IN_DOUBT S_UNKNOWN S_FORCED_COMMIT S_FORCED_ABORT S_FORCED_COMMIT_CONFLICT S_FORCED_ABORT_CONFLICT) hZ (hw _ (List.mem_of_getElem? (i := 16) rfl)) (hw _ (List.mem_of_getElem? (i := 5) rfl)) (by decide) (by decide)) q70a q70c (g := (mkF m 98 #[.val (.int p0), .val (.int p1), .val (.int (2 : Int32)), .val (.ref o2), .val (.int (0 : Int32)), .val (.int (1 : Int32)), .val (.int (1 : Int32)), .val (.ref o6), .val (.int (0 : Int32)), .val (.int (0 : Int32))] [(.ref o6)])) rfl (by rw [hml]; rfl) (Steps.refl _) (argsL := []) (rest := []) (lenOf pd_2 rfl) rfl (by show 2 * 0 + _ ≤ _; exact Nat.le_of_eq rfl) (hb hby at_98) (fun _ _ => ⟨rfl, e69, (by decide : 0 + 0 ≤ _), (by decide : 0 + 0 ≤ _)⟩)
        dsimp only [Pt.U, Pt.locs, Pt.cells, Pt.slots] at X70 l70 y70 z70 st70 hQ70
        subst l70 y70 z70
        obtain ⟨hv70, N70q, e70⟩ := hQ70
        rw [own_three_no (Ne.symm d1_6) (Ne.symm d5_6) d6_7] at hv70
        subst hv70
        have N70 := Fr.app N69 N70q
        obtain ⟨fs, hr, hrun, hended, hW, hsame⟩ := X70.leave (v := some (.int (1 : Int32))) (fun h => by rw [Bd.returns] at h; cases h)
        refine ⟨_, _, pre61 _ ?_, hrun, hended, _, _, rfl, ?_, ⟨_, rfl⟩, hW, hsame.mono (by decide) (by decide)⟩
        · show Steps p.tables e below (T48.setTop (mkF m 58 #[.val (.int p0), .val (.int p1), .val (.int (2 : Int32)), .val (.ref o2), .val (.int (0 : Int32)), .val (.int (1 : Int32)), .unset, .unset, .unset, .unset] [(.int (p1 &&& (2 : Int32)))])) _
          refine XS.ifNo X48.here hx rfl (hb hby at_58) rfl ((if0 _ _).trans (feq hc62).1) ?_
          show Steps p.tables e below (T48.setTop (mkF m 61 #[.val (.int p0), .val (.int p1), .val (.int (2 : Int32)), .val (.ref o2), .val (.int (0 : Int32)), .val (.int (1 : Int32)), .unset, .unset, .unset, .unset] [])) _
          refine XS.iconst X48.here hx rfl (hb hby at_61) ?_
          show Steps p.tables e below (T48.setTop (mkF m 62 #[.val (.int p0), .val (.int p1), .val (.int (2 : Int32)), .val (.ref o2), .val (.int (0 : Int32)), .val (.int (1 : Int32)), .unset, .unset, .unset, .unset] [(.int (1 : Int32))])) _
          refine XS.goto X48.here hx rfl (pc0 := 62) (pc' := 66) rfl (hb hby at_62) (by decide) (by decide) ?_
          show Steps p.tables e below (T48.setTop (mkF m 66 #[.val (.int p0), .val (.int p1), .val (.int (2 : Int32)), .val (.ref o2), .val (.int (0 : Int32)), .val (.int (1 : Int32)), .unset, .unset, .unset, .unset] [(.int (1 : Int32))])) _
          refine XS.istore X48.here hx rfl (hb hby at_66) rfl (l' := #[.val (.int p0), .val (.int p1), .val (.int (2 : Int32)), .val (.ref o2), .val (.int (0 : Int32)), .val (.int (1 : Int32)), .val (.int (1 : Int32)), .unset, .unset, .unset]) rfl ?_
          show Steps p.tables e below (T48.setTop (mkF m 68 #[.val (.int p0), .val (.int p1), .val (.int (2 : Int32)), .val (.ref o2), .val (.int (0 : Int32)), .val (.int (1 : Int32)), .val (.int (1 : Int32)), .unset, .unset, .unset] [])) _
          refine XS.iload X48.here hx rfl (hb hby at_68) rfl ?_
          show Steps p.tables e below (T48.setTop (mkF m 70 #[.val (.int p0), .val (.int p1), .val (.int (2 : Int32)), .val (.ref o2), .val (.int (0 : Int32)), .val (.int (1 : Int32)), .val (.int (1 : Int32)), .unset, .unset, .unset] [(.int (1 : Int32))])) _
          refine XS.iload X48.here hx rfl (hb hby at_70) rfl ?_
          show Steps p.tables e below (T48.setTop (mkF m 72 #[.val (.int p0), .val (.int p1), .val (.int (2 : Int32)), .val (.ref o2), .val (.int (0 : Int32)), .val (.int (1 : Int32)), .val (.int (1 : Int32)), .unset, .unset, .unset] [(.int (1 : Int32)), (.int (1 : Int32))])) _
          refine st67 _ ?_
          show Steps p.tables e below (T67.setTop (mkF m 75 #[.val (.int p0), .val (.int p1), .val (.int (2 : Int32)), .val (.ref o2), .val (.int (0 : Int32)), .val (.int (1 : Int32)), .val (.int (1 : Int32)), .unset, .unset, .unset] [(.ref o6)])) _
          refine XS.astore X67.here hx rfl (hb hby at_75) rfl rfl (l' := #[.val (.int p0), .val (.int p1), .val (.int (2 : Int32)), .val (.ref o2), .val (.int (0 : Int32)), .val (.int (1 : Int32)), .val (.int (1 : Int32)), .val (.ref o6), .unset, .unset]) rfl ?_
          show Steps p.tables e below (T67.setTop (mkF m 77 #[.val (.int p0), .val (.int p1), .val (.int (2 : Int32)), .val (.ref o2), .val (.int (0 : Int32)), .val (.int (1 : Int32)), .val (.int (1 : Int32)), .val (.ref o6), .unset, .unset] [])) _
          refine XS.aloadN X67.here hx rfl (hb hby at_77) rfl rfl ?_
          show Steps p.tables e below (T67.setTop (mkF m 78 #[.val (.int p0), .val (.int p1), .val (.int (2 : Int32)), .val (.ref o2), .val (.int (0 : Int32)), .val (.int (1 : Int32)), .val (.int (1 : Int32)), .val (.ref o6), .unset, .unset] [(.ref o2)])) _
          refine st68.trans ?_
          show Steps p.tables e below (T68.setTop (mkF m 81 #[.val (.int p0), .val (.int p1), .val (.int (2 : Int32)), .val (.ref o2), .val (.int (0 : Int32)), .val (.int (1 : Int32)), .val (.int (1 : Int32)), .val (.ref o6), .unset, .unset] [(.int (0 : Int32))])) _
          refine XS.istore X68.here hx rfl (hb hby at_81) rfl (l' := #[.val (.int p0), .val (.int p1), .val (.int (2 : Int32)), .val (.ref o2), .val (.int (0 : Int32)), .val (.int (1 : Int32)), .val (.int (1 : Int32)), .val (.ref o6), .val (.int (0 : Int32)), .unset]) rfl ?_
          show Steps p.tables e below (T68.setTop (mkF m 83 #[.val (.int p0), .val (.int p1), .val (.int (2 : Int32)), .val (.ref o2), .val (.int (0 : Int32)), .val (.int (1 : Int32)), .val (.int (1 : Int32)), .val (.ref o6), .val (.int (0 : Int32)), .unset] [])) _
          refine XS.aloadN X68.here hx rfl (hb hby at_83) rfl rfl ?_
          show Steps p.tables e below (T68.setTop (mkF m 84 #[.val (.int p0), .val (.int p1), .val (.int (2 : Int32)), .val (.ref o2), .val (.int (0 : Int32)), .val (.int (1 : Int32)), .val (.int (1 : Int32)), .val (.ref o6), .val (.int (0 : Int32)), .unset] [(.ref o2)])) _
          refine st69.trans ?_
          show Steps p.tables e below (T69.setTop (mkF m 87 #[.val (.int p0), .val (.int p1), .val (.int (2 : Int32)), .val (.ref o2), .val (.int (0 : Int32)), .val (.int (1 : Int32)), .val (.int (1 : Int32)), .val (.ref o6), .val (.int (0 : Int32)), .unset] [(.int (0 : Int32))])) _
          refine XS.istore X69.here hx rfl (hb hby at_87) rfl (l' := #[.val (.int p0), .val (.int p1), .val (.int (2 : Int32)), .val (.ref o2), .val (.int (0 : Int32)), .val (.int (1 : Int32)), .val (.int (1 : Int32)), .val (.ref o6), .val (.int (0 : Int32)), .val (.int (0 : Int32))]) rfl ?_
          show Steps p.tables e below (T69.setTop (mkF m 89 #[.val (.int p0), .val (.int p1), .val (.int (2 : Int32)), .val (.ref o2), .val (.int (0 : Int32)), .val (.int (1 : Int32)), .val (.int (1 : Int32)), .val (.ref o6), .val (.int (0 : Int32)), .val (.int (0 : Int32))] [])) _
          refine XS.iload X69.here hx rfl (hb hby at_89) rfl ?_
          show Steps p.tables e below (T69.setTop (mkF m 91 #[.val (.int p0), .val (.int p1), .val (.int (2 : Int32)), .val (.ref o2), .val (.int (0 : Int32)), .val (.int (1 : Int32)), .val (.int (1 : Int32)), .val (.ref o6), .val (.int (0 : Int32)), .val (.int (0 : Int32))] [(.int (0 : Int32))])) _
          refine XS.iload X69.here hx rfl (hb hby at_91) rfl ?_
          show Steps p.tables e below (T69.setTop (mkF m 93 #[.val (.int p0), .val (.int p1), .val (.int (2 : Int32)), .val (.ref o2), .val (.int (0 : Int32)), .val (.int (1 : Int32)), .val (.int (1 : Int32)), .val (.ref o6), .val (.int (0 : Int32)), .val (.int (0 : Int32))] [(.int (0 : Int32)), (.int (0 : Int32))])) _
          refine XS.icmpNo X69.here hx rfl (hb hby at_93) rfl (teq (by decide : (0 : Int32) = (0 : Int32))).2 ?_
          show Steps p.tables e below (T69.setTop (mkF m 96 #[.val (.int p0), .val (.int p1), .val (.int (2 : Int32)), .val (.ref o2), .val (.int (0 : Int32)), .val (.int (1 : Int32)), .val (.int (1 : Int32)), .val (.ref o6), .val (.int (0 : Int32)), .val (.int (0 : Int32))] [])) _
          refine XS.aload X69.here hx rfl (hb hby at_96) rfl rfl ?_
          show Steps p.tables e below (T69.setTop (mkF m 98 #[.val (.int p0), .val (.int p1), .val (.int (2 : Int32)), .val (.ref o2), .val (.int (0 : Int32)), .val (.int (1 : Int32)), .val (.int (1 : Int32)), .val (.ref o6), .val (.int (0 : Int32)), .val (.int (0 : Int32))] [(.ref o6)])) _
          refine st70.trans ?_
          show Steps p.tables e below (T70.setTop (mkF m 101 #[.val (.int p0), .val (.int p1), .val (.int (2 : Int32)), .val (.ref o2), .val (.int (0 : Int32)), .val (.int (1 : Int32)), .val (.int (1 : Int32)), .val (.ref o6), .val (.int (0 : Int32)), .val (.int (0 : Int32))] [(.int (0 : Int32))])) _
          refine XS.iload X70.here hx rfl (hb hby at_101) rfl ?_
          show Steps p.tables e below (T70.setTop (mkF m 103 #[.val (.int p0), .val (.int p1), .val (.int (2 : Int32)), .val (.ref o2), .val (.int (0 : Int32)), .val (.int (1 : Int32)), .val (.int (1 : Int32)), .val (.ref o6), .val (.int (0 : Int32)), .val (.int (0 : Int32))] [(.int (1 : Int32)), (.int (0 : Int32))])) _
          refine XS.ifYes X70.here hx rfl (pc0 := 103) (pc' := 110) rfl (hb hby at_103) rfl ((if0 _ _).trans (feq (by decide : ¬ ((1 : Int32) = (0 : Int32)))).2) (by decide) (by decide) ?_
          show Steps p.tables e below (T70.setTop (mkF m 110 #[.val (.int p0), .val (.int p1), .val (.int (2 : Int32)), .val (.ref o2), .val (.int (0 : Int32)), .val (.int (1 : Int32)), .val (.int (1 : Int32)), .val (.ref o6), .val (.int (0 : Int32)), .val (.int (0 : Int32))] [(.int (0 : Int32))])) _
          refine XS.iconst X70.here hx rfl (hb hby at_110) ?_
          show Steps p.tables e below (T70.setTop (mkF m 111 #[.val (.int p0), .val (.int p1), .val (.int (2 : Int32)), .val (.ref o2), .val (.int (0 : Int32)), .val (.int (1 : Int32)), .val (.int (1 : Int32)), .val (.ref o6), .val (.int (0 : Int32)), .val (.int (0 : Int32))] [(.int (0 : Int32)), (.int (0 : Int32))])) _
          refine XS.icmpNo X70.here hx rfl (hb hby at_111) rfl (teq (by decide : (0 : Int32) = (0 : Int32))).2 ?_
          show Steps p.tables e below (T70.setTop (mkF m 114 #[.val (.int p0), .val (.int p1), .val (.int (2 : Int32)), .val (.ref o2), .val (.int (0 : Int32)), .val (.int (1 : Int32)), .val (.int (1 : Int32)), .val (.ref o6), .val (.int (0 : Int32)), .val (.int (0 : Int32))] [])) _
          refine XS.iload X70.here hx rfl (hb hby at_114) rfl ?_
          show Steps p.tables e below (T70.setTop (mkF m 116 #[.val (.int p0), .val (.int p1), .val (.int (2 : Int32)), .val (.ref o2), .val (.int (0 : Int32)), .val (.int (1 : Int32)), .val (.int (1 : Int32)), .val (.ref o6), .val (.int (0 : Int32)), .val (.int (0 : Int32))] [(.int (0 : Int32))])) _
          refine XS.ifYes X70.here hx rfl (pc0 := 116) (pc' := 124) rfl (hb hby at_116) rfl ((if0 _ _).trans (teq (by decide : (0 : Int32) = (0 : Int32))).1) (by decide) (by decide) ?_
          show Steps p.tables e below (T70.setTop (mkF m 124 #[.val (.int p0), .val (.int p1), .val (.int (2 : Int32)), .val (.ref o2), .val (.int (0 : Int32)), .val (.int (1 : Int32)), .val (.int (1 : Int32)), .val (.ref o6), .val (.int (0 : Int32)), .val (.int (0 : Int32))] [])) _
          refine XS.iconst X70.here hx rfl (hb hby at_124) ?_
          show Steps p.tables e below (T70.setTop (mkF m 125 #[.val (.int p0), .val (.int p1), .val (.int (2 : Int32)), .val (.ref o2), .val (.int (0 : Int32)), .val (.int (1 : Int32)), .val (.int (1 : Int32)), .val (.ref o6), .val (.int (0 : Int32)), .val (.int (0 : Int32))] [(.int (1 : Int32))])) _
          refine XS.goto X70.here hx rfl (pc0 := 125) (pc' := 129) rfl (hb hby at_125) (by decide) (by decide) ?_
          show Steps p.tables e below (T70.setTop (mkF m 129 #[.val (.int p0), .val (.int p1), .val (.int (2 : Int32)), .val (.ref o2), .val (.int (0 : Int32)), .val (.int (1 : Int32)), .val (.int (1 : Int32)), .val (.ref o6), .val (.int (0 : Int32)), .val (.int (0 : Int32))] [(.int (1 : Int32))])) _
          exact retN X70 hx (t := .boolean) Bd.returns (by simp) (hb hby at_129) hr
        · show Q0 Z p0 p1 o0 o1 o2 o3 o4 o5 o6 o7 h0 n0 _ T70.heap _
          rw [e70]
          exact ⟨rfl, N70⟩
  · obtain ⟨_, _, ⟨T71, L71, k71, n71⟩, -, X71, ⟨Lc71, hQ71, l71, y71, z71⟩, st71⟩ := Jvm.LawKit.callS X0 hx (y := (⟨"com/example/unanimity/unanimity/engine/OutcomeAbortedHerePinLaw", "pick", "(I)Lcom/example/unanimity/unanimity/engine/Outcome;"⟩ : MethodName)) hown (mvT hZ (hw _ (List.mem_of_getElem? (i := 0) rfl))) (mvT hZ (hw _ (List.mem_of_getElem? (i := 1) rfl))) (mvT hZ (hw _ (List.mem_of_getElem? (i := 2) rfl))) (mvT hZ (hw _ (List.mem_of_getElem? (i := 3) rfl))) (by decide) (backOf (W := 0) (rm1 l Z aw hw [] (3 : Int32) o0 o1 o2 o3 o4 o5 o6 o7 h0 n0 Z0 S_COMMITTED S_ABORTED S_IN_DOUBT S_UNKNOWN S_FORCED_COMMIT S_FORCED_ABORT S_FORCED_COMMIT_CONFLICT S_FORCED_ABORT_CONFLICT) hZ (hw _ (List.mem_of_getElem? (i := 3) rfl)) (hw _ (List.mem_of_getElem? (i := 2) rfl)) (by decide) (by decide)) (g := (mkF m 6 #[.val (.int p0), .val (.int p1), .val (.int (3 : Int32)), .unset, .unset, .unset, .unset, .unset, .unset, .unset] [(.int (3 : Int32))])) rfl (by rw [hml]; rfl) (argsL := [(.int (3 : Int32))]) (rest := []) (lenOf pd_0 rfl) rfl (by show 2 * 0 + _ ≤ _; exact Nat.le_of_eq rfl) (hb hby at_6) (fun _ _ => ⟨rfl, e0, (by decide : 0 + 0 ≤ _), (by decide : 0 + 0 ≤ _)⟩)
    dsimp only [Pt.U, Pt.locs, Pt.cells, Pt.slots] at X71 l71 y71 z71 st71 hQ71
    subst l71 y71 z71
    obtain ⟨hv71, N71q, e71⟩ := hQ71
    rw [show own_pick (3 : Int32) o0 o1 o2 o3 o4 o5 o6 o7 = o3 from rfl] at hv71
    subst hv71
    have N71 := Fr.app N0 N71q
    have pre72 : ∀ t, Steps p.tables e below (T71.setTop (mkF m 45 #[.val (.int p0), .val (.int p1), .val (.int (3 : Int32)), .val (.ref o3), .val (.int (0 : Int32)), .unset, .unset, .unset, .unset, .unset] [(.int (p1 &&& (1 : Int32)))])) t → Steps p.tables e below (s₁.setTop (entryFrame m #[(.int p0), (.int p1)] maxLocals)) t := fun t k => by
      refine pre1 t ?_
      show Steps p.tables e below (s₁.setTop (mkF m 5 #[.val (.int p0), .val (.int p1), .val (.int (3 : Int32)), .unset, .unset, .unset, .unset, .unset, .unset, .unset] [])) _
      refine XS.iloadN X0.here hx rfl (hb hby at_5) rfl ?_
      show Steps p.tables e below (s₁.setTop (mkF m 6 #[.val (.int p0), .val (.int p1), .val (.int (3 : Int32)), .unset, .unset, .unset, .unset, .unset, .unset, .unset] [(.int (3 : Int32))])) _
      refine st71 _ ?_
      show Steps p.tables e below (T71.setTop (mkF m 9 #[.val (.int p0), .val (.int p1), .val (.int (3 : Int32)), .unset, .unset, .unset, .unset, .unset, .unset, .unset] [(.ref o3)])) _
      refine XS.astoreN X71.here hx rfl (hb hby at_9) rfl rfl (l' := #[.val (.int p0), .val (.int p1), .val (.int (3 : Int32)), .val (.ref o3), .unset, .unset, .unset, .unset, .unset, .unset]) rfl ?_
      show Steps p.tables e below (T71.setTop (mkF m 10 #[.val (.int p0), .val (.int p1), .val (.int (3 : Int32)), .val (.ref o3), .unset, .unset, .unset, .unset, .unset, .unset] [])) _
      refine XS.iloadN X71.here hx rfl (hb hby at_10) rfl ?_
      show Steps p.tables e below (T71.setTop (mkF m 11 #[.val (.int p0), .val (.int p1), .val (.int (3 : Int32)), .val (.ref o3), .unset, .unset, .unset, .unset, .unset, .unset] [(.int (3 : Int32))])) _
      refine XS.iconst X71.here hx rfl (hb hby at_11) ?_
      show Steps p.tables e below (T71.setTop (mkF m 12 #[.val (.int p0), .val (.int p1), .val (.int (3 : Int32)), .val (.ref o3), .unset, .unset, .unset, .unset, .unset, .unset] [(.int (4 : Int32)), (.int (3 : Int32))])) _
      refine XS.icmpNo X71.here hx rfl (hb hby at_12) rfl (tlt (by decide : (3 : Int32) < (4 : Int32))).2.1 ?_
      show Steps p.tables e below (T71.setTop (mkF m 15 #[.val (.int p0), .val (.int p1), .val (.int (3 : Int32)), .val (.ref o3), .unset, .unset, .unset, .unset, .unset, .unset] [])) _
      refine XS.iloadN X71.here hx rfl (hb hby at_15) rfl ?_
      show Steps p.tables e below (T71.setTop (mkF m 16 #[.val (.int p0), .val (.int p1), .val (.int (3 : Int32)), .val (.ref o3), .unset, .unset, .unset, .unset, .unset, .unset] [(.int (3 : Int32))])) _
      refine XS.iconst X71.here hx rfl (hb hby at_16) ?_
      show Steps p.tables e below (T71.setTop (mkF m 17 #[.val (.int p0), .val (.int p1), .val (.int (3 : Int32)), .val (.ref o3), .unset, .unset, .unset, .unset, .unset, .unset] [(.int (1 : Int32)), (.int (3 : Int32))])) _
      refine XS.icmpYes X71.here hx rfl (pc0 := 17) (pc' := 24) rfl (hb hby at_17) rfl (feq (by decide : ¬ ((3 : Int32) = (1 : Int32)))).2 (by decide) (by decide) ?_
      show Steps p.tables e below (T71.setTop (mkF m 24 #[.val (.int p0), .val (.int p1), .val (.int (3 : Int32)), .val (.ref o3), .unset, .unset, .unset, .unset, .unset, .unset] [])) _
      refine XS.iconst X71.here hx rfl (hb hby at_24) ?_
      show Steps p.tables e below (T71.setTop (mkF m 25 #[.val (.int p0), .val (.int p1), .val (.int (3 : Int32)), .val (.ref o3), .unset, .unset, .unset, .unset, .unset, .unset] [(.int (0 : Int32))])) _
      refine XS.goto X71.here hx rfl (pc0 := 25) (pc' := 40) rfl (hb hby at_25) (by decide) (by decide) ?_
      show Steps p.tables e below (T71.setTop (mkF m 40 #[.val (.int p0), .val (.int p1), .val (.int (3 : Int32)), .val (.ref o3), .unset, .unset, .unset, .unset, .unset, .unset] [(.int (0 : Int32))])) _
      refine XS.istore X71.here hx rfl (hb hby at_40) rfl (l' := #[.val (.int p0), .val (.int p1), .val (.int (3 : Int32)), .val (.ref o3), .val (.int (0 : Int32)), .unset, .unset, .unset, .unset, .unset]) rfl ?_
      show Steps p.tables e below (T71.setTop (mkF m 42 #[.val (.int p0), .val (.int p1), .val (.int (3 : Int32)), .val (.ref o3), .val (.int (0 : Int32)), .unset, .unset, .unset, .unset, .unset] [])) _
      refine XS.iloadN X71.here hx rfl (hb hby at_42) rfl ?_
      show Steps p.tables e below (T71.setTop (mkF m 43 #[.val (.int p0), .val (.int p1), .val (.int (3 : Int32)), .val (.ref o3), .val (.int (0 : Int32)), .unset, .unset, .unset, .unset, .unset] [(.int p1)])) _
      refine XS.iconst X71.here hx rfl (hb hby at_43) ?_
      show Steps p.tables e below (T71.setTop (mkF m 44 #[.val (.int p0), .val (.int p1), .val (.int (3 : Int32)), .val (.ref o3), .val (.int (0 : Int32)), .unset, .unset, .unset, .unset, .unset] [(.int (1 : Int32)), (.int p1)])) _
      refine XS.iand X71.here hx rfl (hb hby at_44) rfl ?_
      exact k
    by_cases hc73 : (p1 &&& (1 : Int32)) = (0 : Int32)
    · have pre74 : ∀ t, Steps p.tables e below (T71.setTop (mkF m 58 #[.val (.int p0), .val (.int p1), .val (.int (3 : Int32)), .val (.ref o3), .val (.int (0 : Int32)), .val (.int (0 : Int32)), .unset, .unset, .unset, .unset] [(.int (p1 &&& (2 : Int32)))])) t → Steps p.tables e below (s₁.setTop (entryFrame m #[(.int p0), (.int p1)] maxLocals)) t := fun t k => by
        refine pre72 t ?_
        show Steps p.tables e below (T71.setTop (mkF m 45 #[.val (.int p0), .val (.int p1), .val (.int (3 : Int32)), .val (.ref o3), .val (.int (0 : Int32)), .unset, .unset, .unset, .unset, .unset] [(.int (p1 &&& (1 : Int32)))])) _
        refine XS.ifYes X71.here hx rfl (pc0 := 45) (pc' := 52) rfl (hb hby at_45) rfl ((if0 _ _).trans (teq hc73).1) (by decide) (by decide) ?_
        show Steps p.tables e below (T71.setTop (mkF m 52 #[.val (.int p0), .val (.int p1), .val (.int (3 : Int32)), .val (.ref o3), .val (.int (0 : Int32)), .unset, .unset, .unset, .unset, .unset] [])) _
        refine XS.iconst X71.here hx rfl (hb hby at_52) ?_
        show Steps p.tables e below (T71.setTop (mkF m 53 #[.val (.int p0), .val (.int p1), .val (.int (3 : Int32)), .val (.ref o3), .val (.int (0 : Int32)), .unset, .unset, .unset, .unset, .unset] [(.int (0 : Int32))])) _
        refine XS.istore X71.here hx rfl (hb hby at_53) rfl (l' := #[.val (.int p0), .val (.int p1), .val (.int (3 : Int32)), .val (.ref o3), .val (.int (0 : Int32)), .val (.int (0 : Int32)), .unset, .unset, .unset, .unset]) rfl ?_
        show Steps p.tables e below (T71.setTop (mkF m 55 #[.val (.int p0), .val (.int p1), .val (.int (3 : Int32)), .val (.ref o3), .val (.int (0 : Int32)), .val (.int (0 : Int32)), .unset, .unset, .unset, .unset] [])) _
        refine XS.iloadN X71.here hx rfl (hb hby at_55) rfl ?_
        show Steps p.tables e below (T71.setTop (mkF m 56 #[.val (.int p0), .val (.int p1), .val (.int (3 : Int32)), .val (.ref o3), .val (.int (0 : Int32)), .val (.int (0 : Int32)), .unset, .unset, .unset, .unset] [(.int p1)])) _
        refine XS.iconst X71.here hx rfl (hb hby at_56) ?_
        show Steps p.tables e below (T71.setTop (mkF m 57 #[.val (.int p0), .val (.int p1), .val (.int (3 : Int32)), .val (.ref o3), .val (.int (0 : Int32)), .val (.int (0 : Int32)), .unset, .unset, .unset, .unset] [(.int (2 : Int32)), (.int p1)])) _
        refine XS.iand X71.here hx rfl (hb hby at_57) rfl ?_
        exact k
      by_cases hc75 : (p1 &&& (2 : Int32)) = (0 : Int32)
      · obtain ⟨_, _, ⟨T76, L76, k76, n76⟩, -, X76, ⟨Lc76, hQ76, l76, y76, z76⟩, st76⟩ := Jvm.LawKit.callS X71 hx (y := (⟨"com/example/unanimity/unanimity/engine/Outcome", "forced", "(ZZ)Lcom/example/unanimity/unanimity/engine/Outcome;"⟩ : MethodName)) hown (mvT hZ (hw _ (List.mem_of_getElem? (i := 7) rfl))) (mvT hZ (hw _ (List.mem_of_getElem? (i := 8) rfl))) (mvT hZ (hw _ (List.mem_of_getElem? (i := 5) rfl))) (mvT hZ (hw _ (List.mem_of_getElem? (i := 9) rfl))) (by decide) (backOf (W := 0) (rm2 l Z aw hw [] (0 : Int32) (0 : Int32) o0 o1 o2 o3 o4 o5 o6 o7 h0 n0 Z0 S_COMMITTED S_ABORTED S_IN_DOUBT S_UNKNOWN S_FORCED_COMMIT S_FORCED_ABORT S_FORCED_COMMIT_CONFLICT S_FORCED_ABORT_CONFLICT) hZ (hw _ (List.mem_of_getElem? (i := 9) rfl)) (hw _ (List.mem_of_getElem? (i := 5) rfl)) (by decide) (by decide)) (g := (mkF m 72 #[.val (.int p0), .val (.int p1), .val (.int (3 : Int32)), .val (.ref o3), .val (.int (0 : Int32)), .val (.int (0 : Int32)), .val (.int (0 : Int32)), .unset, .unset, .unset] [(.int (0 : Int32)), (.int (0 : Int32))])) rfl (by rw [hml]; rfl) (argsL := [(.int (0 : Int32)), (.int (0 : Int32))]) (rest := []) (lenOf pd_1 rfl) rfl (by show 2 * 0 + _ ≤ _; exact Nat.le_of_eq rfl) (hb hby at_72) (fun _ _ => ⟨rfl, e71, (by decide : 0 + 0 ≤ _), (by decide : 0 + 0 ≤ _)⟩)
        dsimp only [Pt.U, Pt.locs, Pt.cells, Pt.slots] at X76 l76 y76 z76 st76 hQ76
        subst l76 y76 z76
        obtain ⟨hv76, N76q, e76⟩ := hQ76
        rw [show own_forced (0 : Int32) (0 : Int32) o4 o5 o6 o7 = o5 from rfl] at hv76
        subst hv76
        have N76 := Fr.app N71 N76q
        obtain ⟨cq77, kq77, q77a, q77b, q77c⟩ := isOf hZ e76 E3
        obtain ⟨_, _, ⟨T77, L77, k77, n77⟩, -, X77, ⟨Lc77, hQ77, l77, y77, z77⟩, st77⟩ := X76.virtualBack hx (y := (⟨"com/example/unanimity/unanimity/engine/Outcome", "abortedHere", "()Z"⟩ : MethodName)) (z := (⟨"com/example/unanimity/unanimity/engine/Outcome", "abortedHere", "()Z"⟩ : MethodName)) hown (mvT hZ (hw _ (List.mem_of_getElem? (i := 12) rfl))) (mvT hZ (hw _ (List.mem_of_getElem? (i := 13) rfl))) (notFace_of_selects (args := #[]) (mvT hZ (hw _ (List.mem_of_getElem? (i := 15) rfl)))) (mvT hZ (hw _ (List.mem_of_getElem? (i := 15) rfl))) (mvT hZ (hw _ (List.mem_of_getElem? (i := 14) rfl))) (by decide) (backOf (W := 0) (rm3 l Z aw hw [] o3 o0 o1 o2 o3 o4 o5 o6 o7 h0 n0 Z0 S_COMMITTED S_ABORTED S_IN_DOUBT S_UNKNOWN S_FORCED_COMMIT S_FORCED_ABORT S_FORCED_COMMIT_CONFLICT S_FORCED_ABORT_CONFLICT) hZ (hw _ (List.mem_of_getElem? (i := 16) rfl)) (hw _ (List.mem_of_getElem? (i := 5) rfl)) (by decide) (by decide)) q77a q77c (g := (mkF m 78 #[.val (.int p0), .val (.int p1), .val (.int (3 : Int32)), .val (.ref o3), .val (.int (0 : Int32)), .val (.int (0 : Int32)), .val (.int (0 : Int32)), .val (.ref o5), .unset, .unset] [(.ref o3)])) rfl (by rw [hml]; rfl) (Steps.refl _) (argsL := []) (rest := []) (lenOf pd_2 rfl) rfl (by show 2 * 0 + _ ≤ _; exact Nat.le_of_eq rfl) (hb hby at_78) (fun _ _ => ⟨rfl, e76, (by decide : 0 + 0 ≤ _), (by decide : 0 + 0 ≤ _)⟩)
        dsimp only [Pt.U, Pt.locs, Pt.cells, Pt.slots] at X77 l77 y77 z77 st77 hQ77
        subst l77 y77 z77
        obtain ⟨hv77, N77q, e77⟩ := hQ77
        rw [own_three_no (Ne.symm d1_3) d3_5 d3_7] at hv77
        subst hv77
        have N77 := Fr.app N76 N77q
        obtain ⟨cq78, kq78, q78a, q78b, q78c⟩ := isOf hZ e77 E3
        obtain ⟨_, _, ⟨T78, L78, k78, n78⟩, -, X78, ⟨Lc78, hQ78, l78, y78, z78⟩, st78⟩ := X77.virtualBack hx (y := (⟨"com/example/unanimity/unanimity/engine/Outcome", "committedHere", "()Z"⟩ : MethodName)) (z := (⟨"com/example/unanimity/unanimity/engine/Outcome", "committedHere", "()Z"⟩ : MethodName)) hown (mvT hZ (hw _ (List.mem_of_getElem? (i := 23) rfl))) (mvT hZ (hw _ (List.mem_of_getElem? (i := 24) rfl))) (notFace_of_selects (args := #[]) (mvT hZ (hw _ (List.mem_of_getElem? (i := 26) rfl)))) (mvT hZ (hw _ (List.mem_of_getElem? (i := 26) rfl))) (mvT hZ (hw _ (List.mem_of_getElem? (i := 25) rfl))) (by decide) (backOf (W := 0) (rm4 l Z aw hw [] o3 o0 o1 o2 o3 o4 o5 o6 o7 h0 n0 Z0 S_COMMITTED S_ABORTED S_IN_DOUBT S_UNKNOWN S_FORCED_COMMIT S_FORCED_ABORT S_FORCED_COMMIT_CONFLICT S_FORCED_ABORT_CONFLICT) hZ (hw _ (List.mem_of_getElem? (i := 27) rfl)) (hw _ (List.mem_of_getElem? (i := 5) rfl)) (by decide) (by decide)) q78a q78c (g := (mkF m 84 #[.val (.int p0), .val (.int p1), .val (.int (3 : Int32)), .val (.ref o3), .val (.int (0 : Int32)), .val (.int (0 : Int32)), .val (.int (0 : Int32)), .val (.ref o5), .val (.int (0 : Int32)), .unset] [(.ref o3)])) rfl (by rw [hml]; rfl) (Steps.refl _) (argsL := []) (rest := []) (lenOf pd_2 rfl) rfl (by show 2 * 0 + _ ≤ _; exact Nat.le_of_eq rfl) (hb hby at_84) (fun _ _ => ⟨rfl, e77, (by decide : 0 + 0 ≤ _), (by decide : 0 + 0 ≤ _)⟩)
        dsimp only [Pt.U, Pt.locs, Pt.cells, Pt.slots] at X78 l78 y78 z78 st78 hQ78
        subst l78 y78 z78
        obtain ⟨hv78, N78q, e78⟩ := hQ78
        rw [own_three_no (Ne.symm d0_3) d3_4 d3_6] at hv78
        subst hv78
        have N78 := Fr.app N77 N78q
        obtain ⟨cq79, kq79, q79a, q79b, q79c⟩ := isOf hZ e78 E5
        obtain ⟨_, _, ⟨T79, L79, k79, n79⟩, -, X79, ⟨Lc79, hQ79, l79, y79, z79⟩, st79⟩ := X78.virtualBack hx (y := (⟨"com/example/unanimity/unanimity/engine/Outcome", "abortedHere", "()Z"⟩ : MethodName)) (z := (⟨"com/example/unanimity/unanimity/engine/Outcome", "abortedHere", "()Z"⟩ : MethodName)) hown (mvT hZ (hw _ (List.mem_of_getElem? (i := 12) rfl))) (mvT hZ (hw _ (List.mem_of_getElem? (i := 13) rfl))) (notFace_of_selects (args := #[]) (mvT hZ (hw _ (List.mem_of_getElem? (i := 15) rfl)))) (mvT hZ (hw _ (List.mem_of_getElem? (i := 15) rfl))) (mvT hZ (hw _ (List.mem_of_getElem? (i := 14) rfl))) (by decide) (backOf (W := 0) (rm3 l Z aw hw [] o5 o0 o1 o2 o3 o4 o5 o6 o7 h0 n0 Z0 S_COMMITTED S_ABORTED S_IN_DOUBT S_UNKNOWN S_FORCED_COMMIT S_FORCED_ABORT S_FORCED_COMMIT_CONFLICT S_FORCED_ABORT_CONFLICT) hZ (hw _ (List.mem_of_getElem? (i := 16) rfl)) (hw _ (List.mem_of_getElem? (i := 5) rfl)) (by decide) (by decide)) q79a q79c (g := (mkF m 98 #[.val (.int p0), .val (.int p1), .val (.int (3 : Int32)), .val (.ref o3), .val (.int (0 : Int32)), .val (.int (0 : Int32)), .val (.int (0 : Int32)), .val (.ref o5), .val (.int (0 : Int32)), .val (.int (0 : Int32))] [(.ref o5)])) rfl (by rw [hml]; rfl) (Steps.refl _) (argsL := []) (rest := []) (lenOf pd_2 rfl) rfl (by show 2 * 0 + _ ≤ _; exact Nat.le_of_eq rfl) (hb hby at_98) (fun _ _ => ⟨rfl, e78, (by decide : 0 + 0 ≤ _), (by decide : 0 + 0 ≤ _)⟩)
        dsimp only [Pt.U, Pt.locs, Pt.cells, Pt.slots] at X79 l79 y79 z79 st79 hQ79
        subst l79 y79 z79
        obtain ⟨hv79, N79q, e79⟩ := hQ79
        rw [own_three_hit2] at hv79
        subst hv79
        have N79 := Fr.app N78 N79q
        obtain ⟨fs, hr, hrun, hended, hW, hsame⟩ := X79.leave (v := some (.int (1 : Int32))) (fun h => by rw [Bd.returns] at h; cases h)
        refine ⟨_, _, pre74 _ ?_, hrun, hended, _, _, rfl, ?_, ⟨_, rfl⟩, hW, hsame.mono (by decide) (by decide)⟩
        · show Steps p.tables e below (T71.setTop (mkF m 58 #[.val (.int p0), .val (.int p1), .val (.int (3 : Int32)), .val (.ref o3), .val (.int (0 : Int32)), .val (.int (0 : Int32)), .unset, .unset, .unset, .unset] [(.int (p1 &&& (2 : Int32)))])) _
          refine XS.ifYes X71.here hx rfl (pc0 := 58) (pc' := 65) rfl (hb hby at_58) rfl ((if0 _ _).trans (teq hc75).1) (by decide) (by decide) ?_
          show Steps p.tables e below (T71.setTop (mkF m 65 #[.val (.int p0), .val (.int p1), .val (.int (3 : Int32)), .val (.ref o3), .val (.int (0 : Int32)), .val (.int (0 : Int32)), .unset, .unset, .unset, .unset] [])) _
          refine XS.iconst X71.here hx rfl (hb hby at_65) ?_
          show Steps p.tables e below (T71.setTop (mkF m 66 #[.val (.int p0), .val (.int p1), .val (.int (3 : Int32)), .val (.ref o3), .val (.int (0 : Int32)), .val (.int (0 : Int32)), .unset, .unset, .unset, .unset] [(.int (0 : Int32))])) _
          refine XS.istore X71.here hx rfl (hb hby at_66) rfl (l' := #[.val (.int p0), .val (.int p1), .val (.int (3 : Int32)), .val (.ref o3), .val (.int (0 : Int32)), .val (.int (0 : Int32)), .val (.int (0 : Int32)), .unset, .unset, .unset]) rfl ?_
          show Steps p.tables e below (T71.setTop (mkF m 68 #[.val (.int p0), .val (.int p1), .val (.int (3 : Int32)), .val (.ref o3), .val (.int (0 : Int32)), .val (.int (0 : Int32)), .val (.int (0 : Int32)), .unset, .unset, .unset] [])) _
          refine XS.iload X71.here hx rfl (hb hby at_68) rfl ?_
          show Steps p.tables e below (T71.setTop (mkF m 70 #[.val (.int p0), .val (.int p1), .val (.int (3 : Int32)), .val (.ref o3), .val (.int (0 : Int32)), .val (.int (0 : Int32)), .val (.int (0 : Int32)), .unset, .unset, .unset] [(.int (0 : Int32))])) _
          refine XS.iload X71.here hx rfl (hb hby at_70) rfl ?_
          show Steps p.tables e below (T71.setTop (mkF m 72 #[.val (.int p0), .val (.int p1), .val (.int (3 : Int32)), .val (.ref o3), .val (.int (0 : Int32)), .val (.int (0 : Int32)), .val (.int (0 : Int32)), .unset, .unset, .unset] [(.int (0 : Int32)), (.int (0 : Int32))])) _
          refine st76 _ ?_
          show Steps p.tables e below (T76.setTop (mkF m 75 #[.val (.int p0), .val (.int p1), .val (.int (3 : Int32)), .val (.ref o3), .val (.int (0 : Int32)), .val (.int (0 : Int32)), .val (.int (0 : Int32)), .unset, .unset, .unset] [(.ref o5)])) _
          refine XS.astore X76.here hx rfl (hb hby at_75) rfl rfl (l' := #[.val (.int p0), .val (.int p1), .val (.int (3 : Int32)), .val (.ref o3), .val (.int (0 : Int32)), .val (.int (0 : Int32)), .val (.int (0 : Int32)), .val (.ref o5), .unset, .unset]) rfl ?_
          show Steps p.tables e below (T76.setTop (mkF m 77 #[.val (.int p0), .val (.int p1), .val (.int (3 : Int32)), .val (.ref o3), .val (.int (0 : Int32)), .val (.int (0 : Int32)), .val (.int (0 : Int32)), .val (.ref o5), .unset, .unset] [])) _
          refine XS.aloadN X76.here hx rfl (hb hby at_77) rfl rfl ?_
          show Steps p.tables e below (T76.setTop (mkF m 78 #[.val (.int p0), .val (.int p1), .val (.int (3 : Int32)), .val (.ref o3), .val (.int (0 : Int32)), .val (.int (0 : Int32)), .val (.int (0 : Int32)), .val (.ref o5), .unset, .unset] [(.ref o3)])) _
          refine st77.trans ?_
          show Steps p.tables e below (T77.setTop (mkF m 81 #[.val (.int p0), .val (.int p1), .val (.int (3 : Int32)), .val (.ref o3), .val (.int (0 : Int32)), .val (.int (0 : Int32)), .val (.int (0 : Int32)), .val (.ref o5), .unset, .unset] [(.int (0 : Int32))])) _
          refine XS.istore X77.here hx rfl (hb hby at_81) rfl (l' := #[.val (.int p0), .val (.int p1), .val (.int (3 : Int32)), .val (.ref o3), .val (.int (0 : Int32)), .val (.int (0 : Int32)), .val (.int (0 : Int32)), .val (.ref o5), .val (.int (0 : Int32)), .unset]) rfl ?_
          show Steps p.tables e below (T77.setTop (mkF m 83 #[.val (.int p0), .val (.int p1), .val (.int (3 : Int32)), .val (.ref o3), .val (.int (0 : Int32)), .val (.int (0 : Int32)), .val (.int (0 : Int32)), .val (.ref o5), .val (.int (0 : Int32)), .unset] [])) _
          refine XS.aloadN X77.here hx rfl (hb hby at_83) rfl rfl ?_
          show Steps p.tables e below (T77.setTop (mkF m 84 #[.val (.int p0), .val (.int p1), .val (.int (3 : Int32)), .val (.ref o3), .val (.int (0 : Int32)), .val (.int (0 : Int32)), .val (.int (0 : Int32)), .val (.ref o5), .val (.int (0 : Int32)), .unset] [(.ref o3)])) _
          refine st78.trans ?_
          show Steps p.tables e below (T78.setTop (mkF m 87 #[.val (.int p0), .val (.int p1), .val (.int (3 : Int32)), .val (.ref o3), .val (.int (0 : Int32)), .val (.int (0 : Int32)), .val (.int (0 : Int32)), .val (.ref o5), .val (.int (0 : Int32)), .unset] [(.int (0 : Int32))])) _
          refine XS.istore X78.here hx rfl (hb hby at_87) rfl (l' := #[.val (.int p0), .val (.int p1), .val (.int (3 : Int32)), .val (.ref o3), .val (.int (0 : Int32)), .val (.int (0 : Int32)), .val (.int (0 : Int32)), .val (.ref o5), .val (.int (0 : Int32)), .val (.int (0 : Int32))]) rfl ?_
          show Steps p.tables e below (T78.setTop (mkF m 89 #[.val (.int p0), .val (.int p1), .val (.int (3 : Int32)), .val (.ref o3), .val (.int (0 : Int32)), .val (.int (0 : Int32)), .val (.int (0 : Int32)), .val (.ref o5), .val (.int (0 : Int32)), .val (.int (0 : Int32))] [])) _
          refine XS.iload X78.here hx rfl (hb hby at_89) rfl ?_
          show Steps p.tables e below (T78.setTop (mkF m 91 #[.val (.int p0), .val (.int p1), .val (.int (3 : Int32)), .val (.ref o3), .val (.int (0 : Int32)), .val (.int (0 : Int32)), .val (.int (0 : Int32)), .val (.ref o5), .val (.int (0 : Int32)), .val (.int (0 : Int32))] [(.int (0 : Int32))])) _
          refine XS.iload X78.here hx rfl (hb hby at_91) rfl ?_
          show Steps p.tables e below (T78.setTop (mkF m 93 #[.val (.int p0), .val (.int p1), .val (.int (3 : Int32)), .val (.ref o3), .val (.int (0 : Int32)), .val (.int (0 : Int32)), .val (.int (0 : Int32)), .val (.ref o5), .val (.int (0 : Int32)), .val (.int (0 : Int32))] [(.int (0 : Int32)), (.int (0 : Int32))])) _
          refine XS.icmpNo X78.here hx rfl (hb hby at_93) rfl (teq (by decide : (0 : Int32) = (0 : Int32))).2 ?_
          show Steps p.tables e below (T78.setTop (mkF m 96 #[.val (.int p0), .val (.int p1), .val (.int (3 : Int32)), .val (.ref o3), .val (.int (0 : Int32)), .val (.int (0 : Int32)), .val (.int (0 : Int32)), .val (.ref o5), .val (.int (0 : Int32)), .val (.int (0 : Int32))] [])) _
          refine XS.aload X78.here hx rfl (hb hby at_96) rfl rfl ?_
          show Steps p.tables e below (T78.setTop (mkF m 98 #[.val (.int p0), .val (.int p1), .val (.int (3 : Int32)), .val (.ref o3), .val (.int (0 : Int32)), .val (.int (0 : Int32)), .val (.int (0 : Int32)), .val (.ref o5), .val (.int (0 : Int32)), .val (.int (0 : Int32))] [(.ref o5)])) _
          refine st79.trans ?_
          show Steps p.tables e below (T79.setTop (mkF m 101 #[.val (.int p0), .val (.int p1), .val (.int (3 : Int32)), .val (.ref o3), .val (.int (0 : Int32)), .val (.int (0 : Int32)), .val (.int (0 : Int32)), .val (.ref o5), .val (.int (0 : Int32)), .val (.int (0 : Int32))] [(.int (1 : Int32))])) _
          refine XS.iload X79.here hx rfl (hb hby at_101) rfl ?_
          show Steps p.tables e below (T79.setTop (mkF m 103 #[.val (.int p0), .val (.int p1), .val (.int (3 : Int32)), .val (.ref o3), .val (.int (0 : Int32)), .val (.int (0 : Int32)), .val (.int (0 : Int32)), .val (.ref o5), .val (.int (0 : Int32)), .val (.int (0 : Int32))] [(.int (0 : Int32)), (.int (1 : Int32))])) _
          refine XS.ifNo X79.here hx rfl (hb hby at_103) rfl ((if0 _ _).trans (teq (by decide : (0 : Int32) = (0 : Int32))).2) ?_
          show Steps p.tables e below (T79.setTop (mkF m 106 #[.val (.int p0), .val (.int p1), .val (.int (3 : Int32)), .val (.ref o3), .val (.int (0 : Int32)), .val (.int (0 : Int32)), .val (.int (0 : Int32)), .val (.ref o5), .val (.int (0 : Int32)), .val (.int (0 : Int32))] [(.int (1 : Int32))])) _
          refine XS.iconst X79.here hx rfl (hb hby at_106) ?_
          show Steps p.tables e below (T79.setTop (mkF m 107 #[.val (.int p0), .val (.int p1), .val (.int (3 : Int32)), .val (.ref o3), .val (.int (0 : Int32)), .val (.int (0 : Int32)), .val (.int (0 : Int32)), .val (.ref o5), .val (.int (0 : Int32)), .val (.int (0 : Int32))] [(.int (1 : Int32)), (.int (1 : Int32))])) _
          refine XS.goto X79.here hx rfl (pc0 := 107) (pc' := 111) rfl (hb hby at_107) (by decide) (by decide) ?_
          show Steps p.tables e below (T79.setTop (mkF m 111 #[.val (.int p0), .val (.int p1), .val (.int (3 : Int32)), .val (.ref o3), .val (.int (0 : Int32)), .val (.int (0 : Int32)), .val (.int (0 : Int32)), .val (.ref o5), .val (.int (0 : Int32)), .val (.int (0 : Int32))] [(.int (1 : Int32)), (.int (1 : Int32))])) _
          refine XS.icmpNo X79.here hx rfl (hb hby at_111) rfl (teq (by decide : (1 : Int32) = (1 : Int32))).2 ?_
          show Steps p.tables e below (T79.setTop (mkF m 114 #[.val (.int p0), .val (.int p1), .val (.int (3 : Int32)), .val (.ref o3), .val (.int (0 : Int32)), .val (.int (0 : Int32)), .val (.int (0 : Int32)), .val (.ref o5), .val (.int (0 : Int32)), .val (.int (0 : Int32))] [])) _
          refine XS.iload X79.here hx rfl (hb hby at_114) rfl ?_
          show Steps p.tables e below (T79.setTop (mkF m 116 #[.val (.int p0), .val (.int p1), .val (.int (3 : Int32)), .val (.ref o3), .val (.int (0 : Int32)), .val (.int (0 : Int32)), .val (.int (0 : Int32)), .val (.ref o5), .val (.int (0 : Int32)), .val (.int (0 : Int32))] [(.int (0 : Int32))])) _
          refine XS.ifYes X79.here hx rfl (pc0 := 116) (pc' := 124) rfl (hb hby at_116) rfl ((if0 _ _).trans (teq (by decide : (0 : Int32) = (0 : Int32))).1) (by decide) (by decide) ?_
          show Steps p.tables e below (T79.setTop (mkF m 124 #[.val (.int p0), .val (.int p1), .val (.int (3 : Int32)), .val (.ref o3), .val (.int (0 : Int32)), .val (.int (0 : Int32)), .val (.int (0 : Int32)), .val (.ref o5), .val (.int (0 : Int32)), .val (.int (0 : Int32))] [])) _
          refine XS.iconst X79.here hx rfl (hb hby at_124) ?_
          show Steps p.tables e below (T79.setTop (mkF m 125 #[.val (.int p0), .val (.int p1), .val (.int (3 : Int32)), .val (.ref o3), .val (.int (0 : Int32)), .val (.int (0 : Int32)), .val (.int (0 : Int32)), .val (.ref o5), .val (.int (0 : Int32)), .val (.int (0 : Int32))] [(.int (1 : Int32))])) _
          refine XS.goto X79.here hx rfl (pc0 := 125) (pc' := 129) rfl (hb hby at_125) (by decide) (by decide) ?_
          show Steps p.tables e below (T79.setTop (mkF m 129 #[.val (.int p0), .val (.int p1), .val (.int (3 : Int32)), .val (.ref o3), .val (.int (0 : Int32)), .val (.int (0 : Int32)), .val (.int (0 : Int32)), .val (.ref o5), .val (.int (0 : Int32)), .val (.int (0 : Int32))] [(.int (1 : Int32))])) _
          exact retN X79 hx (t := .boolean) Bd.returns (by simp) (hb hby at_129) hr
        · show Q0 Z p0 p1 o0 o1 o2 o3 o4 o5 o6 o7 h0 n0 _ T79.heap _
          rw [e79]
          exact ⟨rfl, N79⟩
      · obtain ⟨_, _, ⟨T80, L80, k80, n80⟩, -, X80, ⟨Lc80, hQ80, l80, y80, z80⟩, st80⟩ := Jvm.LawKit.callS X71 hx (y := (⟨"com/example/unanimity/unanimity/engine/Outcome", "forced", "(ZZ)Lcom/example/unanimity/unanimity/engine/Outcome;"⟩ : MethodName)) hown (mvT hZ (hw _ (List.mem_of_getElem? (i := 7) rfl))) (mvT hZ (hw _ (List.mem_of_getElem? (i := 8) rfl))) (mvT hZ (hw _ (List.mem_of_getElem? (i := 5) rfl))) (mvT hZ (hw _ (List.mem_of_getElem? (i := 9) rfl))) (by decide) (backOf (W := 0) (rm2 l Z aw hw [] (0 : Int32) (1 : Int32) o0 o1 o2 o3 o4 o5 o6 o7 h0 n0 Z0 S_COMMITTED S_ABORTED S_IN_DOUBT S_UNKNOWN S_FORCED_COMMIT S_FORCED_ABORT S_FORCED_COMMIT_CONFLICT S_FORCED_ABORT_CONFLICT) hZ (hw _ (List.mem_of_getElem? (i := 9) rfl)) (hw _ (List.mem_of_getElem? (i := 5) rfl)) (by decide) (by decide)) (g := (mkF m 72 #[.val (.int p0), .val (.int p1), .val (.int (3 : Int32)), .val (.ref o3), .val (.int (0 : Int32)), .val (.int (0 : Int32)), .val (.int (1 : Int32)), .unset, .unset, .unset] [(.int (1 : Int32)), (.int (0 : Int32))])) rfl (by rw [hml]; rfl) (argsL := [(.int (0 : Int32)), (.int (1 : Int32))]) (rest := []) (lenOf pd_1 rfl) rfl (by show 2 * 0 + _ ≤ _; exact Nat.le_of_eq rfl) (hb hby at_72) (fun _ _ => ⟨rfl, e71, (by decide : 0 + 0 ≤ _), (by decide : 0 + 0 ≤ _)⟩)
        dsimp only [Pt.U, Pt.locs, Pt.cells, Pt.slots] at X80 l80 y80 z80 st80 hQ80
        subst l80 y80 z80
        obtain ⟨hv80, N80q, e80⟩ := hQ80
        rw [show own_forced (0 : Int32) (1 : Int32) o4 o5 o6 o7 = o7 from rfl] at hv80
        subst hv80
        have N80 := Fr.app N71 N80q
        obtain ⟨cq81, kq81, q81a, q81b, q81c⟩ := isOf hZ e80 E3
        obtain ⟨_, _, ⟨T81, L81, k81, n81⟩, -, X81, ⟨Lc81, hQ81, l81, y81, z81⟩, st81⟩ := X80.virtualBack hx (y := (⟨"com/example/unanimity/unanimity/engine/Outcome", "abortedHere", "()Z"⟩ : MethodName)) (z := (⟨"com/example/unanimity/unanimity/engine/Outcome", "abortedHere", "()Z"⟩ : MethodName)) hown (mvT hZ (hw _ (List.mem_of_getElem? (i := 12) rfl))) (mvT hZ (hw _ (List.mem_of_getElem? (i := 13) rfl))) (notFace_of_selects (args := #[]) (mvT hZ (hw _ (List.mem_of_getElem? (i := 15) rfl)))) (mvT hZ (hw _ (List.mem_of_getElem? (i := 15) rfl))) (mvT hZ (hw _ (List.mem_of_getElem? (i := 14) rfl))) (by decide) (backOf (W := 0) (rm3 l Z aw hw [] o3 o0 o1 o2 o3 o4 o5 o6 o7 h0 n0 Z0 S_COMMITTED S_ABORTED S_IN_DOUBT S_UNKNOWN S_FORCED_COMMIT S_FORCED_ABORT S_FORCED_COMMIT_CONFLICT S_FORCED_ABORT_CONFLICT) hZ (hw _ (List.mem_of_getElem? (i := 16) rfl)) (hw _ (List.mem_of_getElem? (i := 5) rfl)) (by decide) (by decide)) q81a q81c (g := (mkF m 78 #[.val (.int p0), .val (.int p1), .val (.int (3 : Int32)), .val (.ref o3), .val (.int (0 : Int32)), .val (.int (0 : Int32)), .val (.int (1 : Int32)), .val (.ref o7), .unset, .unset] [(.ref o3)])) rfl (by rw [hml]; rfl) (Steps.refl _) (argsL := []) (rest := []) (lenOf pd_2 rfl) rfl (by show 2 * 0 + _ ≤ _; exact Nat.le_of_eq rfl) (hb hby at_78) (fun _ _ => ⟨rfl, e80, (by decide : 0 + 0 ≤ _), (by decide : 0 + 0 ≤ _)⟩)
        dsimp only [Pt.U, Pt.locs, Pt.cells, Pt.slots] at X81 l81 y81 z81 st81 hQ81
        subst l81 y81 z81
        obtain ⟨hv81, N81q, e81⟩ := hQ81
        rw [own_three_no (Ne.symm d1_3) d3_5 d3_7] at hv81
        subst hv81
        have N81 := Fr.app N80 N81q
        obtain ⟨cq82, kq82, q82a, q82b, q82c⟩ := isOf hZ e81 E3
        obtain ⟨_, _, ⟨T82, L82, k82, n82⟩, -, X82, ⟨Lc82, hQ82, l82, y82, z82⟩, st82⟩ := X81.virtualBack hx (y := (⟨"com/example/unanimity/unanimity/engine/Outcome", "committedHere", "()Z"⟩ : MethodName)) (z := (⟨"com/example/unanimity/unanimity/engine/Outcome", "committedHere", "()Z"⟩ : MethodName)) hown (mvT hZ (hw _ (List.mem_of_getElem? (i := 23) rfl))) (mvT hZ (hw _ (List.mem_of_getElem? (i := 24) rfl))) (notFace_of_selects (args := #[]) (mvT hZ (hw _ (List.mem_of_getElem? (i := 26) rfl)))) (mvT hZ (hw _ (List.mem_of_getElem? (i := 26) rfl))) (mvT hZ (hw _ (List.mem_of_getElem? (i := 25) rfl))) (by decide) (backOf (W := 0) (rm4 l Z aw hw [] o3 o0 o1 o2 o3 o4 o5 o6 o7 h0 n0 Z0 S_COMMITTED S_ABORTED S_IN_DOUBT S_UNKNOWN S_FORCED_COMMIT S_FORCED_ABORT S_FORCED_COMMIT_CONFLICT S_FORCED_ABORT_CONFLICT) hZ (hw _ (List.mem_of_getElem? (i := 27) rfl)) (hw _ (List.mem_of_getElem? (i := 5) rfl)) (by decide) (by decide)) q82a q82c (g := (mkF m 84 #[.val (.int p0), .val (.int p1), .val (.int (3 : Int32)), .val (.ref o3), .val (.int (0 : Int32)), .val (.int (0 : Int32)), .val (.int (1 : Int32)), .val (.ref o7), .val (.int (0 : Int32)), .unset] [(.ref o3)])) rfl (by rw [hml]; rfl) (Steps.refl _) (argsL := []) (rest := []) (lenOf pd_2 rfl) rfl (by show 2 * 0 + _ ≤ _; exact Nat.le_of_eq rfl) (hb hby at_84) (fun _ _ => ⟨rfl, e81, (by decide : 0 + 0 ≤ _), (by decide : 0 + 0 ≤ _)⟩)
        dsimp only [Pt.U, Pt.locs, Pt.cells, Pt.slots] at X82 l82 y82 z82 st82 hQ82
        subst l82 y82 z82
        obtain ⟨hv82, N82q, e82⟩ := hQ82
        rw [own_three_no (Ne.symm d0_3) d3_4 d3_6] at hv82
        subst hv82
        have N82 := Fr.app N81 N82q
        obtain ⟨cq83, kq83, q83a, q83b, q83c⟩ := isOf hZ e82 E7
        obtain ⟨_, _, ⟨T83, L83, k83, n83⟩, -, X83, ⟨Lc83, hQ83, l83, y83, z83⟩, st83⟩ := X82.virtualBack hx (y := (⟨"com/example/unanimity/unanimity/engine/Outcome", "abortedHere", "()Z"⟩ : MethodName)) (z := (⟨"com/example/unanimity/unanimity/engine/Outcome", "abortedHere", "()Z"⟩ : MethodName)) hown (mvT hZ (hw _ (List.mem_of_getElem? (i := 12) rfl))) (mvT hZ (hw _ (List.mem_of_getElem? (i := 13) rfl))) (notFace_of_selects (args := #[]) (mvT hZ (hw _ (List.mem_of_getElem? (i := 15) rfl)))) (mvT hZ (hw _ (List.mem_of_getElem? (i := 15) rfl))) (mvT hZ (hw _ (List.mem_of_getElem? (i := 14) rfl))) (by decide) (backOf (W := 0) (rm3 l Z aw hw [] o7 o0 o1 o2 o3 o4 o5 o6 o7 h0 n0 Z0 S_COMMITTED S_ABORTED S_IN_DOUBT S_UNKNOWN S_FORCED_COMMIT S_FORCED_ABORT S_FORCED_COMMIT_CONFLICT S_FORCED_ABORT_CONFLICT) hZ (hw _ (List.mem_of_getElem? (i := 16) rfl)) (hw _ (List.mem_of_getElem? (i := 5) rfl)) (by decide) (by decide)) q83a q83c (g := (mkF m 98 #[.val (.int p0), .val (.int p1), .val (.int (3 : Int32)), .val (.ref o3), .val (.int (0 : Int32)), .val (.int (0 : Int32)), .val (.int (1 : Int32)), .val (.ref o7), .val (.int (0 : Int32)), .val (.int (0 : Int32))] [(.ref o7)])) rfl (by rw [hml]; rfl) (Steps.refl _) (argsL := []) (rest := []) (lenOf pd_2 rfl) rfl (by show 2 * 0 + _ ≤ _; exact Nat.le_of_eq rfl) (hb hby at_98) (fun _ _ => ⟨rfl, e82, (by decide : 0 + 0 ≤ _), (by decide : 0 + 0 ≤ _)⟩)
        dsimp only [Pt.U, Pt.locs, Pt.cells, Pt.slots] at X83 l83 y83 z83 st83 hQ83
        subst l83 y83 z83
        obtain ⟨hv83, N83q, e83⟩ := hQ83
        rw [own_three_hit3] at hv83
        subst hv83
        have N83 := Fr.app N82 N83q
        obtain ⟨fs, hr, hrun, hended, hW, hsame⟩ := X83.leave (v := some (.int (1 : Int32))) (fun h => by rw [Bd.returns] at h; cases h)
        refine ⟨_, _, pre74 _ ?_, hrun, hended, _, _, rfl, ?_, ⟨_, rfl⟩, hW, hsame.mono (by decide) (by decide)⟩
        · show Steps p.tables e below (T71.setTop (mkF m 58 #[.val (.int p0), .val (.int p1), .val (.int (3 : Int32)), .val (.ref o3), .val (.int (0 : Int32)), .val (.int (0 : Int32)), .unset, .unset, .unset, .unset] [(.int (p1 &&& (2 : Int32)))])) _
          refine XS.ifNo X71.here hx rfl (hb hby at_58) rfl ((if0 _ _).trans (feq hc75).1) ?_
          show Steps p.tables e below (T71.setTop (mkF m 61 #[.val (.int p0), .val (.int p1), .val (.int (3 : Int32)), .val (.ref o3), .val (.int (0 : Int32)), .val (.int (0 : Int32)), .unset, .unset, .unset, .unset] [])) _
          refine XS.iconst X71.here hx rfl (hb hby at_61) ?_
          show Steps p.tables e below (T71.setTop (mkF m 62 #[.val (.int p0), .val (.int p1), .val (.int (3 : Int32)), .val (.ref o3), .val (.int (0 : Int32)), .val (.int (0 : Int32)), .unset, .unset, .unset, .unset] [(.int (1 : Int32))])) _
          refine XS.goto X71.here hx rfl (pc0 := 62) (pc' := 66) rfl (hb hby at_62) (by decide) (by decide) ?_
          show Steps p.tables e below (T71.setTop (mkF m 66 #[.val (.int p0), .val (.int p1), .val (.int (3 : Int32)), .val (.ref o3), .val (.int (0 : Int32)), .val (.int (0 : Int32)), .unset, .unset, .unset, .unset] [(.int (1 : Int32))])) _
          refine XS.istore X71.here hx rfl (hb hby at_66) rfl (l' := #[.val (.int p0), .val (.int p1), .val (.int (3 : Int32)), .val (.ref o3), .val (.int (0 : Int32)), .val (.int (0 : Int32)), .val (.int (1 : Int32)), .unset, .unset, .unset]) rfl ?_
          show Steps p.tables e below (T71.setTop (mkF m 68 #[.val (.int p0), .val (.int p1), .val (.int (3 : Int32)), .val (.ref o3), .val (.int (0 : Int32)), .val (.int (0 : Int32)), .val (.int (1 : Int32)), .unset, .unset, .unset] [])) _
          refine XS.iload X71.here hx rfl (hb hby at_68) rfl ?_
          show Steps p.tables e below (T71.setTop (mkF m 70 #[.val (.int p0), .val (.int p1), .val (.int (3 : Int32)), .val (.ref o3), .val (.int (0 : Int32)), .val (.int (0 : Int32)), .val (.int (1 : Int32)), .unset, .unset, .unset] [(.int (0 : Int32))])) _
          refine XS.iload X71.here hx rfl (hb hby at_70) rfl ?_
          show Steps p.tables e below (T71.setTop (mkF m 72 #[.val (.int p0), .val (.int p1), .val (.int (3 : Int32)), .val (.ref o3), .val (.int (0 : Int32)), .val (.int (0 : Int32)), .val (.int (1 : Int32)), .unset, .unset, .unset] [(.int (1 : Int32)), (.int (0 : Int32))])) _
          refine st80 _ ?_
          show Steps p.tables e below (T80.setTop (mkF m 75 #[.val (.int p0), .val (.int p1), .val (.int (3 : Int32)), .val (.ref o3), .val (.int (0 : Int32)), .val (.int (0 : Int32)), .val (.int (1 : Int32)), .unset, .unset, .unset] [(.ref o7)])) _
          refine XS.astore X80.here hx rfl (hb hby at_75) rfl rfl (l' := #[.val (.int p0), .val (.int p1), .val (.int (3 : Int32)), .val (.ref o3), .val (.int (0 : Int32)), .val (.int (0 : Int32)), .val (.int (1 : Int32)), .val (.ref o7), .unset, .unset]) rfl ?_
          show Steps p.tables e below (T80.setTop (mkF m 77 #[.val (.int p0), .val (.int p1), .val (.int (3 : Int32)), .val (.ref o3), .val (.int (0 : Int32)), .val (.int (0 : Int32)), .val (.int (1 : Int32)), .val (.ref o7), .unset, .unset] [])) _
          refine XS.aloadN X80.here hx rfl (hb hby at_77) rfl rfl ?_
          show Steps p.tables e below (T80.setTop (mkF m 78 #[.val (.int p0), .val (.int p1), .val (.int (3 : Int32)), .val (.ref o3), .val (.int (0 : Int32)), .val (.int (0 : Int32)), .val (.int (1 : Int32)), .val (.ref o7), .unset, .unset] [(.ref o3)])) _
          refine st81.trans ?_
          show Steps p.tables e below (T81.setTop (mkF m 81 #[.val (.int p0), .val (.int p1), .val (.int (3 : Int32)), .val (.ref o3), .val (.int (0 : Int32)), .val (.int (0 : Int32)), .val (.int (1 : Int32)), .val (.ref o7), .unset, .unset] [(.int (0 : Int32))])) _
          refine XS.istore X81.here hx rfl (hb hby at_81) rfl (l' := #[.val (.int p0), .val (.int p1), .val (.int (3 : Int32)), .val (.ref o3), .val (.int (0 : Int32)), .val (.int (0 : Int32)), .val (.int (1 : Int32)), .val (.ref o7), .val (.int (0 : Int32)), .unset]) rfl ?_
          show Steps p.tables e below (T81.setTop (mkF m 83 #[.val (.int p0), .val (.int p1), .val (.int (3 : Int32)), .val (.ref o3), .val (.int (0 : Int32)), .val (.int (0 : Int32)), .val (.int (1 : Int32)), .val (.ref o7), .val (.int (0 : Int32)), .unset] [])) _
          refine XS.aloadN X81.here hx rfl (hb hby at_83) rfl rfl ?_
          show Steps p.tables e below (T81.setTop (mkF m 84 #[.val (.int p0), .val (.int p1), .val (.int (3 : Int32)), .val (.ref o3), .val (.int (0 : Int32)), .val (.int (0 : Int32)), .val (.int (1 : Int32)), .val (.ref o7), .val (.int (0 : Int32)), .unset] [(.ref o3)])) _
          refine st82.trans ?_
          show Steps p.tables e below (T82.setTop (mkF m 87 #[.val (.int p0), .val (.int p1), .val (.int (3 : Int32)), .val (.ref o3), .val (.int (0 : Int32)), .val (.int (0 : Int32)), .val (.int (1 : Int32)), .val (.ref o7), .val (.int (0 : Int32)), .unset] [(.int (0 : Int32))])) _
          refine XS.istore X82.here hx rfl (hb hby at_87) rfl (l' := #[.val (.int p0), .val (.int p1), .val (.int (3 : Int32)), .val (.ref o3), .val (.int (0 : Int32)), .val (.int (0 : Int32)), .val (.int (1 : Int32)), .val (.ref o7), .val (.int (0 : Int32)), .val (.int (0 : Int32))]) rfl ?_
          show Steps p.tables e below (T82.setTop (mkF m 89 #[.val (.int p0), .val (.int p1), .val (.int (3 : Int32)), .val (.ref o3), .val (.int (0 : Int32)), .val (.int (0 : Int32)), .val (.int (1 : Int32)), .val (.ref o7), .val (.int (0 : Int32)), .val (.int (0 : Int32))] [])) _
          refine XS.iload X82.here hx rfl (hb hby at_89) rfl ?_
          show Steps p.tables e below (T82.setTop (mkF m 91 #[.val (.int p0), .val (.int p1), .val (.int (3 : Int32)), .val (.ref o3), .val (.int (0 : Int32)), .val (.int (0 : Int32)), .val (.int (1 : Int32)), .val (.ref o7), .val (.int (0 : Int32)), .val (.int (0 : Int32))] [(.int (0 : Int32))])) _
          refine XS.iload X82.here hx rfl (hb hby at_91) rfl ?_
          show Steps p.tables e below (T82.setTop (mkF m 93 #[.val (.int p0), .val (.int p1), .val (.int (3 : Int32)), .val (.ref o3), .val (.int (0 : Int32)), .val (.int (0 : Int32)), .val (.int (1 : Int32)), .val (.ref o7), .val (.int (0 : Int32)), .val (.int (0 : Int32))] [(.int (0 : Int32)), (.int (0 : Int32))])) _
          refine XS.icmpNo X82.here hx rfl (hb hby at_93) rfl (teq (by decide : (0 : Int32) = (0 : Int32))).2 ?_
          show Steps p.tables e below (T82.setTop (mkF m 96 #[.val (.int p0), .val (.int p1), .val (.int (3 : Int32)), .val (.ref o3), .val (.int (0 : Int32)), .val (.int (0 : Int32)), .val (.int (1 : Int32)), .val (.ref o7), .val (.int (0 : Int32)), .val (.int (0 : Int32))] [])) _
          refine XS.aload X82.here hx rfl (hb hby at_96) rfl rfl ?_
          show Steps p.tables e below (T82.setTop (mkF m 98 #[.val (.int p0), .val (.int p1), .val (.int (3 : Int32)), .val (.ref o3), .val (.int (0 : Int32)), .val (.int (0 : Int32)), .val (.int (1 : Int32)), .val (.ref o7), .val (.int (0 : Int32)), .val (.int (0 : Int32))] [(.ref o7)])) _
          refine st83.trans ?_
          show Steps p.tables e below (T83.setTop (mkF m 101 #[.val (.int p0), .val (.int p1), .val (.int (3 : Int32)), .val (.ref o3), .val (.int (0 : Int32)), .val (.int (0 : Int32)), .val (.int (1 : Int32)), .val (.ref o7), .val (.int (0 : Int32)), .val (.int (0 : Int32))] [(.int (1 : Int32))])) _
          refine XS.iload X83.here hx rfl (hb hby at_101) rfl ?_
          show Steps p.tables e below (T83.setTop (mkF m 103 #[.val (.int p0), .val (.int p1), .val (.int (3 : Int32)), .val (.ref o3), .val (.int (0 : Int32)), .val (.int (0 : Int32)), .val (.int (1 : Int32)), .val (.ref o7), .val (.int (0 : Int32)), .val (.int (0 : Int32))] [(.int (0 : Int32)), (.int (1 : Int32))])) _
          refine XS.ifNo X83.here hx rfl (hb hby at_103) rfl ((if0 _ _).trans (teq (by decide : (0 : Int32) = (0 : Int32))).2) ?_
          show Steps p.tables e below (T83.setTop (mkF m 106 #[.val (.int p0), .val (.int p1), .val (.int (3 : Int32)), .val (.ref o3), .val (.int (0 : Int32)), .val (.int (0 : Int32)), .val (.int (1 : Int32)), .val (.ref o7), .val (.int (0 : Int32)), .val (.int (0 : Int32))] [(.int (1 : Int32))])) _
          refine XS.iconst X83.here hx rfl (hb hby at_106) ?_
          show Steps p.tables e below (T83.setTop (mkF m 107 #[.val (.int p0), .val (.int p1), .val (.int (3 : Int32)), .val (.ref o3), .val (.int (0 : Int32)), .val (.int (0 : Int32)), .val (.int (1 : Int32)), .val (.ref o7), .val (.int (0 : Int32)), .val (.int (0 : Int32))] [(.int (1 : Int32)), (.int (1 : Int32))])) _
          refine XS.goto X83.here hx rfl (pc0 := 107) (pc' := 111) rfl (hb hby at_107) (by decide) (by decide) ?_
          show Steps p.tables e below (T83.setTop (mkF m 111 #[.val (.int p0), .val (.int p1), .val (.int (3 : Int32)), .val (.ref o3), .val (.int (0 : Int32)), .val (.int (0 : Int32)), .val (.int (1 : Int32)), .val (.ref o7), .val (.int (0 : Int32)), .val (.int (0 : Int32))] [(.int (1 : Int32)), (.int (1 : Int32))])) _
          refine XS.icmpNo X83.here hx rfl (hb hby at_111) rfl (teq (by decide : (1 : Int32) = (1 : Int32))).2 ?_
          show Steps p.tables e below (T83.setTop (mkF m 114 #[.val (.int p0), .val (.int p1), .val (.int (3 : Int32)), .val (.ref o3), .val (.int (0 : Int32)), .val (.int (0 : Int32)), .val (.int (1 : Int32)), .val (.ref o7), .val (.int (0 : Int32)), .val (.int (0 : Int32))] [])) _
          refine XS.iload X83.here hx rfl (hb hby at_114) rfl ?_
          show Steps p.tables e below (T83.setTop (mkF m 116 #[.val (.int p0), .val (.int p1), .val (.int (3 : Int32)), .val (.ref o3), .val (.int (0 : Int32)), .val (.int (0 : Int32)), .val (.int (1 : Int32)), .val (.ref o7), .val (.int (0 : Int32)), .val (.int (0 : Int32))] [(.int (0 : Int32))])) _
          refine XS.ifYes X83.here hx rfl (pc0 := 116) (pc' := 124) rfl (hb hby at_116) rfl ((if0 _ _).trans (teq (by decide : (0 : Int32) = (0 : Int32))).1) (by decide) (by decide) ?_
          show Steps p.tables e below (T83.setTop (mkF m 124 #[.val (.int p0), .val (.int p1), .val (.int (3 : Int32)), .val (.ref o3), .val (.int (0 : Int32)), .val (.int (0 : Int32)), .val (.int (1 : Int32)), .val (.ref o7), .val (.int (0 : Int32)), .val (.int (0 : Int32))] [])) _
          refine XS.iconst X83.here hx rfl (hb hby at_124) ?_
          show Steps p.tables e below (T83.setTop (mkF m 125 #[.val (.int p0), .val (.int p1), .val (.int (3 : Int32)), .val (.ref o3), .val (.int (0 : Int32)), .val (.int (0 : Int32)), .val (.int (1 : Int32)), .val (.ref o7), .val (.int (0 : Int32)), .val (.int (0 : Int32))] [(.int (1 : Int32))])) _
          refine XS.goto X83.here hx rfl (pc0 := 125) (pc' := 129) rfl (hb hby at_125) (by decide) (by decide) ?_
          show Steps p.tables e below (T83.setTop (mkF m 129 #[.val (.int p0), .val (.int p1), .val (.int (3 : Int32)), .val (.ref o3), .val (.int (0 : Int32)), .val (.int (0 : Int32)), .val (.int (1 : Int32)), .val (.ref o7), .val (.int (0 : Int32)), .val (.int (0 : Int32))] [(.int (1 : Int32))])) _
          exact retN X83 hx (t := .boolean) Bd.returns (by simp) (hb hby at_129) hr
        · show Q0 Z p0 p1 o0 o1 o2 o3 o4 o5 o6 o7 h0 n0 _ T83.heap _
          rw [e83]
          exact ⟨rfl, N83⟩
    · have pre84 : ∀ t, Steps p.tables e below (T71.setTop (mkF m 58 #[.val (.int p0), .val (.int p1), .val (.int (3 : Int32)), .val (.ref o3), .val (.int (0 : Int32)), .val (.int (1 : Int32)), .unset, .unset, .unset, .unset] [(.int (p1 &&& (2 : Int32)))])) t → Steps p.tables e below (s₁.setTop (entryFrame m #[(.int p0), (.int p1)] maxLocals)) t := fun t k => by
        refine pre72 t ?_
        show Steps p.tables e below (T71.setTop (mkF m 45 #[.val (.int p0), .val (.int p1), .val (.int (3 : Int32)), .val (.ref o3), .val (.int (0 : Int32)), .unset, .unset, .unset, .unset, .unset] [(.int (p1 &&& (1 : Int32)))])) _
        refine XS.ifNo X71.here hx rfl (hb hby at_45) rfl ((if0 _ _).trans (feq hc73).1) ?_
        show Steps p.tables e below (T71.setTop (mkF m 48 #[.val (.int p0), .val (.int p1), .val (.int (3 : Int32)), .val (.ref o3), .val (.int (0 : Int32)), .unset, .unset, .unset, .unset, .unset] [])) _
        refine XS.iconst X71.here hx rfl (hb hby at_48) ?_
        show Steps p.tables e below (T71.setTop (mkF m 49 #[.val (.int p0), .val (.int p1), .val (.int (3 : Int32)), .val (.ref o3), .val (.int (0 : Int32)), .unset, .unset, .unset, .unset, .unset] [(.int (1 : Int32))])) _
        refine XS.goto X71.here hx rfl (pc0 := 49) (pc' := 53) rfl (hb hby at_49) (by decide) (by decide) ?_
        show Steps p.tables e below (T71.setTop (mkF m 53 #[.val (.int p0), .val (.int p1), .val (.int (3 : Int32)), .val (.ref o3), .val (.int (0 : Int32)), .unset, .unset, .unset, .unset, .unset] [(.int (1 : Int32))])) _
        refine XS.istore X71.here hx rfl (hb hby at_53) rfl (l' := #[.val (.int p0), .val (.int p1), .val (.int (3 : Int32)), .val (.ref o3), .val (.int (0 : Int32)), .val (.int (1 : Int32)), .unset, .unset, .unset, .unset]) rfl ?_
        show Steps p.tables e below (T71.setTop (mkF m 55 #[.val (.int p0), .val (.int p1), .val (.int (3 : Int32)), .val (.ref o3), .val (.int (0 : Int32)), .val (.int (1 : Int32)), .unset, .unset, .unset, .unset] [])) _
        refine XS.iloadN X71.here hx rfl (hb hby at_55) rfl ?_
        show Steps p.tables e below (T71.setTop (mkF m 56 #[.val (.int p0), .val (.int p1), .val (.int (3 : Int32)), .val (.ref o3), .val (.int (0 : Int32)), .val (.int (1 : Int32)), .unset, .unset, .unset, .unset] [(.int p1)])) _
        refine XS.iconst X71.here hx rfl (hb hby at_56) ?_
        show Steps p.tables e below (T71.setTop (mkF m 57 #[.val (.int p0), .val (.int p1), .val (.int (3 : Int32)), .val (.ref o3), .val (.int (0 : Int32)), .val (.int (1 : Int32)), .unset, .unset, .unset, .unset] [(.int (2 : Int32)), (.int p1)])) _
        refine XS.iand X71.here hx rfl (hb hby at_57) rfl ?_
        exact k
      by_cases hc85 : (p1 &&& (2 : Int32)) = (0 : Int32)
      · obtain ⟨_, _, ⟨T86, L86, k86, n86⟩, -, X86, ⟨Lc86, hQ86, l86, y86, z86⟩, st86⟩ := Jvm.LawKit.callS X71 hx (y := (⟨"com/example/unanimity/unanimity/engine/Outcome", "forced", "(ZZ)Lcom/example/unanimity/unanimity/engine/Outcome;"⟩ : MethodName)) hown (mvT hZ (hw _ (List.mem_of_getElem? (i := 7) rfl))) (mvT hZ (hw _ (List.mem_of_getElem? (i := 8) rfl))) (mvT hZ (hw _ (List.mem_of_getElem? (i := 5) rfl))) (mvT hZ (hw _ (List.mem_of_getElem? (i := 9) rfl))) (by decide) (backOf (W := 0) (rm2 l Z aw hw [] (1 : Int32) (0 : Int32) o0 o1 o2 o3 o4 o5 o6 o7 h0 n0 Z0 S_COMMITTED S_ABORTED S_IN_DOUBT S_UNKNOWN S_FORCED_COMMIT S_FORCED_ABORT S_FORCED_COMMIT_CONFLICT S_FORCED_ABORT_CONFLICT) hZ (hw _ (List.mem_of_getElem? (i := 9) rfl)) (hw _ (List.mem_of_getElem? (i := 5) rfl)) (by decide) (by decide)) (g := (mkF m 72 #[.val (.int p0), .val (.int p1), .val (.int (3 : Int32)), .val (.ref o3), .val (.int (0 : Int32)), .val (.int (1 : Int32)), .val (.int (0 : Int32)), .unset, .unset, .unset] [(.int (0 : Int32)), (.int (1 : Int32))])) rfl (by rw [hml]; rfl) (argsL := [(.int (1 : Int32)), (.int (0 : Int32))]) (rest := []) (lenOf pd_1 rfl) rfl (by show 2 * 0 + _ ≤ _; exact Nat.le_of_eq rfl) (hb hby at_72) (fun _ _ => ⟨rfl, e71, (by decide : 0 + 0 ≤ _), (by decide : 0 + 0 ≤ _)⟩)
        dsimp only [Pt.U, Pt.locs, Pt.cells, Pt.slots] at X86 l86 y86 z86 st86 hQ86
        subst l86 y86 z86
        obtain ⟨hv86, N86q, e86⟩ := hQ86
        rw [show own_forced (1 : Int32) (0 : Int32) o4 o5 o6 o7 = o4 from rfl] at hv86
        subst hv86
        have N86 := Fr.app N71 N86q
        obtain ⟨cq87, kq87, q87a, q87b, q87c⟩ := isOf hZ e86 E3
        obtain ⟨_, _, ⟨T87, L87, k87, n87⟩, -, X87, ⟨Lc87, hQ87, l87, y87, z87⟩, st87⟩ := X86.virtualBack hx (y := (⟨"com/example/unanimity/unanimity/engine/Outcome", "abortedHere", "()Z"⟩ : MethodName)) (z := (⟨"com/example/unanimity/unanimity/engine/Outcome", "abortedHere", "()Z"⟩ : MethodName)) hown (mvT hZ (hw _ (List.mem_of_getElem? (i := 12) rfl))) (mvT hZ (hw _ (List.mem_of_getElem? (i := 13) rfl))) (notFace_of_selects (args := #[]) (mvT hZ (hw _ (List.mem_of_getElem? (i := 15) rfl)))) (mvT hZ (hw _ (List.mem_of_getElem? (i := 15) rfl))) (mvT hZ (hw _ (List.mem_of_getElem? (i := 14) rfl))) (by decide) (backOf (W := 0) (rm3 l Z aw hw [] o3 o0 o1 o2 o3 o4 o5 o6 o7 h0 n0 Z0 S_COMMITTED S_ABORTED S_IN_DOUBT S_UNKNOWN S_FORCED_COMMIT S_FORCED_ABORT S_FORCED_COMMIT_CONFLICT S_FORCED_ABORT_CONFLICT) hZ (hw _ (List.mem_of_getElem? (i := 16) rfl)) (hw _ (List.mem_of_getElem? (i := 5) rfl)) (by decide) (by decide)) q87a q87c (g := (mkF m 78 #[.val (.int p0), .val (.int p1), .val (.int (3 : Int32)), .val (.ref o3), .val (.int (0 : Int32)), .val (.int (1 : Int32)), .val (.int (0 : Int32)), .val (.ref o4), .unset, .unset] [(.ref o3)])) rfl (by rw [hml]; rfl) (Steps.refl _) (argsL := []) (rest := []) (lenOf pd_2 rfl) rfl (by show 2 * 0 + _ ≤ _; exact Nat.le_of_eq rfl) (hb hby at_78) (fun _ _ => ⟨rfl, e86, (by decide : 0 + 0 ≤ _), (by decide : 0 + 0 ≤ _)⟩)
        dsimp only [Pt.U, Pt.locs, Pt.cells, Pt.slots] at X87 l87 y87 z87 st87 hQ87
        subst l87 y87 z87
        obtain ⟨hv87, N87q, e87⟩ := hQ87
        rw [own_three_no (Ne.symm d1_3) d3_5 d3_7] at hv87
        subst hv87
        have N87 := Fr.app N86 N87q
        obtain ⟨cq88, kq88, q88a, q88b, q88c⟩ := isOf hZ e87 E3
        obtain ⟨_, _, ⟨T88, L88, k88, n88⟩, -, X88, ⟨Lc88, hQ88, l88, y88, z88⟩, st88⟩ := X87.virtualBack hx (y := (⟨"com/example/unanimity/unanimity/engine/Outcome", "committedHere", "()Z"⟩ : MethodName)) (z := (⟨"com/example/unanimity/unanimity/engine/Outcome", "committedHere", "()Z"⟩ : MethodName)) hown (mvT hZ (hw _ (List.mem_of_getElem? (i := 23) rfl))) (mvT hZ (hw _ (List.mem_of_getElem? (i := 24) rfl))) (notFace_of_selects (args := #[]) (mvT hZ (hw _ (List.mem_of_getElem? (i := 26) rfl)))) (mvT hZ (hw _ (List.mem_of_getElem? (i := 26) rfl))) (mvT hZ (hw _ (List.mem_of_getElem? (i := 25) rfl))) (by decide) (backOf (W := 0) (rm4 l Z aw hw [] o3 o0 o1 o2 o3 o4 o5 o6 o7 h0 n0 Z0 S_COMMITTED S_ABORTED S_IN_DOUBT S_UNKNOWN S_FORCED_COMMIT S_FORCED_ABORT S_FORCED_COMMIT_CONFLICT S_FORCED_ABORT_CONFLICT) hZ (hw _ (List.mem_of_getElem? (i := 27) rfl)) (hw _ (List.mem_of_getElem? (i := 5) rfl)) (by decide) (by decide)) q88a q88c (g := (mkF m 84 #[.val (.int p0), .val (.int p1), .val (.int (3 : Int32)), .val (.ref o3), .val (.int (0 : Int32)), .val (.int (1 : Int32)), .val (.int (0 : Int32)), .val (.ref o4), .val (.int (0 : Int32)), .unset] [(.ref o3)])) rfl (by rw [hml]; rfl) (Steps.refl _) (argsL := []) (rest := []) (lenOf pd_2 rfl) rfl (by show 2 * 0 + _ ≤ _; exact Nat.le_of_eq rfl) (hb hby at_84) (fun _ _ => ⟨rfl, e87, (by decide : 0 + 0 ≤ _), (by decide : 0 + 0 ≤ _)⟩)
        dsimp only [Pt.U, Pt.locs, Pt.cells, Pt.slots] at X88 l88 y88 z88 st88 hQ88
        subst l88 y88 z88
        obtain ⟨hv88, N88q, e88⟩ := hQ88
        rw [own_three_no (Ne.symm d0_3) d3_4 d3_6] at hv88
        subst hv88
        have N88 := Fr.app N87 N88q
        obtain ⟨cq89, kq89, q89a, q89b, q89c⟩ := isOf hZ e88 E4
        obtain ⟨_, _, ⟨T89, L89, k89, n89⟩, -, X89, ⟨Lc89, hQ89, l89, y89, z89⟩, st89⟩ := X88.virtualBack hx (y := (⟨"com/example/unanimity/unanimity/engine/Outcome", "abortedHere", "()Z"⟩ : MethodName)) (z := (⟨"com/example/unanimity/unanimity/engine/Outcome", "abortedHere", "()Z"⟩ : MethodName)) hown (mvT hZ (hw _ (List.mem_of_getElem? (i := 12) rfl))) (mvT hZ (hw _ (List.mem_of_getElem? (i := 13) rfl))) (notFace_of_selects (args := #[]) (mvT hZ (hw _ (List.mem_of_getElem? (i := 15) rfl)))) (mvT hZ (hw _ (List.mem_of_getElem? (i := 15) rfl))) (mvT hZ (hw _ (List.mem_of_getElem? (i := 14) rfl))) (by decide) (backOf (W := 0) (rm3 l Z aw hw [] o4 o0 o1 o2 o3 o4 o5 o6 o7 h0 n0 Z0 S_COMMITTED S_ABORTED S_IN_DOUBT S_UNKNOWN S_FORCED_COMMIT S_FORCED_ABORT S_FORCED_COMMIT_CONFLICT S_FORCED_ABORT_CONFLICT) hZ (hw _ (List.mem_of_getElem? (i := 16) rfl)) (hw _ (List.mem_of_getElem? (i := 5) rfl)) (by decide) (by decide)) q89a q89c (g := (mkF m 98 #[.val (.int p0), .val (.int p1), .val (.int (3 : Int32)), .val (.ref o3), .val (.int (0 : Int32)), .val (.int (1 : Int32)), .val (.int (0 : Int32)), .val (.ref o4), .val (.int (0 : Int32)), .val (.int (0 : Int32))] [(.ref o4)])) rfl (by rw [hml]; rfl) (Steps.refl _) (argsL := []) (rest := []) (lenOf pd_2 rfl) rfl (by show 2 * 0 + _ ≤ _; exact Nat.le_of_eq rfl) (hb hby at_98) (fun _ _ => ⟨rfl, e88, (by decide : 0 + 0 ≤ _), (by decide : 0 + 0 ≤ _)⟩)
        dsimp only [Pt.U, Pt.locs, Pt.cells, Pt.slots] at X89 l89 y89 z89 st89 hQ89
        subst l89 y89 z89
        obtain ⟨hv89, N89q, e89⟩ := hQ89
        rw [own_three_no (Ne.symm d1_4) d4_5 d4_7] at hv89
        subst hv89
        have N89 := Fr.app N88 N89q
        obtain ⟨fs, hr, hrun, hended, hW, hsame⟩ := X89.leave (v := some (.int (1 : Int32))) (fun h => by rw [Bd.returns] at h; cases h)
        refine ⟨_, _, pre84 _ ?_, hrun, hended, _, _, rfl, ?_, ⟨_, rfl⟩, hW, hsame.mono (by decide) (by decide)⟩
        · show Steps p.tables e below (T71.setTop (mkF m 58 #[.val (.int p0), .val (.int p1), .val (.int (3 : Int32)), .val (.ref o3), .val (.int (0 : Int32)), .val (.int (1 : Int32)), .unset, .unset, .unset, .unset] [(.int (p1 &&& (2 : Int32)))])) _
          refine XS.ifYes X71.here hx rfl (pc0 := 58) (pc' := 65) rfl (hb hby at_58) rfl ((if0 _ _).trans (teq hc85).1) (by decide) (by decide) ?_
          show Steps p.tables e below (T71.setTop (mkF m 65 #[.val (.int p0), .val (.int p1), .val (.int (3 : Int32)), .val (.ref o3), .val (.int (0 : Int32)), .val (.int (1 : Int32)), .unset, .unset, .unset, .unset] [])) _
          refine XS.iconst X71.here hx rfl (hb hby at_65) ?_
          show Steps p.tables e below (T71.setTop (mkF m 66 #[.val (.int p0), .val (.int p1), .val (.int (3 : Int32)), .val (.ref o3), .val (.int (0 : Int32)), .val (.int (1 : Int32)), .unset, .unset, .unset, .unset] [(.int (0 : Int32))])) _
          refine XS.istore X71.here hx rfl (hb hby at_66) rfl (l' := #[.val (.int p0), .val (.int p1), .val (.int (3 : Int32)), .val (.ref o3), .val (.int (0 : Int32)), .val (.int (1 : Int32)), .val (.int (0 : Int32)), .unset, .unset, .unset]) rfl ?_
          show Steps p.tables e below (T71.setTop (mkF m 68 #[.val (.int p0), .val (.int p1), .val (.int (3 : Int32)), .val (.ref o3), .val (.int (0 : Int32)), .val (.int (1 : Int32)), .val (.int (0 : Int32)), .unset, .unset, .unset] [])) _
          refine XS.iload X71.here hx rfl (hb hby at_68) rfl ?_
          show Steps p.tables e below (T71.setTop (mkF m 70 #[.val (.int p0), .val (.int p1), .val (.int (3 : Int32)), .val (.ref o3), .val (.int (0 : Int32)), .val (.int (1 : Int32)), .val (.int (0 : Int32)), .unset, .unset, .unset] [(.int (1 : Int32))])) _
          refine XS.iload X71.here hx rfl (hb hby at_70) rfl ?_
          show Steps p.tables e below (T71.setTop (mkF m 72 #[.val (.int p0), .val (.int p1), .val (.int (3 : Int32)), .val (.ref o3), .val (.int (0 : Int32)), .val (.int (1 : Int32)), .val (.int (0 : Int32)), .unset, .unset, .unset] [(.int (0 : Int32)), (.int (1 : Int32))])) _
          refine st86 _ ?_
          show Steps p.tables e below (T86.setTop (mkF m 75 #[.val (.int p0), .val (.int p1), .val (.int (3 : Int32)), .val (.ref o3), .val (.int (0 : Int32)), .val (.int (1 : Int32)), .val (.int (0 : Int32)), .unset, .unset, .unset] [(.ref o4)])) _
          refine XS.astore X86.here hx rfl (hb hby at_75) rfl rfl (l' := #[.val (.int p0), .val (.int p1), .val (.int (3 : Int32)), .val (.ref o3), .val (.int (0 : Int32)), .val (.int (1 : Int32)), .val (.int (0 : Int32)), .val (.ref o4), .unset, .unset]) rfl ?_
          show Steps p.tables e below (T86.setTop (mkF m 77 #[.val (.int p0), .val (.int p1), .val (.int (3 : Int32)), .val (.ref o3), .val (.int (0 : Int32)), .val (.int (1 : Int32)), .val (.int (0 : Int32)), .val (.ref o4), .unset, .unset] [])) _
          refine XS.aloadN X86.here hx rfl (hb hby at_77) rfl rfl ?_
          show Steps p.tables e below (T86.setTop (mkF m 78 #[.val (.int p0), .val (.int p1), .val (.int (3 : Int32)), .val (.ref o3), .val (.int (0 : Int32)), .val (.int (1 : Int32)), .val (.int (0 : Int32)), .val (.ref o4), .unset, .unset] [(.ref o3)])) _
          refine st87.trans ?_
          show Steps p.tables e below (T87.setTop (mkF m 81 #[.val (.int p0), .val (.int p1), .val (.int (3 : Int32)), .val (.ref o3), .val (.int (0 : Int32)), .val (.int (1 : Int32)), .val (.int (0 : Int32)), .val (.ref o4), .unset, .unset] [(.int (0 : Int32))])) _
          refine XS.istore X87.here hx rfl (hb hby at_81) rfl (l' := #[.val (.int p0), .val (.int p1), .val (.int (3 : Int32)), .val (.ref o3), .val (.int (0 : Int32)), .val (.int (1 : Int32)), .val (.int (0 : Int32)), .val (.ref o4), .val (.int (0 : Int32)), .unset]) rfl ?_
          show Steps p.tables e below (T87.setTop (mkF m 83 #[.val (.int p0), .val (.int p1), .val (.int (3 : Int32)), .val (.ref o3), .val (.int (0 : Int32)), .val (.int (1 : Int32)), .val (.int (0 : Int32)), .val (.ref o4), .val (.int (0 : Int32)), .unset] [])) _
          refine XS.aloadN X87.here hx rfl (hb hby at_83) rfl rfl ?_
          show Steps p.tables e below (T87.setTop (mkF m 84 #[.val (.int p0), .val (.int p1), .val (.int (3 : Int32)), .val (.ref o3), .val (.int (0 : Int32)), .val (.int (1 : Int32)), .val (.int (0 : Int32)), .val (.ref o4), .val (.int (0 : Int32)), .unset] [(.ref o3)])) _
          refine st88.trans ?_
          show Steps p.tables e below (T88.setTop (mkF m 87 #[.val (.int p0), .val (.int p1), .val (.int (3 : Int32)), .val (.ref o3), .val (.int (0 : Int32)), .val (.int (1 : Int32)), .val (.int (0 : Int32)), .val (.ref o4), .val (.int (0 : Int32)), .unset] [(.int (0 : Int32))])) _
          refine XS.istore X88.here hx rfl (hb hby at_87) rfl (l' := #[.val (.int p0), .val (.int p1), .val (.int (3 : Int32)), .val (.ref o3), .val (.int (0 : Int32)), .val (.int (1 : Int32)), .val (.int (0 : Int32)), .val (.ref o4), .val (.int (0 : Int32)), .val (.int (0 : Int32))]) rfl ?_
          show Steps p.tables e below (T88.setTop (mkF m 89 #[.val (.int p0), .val (.int p1), .val (.int (3 : Int32)), .val (.ref o3), .val (.int (0 : Int32)), .val (.int (1 : Int32)), .val (.int (0 : Int32)), .val (.ref o4), .val (.int (0 : Int32)), .val (.int (0 : Int32))] [])) _
          refine XS.iload X88.here hx rfl (hb hby at_89) rfl ?_
          show Steps p.tables e below (T88.setTop (mkF m 91 #[.val (.int p0), .val (.int p1), .val (.int (3 : Int32)), .val (.ref o3), .val (.int (0 : Int32)), .val (.int (1 : Int32)), .val (.int (0 : Int32)), .val (.ref o4), .val (.int (0 : Int32)), .val (.int (0 : Int32))] [(.int (0 : Int32))])) _
          refine XS.iload X88.here hx rfl (hb hby at_91) rfl ?_
          show Steps p.tables e below (T88.setTop (mkF m 93 #[.val (.int p0), .val (.int p1), .val (.int (3 : Int32)), .val (.ref o3), .val (.int (0 : Int32)), .val (.int (1 : Int32)), .val (.int (0 : Int32)), .val (.ref o4), .val (.int (0 : Int32)), .val (.int (0 : Int32))] [(.int (0 : Int32)), (.int (0 : Int32))])) _
          refine XS.icmpNo X88.here hx rfl (hb hby at_93) rfl (teq (by decide : (0 : Int32) = (0 : Int32))).2 ?_
          show Steps p.tables e below (T88.setTop (mkF m 96 #[.val (.int p0), .val (.int p1), .val (.int (3 : Int32)), .val (.ref o3), .val (.int (0 : Int32)), .val (.int (1 : Int32)), .val (.int (0 : Int32)), .val (.ref o4), .val (.int (0 : Int32)), .val (.int (0 : Int32))] [])) _
          refine XS.aload X88.here hx rfl (hb hby at_96) rfl rfl ?_
          show Steps p.tables e below (T88.setTop (mkF m 98 #[.val (.int p0), .val (.int p1), .val (.int (3 : Int32)), .val (.ref o3), .val (.int (0 : Int32)), .val (.int (1 : Int32)), .val (.int (0 : Int32)), .val (.ref o4), .val (.int (0 : Int32)), .val (.int (0 : Int32))] [(.ref o4)])) _
          refine st89.trans ?_
          show Steps p.tables e below (T89.setTop (mkF m 101 #[.val (.int p0), .val (.int p1), .val (.int (3 : Int32)), .val (.ref o3), .val (.int (0 : Int32)), .val (.int (1 : Int32)), .val (.int (0 : Int32)), .val (.ref o4), .val (.int (0 : Int32)), .val (.int (0 : Int32))] [(.int (0 : Int32))])) _
          refine XS.iload X89.here hx rfl (hb hby at_101) rfl ?_
          show Steps p.tables e below (T89.setTop (mkF m 103 #[.val (.int p0), .val (.int p1), .val (.int (3 : Int32)), .val (.ref o3), .val (.int (0 : Int32)), .val (.int (1 : Int32)), .val (.int (0 : Int32)), .val (.ref o4), .val (.int (0 : Int32)), .val (.int (0 : Int32))] [(.int (1 : Int32)), (.int (0 : Int32))])) _
          refine XS.ifYes X89.here hx rfl (pc0 := 103) (pc' := 110) rfl (hb hby at_103) rfl ((if0 _ _).trans (feq (by decide : ¬ ((1 : Int32) = (0 : Int32)))).2) (by decide) (by decide) ?_
          show Steps p.tables e below (T89.setTop (mkF m 110 #[.val (.int p0), .val (.int p1), .val (.int (3 : Int32)), .val (.ref o3), .val (.int (0 : Int32)), .val (.int (1 : Int32)), .val (.int (0 : Int32)), .val (.ref o4), .val (.int (0 : Int32)), .val (.int (0 : Int32))] [(.int (0 : Int32))])) _
          refine XS.iconst X89.here hx rfl (hb hby at_110) ?_
          show Steps p.tables e below (T89.setTop (mkF m 111 #[.val (.int p0), .val (.int p1), .val (.int (3 : Int32)), .val (.ref o3), .val (.int (0 : Int32)), .val (.int (1 : Int32)), .val (.int (0 : Int32)), .val (.ref o4), .val (.int (0 : Int32)), .val (.int (0 : Int32))] [(.int (0 : Int32)), (.int (0 : Int32))])) _
          refine XS.icmpNo X89.here hx rfl (hb hby at_111) rfl (teq (by decide : (0 : Int32) = (0 : Int32))).2 ?_
          show Steps p.tables e below (T89.setTop (mkF m 114 #[.val (.int p0), .val (.int p1), .val (.int (3 : Int32)), .val (.ref o3), .val (.int (0 : Int32)), .val (.int (1 : Int32)), .val (.int (0 : Int32)), .val (.ref o4), .val (.int (0 : Int32)), .val (.int (0 : Int32))] [])) _
          refine XS.iload X89.here hx rfl (hb hby at_114) rfl ?_
          show Steps p.tables e below (T89.setTop (mkF m 116 #[.val (.int p0), .val (.int p1), .val (.int (3 : Int32)), .val (.ref o3), .val (.int (0 : Int32)), .val (.int (1 : Int32)), .val (.int (0 : Int32)), .val (.ref o4), .val (.int (0 : Int32)), .val (.int (0 : Int32))] [(.int (0 : Int32))])) _
          refine XS.ifYes X89.here hx rfl (pc0 := 116) (pc' := 124) rfl (hb hby at_116) rfl ((if0 _ _).trans (teq (by decide : (0 : Int32) = (0 : Int32))).1) (by decide) (by decide) ?_
          show Steps p.tables e below (T89.setTop (mkF m 124 #[.val (.int p0), .val (.int p1), .val (.int (3 : Int32)), .val (.ref o3), .val (.int (0 : Int32)), .val (.int (1 : Int32)), .val (.int (0 : Int32)), .val (.ref o4), .val (.int (0 : Int32)), .val (.int (0 : Int32))] [])) _
          refine XS.iconst X89.here hx rfl (hb hby at_124) ?_
          show Steps p.tables e below (T89.setTop (mkF m 125 #[.val (.int p0), .val (.int p1), .val (.int (3 : Int32)), .val (.ref o3), .val (.int (0 : Int32)), .val (.int (1 : Int32)), .val (.int (0 : Int32)), .val (.ref o4), .val (.int (0 : Int32)), .val (.int (0 : Int32))] [(.int (1 : Int32))])) _
          refine XS.goto X89.here hx rfl (pc0 := 125) (pc' := 129) rfl (hb hby at_125) (by decide) (by decide) ?_
          show Steps p.tables e below (T89.setTop (mkF m 129 #[.val (.int p0), .val (.int p1), .val (.int (3 : Int32)), .val (.ref o3), .val (.int (0 : Int32)), .val (.int (1 : Int32)), .val (.int (0 : Int32)), .val (.ref o4), .val (.int (0 : Int32)), .val (.int (0 : Int32))] [(.int (1 : Int32))])) _
          exact retN X89 hx (t := .boolean) Bd.returns (by simp) (hb hby at_129) hr
        · show Q0 Z p0 p1 o0 o1 o2 o3 o4 o5 o6 o7 h0 n0 _ T89.heap _
          rw [e89]
          exact ⟨rfl, N89⟩
      · obtain ⟨_, _, ⟨T90, L90, k90, n90⟩, -, X90, ⟨Lc90, hQ90, l90, y90, z90⟩, st90⟩ := Jvm.LawKit.callS X71 hx (y := (⟨"com/example/unanimity/unanimity/engine/Outcome", "forced", "(ZZ)Lcom/example/unanimity/unanimity/engine/Outcome;"⟩ : MethodName)) hown (mvT hZ (hw _ (List.mem_of_getElem? (i := 7) rfl))) (mvT hZ (hw _ (List.mem_of_getElem? (i := 8) rfl))) (mvT hZ (hw _ (List.mem_of_getElem? (i := 5) rfl))) (mvT hZ (hw _ (List.mem_of_getElem? (i := 9) rfl))) (by decide) (backOf (W := 0) (rm2 l Z aw hw [] (1 : Int32) (1 : Int32) o0 o1 o2 o3 o4 o5 o6 o7 h0 n0 Z0 S_COMMITTED S_ABORTED S_IN_DOUBT S_UNKNOWN S_FORCED_COMMIT S_FORCED_ABORT S_FORCED_COMMIT_CONFLICT S_FORCED_ABORT_CONFLICT) hZ (hw _ (List.mem_of_getElem? (i := 9) rfl)) (hw _ (List.mem_of_getElem? (i := 5) rfl)) (by decide) (by decide)) (g := (mkF m 72 #[.val (.int p0), .val (.int p1), .val (.int (3 : Int32)), .val (.ref o3), .val (.int (0 : Int32)), .val (.int (1 : Int32)), .val (.int (1 : Int32)), .unset, .unset, .unset] [(.int (1 : Int32)), (.int (1 : Int32))])) rfl (by rw [hml]; rfl) (argsL := [(.int (1 : Int32)), (.int (1 : Int32))]) (rest := []) (lenOf pd_1 rfl) rfl (by show 2 * 0 + _ ≤ _; exact Nat.le_of_eq rfl) (hb hby at_72) (fun _ _ => ⟨rfl, e71, (by decide : 0 + 0 ≤ _), (by decide : 0 + 0 ≤ _)⟩)
        dsimp only [Pt.U, Pt.locs, Pt.cells, Pt.slots] at X90 l90 y90 z90 st90 hQ90
        subst l90 y90 z90
        obtain ⟨hv90, N90q, e90⟩ := hQ90
        rw [show own_forced (1 : Int32) (1 : Int32) o4 o5 o6 o7 = o6 from rfl] at hv90
        subst hv90
        have N90 := Fr.app N71 N90q
        obtain ⟨cq91, kq91, q91a, q91b, q91c⟩ := isOf hZ e90 E3
        obtain ⟨_, _, ⟨T91, L91, k91, n91⟩, -, X91, ⟨Lc91, hQ91, l91, y91, z91⟩, st91⟩ := X90.virtualBack hx (y := (⟨"com/example/unanimity/unanimity/engine/Outcome", "abortedHere", "()Z"⟩ : MethodName)) (z := (⟨"com/example/unanimity/unanimity/engine/Outcome", "abortedHere", "()Z"⟩ : MethodName)) hown (mvT hZ (hw _ (List.mem_of_getElem? (i := 12) rfl))) (mvT hZ (hw _ (List.mem_of_getElem? (i := 13) rfl))) (notFace_of_selects (args := #[]) (mvT hZ (hw _ (List.mem_of_getElem? (i := 15) rfl)))) (mvT hZ (hw _ (List.mem_of_getElem? (i := 15) rfl))) (mvT hZ (hw _ (List.mem_of_getElem? (i := 14) rfl))) (by decide) (backOf (W := 0) (rm3 l Z aw hw [] o3 o0 o1 o2 o3 o4 o5 o6 o7 h0 n0 Z0 S_COMMITTED S_ABORTED S_IN_DOUBT S_UNKNOWN S_FORCED_COMMIT S_FORCED_ABORT S_FORCED_COMMIT_CONFLICT S_FORCED_ABORT_CONFLICT) hZ (hw _ (List.mem_of_getElem? (i := 16) rfl)) (hw _ (List.mem_of_getElem? (i := 5) rfl)) (by decide) (by decide)) q91a q91c (g := (mkF m 78 #[.val (.int p0), .val (.int p1), .val (.int (3 : Int32)), .val (.ref o3), .val (.int (0 : Int32)), .val (.int (1 : Int32)), .val (.int (1 : Int32)), .val (.ref o6), .unset, .unset] [(.ref o3)])) rfl (by rw [hml]; rfl) (Steps.refl _) (argsL := []) (rest := []) (lenOf pd_2 rfl) rfl (by show 2 * 0 + _ ≤ _; exact Nat.le_of_eq rfl) (hb hby at_78) (fun _ _ => ⟨rfl, e90, (by decide : 0 + 0 ≤ _), (by decide : 0 + 0 ≤ _)⟩)
        dsimp only [Pt.U, Pt.locs, Pt.cells, Pt.slots] at X91 l91 y91 z91 st91 hQ91
        subst l91 y91 z91
        obtain ⟨hv91, N91q, e91⟩ := hQ91
        rw [own_three_no (Ne.symm d1_3) d3_5 d3_7] at hv91
        subst hv91
        have N91 := Fr.app N90 N91q
        obtain ⟨cq92, kq92, q92a, q92b, q92c⟩ := isOf hZ e91 E3
        obtain ⟨_, _, ⟨T92, L92, k92, n92⟩, -, X92, ⟨Lc92, hQ92, l92, y92, z92⟩, st92⟩ := X91.virtualBack hx (y := (⟨"com/example/unanimity/unanimity/engine/Outcome", "committedHere", "()Z"⟩ : MethodName)) (z := (⟨"com/example/unanimity/unanimity/engine/Outcome", "committedHere", "()Z"⟩ : MethodName)) hown (mvT hZ (hw _ (List.mem_of_getElem? (i := 23) rfl))) (mvT hZ (hw _ (List.mem_of_getElem? (i := 24) rfl))) (notFace_of_selects (args := #[]) (mvT hZ (hw _ (List.mem_of_getElem? (i := 26) rfl)))) (mvT hZ (hw _ (List.mem_of_getElem? (i := 26) rfl))) (mvT hZ (hw _ (List.mem_of_getElem? (i := 25) rfl))) (by decide) (backOf (W := 0) (rm4 l Z aw hw [] o3 o0 o1 o2 o3 o4 o5 o6 o7 h0 n0 Z0 S_COMMITTED S_ABORTED S_IN_DOUBT S_UNKNOWN S_FORCED_COMMIT S_FORCED_ABORT S_FORCED_COMMIT_CONFLICT S_FORCED_ABORT_CONFLICT) hZ (hw _ (List.mem_of_getElem? (i := 27) rfl)) (hw _ (List.mem_of_getElem? (i := 5) rfl)) (by decide) (by decide)) q92a q92c (g := (mkF m 84 #[.val (.int p0), .val (.int p1), .val (.int (3 : Int32)), .val (.ref o3), .val (.int (0 : Int32)), .val (.int (1 : Int32)), .val (.int (1 : Int32)), .val (.ref o6), .val (.int (0 : Int32)), .unset] [(.ref o3)])) rfl (by rw [hml]; rfl) (Steps.refl _) (argsL := []) (rest := []) (lenOf pd_2 rfl) rfl (by show 2 * 0 + _ ≤ _; exact Nat.le_of_eq rfl) (hb hby at_84) (fun _ _ => ⟨rfl, e91, (by decide : 0 + 0 ≤ _), (by decide : 0 + 0 ≤ _)⟩)
        dsimp only [Pt.U, Pt.locs, Pt.cells, Pt.slots] at X92 l92 y92 z92 st92 hQ92
        subst l92 y92 z92
        obtain ⟨hv92, N92q, e92⟩ := hQ92
        rw [own_three_no (Ne.symm d0_3) d3_4 d3_6] at hv92
        subst hv92
        have N92 := Fr.app N91 N92q
        obtain ⟨cq93, kq93, q93a, q93b, q93c⟩ := isOf hZ e92 E6
        obtain ⟨_, _, ⟨T93, L93, k93, n93⟩, -, X93, ⟨Lc93, hQ93, l93, y93, z93⟩, st93⟩ := X92.virtualBack hx (y := (⟨"com/example/unanimity/unanimity/engine/Outcome", "abortedHere", "()Z"⟩ : MethodName)) (z := (⟨"com/example/unanimity/unanimity/engine/Outcome", "abortedHere", "()Z"⟩ : MethodName)) hown (mvT hZ (hw _ (List.mem_of_getElem? (i := 12) rfl))) (mvT hZ (hw _ (List.mem_of_getElem? (i := 13) rfl))) (notFace_of_selects (args := #[]) (mvT hZ (hw _ (List.mem_of_getElem? (i := 15) rfl)))) (mvT hZ (hw _ (List.mem_of_getElem? (i := 15) rfl))) (mvT hZ (hw _ (List.mem_of_getElem? (i := 14) rfl))) (by decide) (backOf (W := 0) (rm3 l Z aw hw [] o6 o0 o1 o2 o3 o4 o5 o6 o7 h0 n0 Z0 S_COMMITTED S_ABORTED S_IN_DOUBT S_UNKNOWN S_FORCED_COMMIT S_FORCED_ABORT S_FORCED_COMMIT_CONFLICT S_FORCED_ABORT_CONFLICT) hZ (hw _ (List.mem_of_getElem? (i := 16) rfl)) (hw _ (List.mem_of_getElem? (i := 5) rfl)) (by decide) (by decide)) q93a q93c (g := (mkF m 98 #[.val (.int p0), .val (.int p1), .val (.int (3 : Int32)), .val (.ref o3), .val (.int (0 : Int32)), .val (.int (1 : Int32)), .val (.int (1 : Int32)), .val (.ref o6), .val (.int (0 : Int32)), .val (.int (0 : Int32))] [(.ref o6)])) rfl (by rw [hml]; rfl) (Steps.refl _) (argsL := []) (rest := []) (lenOf pd_2 rfl) rfl (by show 2 * 0 + _ ≤ _; exact Nat.le_of_eq rfl) (hb hby at_98) (fun _ _ => ⟨rfl, e92, (by decide : 0 + 0 ≤ _), (by decide : 0 + 0 ≤ _)⟩)
        dsimp only [Pt.U, Pt.locs, Pt.cells, Pt.slots] at X93 l93 y93 z93 st93 hQ93
        subst l93 y93 z93
        obtain ⟨hv93, N93q, e93⟩ := hQ93
        rw [own_three_no (Ne.symm d1_6) (Ne.symm d5_6) d6_7] at hv93
        subst hv93
        have N93 := Fr.app N92 N93q
        obtain ⟨fs, hr, hrun, hended, hW, hsame⟩ := X93.leave (v := some (.int (1 : Int32))) (fun h => by rw [Bd.returns] at h; cases h)
        refine ⟨_, _, pre84 _ ?_, hrun, hended, _, _, rfl, ?_, ⟨_, rfl⟩, hW, hsame.mono (by decide) (by decide)⟩
        · show Steps p.tables e below (T71.setTop (mkF m 58 #[.val (.int p0), .val (.int p1), .val (.int (3 : Int32)), .val (.ref o3), .val (.int (0 : Int32)), .val (.int (1 : Int32)), .unset, .unset, .unset, .unset] [(.int (p1 &&& (2 : Int32)))])) _
          refine XS.ifNo X71.here hx rfl (hb hby at_58) rfl ((if0 _ _).trans (feq hc85).1) ?_
          show Steps p.tables e below (T71.setTop (mkF m 61 #[.val (.int p0), .val (.int p1), .val (.int (3 : Int32)), .val (.ref o3), .val (.int (0 : Int32)), .val (.int (1 : Int32)), .unset, .unset, .unset, .unset] [])) _
          refine XS.iconst X71.here hx rfl (hb hby at_61) ?_
          show Steps p.tables e below (T71.setTop (mkF m 62 #[.val (.int p0), .val (.int p1), .val (.int (3 : Int32)), .val (.ref o3), .val (.int (0 : Int32)), .val (.int (1 : Int32)), .unset, .unset, .unset, .unset] [(.int (1 : Int32))])) _
          refine XS.goto X71.here hx rfl (pc0 := 62) (pc' := 66) rfl (hb hby at_62) (by decide) (by decide) ?_
          show Steps p.tables e below (T71.setTop (mkF m 66 #[.val (.int p0), .val (.int p1), .val (.int (3 : Int32)), .val (.ref o3), .val (.int (0 : Int32)), .val (.int (1 : Int32)), .unset, .unset, .unset, .unset] [(.int (1 : Int32))])) _
          refine XS.istore X71.here hx rfl (hb hby at_66) rfl (l' := #[.val (.int p0), .val (.int p1), .val (.int (3 : Int32)), .val (.ref o3), .val (.int (0 : Int32)), .val (.int (1 : Int32)), .val (.int (1 : Int32)), .unset, .unset, .unset]) rfl ?_
          show Steps p.tables e below (T71.setTop (mkF m 68 #[.val (.int p0), .val (.int p1), .val (.int (3 : Int32)), .val (.ref o3), .val (.int (0 : Int32)), .val (.int (1 : Int32)), .val (.int (1 : Int32)), .unset, .unset, .unset] [])) _
          refine XS.iload X71.here hx rfl (hb hby at_68) rfl ?_
          show Steps p.tables e below (T71.setTop (mkF m 70 #[.val (.int p0), .val (.int p1), .val (.int (3 : Int32)), .val (.ref o3), .val (.int (0 : Int32)), .val (.int (1 : Int32)), .val (.int (1 : Int32)), .unset, .unset, .unset] [(.int (1 : Int32))])) _
          refine XS.iload X71.here hx rfl (hb hby at_70) rfl ?_
          show Steps p.tables e below (T71.setTop (mkF m 72 #[.val (.int p0), .val (.int p1), .val (.int (3 : Int32)), .val (.ref o3), .val (.int (0 : Int32)), .val (.int (1 : Int32)), .val (.int (1 : Int32)), .unset, .unset, .unset] [(.int (1 : Int32)), (.int (1 : Int32))])) _
          refine st90 _ ?_
          show Steps p.tables e below (T90.setTop (mkF m 75 #[.val (.int p0), .val (.int p1), .val (.int (3 : Int32)), .val (.ref o3), .val (.int (0 : Int32)), .val (.int (1 : Int32)), .val (.int (1 : Int32)), .unset, .unset, .unset] [(.ref o6)])) _
          refine XS.astore X90.here hx rfl (hb hby at_75) rfl rfl (l' := #[.val (.int p0), .val (.int p1), .val (.int (3 : Int32)), .val (.ref o3), .val (.int (0 : Int32)), .val (.int (1 : Int32)), .val (.int (1 : Int32)), .val (.ref o6), .unset, .unset]) rfl ?_
          show Steps p.tables e below (T90.setTop (mkF m 77 #[.val (.int p0), .val (.int p1), .val (.int (3 : Int32)), .val (.ref o3), .val (.int (0 : Int32)), .val (.int (1 : Int32)), .val (.int (1 : Int32)), .val (.ref o6), .unset, .unset] [])) _
          refine XS.aloadN X90.here hx rfl (hb hby at_77) rfl rfl ?_
          show Steps p.tables e below (T90.setTop (mkF m 78 #[.val (.int p0), .val (.int p1), .val (.int (3 : Int32)), .val (.ref o3), .val (.int (0 : Int32)), .val (.int (1 : Int32)), .val (.int (1 : Int32)), .val (.ref o6), .unset, .unset] [(.ref o3)])) _
          refine st91.trans ?_
          show Steps p.tables e below (T91.setTop (mkF m 81 #[.val (.int p0), .val (.int p1), .val (.int (3 : Int32)), .val (.ref o3), .val (.int (0 : Int32)), .val (.int (1 : Int32)), .val (.int (1 : Int32)), .val (.ref o6), .unset, .unset] [(.int (0 : Int32))])) _
          refine XS.istore X91.here hx rfl (hb hby at_81) rfl (l' := #[.val (.int p0), .val (.int p1), .val (.int (3 : Int32)), .val (.ref o3), .val (.int (0 : Int32)), .val (.int (1 : Int32)), .val (.int (1 : Int32)), .val (.ref o6), .val (.int (0 : Int32)), .unset]) rfl ?_
          show Steps p.tables e below (T91.setTop (mkF m 83 #[.val (.int p0), .val (.int p1), .val (.int (3 : Int32)), .val (.ref o3), .val (.int (0 : Int32)), .val (.int (1 : Int32)), .val (.int (1 : Int32)), .val (.ref o6), .val (.int (0 : Int32)), .unset] [])) _
          refine XS.aloadN X91.here hx rfl (hb hby at_83) rfl rfl ?_
          show Steps p.tables e below (T91.setTop (mkF m 84 #[.val (.int p0), .val (.int p1), .val (.int (3 : Int32)), .val (.ref o3), .val (.int (0 : Int32)), .val (.int (1 : Int32)), .val (.int (1 : Int32)), .val (.ref o6), .val (.int (0 : Int32)), .unset] [(.ref o3)])) _
          refine st92.trans ?_
          show Steps p.tables e below (T92.setTop (mkF m 87 #[.val (.int p0), .val (.int p1), .val (.int (3 : Int32)), .val (.ref o3), .val (.int (0 : Int32)), .val (.int (1 : Int32)), .val (.int (1 : Int32)), .val (.ref o6), .val (.int (0 : Int32)), .unset] [(.int (0 : Int32))])) _
          refine XS.istore X92.here hx rfl (hb hby at_87) rfl (l' := #[.val (.int p0), .val (.int p1), .val (.int (3 : Int32)), .val (.ref o3), .val (.int (0 : Int32)), .val (.int (1 : Int32)), .val (.int (1 : Int32)), .val (.ref o6), .val (.int (0 : Int32)), .val (.int (0 : Int32))]) rfl ?_
          show Steps p.tables e below (T92.setTop (mkF m 89 #[.val (.int p0), .val (.int p1), .val (.int (3 : Int32)), .val (.ref o3), .val (.int (0 : Int32)), .val (.int (1 : Int32)), .val (.int (1 : Int32)), .val (.ref o6), .val (.int (0 : Int32)), .val (.int (0 : Int32))] [])) _
          refine XS.iload X92.here hx rfl (hb hby at_89) rfl ?_
          show Steps p.tables e below (T92.setTop (mkF m 91 #[.val (.int p0), .val (.int p1), .val (.int (3 : Int32)), .val (.ref o3), .val (.int (0 : Int32)), .val (.int (1 : Int32)), .val (.int (1 : Int32)), .val (.ref o6), .val (.int (0 : Int32)), .val (.int (0 : Int32))] [(.int (0 : Int32))])) _
          refine XS.iload X92.here hx rfl (hb hby at_91) rfl ?_
          show Steps p.tables e below (T92.setTop (mkF m 93 #[.val (.int p0), .val (.int p1), .val (.int (3 : Int32)), .val (.ref o3), .val (.int (0 : Int32)), .val (.int (1 : Int32)), .val (.int (1 : Int32)), .val (.ref o6), .val (.int (0 : Int32)), .val (.int (0 : Int32))] [(.int (0 : Int32)), (.int (0 : Int32))])) _
          refine XS.icmpNo X92.here hx rfl (hb hby at_93) rfl (teq (by decide : (0 : Int32) = (0 : Int32))).2 ?_
          show Steps p.tables e below (T92.setTop (mkF m 96 #[.val (.int p0), .val (.int p1), .val (.int (3 : Int32)), .val (.ref o3), .val (.int (0 : Int32)), .val (.int (1 : Int32)), .val (.int (1 : Int32)), .val (.ref o6), .val (.int (0 : Int32)), .val (.int (0 : Int32))] [])) _
          refine XS.aload X92.here hx rfl (hb hby at_96) rfl rfl ?_
          show Steps p.tables e below (T92.setTop (mkF m 98 #[.val (.int p0), .val (.int p1), .val (.int (3 : Int32)), .val (.ref o3), .val (.int (0 : Int32)), .val (.int (1 : Int32)), .val (.int (1 : Int32)), .val (.ref o6), .val (.int (0 : Int32)), .val (.int (0 : Int32))] [(.ref o6)])) _
          refine st93.trans ?_
          show Steps p.tables e below (T93.setTop (mkF m 101 #[.val (.int p0), .val (.int p1), .val (.int (3 : Int32)), .val (.ref o3), .val (.int (0 : Int32)), .val (.int (1 : Int32)), .val (.int (1 : Int32)), .val (.ref o6), .val (.int (0 : Int32)), .val (.int (0 : Int32))] [(.int (0 : Int32))])) _
          refine XS.iload X93.here hx rfl (hb hby at_101) rfl ?_
          show Steps p.tables e below (T93.setTop (mkF m 103 #[.val (.int p0), .val (.int p1), .val (.int (3 : Int32)), .val (.ref o3), .val (.int (0 : Int32)), .val (.int (1 : Int32)), .val (.int (1 : Int32)), .val (.ref o6), .val (.int (0 : Int32)), .val (.int (0 : Int32))] [(.int (1 : Int32)), (.int (0 : Int32))])) _
          refine XS.ifYes X93.here hx rfl (pc0 := 103) (pc' := 110) rfl (hb hby at_103) rfl ((if0 _ _).trans (feq (by decide : ¬ ((1 : Int32) = (0 : Int32)))).2) (by decide) (by decide) ?_
          show Steps p.tables e below (T93.setTop (mkF m 110 #[.val (.int p0), .val (.int p1), .val (.int (3 : Int32)), .val (.ref o3), .val (.int (0 : Int32)), .val (.int (1 : Int32)), .val (.int (1 : Int32)), .val (.ref o6), .val (.int (0 : Int32)), .val (.int (0 : Int32))] [(.int (0 : Int32))])) _
          refine XS.iconst X93.here hx rfl (hb hby at_110) ?_
          show Steps p.tables e below (T93.setTop (mkF m 111 #[.val (.int p0), .val (.int p1), .val (.int (3 : Int32)), .val (.ref o3), .val (.int (0 : Int32)), .val (.int (1 : Int32)), .val (.int (1 : Int32)), .val (.ref o6), .val (.int (0 : Int32)), .val (.int (0 : Int32))] [(.int (0 : Int32)), (.int (0 : Int32))])) _
          refine XS.icmpNo X93.here hx rfl (hb hby at_111) rfl (teq (by decide : (0 : Int32) = (0 : Int32))).2 ?_
          show Steps p.tables e below (T93.setTop (mkF m 114 #[.val (.int p0), .val (.int p1), .val (.int (3 : Int32)), .val (.ref o3), .val (.int (0 : Int32)), .val (.int (1 : Int32)), .val (.int (1 : Int32)), .val (.ref o6), .val (.int (0 : Int32)), .val (.int (0 : Int32))] [])) _
          refine XS.iload X93.here hx rfl (hb hby at_114) rfl ?_
          show Steps p.tables e below (T93.setTop (mkF m 116 #[.val (.int p0), .val (.int p1), .val (.int (3 : Int32)), .val (.ref o3), .val (.int (0 : Int32)), .val (.int (1 : Int32)), .val (.int (1 : Int32)), .val (.ref o6), .val (.int (0 : Int32)), .val (.int (0 : Int32))] [(.int (0 : Int32))])) _
          refine XS.ifYes X93.here hx rfl (pc0 := 116) (pc' := 124) rfl (hb hby at_116) rfl ((if0 _ _).trans (teq (by decide : (0 : Int32) = (0 : Int32))).1) (by decide) (by decide) ?_
          show Steps p.tables e below (T93.setTop (mkF m 124 #[.val (.int p0), .val (.int p1), .val (.int (3 : Int32)), .val (.ref o3), .val (.int (0 : Int32)), .val (.int (1 : Int32)), .val (.int (1 : Int32)), .val (.ref o6), .val (.int (0 : Int32)), .val (.int (0 : Int32))] [])) _
          refine XS.iconst X93.here hx rfl (hb hby at_124) ?_
          show Steps p.tables e below (T93.setTop (mkF m 125 #[.val (.int p0), .val (.int p1), .val (.int (3 : Int32)), .val (.ref o3), .val (.int (0 : Int32)), .val (.int (1 : Int32)), .val (.int (1 : Int32)), .val (.ref o6), .val (.int (0 : Int32)), .val (.int (0 : Int32))] [(.int (1 : Int32))])) _
          refine XS.goto X93.here hx rfl (pc0 := 125) (pc' := 129) rfl (hb hby at_125) (by decide) (by decide) ?_
          show Steps p.tables e below (T93.setTop (mkF m 129 #[.val (.int p0), .val (.int p1), .val (.int (3 : Int32)), .val (.ref o3), .val (.int (0 : Int32)), .val (.int (1 : Int32)), .val (.int (1 : Int32)), .val (.ref o6), .val (.int (0 : Int32)), .val (.int (0 : Int32))] [(.int (1 : Int32))])) _
          exact retN X93 hx (t := .boolean) Bd.returns (by simp) (hb hby at_129) hr
        · show Q0 Z p0 p1 o0 o1 o2 o3 o4 o5 o6 o7 h0 n0 _ T93.heap _
          rw [e93]
          exact ⟨rfl, N93⟩
  · obtain ⟨_, _, ⟨T94, L94, k94, n94⟩, -, X94, ⟨Lc94, hQ94, l94, y94, z94⟩, st94⟩ := Jvm.LawKit.callS X0 hx (y := (⟨"com/example/unanimity/unanimity/engine/OutcomeAbortedHerePinLaw", "pick", "(I)Lcom/example/unanimity/unanimity/engine/Outcome;"⟩ : MethodName)) hown (mvT hZ (hw _ (List.mem_of_getElem? (i := 0) rfl))) (mvT hZ (hw _ (List.mem_of_getElem? (i := 1) rfl))) (mvT hZ (hw _ (List.mem_of_getElem? (i := 2) rfl))) (mvT hZ (hw _ (List.mem_of_getElem? (i := 3) rfl))) (by decide) (backOf (W := 0) (rm1 l Z aw hw [] (4 : Int32) o0 o1 o2 o3 o4 o5 o6 o7 h0 n0 Z0 S_COMMITTED S_ABORTED S_IN_DOUBT S_UNKNOWN S_FORCED_COMMIT S_FORCED_ABORT S_FORCED_COMMIT_CONFLICT S_FORCED_ABORT_CONFLICT) hZ (hw _ (List.mem_of_getElem? (i := 3) rfl)) (hw _ (List.mem_of_getElem? (i := 2) rfl)) (by decide) (by decide)) (g := (mkF m 6 #[.val (.int p0), .val (.int p1), .val (.int (4 : Int32)), .unset, .unset, .unset, .unset, .unset, .unset, .unset] [(.int (4 : Int32))])) rfl (by rw [hml]; rfl) (argsL := [(.int (4 : Int32))]) (rest := []) (lenOf pd_0 rfl) rfl (by show 2 * 0 + _ ≤ _; exact Nat.le_of_eq rfl) (hb hby at_6) (fun _ _ => ⟨rfl, e0, (by decide : 0 + 0 ≤ _), (by decide : 0 + 0 ≤ _)⟩)
    dsimp only [Pt.U, Pt.locs, Pt.cells, Pt.slots] at X94 l94 y94 z94 st94 hQ94
    subst l94 y94 z94
    obtain ⟨hv94, N94q, e94⟩ := hQ94
    rw [show own_pick (4 : Int32) o0 o1 o2 o3 o4 o5 o6 o7 = o4 from rfl] at hv94
    subst hv94
    have N94 := Fr.app N0 N94q
    have pre95 : ∀ t, Steps p.tables e below (T94.setTop (mkF m 45 #[.val (.int p0), .val (.int p1), .val (.int (4 : Int32)), .val (.ref o4), .val (.int (0 : Int32)), .unset, .unset, .unset, .unset, .unset] [(.int (p1 &&& (1 : Int32)))])) t → Steps p.tables e below (s₁.setTop (entryFrame m #[(.int p0), (.int p1)] maxLocals)) t := fun t k => by
      refine pre1 t ?_
      show Steps p.tables e below (s₁.setTop (mkF m 5 #[.val (.int p0), .val (.int p1), .val (.int (4 : Int32)), .unset, .unset, .unset, .unset, .unset, .unset, .unset] [])) _
      refine XS.iloadN X0.here hx rfl (hb hby at_5) rfl ?_
      show Steps p.tables e below (s₁.setTop (mkF m 6 #[.val (.int p0), .val (.int p1), .val (.int (4 : Int32)), .unset, .unset, .unset, .unset, .unset, .unset, .unset] [(.int (4 : Int32))])) _
      refine st94 _ ?_
      show Steps p.tables e below (T94.setTop (mkF m 9 #[.val (.int p0), .val (.int p1), .val (.int (4 : Int32)), .unset, .unset, .unset, .unset, .unset, .unset, .unset] [(.ref o4)])) _
      refine XS.astoreN X94.here hx rfl (hb hby at_9) rfl rfl (l' := #[.val (.int p0), .val (.int p1), .val (.int (4 : Int32)), .val (.ref o4), .unset, .unset, .unset, .unset, .unset, .unset]) rfl ?_
      show Steps p.tables e below (T94.setTop (mkF m 10 #[.val (.int p0), .val (.int p1), .val (.int (4 : Int32)), .val (.ref o4), .unset, .unset, .unset, .unset, .unset, .unset] [])) _
      refine XS.iloadN X94.here hx rfl (hb hby at_10) rfl ?_
      show Steps p.tables e below (T94.setTop (mkF m 11 #[.val (.int p0), .val (.int p1), .val (.int (4 : Int32)), .val (.ref o4), .unset, .unset, .unset, .unset, .unset, .unset] [(.int (4 : Int32))])) _
      refine XS.iconst X94.here hx rfl (hb hby at_11) ?_
      show Steps p.tables e below (T94.setTop (mkF m 12 #[.val (.int p0), .val (.int p1), .val (.int (4 : Int32)), .val (.ref o4), .unset, .unset, .unset, .unset, .unset, .unset] [(.int (4 : Int32)), (.int (4 : Int32))])) _
      refine XS.icmpYes X94.here hx rfl (pc0 := 12) (pc' := 28) rfl (hb hby at_12) rfl (flt (by decide : ¬ ((4 : Int32) < (4 : Int32)))).2.1 (by decide) (by decide) ?_
      show Steps p.tables e below (T94.setTop (mkF m 28 #[.val (.int p0), .val (.int p1), .val (.int (4 : Int32)), .val (.ref o4), .unset, .unset, .unset, .unset, .unset, .unset] [])) _
      refine XS.iloadN X94.here hx rfl (hb hby at_28) rfl ?_
      show Steps p.tables e below (T94.setTop (mkF m 29 #[.val (.int p0), .val (.int p1), .val (.int (4 : Int32)), .val (.ref o4), .unset, .unset, .unset, .unset, .unset, .unset] [(.int (4 : Int32))])) _
      refine XS.iconst X94.here hx rfl (hb hby at_29) ?_
      show Steps p.tables e below (T94.setTop (mkF m 30 #[.val (.int p0), .val (.int p1), .val (.int (4 : Int32)), .val (.ref o4), .unset, .unset, .unset, .unset, .unset, .unset] [(.int (1 : Int32)), (.int (4 : Int32))])) _
      refine XS.iand X94.here hx rfl (hb hby at_30) rfl ?_
      show Steps p.tables e below (T94.setTop (mkF m 31 #[.val (.int p0), .val (.int p1), .val (.int (4 : Int32)), .val (.ref o4), .unset, .unset, .unset, .unset, .unset, .unset] [(.int (0 : Int32))])) _
      refine XS.iconst X94.here hx rfl (hb hby at_31) ?_
      show Steps p.tables e below (T94.setTop (mkF m 32 #[.val (.int p0), .val (.int p1), .val (.int (4 : Int32)), .val (.ref o4), .unset, .unset, .unset, .unset, .unset, .unset] [(.int (1 : Int32)), (.int (0 : Int32))])) _
      refine XS.icmpYes X94.here hx rfl (pc0 := 32) (pc' := 39) rfl (hb hby at_32) rfl (feq (by decide : ¬ ((0 : Int32) = (1 : Int32)))).2 (by decide) (by decide) ?_
      show Steps p.tables e below (T94.setTop (mkF m 39 #[.val (.int p0), .val (.int p1), .val (.int (4 : Int32)), .val (.ref o4), .unset, .unset, .unset, .unset, .unset, .unset] [])) _
      refine XS.iconst X94.here hx rfl (hb hby at_39) ?_
      show Steps p.tables e below (T94.setTop (mkF m 40 #[.val (.int p0), .val (.int p1), .val (.int (4 : Int32)), .val (.ref o4), .unset, .unset, .unset, .unset, .unset, .unset] [(.int (0 : Int32))])) _
      refine XS.istore X94.here hx rfl (hb hby at_40) rfl (l' := #[.val (.int p0), .val (.int p1), .val (.int (4 : Int32)), .val (.ref o4), .val (.int (0 : Int32)), .unset, .unset, .unset, .unset, .unset]) rfl ?_
      show Steps p.tables e below (T94.setTop (mkF m 42 #[.val (.int p0), .val (.int p1), .val (.int (4 : Int32)), .val (.ref o4), .val (.int (0 : Int32)), .unset, .unset, .unset, .unset, .unset] [])) _
      refine XS.iloadN X94.here hx rfl (hb hby at_42) rfl ?_
      show Steps p.tables e below (T94.setTop (mkF m 43 #[.val (.int p0), .val (.int p1), .val (.int (4 : Int32)), .val (.ref o4), .val (.int (0 : Int32)), .unset, .unset, .unset, .unset, .unset] [(.int p1)])) _
      refine XS.iconst X94.here hx rfl (hb hby at_43) ?_
      show Steps p.tables e below (T94.setTop (mkF m 44 #[.val (.int p0), .val (.int p1), .val (.int (4 : Int32)), .val (.ref o4), .val (.int (0 : Int32)), .unset, .unset, .unset, .unset, .unset] [(.int (1 : Int32)), (.int p1)])) _
      refine XS.iand X94.here hx rfl (hb hby at_44) rfl ?_
      exact k
    by_cases hc96 : (p1 &&& (1 : Int32)) = (0 : Int32)
    · have pre97 : ∀ t, Steps p.tables e below (T94.setTop (mkF m 58 #[.val (.int p0), .val (.int p1), .val (.int (4 : Int32)), .val (.ref o4), .val (.int (0 : Int32)), .val (.int (0 : Int32)), .unset, .unset, .unset, .unset] [(.int (p1 &&& (2 : Int32)))])) t → Steps p.tables e below (s₁.setTop (entryFrame m #[(.int p0), (.int p1)] maxLocals)) t := fun t k => by
        refine pre95 t ?_
        show Steps p.tables e below (T94.setTop (mkF m 45 #[.val (.int p0), .val (.int p1), .val (.int (4 : Int32)), .val (.ref o4), .val (.int (0 : Int32)), .unset, .unset, .unset, .unset, .unset] [(.int (p1 &&& (1 : Int32)))])) _
        refine XS.ifYes X94.here hx rfl (pc0 := 45) (pc' := 52) rfl (hb hby at_45) rfl ((if0 _ _).trans (teq hc96).1) (by decide) (by decide) ?_
        show Steps p.tables e below (T94.setTop (mkF m 52 #[.val (.int p0), .val (.int p1), .val (.int (4 : Int32)), .val (.ref o4), .val (.int (0 : Int32)), .unset, .unset, .unset, .unset, .unset] [])) _
        refine XS.iconst X94.here hx rfl (hb hby at_52) ?_
        show Steps p.tables e below (T94.setTop (mkF m 53 #[.val (.int p0), .val (.int p1), .val (.int (4 : Int32)), .val (.ref o4), .val (.int (0 : Int32)), .unset, .unset, .unset, .unset, .unset] [(.int (0 : Int32))])) _
        refine XS.istore X94.here hx rfl (hb hby at_53) rfl (l' := #[.val (.int p0), .val (.int p1), .val (.int (4 : Int32)), .val (.ref o4), .val (.int (0 : Int32)), .val (.int (0 : Int32)), .unset, .unset, .unset, .unset]) rfl ?_
        show Steps p.tables e below (T94.setTop (mkF m 55 #[.val (.int p0), .val (.int p1), .val (.int (4 : Int32)), .val (.ref o4), .val (.int (0 : Int32)), .val (.int (0 : Int32)), .unset, .unset, .unset, .unset] [])) _
        refine XS.iloadN X94.here hx rfl (hb hby at_55) rfl ?_
        show Steps p.tables e below (T94.setTop (mkF m 56 #[.val (.int p0), .val (.int p1), .val (.int (4 : Int32)), .val (.ref o4), .val (.int (0 : Int32)), .val (.int (0 : Int32)), .unset, .unset, .unset, .unset] [(.int p1)])) _
        refine XS.iconst X94.here hx rfl (hb hby at_56) ?_
        show Steps p.tables e below (T94.setTop (mkF m 57 #[.val (.int p0), .val (.int p1), .val (.int (4 : Int32)), .val (.ref o4), .val (.int (0 : Int32)), .val (.int (0 : Int32)), .unset, .unset, .unset, .unset] [(.int (2 : Int32)), (.int p1)])) _
        refine XS.iand X94.here hx rfl (hb hby at_57) rfl ?_
        exact k
      by_cases hc98 : (p1 &&& (2 : Int32)) = (0 : Int32)
      · obtain ⟨_, _, ⟨T99, L99, k99, n99⟩, -, X99, ⟨Lc99, hQ99, l99, y99, z99⟩, st99⟩ := Jvm.LawKit.callS X94 hx (y := (⟨"com/example/unanimity/unanimity/engine/Outcome", "forced", "(ZZ)Lcom/example/unanimity/unanimity/engine/Outcome;"⟩ : MethodName)) hown (mvT hZ (hw _ (List.mem_of_getElem? (i := 7) rfl))) (mvT hZ (hw _ (List.mem_of_getElem? (i := 8) rfl))) (mvT hZ (hw _ (List.mem_of_getElem? (i := 5) rfl))) (mvT hZ (hw _ (List.mem_of_getElem? (i := 9) rfl))) (by decide) (backOf (W := 0) (rm2 l Z aw hw [] (0 : Int32) (0 : Int32) o0 o1 o2 o3 o4 o5 o6 o7 h0 n0 Z0 S_COMMITTED S_ABORTED S_IN_DOUBT S_UNKNOWN S_FORCED_COMMIT S_FORCED_ABORT S_FORCED_COMMIT_CONFLICT S_FORCED_ABORT_CONFLICT) hZ (hw _ (List.mem_of_getElem? (i := 9) rfl)) (hw _ (List.mem_of_getElem? (i := 5) rfl)) (by decide) (by decide)) (g := (mkF m 72 #[.val (.int p0), .val (.int p1), .val (.int (4 : Int32)), .val (.ref o4), .val (.int (0 : Int32)), .val (.int (0 : Int32)), .val (.int (0 : Int32)), .unset, .unset, .unset] [(.int (0 : Int32)), (.int (0 : Int32))])) rfl (by rw [hml]; rfl) (argsL := [(.int (0 : Int32)), (.int (0 : Int32))]) (rest := []) (lenOf pd_1 rfl) rfl (by show 2 * 0 + _ ≤ _; exact Nat.le_of_eq rfl) (hb hby at_72) (fun _ _ => ⟨rfl, e94, (by decide : 0 + 0 ≤ _), (by decide : 0 + 0 ≤ _)⟩)
        dsimp only [Pt.U, Pt.locs, Pt.cells, Pt.slots] at X99 l99 y99 z99 st99 hQ99
        subst l99 y99 z99
        obtain ⟨hv99, N99q, e99⟩ := hQ99
        rw [show own_forced (0 : Int32) (0 : Int32) o4 o5 o6 o7 = o5 from rfl] at hv99
        subst hv99
        have N99 := Fr.app N94 N99q
        obtain ⟨cq100, kq100, q100a, q100b, q100c⟩ := isOf hZ e99 E4
        obtain ⟨_, _, ⟨T100, L100, k100, n100⟩, -, X100, ⟨Lc100, hQ100, l100, y100, z100⟩, st100⟩ := X99.virtualBack hx (y := (⟨"com/example/unanimity/unanimity/engine/Outcome", "abortedHere", "()Z"⟩ : MethodName)) (z := (⟨"com/example/unanimity/unanimity/engine/Outcome", "abortedHere", "()Z"⟩ : MethodName)) hown (mvT hZ (hw _ (List.mem_of_getElem? (i := 12) rfl))) (mvT hZ (hw _ (List.mem_of_getElem? (i := 13) rfl))) (notFace_of_selects (args := #[]) (mvT hZ (hw _ (List.mem_of_getElem? (i := 15) rfl)))) (mvT hZ (hw _ (List.mem_of_getElem? (i := 15) rfl))) (mvT hZ (hw _ (List.mem_of_getElem? (i := 14) rfl))) (by decide) (backOf (W := 0) (rm3 l Z aw hw [] o4 o0 o1 o2 o3 o4 o5 o6 o7 h0 n0 Z0 S_COMMITTED S_ABORTED S_IN_DOUBT S_UNKNOWN S_FORCED_COMMIT S_FORCED_ABORT S_FORCED_COMMIT_CONFLICT S_FORCED_ABORT_CONFLICT) hZ (hw _ (List.mem_of_getElem? (i := 16) rfl)) (hw _ (List.mem_of_getElem? (i := 5) rfl)) (by decide) (by decide)) q100a q100c (g := (mkF m 78 #[.val (.int p0), .val (.int p1), .val (.int (4 : Int32)), .val (.ref o4), .val (.int (0 : Int32)), .val (.int (0 : Int32)), .val (.int (0 : Int32)), .val (.ref o5), .unset, .unset] [(.ref o4)])) rfl (by rw [hml]; rfl) (Steps.refl _) (argsL := []) (rest := []) (lenOf pd_2 rfl) rfl (by show 2 * 0 + _ ≤ _; exact Nat.le_of_eq rfl) (hb hby at_78) (fun _ _ => ⟨rfl, e99, (by decide : 0 + 0 ≤ _), (by decide : 0 + 0 ≤ _)⟩)
        dsimp only [Pt.U, Pt.locs, Pt.cells, Pt.slots] at X100 l100 y100 z100 st100 hQ100
        subst l100 y100 z100
        obtain ⟨hv100, N100q, e100⟩ := hQ100
        rw [own_three_no (Ne.symm d1_4) d4_5 d4_7] at hv100
        subst hv100
        have N100 := Fr.app N99 N100q
        obtain ⟨cq101, kq101, q101a, q101b, q101c⟩ := isOf hZ e100 E4
        obtain ⟨_, _, ⟨T101, L101, k101, n101⟩, -, X101, ⟨Lc101, hQ101, l101, y101, z101⟩, st101⟩ := X100.virtualBack hx (y := (⟨"com/example/unanimity/unanimity/engine/Outcome", "committedHere", "()Z"⟩ : MethodName)) (z := (⟨"com/example/unanimity/unanimity/engine/Outcome", "committedHere", "()Z"⟩ : MethodName)) hown (mvT hZ (hw _ (List.mem_of_getElem? (i := 23) rfl))) (mvT hZ (hw _ (List.mem_of_getElem? (i := 24) rfl))) (notFace_of_selects (args := #[]) (mvT hZ (hw _ (List.mem_of_getElem? (i := 26) rfl)))) (mvT hZ (hw _ (List.mem_of_getElem? (i := 26) rfl))) (mvT hZ (hw _ (List.mem_of_getElem? (i := 25) rfl))) (by decide) (backOf (W := 0) (rm4 l Z aw hw [] o4 o0 o1 o2 o3 o4 o5 o6 o7 h0 n0 Z0 S_COMMITTED S_ABORTED S_IN_DOUBT S_UNKNOWN S_FORCED_COMMIT S_FORCED_ABORT S_FORCED_COMMIT_CONFLICT S_FORCED_ABORT_CONFLICT) hZ (hw _ (List.mem_of_getElem? (i := 27) rfl)) (hw _ (List.mem_of_getElem? (i := 5) rfl)) (by decide) (by decide)) q101a q101c (g := (mkF m 84 #[.val (.int p0), .val (.int p1), .val (.int (4 : Int32)), .val (.ref o4), .val (.int (0 : Int32)), .val (.int (0 : Int32)), .val (.int (0 : Int32)), .val (.ref o5), .val (.int (0 : Int32)), .unset] [(.ref o4)])) rfl (by rw [hml]; rfl) (Steps.refl _) (argsL := []) (rest := []) (lenOf pd_2 rfl) rfl (by show 2 * 0 + _ ≤ _; exact Nat.le_of_eq rfl) (hb hby at_84) (fun _ _ => ⟨rfl, e100, (by decide : 0 + 0 ≤ _), (by decide : 0 + 0 ≤ _)⟩)
        dsimp only [Pt.U, Pt.locs, Pt.cells, Pt.slots] at X101 l101 y101 z101 st101 hQ101
        subst l101 y101 z101
        obtain ⟨hv101, N101q, e101⟩ := hQ101
        rw [own_three_hit2] at hv101
        subst hv101
        have N101 := Fr.app N100 N101q
        obtain ⟨cq102, kq102, q102a, q102b, q102c⟩ := isOf hZ e101 E5
        obtain ⟨_, _, ⟨T102, L102, k102, n102⟩, -, X102, ⟨Lc102, hQ102, l102, y102, z102⟩, st102⟩ := X101.virtualBack hx (y := (⟨"com/example/unanimity/unanimity/engine/Outcome", "abortedHere", "()Z"⟩ : MethodName)) (z := (⟨"com/example/unanimity/unanimity/engine/Outcome", "abortedHere", "()Z"⟩ : MethodName)) hown (mvT hZ (hw _ (List.mem_of_getElem? (i := 12) rfl))) (mvT hZ (hw _ (List.mem_of_getElem? (i := 13) rfl))) (notFace_of_selects (args := #[]) (mvT hZ (hw _ (List.mem_of_getElem? (i := 15) rfl)))) (mvT hZ (hw _ (List.mem_of_getElem? (i := 15) rfl))) (mvT hZ (hw _ (List.mem_of_getElem? (i := 14) rfl))) (by decide) (backOf (W := 0) (rm3 l Z aw hw [] o5 o0 o1 o2 o3 o4 o5 o6 o7 h0 n0 Z0 S_COMMITTED S_ABORTED S_IN_DOUBT S_UNKNOWN S_FORCED_COMMIT S_FORCED_ABORT S_FORCED_COMMIT_CONFLICT S_FORCED_ABORT_CONFLICT) hZ (hw _ (List.mem_of_getElem? (i := 16) rfl)) (hw _ (List.mem_of_getElem? (i := 5) rfl)) (by decide) (by decide)) q102a q102c (g := (mkF m 98 #[.val (.int p0), .val (.int p1), .val (.int (4 : Int32)), .val (.ref o4), .val (.int (0 : Int32)), .val (.int (0 : Int32)), .val (.int (0 : Int32)), .val (.ref o5), .val (.int (0 : Int32)), .val (.int (1 : Int32))] [(.ref o5)])) rfl (by rw [hml]; rfl) (Steps.refl _) (argsL := []) (rest := []) (lenOf pd_2 rfl) rfl (by show 2 * 0 + _ ≤ _; exact Nat.le_of_eq rfl) (hb hby at_98) (fun _ _ => ⟨rfl, e101, (by decide : 0 + 0 ≤ _), (by decide : 0 + 0 ≤ _)⟩)
        dsimp only [Pt.U, Pt.locs, Pt.cells, Pt.slots] at X102 l102 y102 z102 st102 hQ102
        subst l102 y102 z102
        obtain ⟨hv102, N102q, e102⟩ := hQ102
        rw [own_three_hit2] at hv102
        subst hv102
        have N102 := Fr.app N101 N102q
        obtain ⟨fs, hr, hrun, hended, hW, hsame⟩ := X102.leave (v := some (.int (1 : Int32))) (fun h => by rw [Bd.returns] at h; cases h)
        refine ⟨_, _, pre97 _ ?_, hrun, hended, _, _, rfl, ?_, ⟨_, rfl⟩, hW, hsame.mono (by decide) (by decide)⟩
        · show Steps p.tables e below (T94.setTop (mkF m 58 #[.val (.int p0), .val (.int p1), .val (.int (4 : Int32)), .val (.ref o4), .val (.int (0 : Int32)), .val (.int (0 : Int32)), .unset, .unset, .unset, .unset] [(.int (p1 &&& (2 : Int32)))])) _
          refine XS.ifYes X94.here hx rfl (pc0 := 58) (pc' := 65) rfl (hb hby at_58) rfl ((if0 _ _).trans (teq hc98).1) (by decide) (by decide) ?_
          show Steps p.tables e below (T94.setTop (mkF m 65 #[.val (.int p0), .val (.int p1), .val (.int (4 : Int32)), .val (.ref o4), .val (.int (0 : Int32)), .val (.int (0 : Int32)), .unset, .unset, .unset, .unset] [])) _
          refine XS.iconst X94.here hx rfl (hb hby at_65) ?_
          show Steps p.tables e below (T94.setTop (mkF m 66 #[.val (.int p0), .val (.int p1), .val (.int (4 : Int32)), .val (.ref o4), .val (.int (0 : Int32)), .val (.int (0 : Int32)), .unset, .unset, .unset, .unset] [(.int (0 : Int32))])) _
          refine XS.istore X94.here hx rfl (hb hby at_66) rfl (l' := #[.val (.int p0), .val (.int p1), .val (.int (4 : Int32)), .val (.ref o4), .val (.int (0 : Int32)), .val (.int (0 : Int32)), .val (.int (0 : Int32)), .unset, .unset, .unset]) rfl ?_
          show Steps p.tables e below (T94.setTop (mkF m 68 #[.val (.int p0), .val (.int p1), .val (.int (4 : Int32)), .val (.ref o4), .val (.int (0 : Int32)), .val (.int (0 : Int32)), .val (.int (0 : Int32)), .unset, .unset, .unset] [])) _
          refine XS.iload X94.here hx rfl (hb hby at_68) rfl ?_
          show Steps p.tables e below (T94.setTop (mkF m 70 #[.val (.int p0), .val (.int p1), .val (.int (4 : Int32)), .val (.ref o4), .val (.int (0 : Int32)), .val (.int (0 : Int32)), .val (.int (0 : Int32)), .unset, .unset, .unset] [(.int (0 : Int32))])) _
          refine XS.iload X94.here hx rfl (hb hby at_70) rfl ?_
          show Steps p.tables e below (T94.setTop (mkF m 72 #[.val (.int p0), .val (.int p1), .val (.int (4 : Int32)), .val (.ref o4), .val (.int (0 : Int32)), .val (.int (0 : Int32)), .val (.int (0 : Int32)), .unset, .unset, .unset] [(.int (0 : Int32)), (.int (0 : Int32))])) _
          refine st99 _ ?_
          show Steps p.tables e below (T99.setTop (mkF m 75 #[.val (.int p0), .val (.int p1), .val (.int (4 : Int32)), .val (.ref o4), .val (.int (0 : Int32)), .val (.int (0 : Int32)), .val (.int (0 : Int32)), .unset, .unset, .unset] [(.ref o5)])) _
          refine XS.astore X99.here hx rfl (hb hby at_75) rfl rfl (l' := #[.val (.int p0), .val (.int p1), .val (.int (4 : Int32)), .val (.ref o4), .val (.int (0 : Int32)), .val (.int (0 : Int32)), .val (.int (0 : Int32)), .val (.ref o5), .unset, .unset]) rfl ?_
          show Steps p.tables e below (T99.setTop (mkF m 77 #[.val (.int p0), .val (.int p1), .val (.int (4 : Int32)), .val (.ref o4), .val (.int (0 : Int32)), .val (.int (0 : Int32)), .val (.int (0 : Int32)), .val (.ref o5), .unset, .unset] [])) _
          refine XS.aloadN X99.here hx rfl (hb hby at_77) rfl rfl ?_
          show Steps p.tables e below (T99.setTop (mkF m 78 #[.val (.int p0), .val (.int p1), .val (.int (4 : Int32)), .val (.ref o4), .val (.int (0 : Int32)), .val (.int (0 : Int32)), .val (.int (0 : Int32)), .val (.ref o5), .unset, .unset] [(.ref o4)])) _
          refine st100.trans ?_
          show Steps p.tables e below (T100.setTop (mkF m 81 #[.val (.int p0), .val (.int p1), .val (.int (4 : Int32)), .val (.ref o4), .val (.int (0 : Int32)), .val (.int (0 : Int32)), .val (.int (0 : Int32)), .val (.ref o5), .unset, .unset] [(.int (0 : Int32))])) _
          refine XS.istore X100.here hx rfl (hb hby at_81) rfl (l' := #[.val (.int p0), .val (.int p1), .val (.int (4 : Int32)), .val (.ref o4), .val (.int (0 : Int32)), .val (.int (0 : Int32)), .val (.int (0 : Int32)), .val (.ref o5), .val (.int (0 : Int32)), .unset]) rfl ?_
          show Steps p.tables e below (T100.setTop (mkF m 83 #[.val (.int p0), .val (.int p1), .val (.int (4 : Int32)), .val (.ref o4), .val (.int (0 : Int32)), .val (.int (0 : Int32)), .val (.int (0 : Int32)), .val (.ref o5), .val (.int (0 : Int32)), .unset] [])) _
          refine XS.aloadN X100.here hx rfl (hb hby at_83) rfl rfl ?_
          show Steps p.tables e below (T100.setTop (mkF m 84 #[.val (.int p0), .val (.int p1), .val (.int (4 : Int32)), .val (.ref o4), .val (.int (0 : Int32)), .val (.int (0 : Int32)), .val (.int (0 : Int32)), .val (.ref o5), .val (.int (0 : Int32)), .unset] [(.ref o4)])) _
          refine st101.trans ?_
          show Steps p.tables e below (T101.setTop (mkF m 87 #[.val (.int p0), .val (.int p1), .val (.int (4 : Int32)), .val (.ref o4), .val (.int (0 : Int32)), .val (.int (0 : Int32)), .val (.int (0 : Int32)), .val (.ref o5), .val (.int (0 : Int32)), .unset] [(.int (1 : Int32))])) _
          refine XS.istore X101.here hx rfl (hb hby at_87) rfl (l' := #[.val (.int p0), .val (.int p1), .val (.int (4 : Int32)), .val (.ref o4), .val (.int (0 : Int32)), .val (.int (0 : Int32)), .val (.int (0 : Int32)), .val (.ref o5), .val (.int (0 : Int32)), .val (.int (1 : Int32))]) rfl ?_
          show Steps p.tables e below (T101.setTop (mkF m 89 #[.val (.int p0), .val (.int p1), .val (.int (4 : Int32)), .val (.ref o4), .val (.int (0 : Int32)), .val (.int (0 : Int32)), .val (.int (0 : Int32)), .val (.ref o5), .val (.int (0 : Int32)), .val (.int (1 : Int32))] [])) _
          refine XS.iload X101.here hx rfl (hb hby at_89) rfl ?_
          show Steps p.tables e below (T101.setTop (mkF m 91 #[.val (.int p0), .val (.int p1), .val (.int (4 : Int32)), .val (.ref o4), .val (.int (0 : Int32)), .val (.int (0 : Int32)), .val (.int (0 : Int32)), .val (.ref o5), .val (.int (0 : Int32)), .val (.int (1 : Int32))] [(.int (0 : Int32))])) _
          refine XS.iload X101.here hx rfl (hb hby at_91) rfl ?_
          show Steps p.tables e below (T101.setTop (mkF m 93 #[.val (.int p0), .val (.int p1), .val (.int (4 : Int32)), .val (.ref o4), .val (.int (0 : Int32)), .val (.int (0 : Int32)), .val (.int (0 : Int32)), .val (.ref o5), .val (.int (0 : Int32)), .val (.int (1 : Int32))] [(.int (0 : Int32)), (.int (0 : Int32))])) _
          refine XS.icmpNo X101.here hx rfl (hb hby at_93) rfl (teq (by decide : (0 : Int32) = (0 : Int32))).2 ?_
          show Steps p.tables e below (T101.setTop (mkF m 96 #[.val (.int p0), .val (.int p1), .val (.int (4 : Int32)), .val (.ref o4), .val (.int (0 : Int32)), .val (.int (0 : Int32)), .val (.int (0 : Int32)), .val (.ref o5), .val (.int (0 : Int32)), .val (.int (1 : Int32))] [])) _
          refine XS.aload X101.here hx rfl (hb hby at_96) rfl rfl ?_
          show Steps p.tables e below (T101.setTop (mkF m 98 #[.val (.int p0), .val (.int p1), .val (.int (4 : Int32)), .val (.ref o4), .val (.int (0 : Int32)), .val (.int (0 : Int32)), .val (.int (0 : Int32)), .val (.ref o5), .val (.int (0 : Int32)), .val (.int (1 : Int32))] [(.ref o5)])) _
          refine st102.trans ?_
          show Steps p.tables e below (T102.setTop (mkF m 101 #[.val (.int p0), .val (.int p1), .val (.int (4 : Int32)), .val (.ref o4), .val (.int (0 : Int32)), .val (.int (0 : Int32)), .val (.int (0 : Int32)), .val (.ref o5), .val (.int (0 : Int32)), .val (.int (1 : Int32))] [(.int (1 : Int32))])) _
          refine XS.iload X102.here hx rfl (hb hby at_101) rfl ?_
          show Steps p.tables e below (T102.setTop (mkF m 103 #[.val (.int p0), .val (.int p1), .val (.int (4 : Int32)), .val (.ref o4), .val (.int (0 : Int32)), .val (.int (0 : Int32)), .val (.int (0 : Int32)), .val (.ref o5), .val (.int (0 : Int32)), .val (.int (1 : Int32))] [(.int (0 : Int32)), (.int (1 : Int32))])) _
          refine XS.ifNo X102.here hx rfl (hb hby at_103) rfl ((if0 _ _).trans (teq (by decide : (0 : Int32) = (0 : Int32))).2) ?_
          show Steps p.tables e below (T102.setTop (mkF m 106 #[.val (.int p0), .val (.int p1), .val (.int (4 : Int32)), .val (.ref o4), .val (.int (0 : Int32)), .val (.int (0 : Int32)), .val (.int (0 : Int32)), .val (.ref o5), .val (.int (0 : Int32)), .val (.int (1 : Int32))] [(.int (1 : Int32))])) _
          refine XS.iconst X102.here hx rfl (hb hby at_106) ?_
          show Steps p.tables e below (T102.setTop (mkF m 107 #[.val (.int p0), .val (.int p1), .val (.int (4 : Int32)), .val (.ref o4), .val (.int (0 : Int32)), .val (.int (0 : Int32)), .val (.int (0 : Int32)), .val (.ref o5), .val (.int (0 : Int32)), .val (.int (1 : Int32))] [(.int (1 : Int32)), (.int (1 : Int32))])) _
          refine XS.goto X102.here hx rfl (pc0 := 107) (pc' := 111) rfl (hb hby at_107) (by decide) (by decide) ?_
          show Steps p.tables e below (T102.setTop (mkF m 111 #[.val (.int p0), .val (.int p1), .val (.int (4 : Int32)), .val (.ref o4), .val (.int (0 : Int32)), .val (.int (0 : Int32)), .val (.int (0 : Int32)), .val (.ref o5), .val (.int (0 : Int32)), .val (.int (1 : Int32))] [(.int (1 : Int32)), (.int (1 : Int32))])) _
          refine XS.icmpNo X102.here hx rfl (hb hby at_111) rfl (teq (by decide : (1 : Int32) = (1 : Int32))).2 ?_
          show Steps p.tables e below (T102.setTop (mkF m 114 #[.val (.int p0), .val (.int p1), .val (.int (4 : Int32)), .val (.ref o4), .val (.int (0 : Int32)), .val (.int (0 : Int32)), .val (.int (0 : Int32)), .val (.ref o5), .val (.int (0 : Int32)), .val (.int (1 : Int32))] [])) _
          refine XS.iload X102.here hx rfl (hb hby at_114) rfl ?_
          show Steps p.tables e below (T102.setTop (mkF m 116 #[.val (.int p0), .val (.int p1), .val (.int (4 : Int32)), .val (.ref o4), .val (.int (0 : Int32)), .val (.int (0 : Int32)), .val (.int (0 : Int32)), .val (.ref o5), .val (.int (0 : Int32)), .val (.int (1 : Int32))] [(.int (0 : Int32))])) _
          refine XS.ifYes X102.here hx rfl (pc0 := 116) (pc' := 124) rfl (hb hby at_116) rfl ((if0 _ _).trans (teq (by decide : (0 : Int32) = (0 : Int32))).1) (by decide) (by decide) ?_
          show Steps p.tables e below (T102.setTop (mkF m 124 #[.val (.int p0), .val (.int p1), .val (.int (4 : Int32)), .val (.ref o4), .val (.int (0 : Int32)), .val (.int (0 : Int32)), .val (.int (0 : Int32)), .val (.ref o5), .val (.int (0 : Int32)), .val (.int (1 : Int32))] [])) _
          refine XS.iconst X102.here hx rfl (hb hby at_124) ?_
          show Steps p.tables e below (T102.setTop (mkF m 125 #[.val (.int p0), .val (.int p1), .val (.int (4 : Int32)), .val (.ref o4), .val (.int (0 : Int32)), .val (.int (0 : Int32)), .val (.int (0 : Int32)), .val (.ref o5), .val (.int (0 : Int32)), .val (.int (1 : Int32))] [(.int (1 : Int32))])) _
          refine XS.goto X102.here hx rfl (pc0 := 125) (pc' := 129) rfl (hb hby at_125) (by decide) (by decide) ?_
          show Steps p.tables e below (T102.setTop (mkF m 129 #[.val (.int p0), .val (.int p1), .val (.int (4 : Int32)), .val (.ref o4), .val (.int (0 : Int32)), .val (.int (0 : Int32)), .val (.int (0 : Int32)), .val (.ref o5), .val (.int (0 : Int32)), .val (.int (1 : Int32))] [(.int (1 : Int32))])) _
          exact retN X102 hx (t := .boolean) Bd.returns (by simp) (hb hby at_129) hr
        · show Q0 Z p0 p1 o0 o1 o2 o3 o4 o5 o6 o7 h0 n0 _ T102.heap _
          rw [e102]
          exact ⟨rfl, N102⟩
      · obtain ⟨_, _, ⟨T103, L103, k103, n103⟩, -, X103, ⟨Lc103, hQ103, l103, y103, z103⟩, st103⟩ := Jvm.LawKit.callS X94 hx (y := (⟨"com/example/unanimity/unanimity/engine/Outcome", "forced", "(ZZ)Lcom/example/unanimity/unanimity/engine/Outcome;"⟩ : MethodName)) hown (mvT hZ (hw _ (List.mem_of_getElem? (i := 7) rfl))) (mvT hZ (hw _ (List.mem_of_getElem? (i := 8) rfl))) (mvT hZ (hw _ (List.mem_of_getElem? (i := 5) rfl))) (mvT hZ (hw _ (List.mem_of_getElem? (i := 9) rfl))) (by decide) (backOf (W := 0) (rm2 l Z aw hw [] (0 : Int32) (1 : Int32) o0 o1 o2 o3 o4 o5 o6 o7 h0 n0 Z0 S_COMMITTED S_ABORTED S_IN_DOUBT S_UNKNOWN S_FORCED_COMMIT S_FORCED_ABORT S_FORCED_COMMIT_CONFLICT S_FORCED_ABORT_CONFLICT) hZ (hw _ (List.mem_of_getElem? (i := 9) rfl)) (hw _ (List.mem_of_getElem? (i := 5) rfl)) (by decide) (by decide)) (g := (mkF m 72 #[.val (.int p0), .val (.int p1), .val (.int (4 : Int32)), .val (.ref o4), .val (.int (0 : Int32)), .val (.int (0 : Int32)), .val (.int (1 : Int32)), .unset, .unset, .unset] [(.int (1 : Int32)), (.int (0 : Int32))])) rfl (by rw [hml]; rfl) (argsL := [(.int (0 : Int32)), (.int (1 : Int32))]) (rest := []) (lenOf pd_1 rfl) rfl (by show 2 * 0 + _ ≤ _; exact Nat.le_of_eq rfl) (hb hby at_72) (fun _ _ => ⟨rfl, e94, (by decide : 0 + 0 ≤ _), (by decide : 0 + 0 ≤ _)⟩)
        dsimp only [Pt.U, Pt.locs, Pt.cells, Pt.slots] at X103 l103 y103 z103 st103 hQ103
        subst l103 y103 z103
        obtain ⟨hv103, N103q, e103⟩ := hQ103
        rw [show own_forced (0 : Int32) (1 : Int32) o4 o5 o6 o7 = o7 from rfl] at hv103
        subst hv103
        have N103 := Fr.app N94 N103q
        obtain ⟨cq104, kq104, q104a, q104b, q104c⟩ := isOf hZ e103 E4
        obtain ⟨_, _, ⟨T104, L104, k104, n104⟩, -, X104, ⟨Lc104, hQ104, l104, y104, z104⟩, st104⟩ := X103.virtualBack hx (y := (⟨"com/example/unanimity/unanimity/engine/Outcome", "abortedHere", "()Z"⟩ : MethodName)) (z := (⟨"com/example/unanimity/unanimity/engine/Outcome", "abortedHere", "()Z"⟩ : MethodName)) hown (mvT hZ (hw _ (List.mem_of_getElem? (i := 12) rfl))) (mvT hZ (hw _ (List.mem_of_getElem? (i := 13) rfl))) (notFace_of_selects (args := #[]) (mvT hZ (hw _ (List.mem_of_getElem? (i := 15) rfl)))) (mvT hZ (hw _ (List.mem_of_getElem? (i := 15) rfl))) (mvT hZ (hw _ (List.mem_of_getElem? (i := 14) rfl))) (by decide) (backOf (W := 0) (rm3 l Z aw hw [] o4 o0 o1 o2 o3 o4 o5 o6 o7 h0 n0 Z0 S_COMMITTED S_ABORTED S_IN_DOUBT S_UNKNOWN S_FORCED_COMMIT S_FORCED_ABORT S_FORCED_COMMIT_CONFLICT S_FORCED_ABORT_CONFLICT) hZ (hw _ (List.mem_of_getElem? (i := 16) rfl)) (hw _ (List.mem_of_getElem? (i := 5) rfl)) (by decide) (by decide)) q104a q104c (g := (mkF m 78 #[.val (.int p0), .val (.int p1), .val (.int (4 : Int32)), .val (.ref o4), .val (.int (0 : Int32)), .val (.int (0 : Int32)), .val (.int (1 : Int32)), .val (.ref o7), .unset, .unset] [(.ref o4)])) rfl (by rw [hml]; rfl) (Steps.refl _) (argsL := []) (rest := []) (lenOf pd_2 rfl) rfl (by show 2 * 0 + _ ≤ _; exact Nat.le_of_eq rfl) (hb hby at_78) (fun _ _ => ⟨rfl, e103, (by decide : 0 + 0 ≤ _), (by decide : 0 + 0 ≤ _)⟩)
        dsimp only [Pt.U, Pt.locs, Pt.cells, Pt.slots] at X104 l104 y104 z104 st104 hQ104
        subst l104 y104 z104
        obtain ⟨hv104, N104q, e104⟩ := hQ104
        rw [own_three_no (Ne.symm d1_4) d4_5 d4_7] at hv104
        subst hv104
        have N104 := Fr.app N103 N104q
        obtain ⟨cq105, kq105, q105a, q105b, q105c⟩ := isOf hZ e104 E4
        obtain ⟨_, _, ⟨T105, L105, k105, n105⟩, -, X105, ⟨Lc105, hQ105, l105, y105, z105⟩, st105⟩ := X104.virtualBack hx (y := (⟨"com/example/unanimity/unanimity/engine/Outcome", "committedHere", "()Z"⟩ : MethodName)) (z := (⟨"com/example/unanimity/unanimity/engine/Outcome", "committedHere", "()Z"⟩ : MethodName)) hown (mvT hZ (hw _ (List.mem_of_getElem? (i := 23) rfl))) (mvT hZ (hw _ (List.mem_of_getElem? (i := 24) rfl))) (notFace_of_selects (args := #[]) (mvT hZ (hw _ (List.mem_of_getElem? (i := 26) rfl)))) (mvT hZ (hw _ (List.mem_of_getElem? (i := 26) rfl))) (mvT hZ (hw _ (List.mem_of_getElem? (i := 25) rfl))) (by decide) (backOf (W := 0) (rm4 l Z aw hw [] o4 o0 o1 o2 o3 o4 o5 o6 o7 h0 n0 Z0 S_COMMITTED S_ABORTED S_IN_DOUBT S_UNKNOWN S_FORCED_COMMIT S_FORCED_ABORT S_FORCED_COMMIT_CONFLICT S_FORCED_ABORT_CONFLICT) hZ (hw _ (List.mem_of_getElem? (i := 27) rfl)) (hw _ (List.mem_of_getElem? (i := 5) rfl)) (by decide) (by decide)) q105a q105c (g := (mkF m 84 #[.val (.int p0), .val (.int p1), .val (.int (4 : Int32)), .val (.ref o4), .val (.int (0 : Int32)), .val (.int (0 : Int32)), .val (.int (1 : Int32)), .val (.ref o7), .val (.int (0 : Int32)), .unset] [(.ref o4)])) rfl (by rw [hml]; rfl) (Steps.refl _) (argsL := []) (rest := []) (lenOf pd_2 rfl) rfl (by show 2 * 0 + _ ≤ _; exact Nat.le_of_eq rfl) (hb hby at_84) (fun _ _ => ⟨rfl, e104, (by decide : 0 + 0 ≤ _), (by decide : 0 + 0 ≤ _)⟩)
        dsimp only [Pt.U, Pt.locs, Pt.cells, Pt.slots] at X105 l105 y105 z105 st105 hQ105
        subst l105 y105 z105
        obtain ⟨hv105, N105q, e105⟩ := hQ105
        rw [own_three_hit2] at hv105
        subst hv105
        have N105 := Fr.app N104 N105q
        obtain ⟨cq106, kq106, q106a, q106b, q106c⟩ := isOf hZ e105 E7
        obtain ⟨_, _, ⟨T106, L106, k106, n106⟩, -, X106, ⟨Lc106, hQ106, l106, y106, z106⟩, st106⟩ := X105.virtualBack hx (y := (⟨"com/example/unanimity/unanimity/engine/Outcome", "abortedHere", "()Z"⟩ : MethodName)) (z := (⟨"com/example/unanimity/unanimity/engine/Outcome", "abortedHere", "()Z"⟩ : MethodName)) hown (mvT hZ (hw _ (List.mem_of_getElem? (i := 12) rfl))) (mvT hZ (hw _ (List.mem_of_getElem? (i := 13) rfl))) (notFace_of_selects (args := #[]) (mvT hZ (hw _ (List.mem_of_getElem? (i := 15) rfl)))) (mvT hZ (hw _ (List.mem_of_getElem? (i := 15) rfl))) (mvT hZ (hw _ (List.mem_of_getElem? (i := 14) rfl))) (by decide) (backOf (W := 0) (rm3 l Z aw hw [] o7 o0 o1 o2 o3 o4 o5 o6 o7 h0 n0 Z0 S_COMMITTED S_ABORTED S_IN_DOUBT S_UNKNOWN S_FORCED_COMMIT S_FORCED_ABORT S_FORCED_COMMIT_CONFLICT S_FORCED_ABORT_CONFLICT) hZ (hw _ (List.mem_of_getElem? (i := 16) rfl)) (hw _ (List.mem_of_getElem? (i := 5) rfl)) (by decide) (by decide)) q106a q106c (g := (mkF m 98 #[.val (.int p0), .val (.int p1), .val (.int (4 : Int32)), .val (.ref o4), .val (.int (0 : Int32)), .val (.int (0 : Int32)), .val (.int (1 : Int32)), .val (.ref o7), .val (.int (0 : Int32)), .val (.int (1 : Int32))] [(.ref o7)])) rfl (by rw [hml]; rfl) (Steps.refl _) (argsL := []) (rest := []) (lenOf pd_2 rfl) rfl (by show 2 * 0 + _ ≤ _; exact Nat.le_of_eq rfl) (hb hby at_98) (fun _ _ => ⟨rfl, e105, (by decide : 0 + 0 ≤ _), (by decide : 0 + 0 ≤ _)⟩)
        dsimp only [Pt.U, Pt.locs, Pt.cells, Pt.slots] at X106 l106 y106 z106 st106 hQ106
        subst l106 y106 z106
        obtain ⟨hv106, N106q, e106⟩ := hQ106
        rw [own_three_hit3] at hv106
        subst hv106
        have N106 := Fr.app N105 N106q
        obtain ⟨fs, hr, hrun, hended, hW, hsame⟩ := X106.leave (v := some (.int (1 : Int32))) (fun h => by rw [Bd.returns] at h; cases h)
        refine ⟨_, _, pre97 _ ?_, hrun, hended, _, _, rfl, ?_, ⟨_, rfl⟩, hW, hsame.mono (by decide) (by decide)⟩
        · show Steps p.tables e below (T94.setTop (mkF m 58 #[.val (.int p0), .val (.int p1), .val (.int (4 : Int32)), .val (.ref o4), .val (.int (0 : Int32)), .val (.int (0 : Int32)), .unset, .unset, .unset, .unset] [(.int (p1 &&& (2 : Int32)))])) _
          refine XS.ifNo X94.here hx rfl (hb hby at_58) rfl ((if0 _ _).trans (feq hc98).1) ?_
          show Steps p.tables e below (T94.setTop (mkF m 61 #[.val (.int p0), .val (.int p1), .val (.int (4 : Int32)), .val (.ref o4), .val (.int (0 : Int32)), .val (.int (0 : Int32)), .unset, .unset, .unset, .unset] [])) _
          refine XS.iconst X94.here hx rfl (hb hby at_61) ?_
          show Steps p.tables e below (T94.setTop (mkF m 62 #[.val (.int p0), .val (.int p1), .val (.int (4 : Int32)), .val (.ref o4), .val (.int (0 : Int32)), .val (.int (0 : Int32)), .unset, .unset, .unset, .unset] [(.int (1 : Int32))])) _
          refine XS.goto X94.here hx rfl (pc0 := 62) (pc' := 66) rfl (hb hby at_62) (by decide) (by decide) ?_
          show Steps p.tables e below (T94.setTop (mkF m 66 #[.val (.int p0), .val (.int p1), .val (.int (4 : Int32)), .val (.ref o4), .val (.int (0 : Int32)), .val (.int (0 : Int32)), .unset, .unset, .unset, .unset] [(.int (1 : Int32))])) _
          refine XS.istore X94.here hx rfl (hb hby at_66) rfl (l' := #[.val (.int p0), .val (.int p1), .val (.int (4 : Int32)), .val (.ref o4), .val (.int (0 : Int32)), .val (.int (0 : Int32)), .val (.int (1 : Int32)), .unset, .unset, .unset]) rfl ?_
          show Steps p.tables e below (T94.setTop (mkF m 68 #[.val (.int p0), .val (.int p1), .val (.int (4 : Int32)), .val (.ref o4), .val (.int (0 : Int32)), .val (.int (0 : Int32)), .val (.int (1 : Int32)), .unset, .unset, .unset] [])) _
          refine XS.iload X94.here hx rfl (hb hby at_68) rfl ?_
          show Steps p.tables e below (T94.setTop (mkF m 70 #[.val (.int p0), .val (.int p1), .val (.int (4 : Int32)), .val (.ref o4), .val (.int (0 : Int32)), .val (.int (0 : Int32)), .val (.int (1 : Int32)), .unset, .unset, .unset] [(.int (0 : Int32))])) _
          refine XS.iload X94.here hx rfl (hb hby at_70) rfl ?_
          show Steps p.tables e below (T94.setTop (mkF m 72 #[.val (.int p0), .val (.int p1), .val (.int (4 : Int32)), .val (.ref o4), .val (.int (0 : Int32)), .val (.int (0 : Int32)), .val (.int (1 : Int32)), .unset, .unset, .unset] [(.int (1 : Int32)), (.int (0 : Int32))])) _
          refine st103 _ ?_
          show Steps p.tables e below (T103.setTop (mkF m 75 #[.val (.int p0), .val (.int p1), .val (.int (4 : Int32)), .val (.ref o4), .val (.int (0 : Int32)), .val (.int (0 : Int32)), .val (.int (1 : Int32)), .unset, .unset, .unset] [(.ref o7)])) _
          refine XS.astore X103.here hx rfl (hb hby at_75) rfl rfl (l' := #[.val (.int p0), .val (.int p1), .val (.int (4 : Int32)), .val (.ref o4), .val (.int (0 : Int32)), .val (.int (0 : Int32)), .val (.int (1 : Int32)), .val (.ref o7), .unset, .unset]) rfl ?_
          show Steps p.tables e below (T103.setTop (mkF m 77 #[.val (.int p0), .val (.int p1), .val (.int (4 : Int32)), .val (.ref o4), .val (.int (0 : Int32)), .val (.int (0 : Int32)), .val (.int (1 : Int32)), .val (.ref o7), .unset, .unset] [])) _
          refine XS.aloadN X103.here hx rfl (hb hby at_77) rfl rfl ?_
          show Steps p.tables e below (T103.setTop (mkF m 78 #[.val (.int p0), .val (.int p1), .val (.int (4 : Int32)), .val (.ref o4), .val (.int (0 : Int32)), .val (.int (0 : Int32)), .val (.int (1 : Int32)), .val (.ref o7), .unset, .unset] [(.ref o4)])) _
          refine st104.trans ?_
          show Steps p.tables e below (T104.setTop (mkF m 81 #[.val (.int p0), .val (.int p1), .val (.int (4 : Int32)), .val (.ref o4), .val (.int (0 : Int32)), .val (.int (0 : Int32)), .val (.int (1 : Int32)), .val (.ref o7), .unset, .unset] [(.int (0 : Int32))])) _
          refine XS.istore X104.here hx rfl (hb hby at_81) rfl (l' := #[.val (.int p0), .val (.int p1), .val (.int (4 : Int32)), .val (.ref o4), .val (.int (0 : Int32)), .val (.int (0 : Int32)), .val (.int (1 : Int32)), .val (.ref o7), .val (.int (0 : Int32)), .unset]) rfl ?_
          show Steps p.tables e below (T104.setTop (mkF m 83 #[.val (.int p0), .val (.int p1), .val (.int (4 : Int32)), .val (.ref o4), .val (.int (0 : Int32)), .val (.int (0 : Int32)), .val (.int (1 : Int32)), .val (.ref o7), .val (.int (0 : Int32)), .unset] [])) _
          refine XS.aloadN X104.here hx rfl (hb hby at_83) rfl rfl ?_
          show Steps p.tables e below (T104.setTop (mkF m 84 #[.val (.int p0), .val (.int p1), .val (.int (4 : Int32)), .val (.ref o4), .val (.int (0 : Int32)), .val (.int (0 : Int32)), .val (.int (1 : Int32)), .val (.ref o7), .val (.int (0 : Int32)), .unset] [(.ref o4)])) _
          refine st105.trans ?_
          show Steps p.tables e below (T105.setTop (mkF m 87 #[.val (.int p0), .val (.int p1), .val (.int (4 : Int32)), .val (.ref o4), .val (.int (0 : Int32)), .val (.int (0 : Int32)), .val (.int (1 : Int32)), .val (.ref o7), .val (.int (0 : Int32)), .unset] [(.int (1 : Int32))])) _
          refine XS.istore X105.here hx rfl (hb hby at_87) rfl (l' := #[.val (.int p0), .val (.int p1), .val (.int (4 : Int32)), .val (.ref o4), .val (.int (0 : Int32)), .val (.int (0 : Int32)), .val (.int (1 : Int32)), .val (.ref o7), .val (.int (0 : Int32)), .val (.int (1 : Int32))]) rfl ?_
          show Steps p.tables e below (T105.setTop (mkF m 89 #[.val (.int p0), .val (.int p1), .val (.int (4 : Int32)), .val (.ref o4), .val (.int (0 : Int32)), .val (.int (0 : Int32)), .val (.int (1 : Int32)), .val (.ref o7), .val (.int (0 : Int32)), .val (.int (1 : Int32))] [])) _
          refine XS.iload X105.here hx rfl (hb hby at_89) rfl ?_
          show Steps p.tables e below (T105.setTop (mkF m 91 #[.val (.int p0), .val (.int p1), .val (.int (4 : Int32)), .val (.ref o4), .val (.int (0 : Int32)), .val (.int (0 : Int32)), .val (.int (1 : Int32)), .val (.ref o7), .val (.int (0 : Int32)), .val (.int (1 : Int32))] [(.int (0 : Int32))])) _
          refine XS.iload X105.here hx rfl (hb hby at_91) rfl ?_
          show Steps p.tables e below (T105.setTop (mkF m 93 #[.val (.int p0), .val (.int p1), .val (.int (4 : Int32)), .val (.ref o4), .val (.int (0 : Int32)), .val (.int (0 : Int32)), .val (.int (1 : Int32)), .val (.ref o7), .val (.int (0 : Int32)), .val (.int (1 : Int32))] [(.int (0 : Int32)), (.int (0 : Int32))])) _
          refine XS.icmpNo X105.here hx rfl (hb hby at_93) rfl (teq (by decide : (0 : Int32) = (0 : Int32))).2 ?_
          show Steps p.tables e below (T105.setTop (mkF m 96 #[.val (.int p0), .val (.int p1), .val (.int (4 : Int32)), .val (.ref o4), .val (.int (0 : Int32)), .val (.int (0 : Int32)), .val (.int (1 : Int32)), .val (.ref o7), .val (.int (0 : Int32)), .val (.int (1 : Int32))] [])) _
          refine XS.aload X105.here hx rfl (hb hby at_96) rfl rfl ?_
          show Steps p.tables e below (T105.setTop (mkF m 98 #[.val (.int p0), .val (.int p1), .val (.int (4 : Int32)), .val (.ref o4), .val (.int (0 : Int32)), .val (.int (0 : Int32)), .val (.int (1 : Int32)), .val (.ref o7), .val (.int (0 : Int32)), .val (.int (1 : Int32))] [(.ref o7)])) _
          refine st106.trans ?_
          show Steps p.tables e below (T106.setTop (mkF m 101 #[.val (.int p0), .val (.int p1), .val (.int (4 : Int32)), .val (.ref o4), .val (.int (0 : Int32)), .val (.int (0 : Int32)), .val (.int (1 : Int32)), .val (.ref o7), .val (.int (0 : Int32)), .val (.int (1 : Int32))] [(.int (1 : Int32))])) _
          refine XS.iload X106.here hx rfl (hb hby at_101) rfl ?_
          show Steps p.tables e below (T106.setTop (mkF m 103 #[.val (.int p0), .val (.int p1), .val (.int (4 : Int32)), .val (.ref o4), .val (.int (0 : Int32)), .val (.int (0 : Int32)), .val (.int (1 : Int32)), .val (.ref o7), .val (.int (0 : Int32)), .val (.int (1 : Int32))] [(.int (0 : Int32)), (.int (1 : Int32))])) _
          refine XS.ifNo X106.here hx rfl (hb hby at_103) rfl ((if0 _ _).trans (teq (by decide : (0 : Int32) = (0 : Int32))).2) ?_
          show Steps p.tables e below (T106.setTop (mkF m 106 #[.val (.int p0), .val (.int p1), .val (.int (4 : Int32)), .val (.ref o4), .val (.int (0 : Int32)), .val (.int (0 : Int32)), .val (.int (1 : Int32)), .val (.ref o7), .val (.int (0 : Int32)), .val (.int (1 : Int32))] [(.int (1 : Int32))])) _
          refine XS.iconst X106.here hx rfl (hb hby at_106) ?_
          show Steps p.tables e below (T106.setTop (mkF m 107 #[.val (.int p0), .val (.int p1), .val (.int (4 : Int32)), .val (.ref o4), .val (.int (0 : Int32)), .val (.int (0 : Int32)), .val (.int (1 : Int32)), .val (.ref o7), .val (.int (0 : Int32)), .val (.int (1 : Int32))] [(.int (1 : Int32)), (.int (1 : Int32))])) _
          refine XS.goto X106.here hx rfl (pc0 := 107) (pc' := 111) rfl (hb hby at_107) (by decide) (by decide) ?_
          show Steps p.tables e below (T106.setTop (mkF m 111 #[.val (.int p0), .val (.int p1), .val (.int (4 : Int32)), .val (.ref o4), .val (.int (0 : Int32)), .val (.int (0 : Int32)), .val (.int (1 : Int32)), .val (.ref o7), .val (.int (0 : Int32)), .val (.int (1 : Int32))] [(.int (1 : Int32)), (.int (1 : Int32))])) _
          refine XS.icmpNo X106.here hx rfl (hb hby at_111) rfl (teq (by decide : (1 : Int32) = (1 : Int32))).2 ?_
          show Steps p.tables e below (T106.setTop (mkF m 114 #[.val (.int p0), .val (.int p1), .val (.int (4 : Int32)), .val (.ref o4), .val (.int (0 : Int32)), .val (.int (0 : Int32)), .val (.int (1 : Int32)), .val (.ref o7), .val (.int (0 : Int32)), .val (.int (1 : Int32))] [])) _
          refine XS.iload X106.here hx rfl (hb hby at_114) rfl ?_
          show Steps p.tables e below (T106.setTop (mkF m 116 #[.val (.int p0), .val (.int p1), .val (.int (4 : Int32)), .val (.ref o4), .val (.int (0 : Int32)), .val (.int (0 : Int32)), .val (.int (1 : Int32)), .val (.ref o7), .val (.int (0 : Int32)), .val (.int (1 : Int32))] [(.int (0 : Int32))])) _
          refine XS.ifYes X106.here hx rfl (pc0 := 116) (pc' := 124) rfl (hb hby at_116) rfl ((if0 _ _).trans (teq (by decide : (0 : Int32) = (0 : Int32))).1) (by decide) (by decide) ?_
          show Steps p.tables e below (T106.setTop (mkF m 124 #[.val (.int p0), .val (.int p1), .val (.int (4 : Int32)), .val (.ref o4), .val (.int (0 : Int32)), .val (.int (0 : Int32)), .val (.int (1 : Int32)), .val (.ref o7), .val (.int (0 : Int32)), .val (.int (1 : Int32))] [])) _
          refine XS.iconst X106.here hx rfl (hb hby at_124) ?_
          show Steps p.tables e below (T106.setTop (mkF m 125 #[.val (.int p0), .val (.int p1), .val (.int (4 : Int32)), .val (.ref o4), .val (.int (0 : Int32)), .val (.int (0 : Int32)), .val (.int (1 : Int32)), .val (.ref o7), .val (.int (0 : Int32)), .val (.int (1 : Int32))] [(.int (1 : Int32))])) _
          refine XS.goto X106.here hx rfl (pc0 := 125) (pc' := 129) rfl (hb hby at_125) (by decide) (by decide) ?_
          show Steps p.tables e below (T106.setTop (mkF m 129 #[.val (.int p0), .val (.int p1), .val (.int (4 : Int32)), .val (.ref o4), .val (.int (0 : Int32)), .val (.int (0 : Int32)), .val (.int (1 : Int32)), .val (.ref o7), .val (.int (0 : Int32)), .val (.int (1 : Int32))] [(.int (1 : Int32))])) _
          exact retN X106 hx (t := .boolean) Bd.returns (by simp) (hb hby at_129) hr
        · show Q0 Z p0 p1 o0 o1 o2 o3 o4 o5 o6 o7 h0 n0 _ T106.heap _
          rw [e106]
          exact ⟨rfl, N106⟩
    · have pre107 : ∀ t, Steps p.tables e below (T94.setTop (mkF m 58 #[.val (.int p0), .val (.int p1), .val (.int (4 : Int32)), .val (.ref o4), .val (.int (0 : Int32)), .val (.int (1 : Int32)), .unset, .unset, .unset, .unset] [(.int (p1 &&& (2 : Int32)))])) t → Steps p.tables e below (s₁.setTop (entryFrame m #[(.int p0), (.int p1)] maxLocals)) t := fun t k => by
        refine pre95 t ?_
        show Steps p.tables e below (T94.setTop (mkF m 45 #[.val (.int p0), .val (.int p1), .val (.int (4 : Int32)), .val (.ref o4), .val (.int (0 : Int32)), .unset, .unset, .unset, .unset, .unset] [(.int (p1 &&& (1 : Int32)))])) _
        refine XS.ifNo X94.here hx rfl (hb hby at_45) rfl ((if0 _ _).trans (feq hc96).1) ?_
        show Steps p.tables e below (T94.setTop (mkF m 48 #[.val (.int p0), .val (.int p1), .val (.int (4 : Int32)), .val (.ref o4), .val (.int (0 : Int32)), .unset, .unset, .unset, .unset, .unset] [])) _
        refine XS.iconst X94.here hx rfl (hb hby at_48) ?_
        show Steps p.tables e below (T94.setTop (mkF m 49 #[.val (.int p0), .val (.int p1), .val (.int (4 : Int32)), .val (.ref o4), .val (.int (0 : Int32)), .unset, .unset, .unset, .unset, .unset] [(.int (1 : Int32))])) _
        refine XS.goto X94.here hx rfl (pc0 := 49) (pc' := 53) rfl (hb hby at_49) (by decide) (by decide) ?_
        show Steps p.tables e below (T94.setTop (mkF m 53 #[.val (.int p0), .val (.int p1), .val (.int (4 : Int32)), .val (.ref o4), .val (.int (0 : Int32)), .unset, .unset, .unset, .unset, .unset] [(.int (1 : Int32))])) _
        refine XS.istore X94.here hx rfl (hb hby at_53) rfl (l' := #[.val (.int p0), .val (.int p1), .val (.int (4 : Int32)), .val (.ref o4), .val (.int (0 : Int32)), .val (.int (1 : Int32)), .unset, .unset, .unset, .unset]) rfl ?_
        show Steps p.tables e below (T94.setTop (mkF m 55 #[.val (.int p0), .val (.int p1), .val (.int (4 : Int32)), .val (.ref o4), .val (.int (0 : Int32)), .val (.int (1 : Int32)), .unset, .unset, .unset, .unset] [])) _
        refine XS.iloadN X94.here hx rfl (hb hby at_55) rfl ?_
        show Steps p.tables e below (T94.setTop (mkF m 56 #[.val (.int p0), .val (.int p1), .val (.int (4 : Int32)), .val (.ref o4), .val (.int (0 : Int32)), .val (.int (1 : Int32)), .unset, .unset, .unset, .unset] [(.int p1)])) _
        refine XS.iconst X94.here hx rfl (hb hby at_56) ?_
        show Steps p.tables e below (T94.setTop (mkF m 57 #[.val (.int p0), .val (.int p1), .val (.int (4 : Int32)), .val (.ref o4), .val (.int (0 : Int32)), .val (.int (1 : Int32)), .unset, .unset, .unset, .unset] [(.int (2 : Int32)), (.int p1)])) _
        refine XS.iand X94.here hx rfl (hb hby at_57) rfl ?_
        exact k
      by_cases hc108 : (p1 &&& (2 : Int32)) = (0 : Int32)
      · obtain ⟨_, _, ⟨T109, L109, k109, n109⟩, -, X109, ⟨Lc109, hQ109, l109, y109, z109⟩, st109⟩ := Jvm.LawKit.callS X94 hx (y := (⟨"com/example/unanimity/unanimity/engine/Outcome", "forced", "(ZZ)Lcom/example/unanimity/unanimity/engine/Outcome;"⟩ : MethodName)) hown (mvT hZ (hw _ (List.mem_of_getElem? (i := 7) rfl))) (mvT hZ (hw _ (List.mem_of_getElem? (i := 8) rfl))) (mvT hZ (hw _ (List.mem_of_getElem? (i := 5) rfl))) (mvT hZ (hw _ (List.mem_of_getElem? (i := 9) rfl))) (by decide) (backOf (W := 0) (rm2 l Z aw hw [] (1 : Int32) (0 : Int32) o0 o1 o2 o3 o4 o5 o6 o7 h0 n0 Z0 S_COMMITTED S_ABORTED S_IN_DOUBT S_UNKNOWN S_FORCED_COMMIT S_FORCED_ABORT S_FORCED_COMMIT_CONFLICT S_FORCED_ABORT_CONFLICT) hZ (hw _ (List.mem_of_getElem? (i := 9) rfl)) (hw _ (List.mem_of_getElem? (i := 5) rfl)) (by decide) (by decide)) (g := (mkF m 72 #[.val (.int p0), .val (.int p1), .val (.int (4 : Int32)), .val (.ref o4), .val (.int (0 : Int32)), .val (.int (1 : Int32)), .val (.int (0 : Int32)), .unset, .unset, .unset] [(.int (0 : Int32)), (.int (1 : Int32))])) rfl (by rw [hml]; rfl) (argsL := [(.int (1 : Int32)), (.int (0 : Int32))]) (rest := []) (lenOf pd_1 rfl) rfl (by show 2 * 0 + _ ≤ _; exact Nat.le_of_eq rfl) (hb hby at_72) (fun _ _ => ⟨rfl, e94, (by decide : 0 + 0 ≤ _), (by decide : 0 + 0 ≤ _)⟩)
        dsimp only [Pt.U, Pt.locs, Pt.cells, Pt.slots] at X109 l109 y109 z109 st109 hQ109
        subst l109 y109 z109
        obtain ⟨hv109, N109q, e109⟩ := hQ109
        rw [show own_forced (1 : Int32) (0 : Int32) o4 o5 o6 o7 = o4 from rfl] at hv109
        subst hv109
        have N109 := Fr.app N94 N109q
        obtain ⟨cq110, kq110, q110a, q110b, q110c⟩ := isOf hZ e109 E4
        obtain ⟨_, _, ⟨T110, L110, k110, n110⟩, -, X110, ⟨Lc110, hQ110, l110, y110, z110⟩, st110⟩ := X109.virtualBack hx (y := (⟨"com/example/unanimity/unanimity/engine/Outcome", "abortedHere", "()Z"⟩ : MethodName)) (z := (⟨"com/example/unanimity/unanimity/engine/Outcome", "abortedHere", "()Z"⟩ : MethodName)) hown (mvT hZ (hw _ (List.mem_of_getElem? (i := 12) rfl))) (mvT hZ (hw _ (List.mem_of_getElem? (i := 13) rfl))) (notFace_of_selects (args := #[]) (mvT hZ (hw _ (List.mem_of_getElem? (i := 15) rfl)))) (mvT hZ (hw _ (List.mem_of_getElem? (i := 15) rfl))) (mvT hZ (hw _ (List.mem_of_getElem? (i := 14) rfl))) (by decide) (backOf (W := 0) (rm3 l Z aw hw [] o4 o0 o1 o2 o3 o4 o5 o6 o7 h0 n0 Z0 S_COMMITTED S_ABORTED S_IN_DOUBT S_UNKNOWN S_FORCED_COMMIT S_FORCED_ABORT S_FORCED_COMMIT_CONFLICT S_FORCED_ABORT_CONFLICT) hZ (hw _ (List.mem_of_getElem? (i := 16) rfl)) (hw _ (List.mem_of_getElem? (i := 5) rfl)) (by decide) (by decide)) q110a q110c (g := (mkF m 78 #[.val (.int p0), .val (.int p1), .val (.int (4 : Int32)), .val (.ref o4), .val (.int (0 : Int32)), .val (.int (1 : Int32)), .val (.int (0 : Int32)), .val (.ref o4), .unset, .unset] [(.ref o4)])) rfl (by rw [hml]; rfl) (Steps.refl _) (argsL := []) (rest := []) (lenOf pd_2 rfl) rfl (by show 2 * 0 + _ ≤ _; exact Nat.le_of_eq rfl) (hb hby at_78) (fun _ _ => ⟨rfl, e109, (by decide : 0 + 0 ≤ _), (by decide : 0 + 0 ≤ _)⟩)
        dsimp only [Pt.U, Pt.locs, Pt.cells, Pt.slots] at X110 l110 y110 z110 st110 hQ110
        subst l110 y110 z110
        obtain ⟨hv110, N110q, e110⟩ := hQ110
        rw [own_three_no (Ne.symm d1_4) d4_5 d4_7] at hv110
        subst hv110
        have N110 := Fr.app N109 N110q
        obtain ⟨cq111, kq111, q111a, q111b, q111c⟩ := isOf hZ e110 E4
        obtain ⟨_, _, ⟨T111, L111, k111, n111⟩, -, X111, ⟨Lc111, hQ111, l111, y111, z111⟩, st111⟩ := X110.virtualBack hx (y := (⟨"com/example/unanimity/unanimity/engine/Outcome", "committedHere", "()Z"⟩ : MethodName)) (z := (⟨"com/example/unanimity/unanimity/engine/Outcome", "committedHere", "()Z"⟩ : MethodName)) hown (mvT hZ (hw _ (List.mem_of_getElem? (i := 23) rfl))) (mvT hZ (hw _ (List.mem_of_getElem? (i := 24) rfl))) (notFace_of_selects (args := #[]) (mvT hZ (hw _ (List.mem_of_getElem? (i := 26) rfl)))) (mvT hZ (hw _ (List.mem_of_getElem? (i := 26) rfl))) (mvT hZ (hw _ (List.mem_of_getElem? (i := 25) rfl))) (by decide) (backOf (W := 0) (rm4 l Z aw hw [] o4 o0 o1 o2 o3 o4 o5 o6 o7 h0 n0 Z0 S_COMMITTED S_ABORTED S_IN_DOUBT S_UNKNOWN S_FORCED_COMMIT S_FORCED_ABORT S_FORCED_COMMIT_CONFLICT S_FORCED_ABORT_CONFLICT) hZ (hw _ (List.mem_of_getElem? (i := 27) rfl)) (hw _ (List.mem_of_getElem? (i := 5) rfl)) (by decide) (by decide)) q111a q111c (g := (mkF m 84 #[.val (.int p0), .val (.int p1), .val (.int (4 : Int32)), .val (.ref o4), .val (.int (0 : Int32)), .val (.int (1 : Int32)), .val (.int (0 : Int32)), .val (.ref o4), .val (.int (0 : Int32)), .unset] [(.ref o4)])) rfl (by rw [hml]; rfl) (Steps.refl _) (argsL := []) (rest := []) (lenOf pd_2 rfl) rfl (by show 2 * 0 + _ ≤ _; exact Nat.le_of_eq rfl) (hb hby at_84) (fun _ _ => ⟨rfl, e110, (by decide : 0 + 0 ≤ _), (by decide : 0 + 0 ≤ _)⟩)
        dsimp only [Pt.U, Pt.locs, Pt.cells, Pt.slots] at X111 l111 y111 z111 st111 hQ111
        subst l111 y111 z111
        obtain ⟨hv111, N111q, e111⟩ := hQ111
        rw [own_three_hit2] at hv111
        subst hv111
        have N111 := Fr.app N110 N111q
        obtain ⟨cq112, kq112, q112a, q112b, q112c⟩ := isOf hZ e111 E4
        obtain ⟨_, _, ⟨T112, L112, k112, n112⟩, -, X112, ⟨Lc112, hQ112, l112, y112, z112⟩, st112⟩ := X111.virtualBack hx (y := (⟨"com/example/unanimity/unanimity/engine/Outcome", "abortedHere", "()Z"⟩ : MethodName)) (z := (⟨"com/example/unanimity/unanimity/engine/Outcome", "abortedHere", "()Z"⟩ : MethodName)) hown (mvT hZ (hw _ (List.mem_of_getElem? (i := 12) rfl))) (mvT hZ (hw _ (List.mem_of_getElem? (i := 13) rfl))) (notFace_of_selects (args := #[]) (mvT hZ (hw _ (List.mem_of_getElem? (i := 15) rfl)))) (mvT hZ (hw _ (List.mem_of_getElem? (i := 15) rfl))) (mvT hZ (hw _ (List.mem_of_getElem? (i := 14) rfl))) (by decide) (backOf (W := 0) (rm3 l Z aw hw [] o4 o0 o1 o2 o3 o4 o5 o6 o7 h0 n0 Z0 S_COMMITTED S_ABORTED S_IN_DOUBT S_UNKNOWN S_FORCED_COMMIT S_FORCED_ABORT S_FORCED_COMMIT_CONFLICT S_FORCED_ABORT_CONFLICT) hZ (hw _ (List.mem_of_getElem? (i := 16) rfl)) (hw _ (List.mem_of_getElem? (i := 5) rfl)) (by decide) (by decide)) q112a q112c (g := (mkF m 98 #[.val (.int p0), .val (.int p1), .val (.int (4 : Int32)), .val (.ref o4), .val (.int (0 : Int32)), .val (.int (1 : Int32)), .val (.int (0 : Int32)), .val (.ref o4), .val (.int (0 : Int32)), .val (.int (1 : Int32))] [(.ref o4)])) rfl (by rw [hml]; rfl) (Steps.refl _) (argsL := []) (rest := []) (lenOf pd_2 rfl) rfl (by show 2 * 0 + _ ≤ _; exact Nat.le_of_eq rfl) (hb hby at_98) (fun _ _ => ⟨rfl, e111, (by decide : 0 + 0 ≤ _), (by decide : 0 + 0 ≤ _)⟩)
        dsimp only [Pt.U, Pt.locs, Pt.cells, Pt.slots] at X112 l112 y112 z112 st112 hQ112
        subst l112 y112 z112
        obtain ⟨hv112, N112q, e112⟩ := hQ112
        rw [own_three_no (Ne.symm d1_4) d4_5 d4_7] at hv112
        subst hv112
        have N112 := Fr.app N111 N112q
        obtain ⟨fs, hr, hrun, hended, hW, hsame⟩ := X112.leave (v := some (.int (1 : Int32))) (fun h => by rw [Bd.returns] at h; cases h)
        refine ⟨_, _, pre107 _ ?_, hrun, hended, _, _, rfl, ?_, ⟨_, rfl⟩, hW, hsame.mono (by decide) (by decide)⟩
        · show Steps p.tables e below (T94.setTop (mkF m 58 #[.val (.int p0), .val (.int p1), .val (.int (4 : Int32)), .val (.ref o4), .val (.int (0 : Int32)), .val (.int (1 : Int32)), .unset, .unset, .unset, .unset] [(.int (p1 &&& (2 : Int32)))])) _
          refine XS.ifYes X94.here hx rfl (pc0 := 58) (pc' := 65) rfl (hb hby at_58) rfl ((if0 _ _).trans (teq hc108).1) (by decide) (by decide) ?_
          show Steps p.tables e below (T94.setTop (mkF m 65 #[.val (.int p0), .val (.int p1), .val (.int (4 : Int32)), .val (.ref o4), .val (.int (0 : Int32)), .val (.int (1 : Int32)), .unset, .unset, .unset, .unset] [])) _
          refine XS.iconst X94.here hx rfl (hb hby at_65) ?_
          show Steps p.tables e below (T94.setTop (mkF m 66 #[.val (.int p0), .val (.int p1), .val (.int (4 : Int32)), .val (.ref o4), .val (.int (0 : Int32)), .val (.int (1 : Int32)), .unset, .unset, .unset, .unset] [(.int (0 : Int32))])) _
          refine XS.istore X94.here hx rfl (hb hby at_66) rfl (l' := #[.val (.int p0), .val (.int p1), .val (.int (4 : Int32)), .val (.ref o4), .val (.int (0 : Int32)), .val (.int (1 : Int32)), .val (.int (0 : Int32)), .unset, .unset, .unset]) rfl ?_
          show Steps p.tables e below (T94.setTop (mkF m 68 #[.val (.int p0), .val (.int p1), .val (.int (4 : Int32)), .val (.ref o4), .val (.int (0 : Int32)), .val (.int (1 : Int32)), .val (.int (0 : Int32)), .unset, .unset, .unset] [])) _
          refine XS.iload X94.here hx rfl (hb hby at_68) rfl ?_
          show Steps p.tables e below (T94.setTop (mkF m 70 #[.val (.int p0), .val (.int p1), .val (.int (4 : Int32)), .val (.ref o4), .val (.int (0 : Int32)), .val (.int (1 : Int32)), .val (.int (0 : Int32)), .unset, .unset, .unset] [(.int (1 : Int32))])) _
          refine XS.iload X94.here hx rfl (hb hby at_70) rfl ?_
          show Steps p.tables e below (T94.setTop (mkF m 72 #[.val (.int p0), .val (.int p1), .val (.int (4 : Int32)), .val (.ref o4), .val (.int (0 : Int32)), .val (.int (1 : Int32)), .val (.int (0 : Int32)), .unset, .unset, .unset] [(.int (0 : Int32)), (.int (1 : Int32))])) _
          refine st109 _ ?_
          show Steps p.tables e below (T109.setTop (mkF m 75 #[.val (.int p0), .val (.int p1), .val (.int (4 : Int32)), .val (.ref o4), .val (.int (0 : Int32)), .val (.int (1 : Int32)), .val (.int (0 : Int32)), .unset, .unset, .unset] [(.ref o4)])) _
          refine XS.astore X109.here hx rfl (hb hby at_75) rfl rfl (l' := #[.val (.int p0), .val (.int p1), .val (.int (4 : Int32)), .val (.ref o4), .val (.int (0 : Int32)), .val (.int (1 : Int32)), .val (.int (0 : Int32)), .val (.ref o4), .unset, .unset]) rfl ?_
          show Steps p.tables e below (T109.setTop (mkF m 77 #[.val (.int p0), .val (.int p1), .val (.int (4 : Int32)), .val (.ref o4), .val (.int (0 : Int32)), .val (.int (1 : Int32)), .val (.int (0 : Int32)), .val (.ref o4), .unset, .unset] [])) _
          refine XS.aloadN X109.here hx rfl (hb hby at_77) rfl rfl ?_
          show Steps p.tables e below (T109.setTop (mkF m 78 #[.val (.int p0), .val (.int p1), .val (.int (4 : Int32)), .val (.ref o4), .val (.int (0 : Int32)), .val (.int (1 : Int32)), .val (.int (0 : Int32)), .val (.ref o4), .unset, .unset] [(.ref o4)])) _
          refine st110.trans ?_
          show Steps p.tables e below (T110.setTop (mkF m 81 #[.val (.int p0), .val (.int p1), .val (.int (4 : Int32)), .val (.ref o4), .val (.int (0 : Int32)), .val (.int (1 : Int32)), .val (.int (0 : Int32)), .val (.ref o4), .unset, .unset] [(.int (0 : Int32))])) _
          refine XS.istore X110.here hx rfl (hb hby at_81) rfl (l' := #[.val (.int p0), .val (.int p1), .val (.int (4 : Int32)), .val (.ref o4), .val (.int (0 : Int32)), .val (.int (1 : Int32)), .val (.int (0 : Int32)), .val (.ref o4), .val (.int (0 : Int32)), .unset]) rfl ?_
          show Steps p.tables e below (T110.setTop (mkF m 83 #[.val (.int p0), .val (.int p1), .val (.int (4 : Int32)), .val (.ref o4), .val (.int (0 : Int32)), .val (.int (1 : Int32)), .val (.int (0 : Int32)), .val (.ref o4), .val (.int (0 : Int32)), .unset] [])) _
          refine XS.aloadN X110.here hx rfl (hb hby at_83) rfl rfl ?_
          show Steps p.tables e below (T110.setTop (mkF m 84 #[.val (.int p0), .val (.int p1), .val (.int (4 : Int32)), .val (.ref o4), .val (.int (0 : Int32)), .val (.int (1 : Int32)), .val (.int (0 : Int32)), .val (.ref o4), .val (.int (0 : Int32)), .unset] [(.ref o4)])) _
          refine st111.trans ?_
          show Steps p.tables e below (T111.setTop (mkF m 87 #[.val (.int p0), .val (.int p1), .val (.int (4 : Int32)), .val (.ref o4), .val (.int (0 : Int32)), .val (.int (1 : Int32)), .val (.int (0 : Int32)), .val (.ref o4), .val (.int (0 : Int32)), .unset] [(.int (1 : Int32))])) _
          refine XS.istore X111.here hx rfl (hb hby at_87) rfl (l' := #[.val (.int p0), .val (.int p1), .val (.int (4 : Int32)), .val (.ref o4), .val (.int (0 : Int32)), .val (.int (1 : Int32)), .val (.int (0 : Int32)), .val (.ref o4), .val (.int (0 : Int32)), .val (.int (1 : Int32))]) rfl ?_
          show Steps p.tables e below (T111.setTop (mkF m 89 #[.val (.int p0), .val (.int p1), .val (.int (4 : Int32)), .val (.ref o4), .val (.int (0 : Int32)), .val (.int (1 : Int32)), .val (.int (0 : Int32)), .val (.ref o4), .val (.int (0 : Int32)), .val (.int (1 : Int32))] [])) _
          refine XS.iload X111.here hx rfl (hb hby at_89) rfl ?_
          show Steps p.tables e below (T111.setTop (mkF m 91 #[.val (.int p0), .val (.int p1), .val (.int (4 : Int32)), .val (.ref o4), .val (.int (0 : Int32)), .val (.int (1 : Int32)), .val (.int (0 : Int32)), .val (.ref o4), .val (.int (0 : Int32)), .val (.int (1 : Int32))] [(.int (0 : Int32))])) _
          refine XS.iload X111.here hx rfl (hb hby at_91) rfl ?_
          show Steps p.tables e below (T111.setTop (mkF m 93 #[.val (.int p0), .val (.int p1), .val (.int (4 : Int32)), .val (.ref o4), .val (.int (0 : Int32)), .val (.int (1 : Int32)), .val (.int (0 : Int32)), .val (.ref o4), .val (.int (0 : Int32)), .val (.int (1 : Int32))] [(.int (0 : Int32)), (.int (0 : Int32))])) _
          refine XS.icmpNo X111.here hx rfl (hb hby at_93) rfl (teq (by decide : (0 : Int32) = (0 : Int32))).2 ?_
          show Steps p.tables e below (T111.setTop (mkF m 96 #[.val (.int p0), .val (.int p1), .val (.int (4 : Int32)), .val (.ref o4), .val (.int (0 : Int32)), .val (.int (1 : Int32)), .val (.int (0 : Int32)), .val (.ref o4), .val (.int (0 : Int32)), .val (.int (1 : Int32))] [])) _
          refine XS.aload X111.here hx rfl (hb hby at_96) rfl rfl ?_
          show Steps p.tables e below (T111.setTop (mkF m 98 #[.val (.int p0), .val (.int p1), .val (.int (4 : Int32)), .val (.ref o4), .val (.int (0 : Int32)), .val (.int (1 : Int32)), .val (.int (0 : Int32)), .val (.ref o4), .val (.int (0 : Int32)), .val (.int (1 : Int32))] [(.ref o4)])) _
          refine st112.trans ?_
          show Steps p.tables e below (T112.setTop (mkF m 101 #[.val (.int p0), .val (.int p1), .val (.int (4 : Int32)), .val (.ref o4), .val (.int (0 : Int32)), .val (.int (1 : Int32)), .val (.int (0 : Int32)), .val (.ref o4), .val (.int (0 : Int32)), .val (.int (1 : Int32))] [(.int (0 : Int32))])) _
          refine XS.iload X112.here hx rfl (hb hby at_101) rfl ?_
          show Steps p.tables e below (T112.setTop (mkF m 103 #[.val (.int p0), .val (.int p1), .val (.int (4 : Int32)), .val (.ref o4), .val (.int (0 : Int32)), .val (.int (1 : Int32)), .val (.int (0 : Int32)), .val (.ref o4), .val (.int (0 : Int32)), .val (.int (1 : Int32))] [(.int (1 : Int32)), (.int (0 : Int32))])) _
          refine XS.ifYes X112.here hx rfl (pc0 := 103) (pc' := 110) rfl (hb hby at_103) rfl ((if0 _ _).trans (feq (by decide : ¬ ((1 : Int32) = (0 : Int32)))).2) (by decide) (by decide) ?_
          show Steps p.tables e below (T112.setTop (mkF m 110 #[.val (.int p0), .val (.int p1), .val (.int (4 : Int32)), .val (.ref o4), .val (.int (0 : Int32)), .val (.int (1 : Int32)), .val (.int (0 : Int32)), .val (.ref o4), .val (.int (0 : Int32)), .val (.int (1 : Int32))] [(.int (0 : Int32))])) _
          refine XS.iconst X112.here hx rfl (hb hby at_110) ?_
          show Steps p.tables e below (T112.setTop (mkF m 111 #[.val (.int p0), .val (.int p1), .val (.int (4 : Int32)), .val (.ref o4), .val (.int (0 : Int32)), .val (.int (1 : Int32)), .val (.int (0 : Int32)), .val (.ref o4), .val (.int (0 : Int32)), .val (.int (1 : Int32))] [(.int (0 : Int32)), (.int (0 : Int32))])) _
          refine XS.icmpNo X112.here hx rfl (hb hby at_111) rfl (teq (by decide : (0 : Int32) = (0 : Int32))).2 ?_
          show Steps p.tables e below (T112.setTop (mkF m 114 #[.val (.int p0), .val (.int p1), .val (.int (4 : Int32)), .val (.ref o4), .val (.int (0 : Int32)), .val (.int (1 : Int32)), .val (.int (0 : Int32)), .val (.ref o4), .val (.int (0 : Int32)), .val (.int (1 : Int32))] [])) _
          refine XS.iload X112.here hx rfl (hb hby at_114) rfl ?_
          show Steps p.tables e below (T112.setTop (mkF m 116 #[.val (.int p0), .val (.int p1), .val (.int (4 : Int32)), .val (.ref o4), .val (.int (0 : Int32)), .val (.int (1 : Int32)), .val (.int (0 : Int32)), .val (.ref o4), .val (.int (0 : Int32)), .val (.int (1 : Int32))] [(.int (0 : Int32))])) _
          refine XS.ifYes X112.here hx rfl (pc0 := 116) (pc' := 124) rfl (hb hby at_116) rfl ((if0 _ _).trans (teq (by decide : (0 : Int32) = (0 : Int32))).1) (by decide) (by decide) ?_
          show Steps p.tables e below (T112.setTop (mkF m 124 #[.val (.int p0), .val (.int p1), .val (.int (4 : Int32)), .val (.ref o4), .val (.int (0 : Int32)), .val (.int (1 : Int32)), .val (.int (0 : Int32)), .val (.ref o4), .val (.int (0 : Int32)), .val (.int (1 : Int32))] [])) _
          refine XS.iconst X112.here hx rfl (hb hby at_124) ?_
          show Steps p.tables e below (T112.setTop (mkF m 125 #[.val (.int p0), .val (.int p1), .val (.int (4 : Int32)), .val (.ref o4), .val (.int (0 : Int32)), .val (.int (1 : Int32)), .val (.int (0 : Int32)), .val (.ref o4), .val (.int (0 : Int32)), .val (.int (1 : Int32))] [(.int (1 : Int32))])) _
          refine XS.goto X112.here hx rfl (pc0 := 125) (pc' := 129) rfl (hb hby at_125) (by decide) (by decide) ?_
          show Steps p.tables e below (T112.setTop (mkF m 129 #[.val (.int p0), .val (.int p1), .val (.int (4 : Int32)), .val (.ref o4), .val (.int (0 : Int32)), .val (.int (1 : Int32)), .val (.int (0 : Int32)), .val (.ref o4), .val (.int (0 : Int32)), .val (.int (1 : Int32))] [(.int (1 : Int32))])) _
          exact retN X112 hx (t := .boolean) Bd.returns (by simp) (hb hby at_129) hr
        · show Q0 Z p0 p1 o0 o1 o2 o3 o4 o5 o6 o7 h0 n0 _ T112.heap _
          rw [e112]
          exact ⟨rfl, N112⟩
      · obtain ⟨_, _, ⟨T113, L113, k113, n113⟩, -, X113, ⟨Lc113, hQ113, l113, y113, z113⟩, st113⟩ := Jvm.LawKit.callS X94 hx (y := (⟨"com/example/unanimity/unanimity/engine/Outcome", "forced", "(ZZ)Lcom/example/unanimity/unanimity/engine/Outcome;"⟩ : MethodName)) hown (mvT hZ (hw _ (List.mem_of_getElem? (i := 7) rfl))) (mvT hZ (hw _ (List.mem_of_getElem? (i := 8) rfl))) (mvT hZ (hw _ (List.mem_of_getElem? (i := 5) rfl))) (mvT hZ (hw _ (List.mem_of_getElem? (i := 9) rfl))) (by decide) (backOf (W := 0) (rm2 l Z aw hw [] (1 : Int32) (1 : Int32) o0 o1 o2 o3 o4 o5 o6 o7 h0 n0 Z0 S_COMMITTED S_ABORTED S_IN_DOUBT S_UNKNOWN S_FORCED_COMMIT S_FORCED_ABORT S_FORCED_COMMIT_CONFLICT S_FORCED_ABORT_CONFLICT) hZ (hw _ (List.mem_of_getElem? (i := 9) rfl)) (hw _ (List.mem_of_getElem? (i := 5) rfl)) (by decide) (by decide)) (g := (mkF m 72 #[.val (.int p0), .val (.int p1), .val (.int (4 : Int32)), .val (.ref o4), .val (.int (0 : Int32)), .val (.int (1 : Int32)), .val (.int (1 : Int32)), .unset, .unset, .unset] [(.int (1 : Int32)), (.int (1 : Int32))])) rfl (by rw [hml]; rfl) (argsL := [(.int (1 : Int32)), (.int (1 : Int32))]) (rest := []) (lenOf pd_1 rfl) rfl (by show 2 * 0 + _ ≤ _; exact Nat.le_of_eq rfl) (hb hby at_72) (fun _ _ => ⟨rfl, e94, (by decide : 0 + 0 ≤ _), (by decide : 0 + 0 ≤ _)⟩)
        dsimp only [Pt.U, Pt.locs, Pt.cells, Pt.slots] at X113 l113 y113 z113 st113 hQ113
        subst l113 y113 z113
        obtain ⟨hv113, N113q, e113⟩ := hQ113
        rw [show own_forced (1 : Int32) (1 : Int32) o4 o5 o6 o7 = o6 from rfl] at hv113
        subst hv113
        have N113 := Fr.app N94 N113q
        obtain ⟨cq114, kq114, q114a, q114b, q114c⟩ := isOf hZ e113 E4
        obtain ⟨_, _, ⟨T114, L114, k114, n114⟩, -, X114, ⟨Lc114, hQ114, l114, y114, z114⟩, st114⟩ := X113.virtualBack hx (y := (⟨"com/example/unanimity/unanimity/engine/Outcome", "abortedHere", "()Z"⟩ : MethodName)) (z := (⟨"com/example/unanimity/unanimity/engine/Outcome", "abortedHere", "()Z"⟩ : MethodName)) hown (mvT hZ (hw _ (List.mem_of_getElem? (i := 12) rfl))) (mvT hZ (hw _ (List.mem_of_getElem? (i := 13) rfl))) (notFace_of_selects (args := #[]) (mvT hZ (hw _ (List.mem_of_getElem? (i := 15) rfl)))) (mvT hZ (hw _ (List.mem_of_getElem? (i := 15) rfl))) (mvT hZ (hw _ (List.mem_of_getElem? (i := 14) rfl))) (by decide) (backOf (W := 0) (rm3 l Z aw hw [] o4 o0 o1 o2 o3 o4 o5 o6 o7 h0 n0 Z0 S_COMMITTED S_ABORTED S_IN_DOUBT S_UNKNOWN S_FORCED_COMMIT S_FORCED_ABORT S_FORCED_COMMIT_CONFLICT S_FORCED_ABORT_CONFLICT) hZ (hw _ (List.mem_of_getElem? (i := 16) rfl)) (hw _ (List.mem_of_getElem? (i := 5) rfl)) (by decide) (by decide)) q114a q114c (g := (mkF m 78 #[.val (.int p0), .val (.int p1), .val (.int (4 : Int32)), .val (.ref o4), .val (.int (0 : Int32)), .val (.int (1 : Int32)), .val (.int (1 : Int32)), .val (.ref o6), .unset, .unset] [(.ref o4)])) rfl (by rw [hml]; rfl) (Steps.refl _) (argsL := []) (rest := []) (lenOf pd_2 rfl) rfl (by show 2 * 0 + _ ≤ _; exact Nat.le_of_eq rfl) (hb hby at_78) (fun _ _ => ⟨rfl, e113, (by decide : 0 + 0 ≤ _), (by decide : 0 + 0 ≤ _)⟩)
        dsimp only [Pt.U, Pt.locs, Pt.cells, Pt.slots] at X114 l114 y114 z114 st114 hQ114
        subst l114 y114 z114
        obtain ⟨hv114, N114q, e114⟩ := hQ114
        rw [own_three_no (Ne.symm d1_4) d4_5 d4_7] at hv114
        subst hv114
        have N114 := Fr.app N113 N114q
        obtain ⟨cq115, kq115, q115a, q115b, q115c⟩ := isOf hZ e114 E4
        obtain ⟨_, _, ⟨T115, L115, k115, n115⟩, -, X115, ⟨Lc115, hQ115, l115, y115, z115⟩, st115⟩ := X114.virtualBack hx (y := (⟨"com/example/unanimity/unanimity/engine/Outcome", "committedHere", "()Z"⟩ : MethodName)) (z := (⟨"com/example/unanimity/unanimity/engine/Outcome", "committedHere", "()Z"⟩ : MethodName)) hown (mvT hZ (hw _ (List.mem_of_getElem? (i := 23) rfl))) (mvT hZ (hw _ (List.mem_of_getElem? (i := 24) rfl))) (notFace_of_selects (args := #[]) (mvT hZ (hw _ (List.mem_of_getElem? (i := 26) rfl)))) (mvT hZ (hw _ (List.mem_of_getElem? (i := 26) rfl))) (mvT hZ (hw _ (List.mem_of_getElem? (i := 25) rfl))) (by decide) (backOf (W := 0) (rm4 l Z aw hw [] o4 o0 o1 o2 o3 o4 o5 o6 o7 h0 n0 Z0 S_COMMITTED S_ABORTED S_IN_DOUBT S_UNKNOWN S_FORCED_COMMIT S_FORCED_ABORT S_FORCED_COMMIT_CONFLICT S_FORCED_ABORT_CONFLICT) hZ (hw _ (List.mem_of_getElem? (i := 27) rfl)) (hw _ (List.mem_of_getElem? (i := 5) rfl)) (by decide) (by decide)) q115a q115c (g := (mkF m 84 #[.val (.int p0), .val (.int p1), .val (.int (4 : Int32)), .val (.ref o4), .val (.int (0 : Int32)), .val (.int (1 : Int32)), .val (.int (1 : Int32)), .val (.ref o6), .val (.int (0 : Int32)), .unset] [(.ref o4)])) rfl (by rw [hml]; rfl) (Steps.refl _) (argsL := []) (rest := []) (lenOf pd_2 rfl) rfl (by show 2 * 0 + _ ≤ _; exact Nat.le_of_eq rfl) (hb hby at_84) (fun _ _ => ⟨rfl, e114, (by decide : 0 + 0 ≤ _), (by decide : 0 + 0 ≤ _)⟩)
        dsimp only [Pt.U, Pt.locs, Pt.cells, Pt.slots] at X115 l115 y115 z115 st115 hQ115
        subst l115 y115 z115
        obtain ⟨hv115, N115q, e115⟩ := hQ115
        rw [own_three_hit2] at hv115
        subst hv115
        have N115 := Fr.app N114 N115q
        obtain ⟨cq116, kq116, q116a, q116b, q116c⟩ := isOf hZ e115 E6
        obtain ⟨_, _, ⟨T116, L116, k116, n116⟩, -, X116, ⟨Lc116, hQ116, l116, y116, z116⟩, st116⟩ := X115.virtualBack hx (y := (⟨"com/example/unanimity/unanimity/engine/Outcome", "abortedHere", "()Z"⟩ : MethodName)) (z := (⟨"com/example/unanimity/unanimity/engine/Outcome", "abortedHere", "()Z"⟩ : MethodName)) hown (mvT hZ (hw _ (List.mem_of_getElem? (i := 12) rfl))) (mvT hZ (hw _ (List.mem_of_getElem? (i := 13) rfl))) (notFace_of_selects (args := #[]) (mvT hZ (hw _ (List.mem_of_getElem? (i := 15) rfl)))) (mvT hZ (hw _ (List.mem_of_getElem? (i := 15) rfl))) (mvT hZ (hw _ (List.mem_of_getElem? (i := 14) rfl))) (by decide) (backOf (W := 0) (rm3 l Z aw hw [] o6 o0 o1 o2 o3 o4 o5 o6 o7 h0 n0 Z0 S_COMMITTED S_ABORTED S_IN_DOUBT S_UNKNOWN S_FORCED_COMMIT S_FORCED_ABORT S_FORCED_COMMIT_CONFLICT S_FORCED_ABORT_CONFLICT) hZ (hw _ (List.mem_of_getElem? (i := 16) rfl)) (hw _ (List.mem_of_getElem? (i := 5) rfl)) (by decide) (by decide)) q116a q116c (g := (mkF m 98 #[.val (.int p0), .val (.int p1), .val (.int (4 : Int32)), .val (.ref o4), .val (.int (0 : Int32)), .val (.int (1 : Int32)), .val (.int (1 : Int32)), .val (.ref o6), .val (.int (0 : Int32)), .val (.int (1 : Int32))] [(.ref o6)])) rfl (by rw [hml]; rfl) (Steps.refl _) (argsL := []) (rest := []) (lenOf pd_2 rfl) rfl (by show 2 * 0 + _ ≤ _; exact Nat.le_of_eq rfl) (hb hby at_98) (fun _ _ => ⟨rfl, e115, (by decide : 0 + 0 ≤ _), (by decide : 0 + 0 ≤ _)⟩)
        dsimp only [Pt.U, Pt.locs, Pt.cells, Pt.slots] at X116 l116 y116 z116 st116 hQ116
        subst l116 y116 z116
        obtain ⟨hv116, N116q, e116⟩ := hQ116
        rw [own_three_no (Ne.symm d1_6) (Ne.symm d5_6) d6_7] at hv116
        subst hv116
        have N116 := Fr.app N115 N116q
        obtain ⟨fs, hr, hrun, hended, hW, hsame⟩ := X116.leave (v := some (.int (1 : Int32))) (fun h => by rw [Bd.returns] at h; cases h)
        refine ⟨_, _, pre107 _ ?_, hrun, hended, _, _, rfl, ?_, ⟨_, rfl⟩, hW, hsame.mono (by decide) (by decide)⟩
        · show Steps p.tables e below (T94.setTop (mkF m 58 #[.val (.int p0), .val (.int p1), .val (.int (4 : Int32)), .val (.ref o4), .val (.int (0 : Int32)), .val (.int (1 : Int32)), .unset, .unset, .unset, .unset] [(.int (p1 &&& (2 : Int32)))])) _
          refine XS.ifNo X94.here hx rfl (hb hby at_58) rfl ((if0 _ _).trans (feq hc108).1) ?_
          show Steps p.tables e below (T94.setTop (mkF m 61 #[.val (.int p0), .val (.int p1), .val (.int (4 : Int32)), .val (.ref o4), .val (.int (0 : Int32)), .val (.int (1 : Int32)), .unset, .unset, .unset, .unset] [])) _
          refine XS.iconst X94.here hx rfl (hb hby at_61) ?_
          show Steps p.tables e below (T94.setTop (mkF m 62 #[.val (.int p0), .val (.int p1), .val (.int (4 : Int32)), .val (.ref o4), .val (.int (0 : Int32)), .val (.int (1 : Int32)), .unset, .unset, .unset, .unset] [(.int (1 : Int32))])) _
          refine XS.goto X94.here hx rfl (pc0 := 62) (pc' := 66) rfl (hb hby at_62) (by decide) (by decide) ?_
          show Steps p.tables e below (T94.setTop (mkF m 66 #[.val (.int p0), .val (.int p1), .val (.int (4 : Int32)), .val (.ref o4), .val (.int (0 : Int32)), .val (.int (1 : Int32)), .unset, .unset, .unset, .unset] [(.int (1 : Int32))])) _
          refine XS.istore X94.here hx rfl (hb hby at_66) rfl (l' := #[.val (.int p0), .val (.int p1), .val (.int (4 : Int32)), .val (.ref o4), .val (.int (0 : Int32)), .val (.int (1 : Int32)), .val (.int (1 : Int32)), .unset, .unset, .unset]) rfl ?_
          show Steps p.tables e below (T94.setTop (mkF m 68 #[.val (.int p0), .val (.int p1), .val (.int (4 : Int32)), .val (.ref o4), .val (.int (0 : Int32)), .val (.int (1 : Int32)), .val (.int (1 : Int32)), .unset, .unset, .unset] [])) _
          refine XS.iload X94.here hx rfl (hb hby at_68) rfl ?_
          show Steps p.tables e below (T94.setTop (mkF m 70 #[.val (.int p0), .val (.int p1), .val (.int (4 : Int32)), .val (.ref o4), .val (.int (0 : Int32)), .val (.int (1 : Int32)), .val (.int (1 : Int32)), .unset, .unset, .unset] [(.int (1 : Int32))])) _
          refine XS.iload X94.here hx rfl (hb hby at_70) rfl ?_
          show Steps p.tables e below (T94.setTop (mkF m 72 #[.val (.int p0), .val (.int p1), .val (.int (4 : Int32)), .val (.ref o4), .val (.int (0 : Int32)), .val (.int (1 : Int32)), .val (.int (1 : Int32)), .unset, .unset, .unset] [(.int (1 : Int32)), (.int (1 : Int32))])) _
          refine st113 _ ?_
          show Steps p.tables e below (T113.setTop (mkF m 75 #[.val (.int p0), .val (.int p1), .val (.int (4 : Int32)), .val (.ref o4), .val (.int (0 : Int32)), .val (.int (1 : Int32)), .val (.int (1 : Int32)), .unset, .unset, .unset] [(.ref o6)])) _
          refine XS.astore X113.here hx rfl (hb hby at_75) rfl rfl (l' := #[.val (.int p0), .val (.int p1), .val (.int (4 : Int32)), .val (.ref o4), .val (.int (0 : Int32)), .val (.int (1 : Int32)), .val (.int (1 : Int32)), .val (.ref o6), .unset, .unset]) rfl ?_
          show Steps p.tables e below (T113.setTop (mkF m 77 #[.val (.int p0), .val (.int p1), .val (.int (4 : Int32)), .val (.ref o4), .val (.int (0 : Int32)), .val (.int (1 : Int32)), .val (.int (1 : Int32)), .val (.ref o6), .unset, .unset] [])) _
          refine XS.aloadN X113.here hx rfl (hb hby at_77) rfl rfl ?_
          show Steps p.tables e below (T113.setTop (mkF m 78 #[.val (.int p0), .val (.int p1), .val (.int (4 : Int32)), .val (.ref o4), .val (.int (0 : Int32)), .val (.int (1 : Int32)), .val (.int (1 : Int32)), .val (.ref o6), .unset, .unset] [(.ref o4)])) _
          refine st114.trans ?_
          show Steps p.tables e below (T114.setTop (mkF m 81 #[.val (.int p0), .val (.int p1), .val (.int (4 : Int32)), .val (.ref o4), .val (.int (0 : Int32)), .val (.int (1 : Int32)), .val (.int (1 : Int32)), .val (.ref o6), .unset, .unset] [(.int (0 : Int32))])) _
          refine XS.istore X114.here hx rfl (hb hby at_81) rfl (l' := #[.val (.int p0), .val (.int p1), .val (.int (4 : Int32)), .val (.ref o4), .val (.int (0 : Int32)), .val (.int (1 : Int32)), .val (.int (1 : Int32)), .val (.ref o6), .val (.int (0 : Int32)), .unset]) rfl ?_
          show Steps p.tables e below (T114.setTop (mkF m 83 #[.val (.int p0), .val (.int p1), .val (.int (4 : Int32)), .val (.ref o4), .val (.int (0 : Int32)), .val (.int (1 : Int32)), .val (.int (1 : Int32)), .val (.ref o6), .val (.int (0 : Int32)), .unset] [])) _
          refine XS.aloadN X114.here hx rfl (hb hby at_83) rfl rfl ?_
          show Steps p.tables e below (T114.setTop (mkF m 84 #[.val (.int p0), .val (.int p1), .val (.int (4 : Int32)), .val (.ref o4), .val (.int (0 : Int32)), .val (.int (1 : Int32)), .val (.int (1 : Int32)), .val (.ref o6), .val (.int (0 : Int32)), .unset] [(.ref o4)])) _
          refine st115.trans ?_
          show Steps p.tables e below (T115.setTop (mkF m 87 #[.val (.int p0), .val (.int p1), .val (.int (4 : Int32)), .val (.ref o4), .val (.int (0 : Int32)), .val (.int (1 : Int32)), .val (.int (1 : Int32)), .val (.ref o6), .val (.int (0 : Int32)), .unset] [(.int (1 : Int32))])) _
          refine XS.istore X115.here hx rfl (hb hby at_87) rfl (l' := #[.val (.int p0), .val (.int p1), .val (.int (4 : Int32)), .val (.ref o4), .val (.int (0 : Int32)), .val (.int (1 : Int32)), .val (.int (1 : Int32)), .val (.ref o6), .val (.int (0 : Int32)), .val (.int (1 : Int32))]) rfl ?_
          show Steps p.tables e below (T115.setTop (mkF m 89 #[.val (.int p0), .val (.int p1), .val (.int (4 : Int32)), .val (.ref o4), .val (.int (0 : Int32)), .val (.int (1 : Int32)), .val (.int (1 : Int32)), .val (.ref o6), .val (.int (0 : Int32)), .val (.int (1 : Int32))] [])) _
          refine XS.iload X115.here hx rfl (hb hby at_89) rfl ?_
          show Steps p.tables e below (T115.setTop (mkF m 91 #[.val (.int p0), .val (.int p1), .val (.int (4 : Int32)), .val (.ref o4), .val (.int (0 : Int32)), .val (.int (1 : Int32)), .val (.int (1 : Int32)), .val (.ref o6), .val (.int (0 : Int32)), .val (.int (1 : Int32))] [(.int (0 : Int32))])) _
          refine XS.iload X115.here hx rfl (hb hby at_91) rfl ?_
          show Steps p.tables e below (T115.setTop (mkF m 93 #[.val (.int p0), .val (.int p1), .val (.int (4 : Int32)), .val (.ref o4), .val (.int (0 : Int32)), .val (.int (1 : Int32)), .val (.int (1 : Int32)), .val (.ref o6), .val (.int (0 : Int32)), .val (.int (1 : Int32))] [(.int (0 : Int32)), (.int (0 : Int32))])) _
          refine XS.icmpNo X115.here hx rfl (hb hby at_93) rfl (teq (by decide : (0 : Int32) = (0 : Int32))).2 ?_
          show Steps p.tables e below (T115.setTop (mkF m 96 #[.val (.int p0), .val (.int p1), .val (.int (4 : Int32)), .val (.ref o4), .val (.int (0 : Int32)), .val (.int (1 : Int32)), .val (.int (1 : Int32)), .val (.ref o6), .val (.int (0 : Int32)), .val (.int (1 : Int32))] [])) _
          refine XS.aload X115.here hx rfl (hb hby at_96) rfl rfl ?_
          show Steps p.tables e below (T115.setTop (mkF m 98 #[.val (.int p0), .val (.int p1), .val (.int (4 : Int32)), .val (.ref o4), .val (.int (0 : Int32)), .val (.int (1 : Int32)), .val (.int (1 : Int32)), .val (.ref o6), .val (.int (0 : Int32)), .val (.int (1 : Int32))] [(.ref o6)])) _
          refine st116.trans ?_
          show Steps p.tables e below (T116.setTop (mkF m 101 #[.val (.int p0), .val (.int p1), .val (.int (4 : Int32)), .val (.ref o4), .val (.int (0 : Int32)), .val (.int (1 : Int32)), .val (.int (1 : Int32)), .val (.ref o6), .val (.int (0 : Int32)), .val (.int (1 : Int32))] [(.int (0 : Int32))])) _
          refine XS.iload X116.here hx rfl (hb hby at_101) rfl ?_
          show Steps p.tables e below (T116.setTop (mkF m 103 #[.val (.int p0), .val (.int p1), .val (.int (4 : Int32)), .val (.ref o4), .val (.int (0 : Int32)), .val (.int (1 : Int32)), .val (.int (1 : Int32)), .val (.ref o6), .val (.int (0 : Int32)), .val (.int (1 : Int32))] [(.int (1 : Int32)), (.int (0 : Int32))])) _
          refine XS.ifYes X116.here hx rfl (pc0 := 103) (pc' := 110) rfl (hb hby at_103) rfl ((if0 _ _).trans (feq (by decide : ¬ ((1 : Int32) = (0 : Int32)))).2) (by decide) (by decide) ?_
          show Steps p.tables e below (T116.setTop (mkF m 110 #[.val (.int p0), .val (.int p1), .val (.int (4 : Int32)), .val (.ref o4), .val (.int (0 : Int32)), .val (.int (1 : Int32)), .val (.int (1 : Int32)), .val (.ref o6), .val (.int (0 : Int32)), .val (.int (1 : Int32))] [(.int (0 : Int32))])) _
          refine XS.iconst X116.here hx rfl (hb hby at_110) ?_
          show Steps p.tables e below (T116.setTop (mkF m 111 #[.val (.int p0), .val (.int p1), .val (.int (4 : Int32)), .val (.ref o4), .val (.int (0 : Int32)), .val (.int (1 : Int32)), .val (.int (1 : Int32)), .val (.ref o6), .val (.int (0 : Int32)), .val (.int (1 : Int32))] [(.int (0 : Int32)), (.int (0 : Int32))])) _
          refine XS.icmpNo X116.here hx rfl (hb hby at_111) rfl (teq (by decide : (0 : Int32) = (0 : Int32))).2 ?_
          show Steps p.tables e below (T116.setTop (mkF m 114 #[.val (.int p0), .val (.int p1), .val (.int (4 : Int32)), .val (.ref o4), .val (.int (0 : Int32)), .val (.int (1 : Int32)), .val (.int (1 : Int32)), .val (.ref o6), .val (.int (0 : Int32)), .val (.int (1 : Int32))] [])) _
          refine XS.iload X116.here hx rfl (hb hby at_114) rfl ?_
          show Steps p.tables e below (T116.setTop (mkF m 116 #[.val (.int p0), .val (.int p1), .val (.int (4 : Int32)), .val (.ref o4), .val (.int (0 : Int32)), .val (.int (1 : Int32)), .val (.int (1 : Int32)), .val (.ref o6), .val (.int (0 : Int32)), .val (.int (1 : Int32))] [(.int (0 : Int32))])) _
          refine XS.ifYes X116.here hx rfl (pc0 := 116) (pc' := 124) rfl (hb hby at_116) rfl ((if0 _ _).trans (teq (by decide : (0 : Int32) = (0 : Int32))).1) (by decide) (by decide) ?_
          show Steps p.tables e below (T116.setTop (mkF m 124 #[.val (.int p0), .val (.int p1), .val (.int (4 : Int32)), .val (.ref o4), .val (.int (0 : Int32)), .val (.int (1 : Int32)), .val (.int (1 : Int32)), .val (.ref o6), .val (.int (0 : Int32)), .val (.int (1 : Int32))] [])) _
          refine XS.iconst X116.here hx rfl (hb hby at_124) ?_
          show Steps p.tables e below (T116.setTop (mkF m 125 #[.val (.int p0), .val (.int p1), .val (.int (4 : Int32)), .val (.ref o4), .val (.int (0 : Int32)), .val (.int (1 : Int32)), .val (.int (1 : Int32)), .val (.ref o6), .val (.int (0 : Int32)), .val (.int (1 : Int32))] [(.int (1 : Int32))])) _
          refine XS.goto X116.here hx rfl (pc0 := 125) (pc' := 129) rfl (hb hby at_125) (by decide) (by decide) ?_
          show Steps p.tables e below (T116.setTop (mkF m 129 #[.val (.int p0), .val (.int p1), .val (.int (4 : Int32)), .val (.ref o4), .val (.int (0 : Int32)), .val (.int (1 : Int32)), .val (.int (1 : Int32)), .val (.ref o6), .val (.int (0 : Int32)), .val (.int (1 : Int32))] [(.int (1 : Int32))])) _
          exact retN X116 hx (t := .boolean) Bd.returns (by simp) (hb hby at_129) hr
        · show Q0 Z p0 p1 o0 o1 o2 o3 o4 o5 o6 o7 h0 n0 _ T116.heap _
          rw [e116]
          exact ⟨rfl, N116⟩
  · obtain ⟨_, _, ⟨T117, L117, k117, n117⟩, -, X117, ⟨Lc117, hQ117, l117, y117, z117⟩, st117⟩ := Jvm.LawKit.callS X0 hx (y := (⟨"com/example/unanimity/unanimity/engine/OutcomeAbortedHerePinLaw", "pick", "(I)Lcom/example/unanimity/unanimity/engine/Outcome;"⟩ : MethodName)) hown (mvT hZ (hw _ (List.mem_of_getElem? (i := 0) rfl))) (mvT hZ (hw _ (List.mem_of_getElem? (i := 1) rfl))) (mvT hZ (hw _ (List.mem_of_getElem? (i := 2) rfl))) (mvT hZ (hw _ (List.mem_of_getElem? (i := 3) rfl))) (by decide) (backOf (W := 0) (rm1 l Z aw hw [] (5 : Int32) o0 o1 o2 o3 o4 o5 o6 o7 h0 n0 Z0 S_COMMITTED S_ABORTED S_IN_DOUBT S_UNKNOWN S_FORCED_COMMIT S_FORCED_ABORT S_FORCED_COMMIT_CONFLICT S_FORCED_ABORT_CONFLICT) hZ (hw _ (List.mem_of_getElem? (i := 3) rfl)) (hw _ (List.mem_of_getElem? (i := 2) rfl)) (by decide) (by decide)) (g := (mkF m 6 #[.val (.int p0), .val (.int p1), .val (.int (5 : Int32)), .unset, .unset, .unset, .unset, .unset, .unset, .unset] [(.int (5 : Int32))])) rfl (by rw [hml]; rfl) (argsL := [(.int (5 : Int32))]) (rest := []) (lenOf pd_0 rfl) rfl (by show 2 * 0 + _ ≤ _; exact Nat.le_of_eq rfl) (hb hby at_6) (fun _ _ => ⟨rfl, e0, (by decide : 0 + 0 ≤ _), (by decide : 0 + 0 ≤ _)⟩)
    dsimp only [Pt.U, Pt.locs, Pt.cells, Pt.slots] at X117 l117 y117 z117 st117 hQ117
    subst l117 y117 z117
    obtain ⟨hv117, N117q, e117⟩ := hQ117
    rw [show own_pick (5 : Int32) o0 o1 o2 o3 o4 o5 o6 o7 = o5 from rfl] at hv117
    subst hv117
    have N117 := Fr.app N0 N117q
    have pre118 : ∀ t, Steps p.tables e below (T117.setTop (mkF m 45 #[.val (.int p0), .val (.int p1), .val (.int (5 : Int32)), .val (.ref o5), .val (.int (1 : Int32)), .unset, .unset, .unset, .unset, .unset] [(.int (p1 &&& (1 : Int32)))])) t → Steps p.tables e below (s₁.setTop (entryFrame m #[(.int p0), (.int p1)] maxLocals)) t := fun t k => by
      refine pre1 t ?_
      show Steps p.tables e below (s₁.setTop (mkF m 5 #[.val (.int p0), .val (.int p1), .val (.int (5 : Int32)), .unset, .unset, .unset, .unset, .unset, .unset, .unset] [])) _
      refine XS.iloadN X0.here hx rfl (hb hby at_5) rfl ?_
      show Steps p.tables e below (s₁.setTop (mkF m 6 #[.val (.int p0), .val (.int p1), .val (.int (5 : Int32)), .unset, .unset, .unset, .unset, .unset, .unset, .unset] [(.int (5 : Int32))])) _
      refine st117 _ ?_
      show Steps p.tables e below (T117.setTop (mkF m 9 #[.val (.int p0), .val (.int p1), .val (.int (5 : Int32)), .unset, .unset, .unset, .unset, .unset, .unset, .unset] [(.ref o5)])) _
      refine XS.astoreN X117.here hx rfl (hb hby at_9) rfl rfl (l' := #[.val (.int p0), .val (.int p1), .val (.int (5 : Int32)), .val (.ref o5), .unset, .unset, .unset, .unset, .unset, .unset]) rfl ?_
      show Steps p.tables e below (T117.setTop (mkF m 10 #[.val (.int p0), .val (.int p1), .val (.int (5 : Int32)), .val (.ref o5), .unset, .unset, .unset, .unset, .unset, .unset] [])) _
      refine XS.iloadN X117.here hx rfl (hb hby at_10) rfl ?_
      show Steps p.tables e below (T117.setTop (mkF m 11 #[.val (.int p0), .val (.int p1), .val (.int (5 : Int32)), .val (.ref o5), .unset, .unset, .unset, .unset, .unset, .unset] [(.int (5 : Int32))])) _
      refine XS.iconst X117.here hx rfl (hb hby at_11) ?_
      show Steps p.tables e below (T117.setTop (mkF m 12 #[.val (.int p0), .val (.int p1), .val (.int (5 : Int32)), .val (.ref o5), .unset, .unset, .unset, .unset, .unset, .unset] [(.int (4 : Int32)), (.int (5 : Int32))])) _
      refine XS.icmpYes X117.here hx rfl (pc0 := 12) (pc' := 28) rfl (hb hby at_12) rfl (flt (by decide : ¬ ((5 : Int32) < (4 : Int32)))).2.1 (by decide) (by decide) ?_
      show Steps p.tables e below (T117.setTop (mkF m 28 #[.val (.int p0), .val (.int p1), .val (.int (5 : Int32)), .val (.ref o5), .unset, .unset, .unset, .unset, .unset, .unset] [])) _
      refine XS.iloadN X117.here hx rfl (hb hby at_28) rfl ?_
      show Steps p.tables e below (T117.setTop (mkF m 29 #[.val (.int p0), .val (.int p1), .val (.int (5 : Int32)), .val (.ref o5), .unset, .unset, .unset, .unset, .unset, .unset] [(.int (5 : Int32))])) _
      refine XS.iconst X117.here hx rfl (hb hby at_29) ?_
      show Steps p.tables e below (T117.setTop (mkF m 30 #[.val (.int p0), .val (.int p1), .val (.int (5 : Int32)), .val (.ref o5), .unset, .unset, .unset, .unset, .unset, .unset] [(.int (1 : Int32)), (.int (5 : Int32))])) _
      refine XS.iand X117.here hx rfl (hb hby at_30) rfl ?_
      show Steps p.tables e below (T117.setTop (mkF m 31 #[.val (.int p0), .val (.int p1), .val (.int (5 : Int32)), .val (.ref o5), .unset, .unset, .unset, .unset, .unset, .unset] [(.int (1 : Int32))])) _
      refine XS.iconst X117.here hx rfl (hb hby at_31) ?_
      show Steps p.tables e below (T117.setTop (mkF m 32 #[.val (.int p0), .val (.int p1), .val (.int (5 : Int32)), .val (.ref o5), .unset, .unset, .unset, .unset, .unset, .unset] [(.int (1 : Int32)), (.int (1 : Int32))])) _
      refine XS.icmpNo X117.here hx rfl (hb hby at_32) rfl (teq (by decide : (1 : Int32) = (1 : Int32))).2 ?_
      show Steps p.tables e below (T117.setTop (mkF m 35 #[.val (.int p0), .val (.int p1), .val (.int (5 : Int32)), .val (.ref o5), .unset, .unset, .unset, .unset, .unset, .unset] [])) _
      refine XS.iconst X117.here hx rfl (hb hby at_35) ?_
      show Steps p.tables e below (T117.setTop (mkF m 36 #[.val (.int p0), .val (.int p1), .val (.int (5 : Int32)), .val (.ref o5), .unset, .unset, .unset, .unset, .unset, .unset] [(.int (1 : Int32))])) _
      refine XS.goto X117.here hx rfl (pc0 := 36) (pc' := 40) rfl (hb hby at_36) (by decide) (by decide) ?_
      show Steps p.tables e below (T117.setTop (mkF m 40 #[.val (.int p0), .val (.int p1), .val (.int (5 : Int32)), .val (.ref o5), .unset, .unset, .unset, .unset, .unset, .unset] [(.int (1 : Int32))])) _
      refine XS.istore X117.here hx rfl (hb hby at_40) rfl (l' := #[.val (.int p0), .val (.int p1), .val (.int (5 : Int32)), .val (.ref o5), .val (.int (1 : Int32)), .unset, .unset, .unset, .unset, .unset]) rfl ?_
      show Steps p.tables e below (T117.setTop (mkF m 42 #[.val (.int p0), .val (.int p1), .val (.int (5 : Int32)), .val (.ref o5), .val (.int (1 : Int32)), .unset, .unset, .unset, .unset, .unset] [])) _
      refine XS.iloadN X117.here hx rfl (hb hby at_42) rfl ?_
      show Steps p.tables e below (T117.setTop (mkF m 43 #[.val (.int p0), .val (.int p1), .val (.int (5 : Int32)), .val (.ref o5), .val (.int (1 : Int32)), .unset, .unset, .unset, .unset, .unset] [(.int p1)])) _
      refine XS.iconst X117.here hx rfl (hb hby at_43) ?_
      show Steps p.tables e below (T117.setTop (mkF m 44 #[.val (.int p0), .val (.int p1), .val (.int (5 : Int32)), .val (.ref o5), .val (.int (1 : Int32)), .unset, .unset, .unset, .unset, .unset] [(.int (1 : Int32)), (.int p1)])) _
      refine XS.iand X117.here hx rfl (hb hby at_44) rfl ?_
      exact k
    by_cases hc119 : (p1 &&& (1 : Int32)) = (0 : Int32)
    · have pre120 : ∀ t, Steps p.tables e below (T117.setTop (mkF m 58 #[.val (.int p0), .val (.int p1), .val (.int (5 : Int32)), .val (.ref o5), .val (.int (1 : Int32)), .val (.int (0 : Int32)), .unset, .unset, .unset, .unset] [(.int (p1 &&& (2 : Int32)))])) t → Steps p.tables e below (s₁.setTop (entryFrame m #[(.int p0), (.int p1)] maxLocals)) t := fun t k => by
        refine pre118 t ?_
        show Steps p.tables e below (T117.setTop (mkF m 45 #[.val (.int p0), .val (.int p1), .val (.int (5 : Int32)), .val (.ref o5), .val (.int (1 : Int32)), .unset, .unset, .unset, .unset, .unset] [(.int (p1 &&& (1 : Int32)))])) _
        refine XS.ifYes X117.here hx rfl (pc0 := 45) (pc' := 52) rfl (hb hby at_45) rfl ((if0 _ _).trans (teq hc119).1) (by decide) (by decide) ?_
        show Steps p.tables e below (T117.setTop (mkF m 52 #[.val (.int p0), .val (.int p1), .val (.int (5 : Int32)), .val (.ref o5), .val (.int (1 : Int32)), .unset, .unset, .unset, .unset, .unset] [])) _
        refine XS.iconst X117.here hx rfl (hb hby at_52) ?_
        show Steps p.tables e below (T117.setTop (mkF m 53 #[.val (.int p0), .val (.int p1), .val (.int (5 : Int32)), .val (.ref o5), .val (.int (1 : Int32)), .unset, .unset, .unset, .unset, .unset] [(.int (0 : Int32))])) _
        refine XS.istore X117.here hx rfl (hb hby at_53) rfl (l' := #[.val (.int p0), .val (.int p1), .val (.int (5 : Int32)), .val (.ref o5), .val (.int (1 : Int32)), .val (.int (0 : Int32)), .unset, .unset, .unset, .unset]) rfl ?_
        show Steps p.tables e below (T117.setTop (mkF m 55 #[.val (.int p0), .val (.int p1), .val (.int (5 : Int32)), .val (.ref o5), .val (.int (1 : Int32)), .val (.int (0 : Int32)), .unset, .unset, .unset, .unset] [])) _
        refine XS.iloadN X117.here hx rfl (hb hby at_55) rfl ?_
        show Steps p.tables e below (T117.setTop (mkF m 56 #[.val (.int p0), .val (.int p1), .val (.int (5 : Int32)), .val (.ref o5), .val (.int (1 : Int32)), .val (.int (0 : Int32)), .unset, .unset, .unset, .unset] [(.int p1)])) _
        refine XS.iconst X117.here hx rfl (hb hby at_56) ?_
        show Steps p.tables e below (T117.setTop (mkF m 57 #[.val (.int p0), .val (.int p1), .val (.int (5 : Int32)), .val (.ref o5), .val (.int (1 : Int32)), .val (.int (0 : Int32)), .unset, .unset, .unset, .unset] [(.int (2 : Int32)), (.int p1)])) _
        refine XS.iand X117.here hx rfl (hb hby at_57) rfl ?_
        exact k
      by_cases hc121 : (p1 &&& (2 : Int32)) = (0 : Int32)
      · obtain ⟨_, _, ⟨T122, L122, k122, n122⟩, -, X122, ⟨Lc122, hQ122, l122, y122, z122⟩, st122⟩ := Jvm.LawKit.callS X117 hx (y := (⟨"com/example/unanimity/unanimity/engine/Outcome", "forced", "(ZZ)Lcom/example/unanimity/unanimity/engine/Outcome;"⟩ : MethodName)) hown (mvT hZ (hw _ (List.mem_of_getElem? (i := 7) rfl))) (mvT hZ (hw _ (List.mem_of_getElem? (i := 8) rfl))) (mvT hZ (hw _ (List.mem_of_getElem? (i := 5) rfl))) (mvT hZ (hw _ (List.mem_of_getElem? (i := 9) rfl))) (by decide) (backOf (W := 0) (rm2 l Z aw hw [] (0 : Int32) (0 : Int32) o0 o1 o2 o3 o4 o5 o6 o7 h0 n0 Z0 S_COMMITTED S_ABORTED S_IN_DOUBT S_UNKNOWN S_FORCED_COMMIT S_FORCED_ABORT S_FORCED_COMMIT_CONFLICT S_FORCED_ABORT_CONFLICT) hZ (hw _ (List.mem_of_getElem? (i := 9) rfl)) (hw _ (List.mem_of_getElem? (i := 5) rfl)) (by decide) (by decide)) (g := (mkF m 72 #[.val (.int p0), .val (.int p1), .val (.int (5 : Int32)), .val (.ref o5), .val (.int (1 : Int32)), .val (.int (0 : Int32)), .val (.int (0 : Int32)), .unset, .unset, .unset] [(.int (0 : Int32)), (.int (0 : Int32))])) rfl (by rw [hml]; rfl) (argsL := [(.int (0 : Int32)), (.int (0 : Int32))]) (rest := []) (lenOf pd_1 rfl) rfl (by show 2 * 0 + _ ≤ _; exact Nat.le_of_eq rfl) (hb hby at_72) (fun _ _ => ⟨rfl, e117, (by decide : 0 + 0 ≤ _), (by decide : 0 + 0 ≤ _)⟩)
        dsimp only [Pt.U, Pt.locs, Pt.cells, Pt.slots] at X122 l122 y122 z122 st122 hQ122
        subst l122 y122 z122
        obtain ⟨hv122, N122q, e122⟩ := hQ122
        rw [show own_forced (0 : Int32) (0 : Int32) o4 o5 o6 o7 = o5 from rfl] at hv122
        subst hv122
        have N122 := Fr.app N117 N122q
        obtain ⟨cq123, kq123, q123a, q123b, q123c⟩ := isOf hZ e122 E5
        obtain ⟨_, _, ⟨T123, L123, k123, n123⟩, -, X123, ⟨Lc123, hQ123, l123, y123, z123⟩, st123⟩ := X122.virtualBack hx (y := (⟨"com/example/unanimity/unanimity/engine/Outcome", "abortedHere", "()Z"⟩ : MethodName)) (z := (⟨"com/example/unanimity/unanimity/engine/Outcome", "abortedHere", "()Z"⟩ : MethodName)) hown (mvT hZ (hw _ (List.mem_of_getElem? (i := 12) rfl))) (mvT hZ (hw _ (List.mem_of_getElem? (i := 13) rfl))) (notFace_of_selects (args := #[]) (mvT hZ (hw _ (List.mem_of_getElem? (i := 15) rfl)))) (mvT hZ (hw _ (List.mem_of_getElem? (i := 15) rfl))) (mvT hZ (hw _ (List.mem_of_getElem? (i := 14) rfl))) (by decide) (backOf (W := 0) (rm3 l Z aw hw [] o5 o0 o1 o2 o3 o4 o5 o6 o7 h0 n0 Z0 S_COMMITTED S_ABORTED S_IN_DOUBT S_UNKNOWN S_FORCED_COMMIT S_FORCED_ABORT S_FORCED_COMMIT_CONFLICT S_FORCED_ABORT_CONFLICT) hZ (hw _ (List.mem_of_getElem? (i := 16) rfl)) (hw _ (List.mem_of_getElem? (i := 5) rfl)) (by decide) (by decide)) q123a q123c (g := (mkF m 78 #[.val (.int p0), .val (.int p1), .val (.int (5 : Int32)), .val (.ref o5), .val (.int (1 : Int32)), .val (.int (0 : Int32)), .val (.int (0 : Int32)), .val (.ref o5), .unset, .unset] [(.ref o5)])) rfl (by rw [hml]; rfl) (Steps.refl _) (argsL := []) (rest := []) (lenOf pd_2 rfl) rfl (by show 2 * 0 + _ ≤ _; exact Nat.le_of_eq rfl) (hb hby at_78) (fun _ _ => ⟨rfl, e122, (by decide : 0 + 0 ≤ _), (by decide : 0 + 0 ≤ _)⟩)
        dsimp only [Pt.U, Pt.locs, Pt.cells, Pt.slots] at X123 l123 y123 z123 st123 hQ123
        subst l123 y123 z123
        obtain ⟨hv123, N123q, e123⟩ := hQ123
        rw [own_three_hit2] at hv123
        subst hv123
        have N123 := Fr.app N122 N123q
        obtain ⟨cq124, kq124, q124a, q124b, q124c⟩ := isOf hZ e123 E5
        obtain ⟨_, _, ⟨T124, L124, k124, n124⟩, -, X124, ⟨Lc124, hQ124, l124, y124, z124⟩, st124⟩ := X123.virtualBack hx (y := (⟨"com/example/unanimity/unanimity/engine/Outcome", "committedHere", "()Z"⟩ : MethodName)) (z := (⟨"com/example/unanimity/unanimity/engine/Outcome", "committedHere", "()Z"⟩ : MethodName)) hown (mvT hZ (hw _ (List.mem_of_getElem? (i := 23) rfl))) (mvT hZ (hw _ (List.mem_of_getElem? (i := 24) rfl))) (notFace_of_selects (args := #[]) (mvT hZ (hw _ (List.mem_of_getElem? (i := 26) rfl)))) (mvT hZ (hw _ (List.mem_of_getElem? (i := 26) rfl))) (mvT hZ (hw _ (List.mem_of_getElem? (i := 25) rfl))) (by decide) (backOf (W := 0) (rm4 l Z aw hw [] o5 o0 o1 o2 o3 o4 o5 o6 o7 h0 n0 Z0 S_COMMITTED S_ABORTED S_IN_DOUBT S_UNKNOWN S_FORCED_COMMIT S_FORCED_ABORT S_FORCED_COMMIT_CONFLICT S_FORCED_ABORT_CONFLICT) hZ (hw _ (List.mem_of_getElem? (i := 27) rfl)) (hw _ (List.mem_of_getElem? (i := 5) rfl)) (by decide) (by decide)) q124a q124c (g := (mkF m 84 #[.val (.int p0), .val (.int p1), .val (.int (5 : Int32)), .val (.ref o5), .val (.int (1 : Int32)), .val (.int (0 : Int32)), .val (.int (0 : Int32)), .val (.ref o5), .val (.int (1 : Int32)), .unset] [(.ref o5)])) rfl (by rw [hml]; rfl) (Steps.refl _) (argsL := []) (rest := []) (lenOf pd_2 rfl) rfl (by show 2 * 0 + _ ≤ _; exact Nat.le_of_eq rfl) (hb hby at_84) (fun _ _ => ⟨rfl, e123, (by decide : 0 + 0 ≤ _), (by decide : 0 + 0 ≤ _)⟩)
        dsimp only [Pt.U, Pt.locs, Pt.cells, Pt.slots] at X124 l124 y124 z124 st124 hQ124
        subst l124 y124 z124
        obtain ⟨hv124, N124q, e124⟩ := hQ124
        rw [own_three_no (Ne.symm d0_5) (Ne.symm d4_5) d5_6] at hv124
        subst hv124
        have N124 := Fr.app N123 N124q
        obtain ⟨cq125, kq125, q125a, q125b, q125c⟩ := isOf hZ e124 E5
        obtain ⟨_, _, ⟨T125, L125, k125, n125⟩, -, X125, ⟨Lc125, hQ125, l125, y125, z125⟩, st125⟩ := X124.virtualBack hx (y := (⟨"com/example/unanimity/unanimity/engine/Outcome", "abortedHere", "()Z"⟩ : MethodName)) (z := (⟨"com/example/unanimity/unanimity/engine/Outcome", "abortedHere", "()Z"⟩ : MethodName)) hown (mvT hZ (hw _ (List.mem_of_getElem? (i := 12) rfl))) (mvT hZ (hw _ (List.mem_of_getElem? (i := 13) rfl))) (notFace_of_selects (args := #[]) (mvT hZ (hw _ (List.mem_of_getElem? (i := 15) rfl)))) (mvT hZ (hw _ (List.mem_of_getElem? (i := 15) rfl))) (mvT hZ (hw _ (List.mem_of_getElem? (i := 14) rfl))) (by decide) (backOf (W := 0) (rm3 l Z aw hw [] o5 o0 o1 o2 o3 o4 o5 o6 o7 h0 n0 Z0 S_COMMITTED S_ABORTED S_IN_DOUBT S_UNKNOWN S_FORCED_COMMIT S_FORCED_ABORT S_FORCED_COMMIT_CONFLICT S_FORCED_ABORT_CONFLICT) hZ (hw _ (List.mem_of_getElem? (i := 16) rfl)) (hw _ (List.mem_of_getElem? (i := 5) rfl)) (by decide) (by decide)) q125a q125c (g := (mkF m 98 #[.val (.int p0), .val (.int p1), .val (.int (5 : Int32)), .val (.ref o5), .val (.int (1 : Int32)), .val (.int (0 : Int32)), .val (.int (0 : Int32)), .val (.ref o5), .val (.int (1 : Int32)), .val (.int (0 : Int32))] [(.ref o5)])) rfl (by rw [hml]; rfl) (Steps.refl _) (argsL := []) (rest := []) (lenOf pd_2 rfl) rfl (by show 2 * 0 + _ ≤ _; exact Nat.le_of_eq rfl) (hb hby at_98) (fun _ _ => ⟨rfl, e124, (by decide : 0 + 0 ≤ _), (by decide : 0 + 0 ≤ _)⟩)
        dsimp only [Pt.U, Pt.locs, Pt.cells, Pt.slots] at X125 l125 y125 z125 st125 hQ125
        subst l125 y125 z125
        obtain ⟨hv125, N125q, e125⟩ := hQ125
        rw [own_three_hit2] at hv125
        subst hv125
        have N125 := Fr.app N124 N125q
        obtain ⟨fs, hr, hrun, hended, hW, hsame⟩ := X125.leave (v := some (.int (1 : Int32))) (fun h => by rw [Bd.returns] at h; cases h)
        refine ⟨_, _, pre120 _ ?_, hrun, hended, _, _, rfl, ?_, ⟨_, rfl⟩, hW, hsame.mono (by decide) (by decide)⟩
        · show Steps p.tables e below (T117.setTop (mkF m 58 #[.val (.int p0), .val (.int p1), .val (.int (5 : Int32)), .val (.ref o5), .val (.int (1 : Int32)), .val (.int (0 : Int32)), .unset, .unset, .unset, .unset] [(.int (p1 &&& (2 : Int32)))])) _
          refine XS.ifYes X117.here hx rfl (pc0 := 58) (pc' := 65) rfl (hb hby at_58) rfl ((if0 _ _).trans (teq hc121).1) (by decide) (by decide) ?_
          show Steps p.tables e below (T117.setTop (mkF m 65 #[.val (.int p0), .val (.int p1), .val (.int (5 : Int32)), .val (.ref o5), .val (.int (1 : Int32)), .val (.int (0 : Int32)), .unset, .unset, .unset, .unset] [])) _
          refine XS.iconst X117.here hx rfl (hb hby at_65) ?_
          show Steps p.tables e below (T117.setTop (mkF m 66 #[.val (.int p0), .val (.int p1), .val (.int (5 : Int32)), .val (.ref o5), .val (.int (1 : Int32)), .val (.int (0 : Int32)), .unset, .unset, .unset, .unset] [(.int (0 : Int32))])) _
          refine XS.istore X117.here hx rfl (hb hby at_66) rfl (l' := #[.val (.int p0), .val (.int p1), .val (.int (5 : Int32)), .val (.ref o5), .val (.int (1 : Int32)), .val (.int (0 : Int32)), .val (.int (0 : Int32)), .unset, .unset, .unset]) rfl ?_
          show Steps p.tables e below (T117.setTop (mkF m 68 #[.val (.int p0), .val (.int p1), .val (.int (5 : Int32)), .val (.ref o5), .val (.int (1 : Int32)), .val (.int (0 : Int32)), .val (.int (0 : Int32)), .unset, .unset, .unset] [])) _
          refine XS.iload X117.here hx rfl (hb hby at_68) rfl ?_
          show Steps p.tables e below (T117.setTop (mkF m 70 #[.val (.int p0), .val (.int p1), .val (.int (5 : Int32)), .val (.ref o5), .val (.int (1 : Int32)), .val (.int (0 : Int32)), .val (.int (0 : Int32)), .unset, .unset, .unset] [(.int (0 : Int32))])) _
          refine XS.iload X117.here hx rfl (hb hby at_70) rfl ?_
          show Steps p.tables e below (T117.setTop (mkF m 72 #[.val (.int p0), .val (.int p1), .val (.int (5 : Int32)), .val (.ref o5), .val (.int (1 : Int32)), .val (.int (0 : Int32)), .val (.int (0 : Int32)), .unset, .unset, .unset] [(.int (0 : Int32)), (.int (0 : Int32))])) _
          refine st122 _ ?_
          show Steps p.tables e below (T122.setTop (mkF m 75 #[.val (.int p0), .val (.int p1), .val (.int (5 : Int32)), .val (.ref o5), .val (.int (1 : Int32)), .val (.int (0 : Int32)), .val (.int (0 : Int32)), .unset, .unset, .unset] [(.ref o5)])) _
          refine XS.astore X122.here hx rfl (hb hby at_75) rfl rfl (l' := #[.val (.int p0), .val (.int p1), .val (.int (5 : Int32)), .val (.ref o5), .val (.int (1 : Int32)), .val (.int (0 : Int32)), .val (.int (0 : Int32)), .val (.ref o5), .unset, .unset]) rfl ?_
          show Steps p.tables e below (T122.setTop (mkF m 77 #[.val (.int p0), .val (.int p1), .val (.int (5 : Int32)), .val (.ref o5), .val (.int (1 : Int32)), .val (.int (0 : Int32)), .val (.int (0 : Int32)), .val (.ref o5), .unset, .unset] [])) _
          refine XS.aloadN X122.here hx rfl (hb hby at_77) rfl rfl ?_
          show Steps p.tables e below (T122.setTop (mkF m 78 #[.val (.int p0), .val (.int p1), .val (.int (5 : Int32)), .val (.ref o5), .val (.int (1 : Int32)), .val (.int (0 : Int32)), .val (.int (0 : Int32)), .val (.ref o5), .unset, .unset] [(.ref o5)])) _
          refine st123.trans ?_
          show Steps p.tables e below (T123.setTop (mkF m 81 #[.val (.int p0), .val (.int p1), .val (.int (5 : Int32)), .val (.ref o5), .val (.int (1 : Int32)), .val (.int (0 : Int32)), .val (.int (0 : Int32)), .val (.ref o5), .unset, .unset] [(.int (1 : Int32))])) _
          refine XS.istore X123.here hx rfl (hb hby at_81) rfl (l' := #[.val (.int p0), .val (.int p1), .val (.int (5 : Int32)), .val (.ref o5), .val (.int (1 : Int32)), .val (.int (0 : Int32)), .val (.int (0 : Int32)), .val (.ref o5), .val (.int (1 : Int32)), .unset]) rfl ?_
          show Steps p.tables e below (T123.setTop (mkF m 83 #[.val (.int p0), .val (.int p1), .val (.int (5 : Int32)), .val (.ref o5), .val (.int (1 : Int32)), .val (.int (0 : Int32)), .val (.int (0 : Int32)), .val (.ref o5), .val (.int (1 : Int32)), .unset] [])) _
          refine XS.aloadN X123.here hx rfl (hb hby at_83) rfl rfl ?_
          show Steps p.tables e below (T123.setTop (mkF m 84 #[.val (.int p0), .val (.int p1), .val (.int (5 : Int32)), .val (.ref o5), .val (.int (1 : Int32)), .val (.int (0 : Int32)), .val (.int (0 : Int32)), .val (.ref o5), .val (.int (1 : Int32)), .unset] [(.ref o5)])) _
          refine st124.trans ?_
          show Steps p.tables e below (T124.setTop (mkF m 87 #[.val (.int p0), .val (.int p1), .val (.int (5 : Int32)), .val (.ref o5), .val (.int (1 : Int32)), .val (.int (0 : Int32)), .val (.int (0 : Int32)), .val (.ref o5), .val (.int (1 : Int32)), .unset] [(.int (0 : Int32))])) _
          refine XS.istore X124.here hx rfl (hb hby at_87) rfl (l' := #[.val (.int p0), .val (.int p1), .val (.int (5 : Int32)), .val (.ref o5), .val (.int (1 : Int32)), .val (.int (0 : Int32)), .val (.int (0 : Int32)), .val (.ref o5), .val (.int (1 : Int32)), .val (.int (0 : Int32))]) rfl ?_
          show Steps p.tables e below (T124.setTop (mkF m 89 #[.val (.int p0), .val (.int p1), .val (.int (5 : Int32)), .val (.ref o5), .val (.int (1 : Int32)), .val (.int (0 : Int32)), .val (.int (0 : Int32)), .val (.ref o5), .val (.int (1 : Int32)), .val (.int (0 : Int32))] [])) _
          refine XS.iload X124.here hx rfl (hb hby at_89) rfl ?_
          show Steps p.tables e below (T124.setTop (mkF m 91 #[.val (.int p0), .val (.int p1), .val (.int (5 : Int32)), .val (.ref o5), .val (.int (1 : Int32)), .val (.int (0 : Int32)), .val (.int (0 : Int32)), .val (.ref o5), .val (.int (1 : Int32)), .val (.int (0 : Int32))] [(.int (1 : Int32))])) _
          refine XS.iload X124.here hx rfl (hb hby at_91) rfl ?_
          show Steps p.tables e below (T124.setTop (mkF m 93 #[.val (.int p0), .val (.int p1), .val (.int (5 : Int32)), .val (.ref o5), .val (.int (1 : Int32)), .val (.int (0 : Int32)), .val (.int (0 : Int32)), .val (.ref o5), .val (.int (1 : Int32)), .val (.int (0 : Int32))] [(.int (1 : Int32)), (.int (1 : Int32))])) _
          refine XS.icmpNo X124.here hx rfl (hb hby at_93) rfl (teq (by decide : (1 : Int32) = (1 : Int32))).2 ?_
          show Steps p.tables e below (T124.setTop (mkF m 96 #[.val (.int p0), .val (.int p1), .val (.int (5 : Int32)), .val (.ref o5), .val (.int (1 : Int32)), .val (.int (0 : Int32)), .val (.int (0 : Int32)), .val (.ref o5), .val (.int (1 : Int32)), .val (.int (0 : Int32))] [])) _
          refine XS.aload X124.here hx rfl (hb hby at_96) rfl rfl ?_
          show Steps p.tables e below (T124.setTop (mkF m 98 #[.val (.int p0), .val (.int p1), .val (.int (5 : Int32)), .val (.ref o5), .val (.int (1 : Int32)), .val (.int (0 : Int32)), .val (.int (0 : Int32)), .val (.ref o5), .val (.int (1 : Int32)), .val (.int (0 : Int32))] [(.ref o5)])) _
          refine st125.trans ?_
          show Steps p.tables e below (T125.setTop (mkF m 101 #[.val (.int p0), .val (.int p1), .val (.int (5 : Int32)), .val (.ref o5), .val (.int (1 : Int32)), .val (.int (0 : Int32)), .val (.int (0 : Int32)), .val (.ref o5), .val (.int (1 : Int32)), .val (.int (0 : Int32))] [(.int (1 : Int32))])) _
          refine XS.iload X125.here hx rfl (hb hby at_101) rfl ?_
          show Steps p.tables e below (T125.setTop (mkF m 103 #[.val (.int p0), .val (.int p1), .val (.int (5 : Int32)), .val (.ref o5), .val (.int (1 : Int32)), .val (.int (0 : Int32)), .val (.int (0 : Int32)), .val (.ref o5), .val (.int (1 : Int32)), .val (.int (0 : Int32))] [(.int (0 : Int32)), (.int (1 : Int32))])) _
          refine XS.ifNo X125.here hx rfl (hb hby at_103) rfl ((if0 _ _).trans (teq (by decide : (0 : Int32) = (0 : Int32))).2) ?_
          show Steps p.tables e below (T125.setTop (mkF m 106 #[.val (.int p0), .val (.int p1), .val (.int (5 : Int32)), .val (.ref o5), .val (.int (1 : Int32)), .val (.int (0 : Int32)), .val (.int (0 : Int32)), .val (.ref o5), .val (.int (1 : Int32)), .val (.int (0 : Int32))] [(.int (1 : Int32))])) _
          refine XS.iconst X125.here hx rfl (hb hby at_106) ?_
          show Steps p.tables e below (T125.setTop (mkF m 107 #[.val (.int p0), .val (.int p1), .val (.int (5 : Int32)), .val (.ref o5), .val (.int (1 : Int32)), .val (.int (0 : Int32)), .val (.int (0 : Int32)), .val (.ref o5), .val (.int (1 : Int32)), .val (.int (0 : Int32))] [(.int (1 : Int32)), (.int (1 : Int32))])) _
          refine XS.goto X125.here hx rfl (pc0 := 107) (pc' := 111) rfl (hb hby at_107) (by decide) (by decide) ?_
          show Steps p.tables e below (T125.setTop (mkF m 111 #[.val (.int p0), .val (.int p1), .val (.int (5 : Int32)), .val (.ref o5), .val (.int (1 : Int32)), .val (.int (0 : Int32)), .val (.int (0 : Int32)), .val (.ref o5), .val (.int (1 : Int32)), .val (.int (0 : Int32))] [(.int (1 : Int32)), (.int (1 : Int32))])) _
          refine XS.icmpNo X125.here hx rfl (hb hby at_111) rfl (teq (by decide : (1 : Int32) = (1 : Int32))).2 ?_
          show Steps p.tables e below (T125.setTop (mkF m 114 #[.val (.int p0), .val (.int p1), .val (.int (5 : Int32)), .val (.ref o5), .val (.int (1 : Int32)), .val (.int (0 : Int32)), .val (.int (0 : Int32)), .val (.ref o5), .val (.int (1 : Int32)), .val (.int (0 : Int32))] [])) _
          refine XS.iload X125.here hx rfl (hb hby at_114) rfl ?_
          show Steps p.tables e below (T125.setTop (mkF m 116 #[.val (.int p0), .val (.int p1), .val (.int (5 : Int32)), .val (.ref o5), .val (.int (1 : Int32)), .val (.int (0 : Int32)), .val (.int (0 : Int32)), .val (.ref o5), .val (.int (1 : Int32)), .val (.int (0 : Int32))] [(.int (1 : Int32))])) _
          refine XS.ifNo X125.here hx rfl (hb hby at_116) rfl ((if0 _ _).trans (feq (by decide : ¬ ((1 : Int32) = (0 : Int32)))).1) ?_
          show Steps p.tables e below (T125.setTop (mkF m 119 #[.val (.int p0), .val (.int p1), .val (.int (5 : Int32)), .val (.ref o5), .val (.int (1 : Int32)), .val (.int (0 : Int32)), .val (.int (0 : Int32)), .val (.ref o5), .val (.int (1 : Int32)), .val (.int (0 : Int32))] [])) _
          refine XS.iload X125.here hx rfl (hb hby at_119) rfl ?_
          show Steps p.tables e below (T125.setTop (mkF m 121 #[.val (.int p0), .val (.int p1), .val (.int (5 : Int32)), .val (.ref o5), .val (.int (1 : Int32)), .val (.int (0 : Int32)), .val (.int (0 : Int32)), .val (.ref o5), .val (.int (1 : Int32)), .val (.int (0 : Int32))] [(.int (0 : Int32))])) _
          refine XS.ifNo X125.here hx rfl (hb hby at_121) rfl ((if0 _ _).trans (teq (by decide : (0 : Int32) = (0 : Int32))).2) ?_
          show Steps p.tables e below (T125.setTop (mkF m 124 #[.val (.int p0), .val (.int p1), .val (.int (5 : Int32)), .val (.ref o5), .val (.int (1 : Int32)), .val (.int (0 : Int32)), .val (.int (0 : Int32)), .val (.ref o5), .val (.int (1 : Int32)), .val (.int (0 : Int32))] [])) _
          refine XS.iconst X125.here hx rfl (hb hby at_124) ?_
          show Steps p.tables e below (T125.setTop (mkF m 125 #[.val (.int p0), .val (.int p1), .val (.int (5 : Int32)), .val (.ref o5), .val (.int (1 : Int32)), .val (.int (0 : Int32)), .val (.int (0 : Int32)), .val (.ref o5), .val (.int (1 : Int32)), .val (.int (0 : Int32))] [(.int (1 : Int32))])) _
          refine XS.goto X125.here hx rfl (pc0 := 125) (pc' := 129) rfl (hb hby at_125) (by decide) (by decide) ?_
          show Steps p.tables e below (T125.setTop (mkF m 129 #[.val (.int p0), .val (.int p1), .val (.int (5 : Int32)), .val (.ref o5), .val (.int (1 : Int32)), .val (.int (0 : Int32)), .val (.int (0 : Int32)), .val (.ref o5), .val (.int (1 : Int32)), .val (.int (0 : Int32))] [(.int (1 : Int32))])) _
          exact retN X125 hx (t := .boolean) Bd.returns (by simp) (hb hby at_129) hr
        · show Q0 Z p0 p1 o0 o1 o2 o3 o4 o5 o6 o7 h0 n0 _ T125.heap _
          rw [e125]
          exact ⟨rfl, N125⟩
      · obtain ⟨_, _, ⟨T126, L126, k126, n126⟩, -, X126, ⟨Lc126, hQ126, l126, y126, z126⟩, st126⟩ := Jvm.LawKit.callS X117 hx (y := (⟨"com/example/unanimity/unanimity/engine/Outcome", "forced", "(ZZ)Lcom/example/unanimity/unanimity/engine/Outcome;"⟩ : MethodName)) hown (mvT hZ (hw _ (List.mem_of_getElem? (i := 7) rfl))) (mvT hZ (hw _ (List.mem_of_getElem? (i := 8) rfl))) (mvT hZ (hw _ (List.mem_of_getElem? (i := 5) rfl))) (mvT hZ (hw _ (List.mem_of_getElem? (i := 9) rfl))) (by decide) (backOf (W := 0) (rm2 l Z aw hw [] (0 : Int32) (1 : Int32) o0 o1 o2 o3 o4 o5 o6 o7 h0 n0 Z0 S_COMMITTED S_ABORTED S_IN_DOUBT S_UNKNOWN S_FORCED_COMMIT S_FORCED_ABORT S_FORCED_COMMIT_CONFLICT S_FORCED_ABORT_CONFLICT) hZ (hw _ (List.mem_of_getElem? (i := 9) rfl)) (hw _ (List.mem_of_getElem? (i := 5) rfl)) (by decide) (by decide)) (g := (mkF m 72 #[.val (.int p0), .val (.int p1), .val (.int (5 : Int32)), .val (.ref o5), .val (.int (1 : Int32)), .val (.int (0 : Int32)), .val (.int (1 : Int32)), .unset, .unset, .unset] [(.int (1 : Int32)), (.int (0 : Int32))])) rfl (by rw [hml]; rfl) (argsL := [(.int (0 : Int32)), (.int (1 : Int32))]) (rest := []) (lenOf pd_1 rfl) rfl (by show 2 * 0 + _ ≤ _; exact Nat.le_of_eq rfl) (hb hby at_72) (fun _ _ => ⟨rfl, e117, (by decide : 0 + 0 ≤ _), (by decide : 0 + 0 ≤ _)⟩)
        dsimp only [Pt.U, Pt.locs, Pt.cells, Pt.slots] at X126 l126 y126 z126 st126 hQ126
        subst l126 y126 z126
        obtain ⟨hv126, N126q, e126⟩ := hQ126
        rw [show own_forced (0 : Int32) (1 : Int32) o4 o5 o6 o7 = o7 from rfl] at hv126
        subst hv126
        have N126 := Fr.app N117 N126q
        obtain ⟨cq127, kq127, q127a, q127b, q127c⟩ := isOf hZ e126 E5
        obtain ⟨_, _, ⟨T127, L127, k127, n127⟩, -, X127, ⟨Lc127, hQ127, l127, y127, z127⟩, st127⟩ := X126.virtualBack hx (y := (⟨"com/example/unanimity/unanimity/engine/Outcome", "abortedHere", "()Z"⟩ : MethodName)) (z := (⟨"com/example/unanimity/unanimity/engine/Outcome", "abortedHere", "()Z"⟩ : MethodName)) hown (mvT hZ (hw _ (List.mem_of_getElem? (i := 12) rfl))) (mvT hZ (hw _ (List.mem_of_getElem? (i := 13) rfl))) (notFace_of_selects (args := #[]) (mvT hZ (hw _ (List.mem_of_getElem? (i := 15) rfl)))) (mvT hZ (hw _ (List.mem_of_getElem? (i := 15) rfl))) (mvT hZ (hw _ (List.mem_of_getElem? (i := 14) rfl))) (by decide) (backOf (W := 0) (rm3 l Z aw hw [] o5 o0 o1 o2 o3 o4 o5 o6 o7 h0 n0 Z0 S_COMMITTED S_ABORTED S_IN_DOUBT S_UNKNOWN S_FORCED_COMMIT S_FORCED_ABORT S_FORCED_COMMIT_CONFLICT S_FORCED_ABORT_CONFLICT) hZ (hw _ (List.mem_of_getElem? (i := 16) rfl)) (hw _ (List.mem_of_getElem? (i := 5) rfl)) (by decide) (by decide)) q127a q127c (g := (mkF m 78 #[.val (.int p0), .val (.int p1), .val (.int (5 : Int32)), .val (.ref o5), .val (.int (1 : Int32)), .val (.int (0 : Int32)), .val (.int (1 : Int32)), .val (.ref o7), .unset, .unset] [(.ref o5)])) rfl (by rw [hml]; rfl) (Steps.refl _) (argsL := []) (rest := []) (lenOf pd_2 rfl) rfl (by show 2 * 0 + _ ≤ _; exact Nat.le_of_eq rfl) (hb hby at_78) (fun _ _ => ⟨rfl, e126, (by decide : 0 + 0 ≤ _), (by decide : 0 + 0 ≤ _)⟩)
        dsimp only [Pt.U, Pt.locs, Pt.cells, Pt.slots] at X127 l127 y127 z127 st127 hQ127
        subst l127 y127 z127
        obtain ⟨hv127, N127q, e127⟩ := hQ127
        rw [own_three_hit2] at hv127
        subst hv127
        have N127 := Fr.app N126 N127q
        obtain ⟨cq128, kq128, q128a, q128b, q128c⟩ := isOf hZ e127 E5
        obtain ⟨_, _, ⟨T128, L128, k128, n128⟩, -, X128, ⟨Lc128, hQ128, l128, y128, z128⟩, st128⟩ := X127.virtualBack hx (y := (⟨"com/example/unanimity/unanimity/engine/Outcome", "committedHere", "()Z"⟩ : MethodName)) (z := (⟨"com/example/unanimity/unanimity/engine/Outcome", "committedHere", "()Z"⟩ : MethodName)) hown (mvT hZ (hw _ (List.mem_of_getElem? (i := 23) rfl))) (mvT hZ (hw _ (List.mem_of_getElem? (i := 24) rfl))) (notFace_of_selects (args := #[]) (mvT hZ (hw _ (List.mem_of_getElem? (i := 26) rfl)))) (mvT hZ (hw _ (List.mem_of_getElem? (i := 26) rfl))) (mvT hZ (hw _ (List.mem_of_getElem? (i := 25) rfl))) (by decide) (backOf (W := 0) (rm4 l Z aw hw [] o5 o0 o1 o2 o3 o4 o5 o6 o7 h0 n0 Z0 S_COMMITTED S_ABORTED S_IN_DOUBT S_UNKNOWN S_FORCED_COMMIT S_FORCED_ABORT S_FORCED_COMMIT_CONFLICT S_FORCED_ABORT_CONFLICT) hZ (hw _ (List.mem_of_getElem? (i := 27) rfl)) (hw _ (List.mem_of_getElem? (i := 5) rfl)) (by decide) (by decide)) q128a q128c (g := (mkF m 84 #[.val (.int p0), .val (.int p1), .val (.int (5 : Int32)), .val (.ref o5), .val (.int (1 : Int32)), .val (.int (0 : Int32)), .val (.int (1 : Int32)), .val (.ref o7), .val (.int (1 : Int32)), .unset] [(.ref o5)])) rfl (by rw [hml]; rfl) (Steps.refl _) (argsL := []) (rest := []) (lenOf pd_2 rfl) rfl (by show 2 * 0 + _ ≤ _; exact Nat.le_of_eq rfl) (hb hby at_84) (fun _ _ => ⟨rfl, e127, (by decide : 0 + 0 ≤ _), (by decide : 0 + 0 ≤ _)⟩)
        dsimp only [Pt.U, Pt.locs, Pt.cells, Pt.slots] at X128 l128 y128 z128 st128 hQ128
        subst l128 y128 z128
        obtain ⟨hv128, N128q, e128⟩ := hQ128
        rw [own_three_no (Ne.symm d0_5) (Ne.symm d4_5) d5_6] at hv128
        subst hv128
        have N128 := Fr.app N127 N128q
        obtain ⟨cq129, kq129, q129a, q129b, q129c⟩ := isOf hZ e128 E7
        obtain ⟨_, _, ⟨T129, L129, k129, n129⟩, -, X129, ⟨Lc129, hQ129, l129, y129, z129⟩, st129⟩ := X128.virtualBack hx (y := (⟨"com/example/unanimity/unanimity/engine/Outcome", "abortedHere", "()Z"⟩ : MethodName)) (z := (⟨"com/example/unanimity/unanimity/engine/Outcome", "abortedHere", "()Z"⟩ : MethodName)) hown (mvT hZ (hw _ (List.mem_of_getElem? (i := 12) rfl))) (mvT hZ (hw _ (List.mem_of_getElem? (i := 13) rfl))) (notFace_of_selects (args := #[]) (mvT hZ (hw _ (List.mem_of_getElem? (i := 15) rfl)))) (mvT hZ (hw _ (List.mem_of_getElem? (i := 15) rfl))) (mvT hZ (hw _ (List.mem_of_getElem? (i := 14) rfl))) (by decide) (backOf (W := 0) (rm3 l Z aw hw [] o7 o0 o1 o2 o3 o4 o5 o6 o7 h0 n0 Z0 S_COMMITTED S_ABORTED S_IN_DOUBT S_UNKNOWN S_FORCED_COMMIT S_FORCED_ABORT S_FORCED_COMMIT_CONFLICT S_FORCED_ABORT_CONFLICT) hZ (hw _ (List.mem_of_getElem? (i := 16) rfl)) (hw _ (List.mem_of_getElem? (i := 5) rfl)) (by decide) (by decide)) q129a q129c (g := (mkF m 98 #[.val (.int p0), .val (.int p1), .val (.int (5 : Int32)), .val (.ref o5), .val (.int (1 : Int32)), .val (.int (0 : Int32)), .val (.int (1 : Int32)), .val (.ref o7), .val (.int (1 : Int32)), .val (.int (0 : Int32))] [(.ref o7)])) rfl (by rw [hml]; rfl) (Steps.refl _) (argsL := []) (rest := []) (lenOf pd_2 rfl) rfl (by show 2 * 0 + _ ≤ _; exact Nat.le_of_eq rfl) (hb hby at_98) (fun _ _ => ⟨rfl, e128, (by decide : 0 + 0 ≤ _), (by decide : 0 + 0 ≤ _)⟩)
        dsimp only [Pt.U, Pt.locs, Pt.cells, Pt.slots] at X129 l129 y129 z129 st129 hQ129
        subst l129 y129 z129
        obtain ⟨hv129, N129q, e129⟩ := hQ129
        rw [own_three_hit3] at hv129
        subst hv129
        have N129 := Fr.app N128 N129q
        obtain ⟨fs, hr, hrun, hended, hW, hsame⟩ := X129.leave (v := some (.int (1 : Int32))) (fun h => by rw [Bd.returns] at h; cases h)
        refine ⟨_, _, pre120 _ ?_, hrun, hended, _, _, rfl, ?_, ⟨_, rfl⟩, hW, hsame.mono (by decide) (by decide)⟩
        · show Steps p.tables e below (T117.setTop (mkF m 58 #[.val (.int p0), .val (.int p1), .val (.int (5 : Int32)), .val (.ref o5), .val (.int (1 : Int32)), .val (.int (0 : Int32)), .unset, .unset, .unset, .unset] [(.int (p1 &&& (2 : Int32)))])) _
          refine XS.ifNo X117.here hx rfl (hb hby at_58) rfl ((if0 _ _).trans (feq hc121).1) ?_
          show Steps p.tables e below (T117.setTop (mkF m 61 #[.val (.int p0), .val (.int p1), .val (.int (5 : Int32)), .val (.ref o5), .val (.int (1 : Int32)), .val (.int (0 : Int32)), .unset, .unset, .unset, .unset] [])) _
          refine XS.iconst X117.here hx rfl (hb hby at_61) ?_
          show Steps p.tables e below (T117.setTop (mkF m 62 #[.val (.int p0), .val (.int p1), .val (.int (5 : Int32)), .val (.ref o5), .val (.int (1 : Int32)), .val (.int (0 : Int32)), .unset, .unset, .unset, .unset] [(.int (1 : Int32))])) _
          refine XS.goto X117.here hx rfl (pc0 := 62) (pc' := 66) rfl (hb hby at_62) (by decide) (by decide) ?_
          show Steps p.tables e below (T117.setTop (mkF m 66 #[.val (.int p0), .val (.int p1), .val (.int (5 : Int32)), .val (.ref o5), .val (.int (1 : Int32)), .val (.int (0 : Int32)), .unset, .unset, .unset, .unset] [(.int (1 : Int32))])) _
          refine XS.istore X117.here hx rfl (hb hby at_66) rfl (l' := #[.val (.int p0), .val (.int p1), .val (.int (5 : Int32)), .val (.ref o5), .val (.int (1 : Int32)), .val (.int (0 : Int32)), .val (.int (1 : Int32)), .unset, .unset, .unset]) rfl ?_
          show Steps p.tables e below (T117.setTop (mkF m 68 #[.val (.int p0), .val (.int p1), .val (.int (5 : Int32)), .val (.ref o5), .val (.int (1 : Int32)), .val (.int (0 : Int32)), .val (.int (1 : Int32)), .unset, .unset, .unset] [])) _
          refine XS.iload X117.here hx rfl (hb hby at_68) rfl ?_
          show Steps p.tables e below (T117.setTop (mkF m 70 #[.val (.int p0), .val (.int p1), .val (.int (5 : Int32)), .val (.ref o5), .val (.int (1 : Int32)), .val (.int (0 : Int32)), .val (.int (1 : Int32)), .unset, .unset, .unset] [(.int (0 : Int32))])) _
          refine XS.iload X117.here hx rfl (hb hby at_70) rfl ?_
          show Steps p.tables e below (T117.setTop (mkF m 72 #[.val (.int p0), .val (.int p1), .val (.int (5 : Int32)), .val (.ref o5), .val (.int (1 : Int32)), .val (.int (0 : Int32)), .val (.int (1 : Int32)), .unset, .unset, .unset] [(.int (1 : Int32)), (.int (0 : Int32))])) _
          refine st126 _ ?_
          show Steps p.tables e below (T126.setTop (mkF m 75 #[.val (.int p0), .val (.int p1), .val (.int (5 : Int32)), .val (.ref o5), .val (.int (1 : Int32)), .val (.int (0 : Int32)), .val (.int (1 : Int32)), .unset, .unset, .unset] [(.ref o7)])) _
          refine XS.astore X126.here hx rfl (hb hby at_75) rfl rfl (l' := #[.val (.int p0), .val (.int p1), .val (.int (5 : Int32)), .val (.ref o5), .val (.int (1 : Int32)), .val (.int (0 : Int32)), .val (.int (1 : Int32)), .val (.ref o7), .unset, .unset]) rfl ?_
          show Steps p.tables e below (T126.setTop (mkF m 77 #[.val (.int p0), .val (.int p1), .val (.int (5 : Int32)), .val (.ref o5), .val (.int (1 : Int32)), .val (.int (0 : Int32)), .val (.int (1 : Int32)), .val (.ref o7), .unset, .unset] [])) _
          refine XS.aloadN X126.here hx rfl (hb hby at_77) rfl rfl ?_
          show Steps p.tables e below (T126.setTop (mkF m 78 #[.val (.int p0), .val (.int p1), .val (.int (5 : Int32)), .val (.ref o5), .val (.int (1 : Int32)), .val (.int (0 : Int32)), .val (.int (1 : Int32)), .val (.ref o7), .unset, .unset] [(.ref o5)])) _
          refine st127.trans ?_
          show Steps p.tables e below (T127.setTop (mkF m 81 #[.val (.int p0), .val (.int p1), .val (.int (5 : Int32)), .val (.ref o5), .val (.int (1 : Int32)), .val (.int (0 : Int32)), .val (.int (1 : Int32)), .val (.ref o7), .unset, .unset] [(.int (1 : Int32))])) _
          refine XS.istore X127.here hx rfl (hb hby at_81) rfl (l' := #[.val (.int p0), .val (.int p1), .val (.int (5 : Int32)), .val (.ref o5), .val (.int (1 : Int32)), .val (.int (0 : Int32)), .val (.int (1 : Int32)), .val (.ref o7), .val (.int (1 : Int32)), .unset]) rfl ?_
          show Steps p.tables e below (T127.setTop (mkF m 83 #[.val (.int p0), .val (.int p1), .val (.int (5 : Int32)), .val (.ref o5), .val (.int (1 : Int32)), .val (.int (0 : Int32)), .val (.int (1 : Int32)), .val (.ref o7), .val (.int (1 : Int32)), .unset] [])) _
          refine XS.aloadN X127.here hx rfl (hb hby at_83) rfl rfl ?_
          show Steps p.tables e below (T127.setTop (mkF m 84 #[.val (.int p0), .val (.int p1), .val (.int (5 : Int32)), .val (.ref o5), .val (.int (1 : Int32)), .val (.int (0 : Int32)), .val (.int (1 : Int32)), .val (.ref o7), .val (.int (1 : Int32)), .unset] [(.ref o5)])) _
          refine st128.trans ?_
          show Steps p.tables e below (T128.setTop (mkF m 87 #[.val (.int p0), .val (.int p1), .val (.int (5 : Int32)), .val (.ref o5), .val (.int (1 : Int32)), .val (.int (0 : Int32)), .val (.int (1 : Int32)), .val (.ref o7), .val (.int (1 : Int32)), .unset] [(.int (0 : Int32))])) _
          refine XS.istore X128.here hx rfl (hb hby at_87) rfl (l' := #[.val (.int p0), .val (.int p1), .val (.int (5 : Int32)), .val (.ref o5), .val (.int (1 : Int32)), .val (.int (0 : Int32)), .val (.int (1 : Int32)), .val (.ref o7), .val (.int (1 : Int32)), .val (.int (0 : Int32))]) rfl ?_
          show Steps p.tables e below (T128.setTop (mkF m 89 #[.val (.int p0), .val (.int p1), .val (.int (5 : Int32)), .val (.ref o5), .val (.int (1 : Int32)), .val (.int (0 : Int32)), .val (.int (1 : Int32)), .val (.ref o7), .val (.int (1 : Int32)), .val (.int (0 : Int32))] [])) _
          refine XS.iload X128.here hx rfl (hb hby at_89) rfl ?_
          show Steps p.tables e below (T128.setTop (mkF m 91 #[.val (.int p0), .val (.int p1), .val (.int (5 : Int32)), .val (.ref o5), .val (.int (1 : Int32)), .val (.int (0 : Int32)), .val (.int (1 : Int32)), .val (.ref o7), .val (.int (1 : Int32)), .val (.int (0 : Int32))] [(.int (1 : Int32))])) _
          refine XS.iload X128.here hx rfl (hb hby at_91) rfl ?_
          show Steps p.tables e below (T128.setTop (mkF m 93 #[.val (.int p0), .val (.int p1), .val (.int (5 : Int32)), .val (.ref o5), .val (.int (1 : Int32)), .val (.int (0 : Int32)), .val (.int (1 : Int32)), .val (.ref o7), .val (.int (1 : Int32)), .val (.int (0 : Int32))] [(.int (1 : Int32)), (.int (1 : Int32))])) _
          refine XS.icmpNo X128.here hx rfl (hb hby at_93) rfl (teq (by decide : (1 : Int32) = (1 : Int32))).2 ?_
          show Steps p.tables e below (T128.setTop (mkF m 96 #[.val (.int p0), .val (.int p1), .val (.int (5 : Int32)), .val (.ref o5), .val (.int (1 : Int32)), .val (.int (0 : Int32)), .val (.int (1 : Int32)), .val (.ref o7), .val (.int (1 : Int32)), .val (.int (0 : Int32))] [])) _
          refine XS.aload X128.here hx rfl (hb hby at_96) rfl rfl ?_
          show Steps p.tables e below (T128.setTop (mkF m 98 #[.val (.int p0), .val (.int p1), .val (.int (5 : Int32)), .val (.ref o5), .val (.int (1 : Int32)), .val (.int (0 : Int32)), .val (.int (1 : Int32)), .val (.ref o7), .val (.int (1 : Int32)), .val (.int (0 : Int32))] [(.ref o7)])) _
          refine st129.trans ?_
          show Steps p.tables e below (T129.setTop (mkF m 101 #[.val (.int p0), .val (.int p1), .val (.int (5 : Int32)), .val (.ref o5), .val (.int (1 : Int32)), .val (.int (0 : Int32)), .val (.int (1 : Int32)), .val (.ref o7), .val (.int (1 : Int32)), .val (.int (0 : Int32))] [(.int (1 : Int32))])) _
          refine XS.iload X129.here hx rfl (hb hby at_101) rfl ?_
          show Steps p.tables e below (T129.setTop (mkF m 103 #[.val (.int p0), .val (.int p1), .val (.int (5 : Int32)), .val (.ref o5), .val (.int (1 : Int32)), .val (.int (0 : Int32)), .val (.int (1 : Int32)), .val (.ref o7), .val (.int (1 : Int32)), .val (.int (0 : Int32))] [(.int (0 : Int32)), (.int (1 : Int32))])) _
          refine XS.ifNo X129.here hx rfl (hb hby at_103) rfl ((if0 _ _).trans (teq (by decide : (0 : Int32) = (0 : Int32))).2) ?_
          show Steps p.tables e below (T129.setTop (mkF m 106 #[.val (.int p0), .val (.int p1), .val (.int (5 : Int32)), .val (.ref o5), .val (.int (1 : Int32)), .val (.int (0 : Int32)), .val (.int (1 : Int32)), .val (.ref o7), .val (.int (1 : Int32)), .val (.int (0 : Int32))] [(.int (1 : Int32))])) _
          refine XS.iconst X129.here hx rfl (hb hby at_106) ?_
          show Steps p.tables e below (T129.setTop (mkF m 107 #[.val (.int p0), .val (.int p1), .val (.int (5 : Int32)), .val (.ref o5), .val (.int (1 : Int32)), .val (.int (0 : Int32)), .val (.int (1 : Int32)), .val (.ref o7), .val (.int (1 : Int32)), .val (.int (0 : Int32))] [(.int (1 : Int32)), (.int (1 : Int32))])) _
          refine XS.goto X129.here hx rfl (pc0 := 107) (pc' := 111) rfl (hb hby at_107) (by decide) (by decide) ?_
          show Steps p.tables e below (T129.setTop (mkF m 111 #[.val (.int p0), .val (.int p1), .val (.int (5 : Int32)), .val (.ref o5), .val (.int (1 : Int32)), .val (.int (0 : Int32)), .val (.int (1 : Int32)), .val (.ref o7), .val (.int (1 : Int32)), .val (.int (0 : Int32))] [(.int (1 : Int32)), (.int (1 : Int32))])) _
          refine XS.icmpNo X129.here hx rfl (hb hby at_111) rfl (teq (by decide : (1 : Int32) = (1 : Int32))).2 ?_
          show Steps p.tables e below (T129.setTop (mkF m 114 #[.val (.int p0), .val (.int p1), .val (.int (5 : Int32)), .val (.ref o5), .val (.int (1 : Int32)), .val (.int (0 : Int32)), .val (.int (1 : Int32)), .val (.ref o7), .val (.int (1 : Int32)), .val (.int (0 : Int32))] [])) _
          refine XS.iload X129.here hx rfl (hb hby at_114) rfl ?_
          show Steps p.tables e below (T129.setTop (mkF m 116 #[.val (.int p0), .val (.int p1), .val (.int (5 : Int32)), .val (.ref o5), .val (.int (1 : Int32)), .val (.int (0 : Int32)), .val (.int (1 : Int32)), .val (.ref o7), .val (.int (1 : Int32)), .val (.int (0 : Int32))] [(.int (1 : Int32))])) _
          refine XS.ifNo X129.here hx rfl (hb hby at_116) rfl ((if0 _ _).trans (feq (by decide : ¬ ((1 : Int32) = (0 : Int32)))).1) ?_
          show Steps p.tables e below (T129.setTop (mkF m 119 #[.val (.int p0), .val (.int p1), .val (.int (5 : Int32)), .val (.ref o5), .val (.int (1 : Int32)), .val (.int (0 : Int32)), .val (.int (1 : Int32)), .val (.ref o7), .val (.int (1 : Int32)), .val (.int (0 : Int32))] [])) _
          refine XS.iload X129.here hx rfl (hb hby at_119) rfl ?_
          show Steps p.tables e below (T129.setTop (mkF m 121 #[.val (.int p0), .val (.int p1), .val (.int (5 : Int32)), .val (.ref o5), .val (.int (1 : Int32)), .val (.int (0 : Int32)), .val (.int (1 : Int32)), .val (.ref o7), .val (.int (1 : Int32)), .val (.int (0 : Int32))] [(.int (0 : Int32))])) _
          refine XS.ifNo X129.here hx rfl (hb hby at_121) rfl ((if0 _ _).trans (teq (by decide : (0 : Int32) = (0 : Int32))).2) ?_
          show Steps p.tables e below (T129.setTop (mkF m 124 #[.val (.int p0), .val (.int p1), .val (.int (5 : Int32)), .val (.ref o5), .val (.int (1 : Int32)), .val (.int (0 : Int32)), .val (.int (1 : Int32)), .val (.ref o7), .val (.int (1 : Int32)), .val (.int (0 : Int32))] [])) _
          refine XS.iconst X129.here hx rfl (hb hby at_124) ?_
          show Steps p.tables e below (T129.setTop (mkF m 125 #[.val (.int p0), .val (.int p1), .val (.int (5 : Int32)), .val (.ref o5), .val (.int (1 : Int32)), .val (.int (0 : Int32)), .val (.int (1 : Int32)), .val (.ref o7), .val (.int (1 : Int32)), .val (.int (0 : Int32))] [(.int (1 : Int32))])) _
          refine XS.goto X129.here hx rfl (pc0 := 125) (pc' := 129) rfl (hb hby at_125) (by decide) (by decide) ?_
          show Steps p.tables e below (T129.setTop (mkF m 129 #[.val (.int p0), .val (.int p1), .val (.int (5 : Int32)), .val (.ref o5), .val (.int (1 : Int32)), .val (.int (0 : Int32)), .val (.int (1 : Int32)), .val (.ref o7), .val (.int (1 : Int32)), .val (.int (0 : Int32))] [(.int (1 : Int32))])) _
          exact retN X129 hx (t := .boolean) Bd.returns (by simp) (hb hby at_129) hr
        · show Q0 Z p0 p1 o0 o1 o2 o3 o4 o5 o6 o7 h0 n0 _ T129.heap _
          rw [e129]
          exact ⟨rfl, N129⟩
    · have pre130 : ∀ t, Steps p.tables e below (T117.setTop (mkF m 58 #[.val (.int p0), .val (.int p1), .val (.int (5 : Int32)), .val (.ref o5), .val (.int (1 : Int32)), .val (.int (1 : Int32)), .unset, .unset, .unset, .unset] [(.int (p1 &&& (2 : Int32)))])) t → Steps p.tables e below (s₁.setTop (entryFrame m #[(.int p0), (.int p1)] maxLocals)) t := fun t k => by
        refine pre118 t ?_
        show Steps p.tables e below (T117.setTop (mkF m 45 #[.val (.int p0), .val (.int p1), .val (.int (5 : Int32)), .val (.ref o5), .val (.int (1 : Int32)), .unset, .unset, .unset, .unset, .unset] [(.int (p1 &&& (1 : Int32)))])) _
        refine XS.ifNo X117.here hx rfl (hb hby at_45) rfl ((if0 _ _).trans (feq hc119).1) ?_
        show Steps p.tables e below (T117.setTop (mkF m 48 #[.val (.int p0), .val (.int p1), .val (.int (5 : Int32)), .val (.ref o5), .val (.int (1 : Int32)), .unset, .unset, .unset, .unset, .unset] [])) _
        refine XS.iconst X117.here hx rfl (hb hby at_48) ?_
        show Steps p.tables e below (T117.setTop (mkF m 49 #[.val (.int p0), .val (.int p1), .val (.int (5 : Int32)), .val (.ref o5), .val (.int (1 : Int32)), .unset, .unset, .unset, .unset, .unset] [(.int (1 : Int32))])) _
        refine XS.goto X117.here hx rfl (pc0 := 49) (pc' := 53) rfl (hb hby at_49) (by decide) (by decide) ?_
        show Steps p.tables e below (T117.setTop (mkF m 53 #[.val (.int p0), .val (.int p1), .val (.int (5 : Int32)), .val (.ref o5), .val (.int (1 : Int32)), .unset, .unset, .unset, .unset, .unset] [(.int (1 : Int32))])) _
        refine XS.istore X117.here hx rfl (hb hby at_53) rfl (l' := #[.val (.int p0), .val (.int p1), .val (.int (5 : Int32)), .val (.ref o5), .val (.int (1 : Int32)), .val (.int (1 : Int32)), .unset, .unset, .unset, .unset]) rfl ?_
        show Steps p.tables e below (T117.setTop (mkF m 55 #[.val (.int p0), .val (.int p1), .val (.int (5 : Int32)), .val (.ref o5), .val (.int (1 : Int32)), .val (.int (1 : Int32)), .unset, .unset, .unset, .unset] [])) _
        refine XS.iloadN X117.here hx rfl (hb hby at_55) rfl ?_
        show Steps p.tables e below (T117.setTop (mkF m 56 #[.val (.int p0), .val (.int p1), .val (.int (5 : Int32)), .val (.ref o5), .val (.int (1 : Int32)), .val (.int (1 : Int32)), .unset, .unset, .unset, .unset] [(.int p1)])) _
        refine XS.iconst X117.here hx rfl (hb hby at_56) ?_
        show Steps p.tables e below (T117.setTop (mkF m 57 #[.val (.int p0), .val (.int p1), .val (.int (5 : Int32)), .val (.ref o5), .val (.int (1 : Int32)), .val (.int (1 : Int32)), .unset, .unset, .unset, .unset] [(.int (2 : Int32)), (.int p1)])) _
        refine XS.iand X117.here hx rfl (hb hby at_57) rfl ?_
        exact k
      by_cases hc131 : (p1 &&& (2 : Int32)) = (0 : Int32)
      · obtain ⟨_, _, ⟨T132, L132, k132, n132⟩, -, X132, ⟨Lc132, hQ132, l132, y132, z132⟩, st132⟩ := Jvm.LawKit.callS X117 hx (y := (⟨"com/example/unanimity/unanimity/engine/Outcome", "forced", "(ZZ)Lcom/example/unanimity/unanimity/engine/Outcome;"⟩ : MethodName)) hown (mvT hZ (hw _ (List.mem_of_getElem? (i := 7) rfl))) (mvT hZ (hw _ (List.mem_of_getElem? (i := 8) rfl))) (mvT hZ (hw _ (List.mem_of_getElem? (i := 5) rfl))) (mvT hZ (hw _ (List.mem_of_getElem? (i := 9) rfl))) (by decide) (backOf (W := 0) (rm2 l Z aw hw [] (1 : Int32) (0 : Int32) o0 o1 o2 o3 o4 o5 o6 o7 h0 n0 Z0 S_COMMITTED S_ABORTED S_IN_DOUBT S_UNKNOWN S_FORCED_COMMIT S_FORCED_ABORT S_FORCED_COMMIT_CONFLICT S_FORCED_ABORT_CONFLICT) hZ (hw _ (List.mem_of_getElem? (i := 9) rfl)) (hw _ (List.mem_of_getElem? (i := 5) rfl)) (by decide) (by decide)) (g := (mkF m 72 #[.val (.int p0), .val (.int p1), .val (.int (5 : Int32)), .val (.ref o5), .val (.int (1 : Int32)), .val (.int (1 : Int32)), .val (.int (0 : Int32)), .unset, .unset, .unset] [(.int (0 : Int32)), (.int (1 : Int32))])) rfl (by rw [hml]; rfl) (argsL := [(.int (1 : Int32)), (.int (0 : Int32))]) (rest := []) (lenOf pd_1 rfl) rfl (by show 2 * 0 + _ ≤ _; exact Nat.le_of_eq rfl) (hb hby at_72) (fun _ _ => ⟨rfl, e117, (by decide : 0 + 0 ≤ _), (by decide : 0 + 0 ≤ _)⟩)
        dsimp only [Pt.U, Pt.locs, Pt.cells, Pt.slots] at X132 l132 y132 z132 st132 hQ132
        subst l132 y132 z132
        obtain ⟨hv132, N132q, e132⟩ := hQ132
        rw [show own_forced (1 : Int32) (0 : Int32) o4 o5 o6 o7 = o4 from rfl] at hv132
        subst hv132
        have N132 := Fr.app N117 N132q
        obtain ⟨cq133, kq133, q133a, q133b, q133c⟩ := isOf hZ e132 E5
        obtain ⟨_, _, ⟨T133, L133, k133, n133⟩, -, X133, ⟨Lc133, hQ133, l133, y133, z133⟩, st133⟩ := X132.virtualBack hx (y := (⟨"com/example/unanimity/unanimity/engine/Outcome", "abortedHere", "()Z"⟩ : MethodName)) (z := (⟨"com/example/unanimity/unanimity/engine/Outcome", "abortedHere", "()Z"⟩ : MethodName)) hown (mvT hZ (hw _ (List.mem_of_getElem? (i := 12) rfl))) (mvT hZ (hw _ (List.mem_of_getElem? (i := 13) rfl))) (notFace_of_selects (args := #[]) (mvT hZ (hw _ (List.mem_of_getElem? (i := 15) rfl)))) (mvT hZ (hw _ (List.mem_of_getElem? (i := 15) rfl))) (mvT hZ (hw _ (List.mem_of_getElem? (i := 14) rfl))) (by decide) (backOf (W := 0) (rm3 l Z aw hw [] o5 o0 o1 o2 o3 o4 o5 o6 o7 h0 n0 Z0 S_COMMITTED S_ABORTED S_IN_DOUBT S_UNKNOWN S_FORCED_COMMIT S_FORCED_ABORT S_FORCED_COMMIT_CONFLICT S_FORCED_ABORT_CONFLICT) hZ (hw _ (List.mem_of_getElem? (i := 16) rfl)) (hw _ (List.mem_of_getElem? (i := 5) rfl)) (by decide) (by decide)) q133a q133c (g := (mkF m 78 #[.val (.int p0), .val (.int p1), .val (.int (5 : Int32)), .val (.ref o5), .val (.int (1 : Int32)), .val (.int (1 : Int32)), .val (.int (0 : Int32)), .val (.ref o4), .unset, .unset] [(.ref o5)])) rfl (by rw [hml]; rfl) (Steps.refl _) (argsL := []) (rest := []) (lenOf pd_2 rfl) rfl (by show 2 * 0 + _ ≤ _; exact Nat.le_of_eq rfl) (hb hby at_78) (fun _ _ => ⟨rfl, e132, (by decide : 0 + 0 ≤ _), (by decide : 0 + 0 ≤ _)⟩)
        dsimp only [Pt.U, Pt.locs, Pt.cells, Pt.slots] at X133 l133 y133 z133 st133 hQ133
        subst l133 y133 z133
        obtain ⟨hv133, N133q, e133⟩ := hQ133
        rw [own_three_hit2] at hv133
        subst hv133
        have N133 := Fr.app N132 N133q
        obtain ⟨cq134, kq134, q134a, q134b, q134c⟩ := isOf hZ e133 E5
        obtain ⟨_, _, ⟨T134, L134, k134, n134⟩, -, X134, ⟨Lc134, hQ134, l134, y134, z134⟩, st134⟩ := X133.virtualBack hx (y := (⟨"com/example/unanimity/unanimity/engine/Outcome", "committedHere", "()Z"⟩ : MethodName)) (z := (⟨"com/example/unanimity/unanimity/engine/Outcome", "committedHere", "()Z"⟩ : MethodName)) hown (mvT hZ (hw _ (List.mem_of_getElem? (i := 23) rfl))) (mvT hZ (hw _ (List.mem_of_getElem? (i := 24) rfl))) (notFace_of_selects (args := #[]) (mvT hZ (hw _ (List.mem_of_getElem? (i := 26) rfl)))) (mvT hZ (hw _ (List.mem_of_getElem? (i := 26) rfl))) (mvT hZ (hw _ (List.mem_of_getElem? (i := 25) rfl))) (by decide) (backOf (W := 0) (rm4 l Z aw hw [] o5 o0 o1 o2 o3 o4 o5 o6 o7 h0 n0 Z0 S_COMMITTED S_ABORTED S_IN_DOUBT S_UNKNOWN S_FORCED_COMMIT S_FORCED_ABORT S_FORCED_COMMIT_CONFLICT S_FORCED_ABORT_CONFLICT) hZ (hw _ (List.mem_of_getElem? (i := 27) rfl)) (hw _ (List.mem_of_getElem? (i := 5) rfl)) (by decide) (by decide)) q134a q134c (g := (mkF m 84 #[.val (.int p0), .val (.int p1), .val (.int (5 : Int32)), .val (.ref o5), .val (.int (1 : Int32)), .val (.int (1 : Int32)), .val (.int (0 : Int32)), .val (.ref o4), .val (.int (1 : Int32)), .unset] [(.ref o5)])) rfl (by rw [hml]; rfl) (Steps.refl _) (argsL := []) (rest := []) (lenOf pd_2 rfl) rfl (by show 2 * 0 + _ ≤ _; exact Nat.le_of_eq rfl) (hb hby at_84) (fun _ _ => ⟨rfl, e133, (by decide : 0 + 0 ≤ _), (by decide : 0 + 0 ≤ _)⟩)
        dsimp only [Pt.U, Pt.locs, Pt.cells, Pt.slots] at X134 l134 y134 z134 st134 hQ134
        subst l134 y134 z134
        obtain ⟨hv134, N134q, e134⟩ := hQ134
        rw [own_three_no (Ne.symm d0_5) (Ne.symm d4_5) d5_6] at hv134
        subst hv134
        have N134 := Fr.app N133 N134q
        obtain ⟨cq135, kq135, q135a, q135b, q135c⟩ := isOf hZ e134 E4
        obtain ⟨_, _, ⟨T135, L135, k135, n135⟩, -, X135, ⟨Lc135, hQ135, l135, y135, z135⟩, st135⟩ := X134.virtualBack hx (y := (⟨"com/example/unanimity/unanimity/engine/Outcome", "abortedHere", "()Z"⟩ : MethodName)) (z := (⟨"com/example/unanimity/unanimity/engine/Outcome", "abortedHere", "()Z"⟩ : MethodName)) hown (mvT hZ (hw _ (List.mem_of_getElem? (i := 12) rfl))) (mvT hZ (hw _ (List.mem_of_getElem? (i := 13) rfl))) (notFace_of_selects (args := #[]) (mvT hZ (hw _ (List.mem_of_getElem? (i := 15) rfl)))) (mvT hZ (hw _ (List.mem_of_getElem? (i := 15) rfl))) (mvT hZ (hw _ (List.mem_of_getElem? (i := 14) rfl))) (by decide) (backOf (W := 0) (rm3 l Z aw hw [] o4 o0 o1 o2 o3 o4 o5 o6 o7 h0 n0 Z0 S_COMMITTED S_ABORTED S_IN_DOUBT S_UNKNOWN S_FORCED_COMMIT S_FORCED_ABORT S_FORCED_COMMIT_CONFLICT S_FORCED_ABORT_CONFLICT) hZ (hw _ (List.mem_of_getElem? (i := 16) rfl)) (hw _ (List.mem_of_getElem? (i := 5) rfl)) (by decide) (by decide)) q135a q135c (g := (mkF m 98 #[.val (.int p0), .val (.int p1), .val (.int (5 : Int32)), .val (.ref o5), .val (.int (1 : Int32)), .val (.int (1 : Int32)), .val (.int (0 : Int32)), .val (.ref o4), .val (.int (1 : Int32)), .val (.int (0 : Int32))] [(.ref o4)])) rfl (by rw [hml]; rfl) (Steps.refl _) (argsL := []) (rest := []) (lenOf pd_2 rfl) rfl (by show 2 * 0 + _ ≤ _; exact Nat.le_of_eq rfl) (hb hby at_98) (fun _ _ => ⟨rfl, e134, (by decide : 0 + 0 ≤ _), (by decide : 0 + 0 ≤ _)⟩)
        dsimp only [Pt.U, Pt.locs, Pt.cells, Pt.slots] at X135 l135 y135 z135 st135 hQ135
        subst l135 y135 z135
        obtain ⟨hv135, N135q, e135⟩ := hQ135
        rw [own_three_no (Ne.symm d1_4) d4_5 d4_7] at hv135
        subst hv135
        have N135 := Fr.app N134 N135q
        obtain ⟨fs, hr, hrun, hended, hW, hsame⟩ := X135.leave (v := some (.int (1 : Int32))) (fun h => by rw [Bd.returns] at h; cases h)
        refine ⟨_, _, pre130 _ ?_, hrun, hended, _, _, rfl, ?_, ⟨_, rfl⟩, hW, hsame.mono (by decide) (by decide)⟩
        · show Steps p.tables e below (T117.setTop (mkF m 58 #[.val (.int p0), .val (.int p1), .val (.int (5 : Int32)), .val (.ref o5), .val (.int (1 : Int32)), .val (.int (1 : Int32)), .unset, .unset, .unset, .unset] [(.int (p1 &&& (2 : Int32)))])) _
          refine XS.ifYes X117.here hx rfl (pc0 := 58) (pc' := 65) rfl (hb hby at_58) rfl ((if0 _ _).trans (teq hc131).1) (by decide) (by decide) ?_
          show Steps p.tables e below (T117.setTop (mkF m 65 #[.val (.int p0), .val (.int p1), .val (.int (5 : Int32)), .val (.ref o5), .val (.int (1 : Int32)), .val (.int (1 : Int32)), .unset, .unset, .unset, .unset] [])) _
          refine XS.iconst X117.here hx rfl (hb hby at_65) ?_
          show Steps p.tables e below (T117.setTop (mkF m 66 #[.val (.int p0), .val (.int p1), .val (.int (5 : Int32)), .val (.ref o5), .val (.int (1 : Int32)), .val (.int (1 : Int32)), .unset, .unset, .unset, .unset] [(.int (0 : Int32))])) _
          refine XS.istore X117.here hx rfl (hb hby at_66) rfl (l' := #[.val (.int p0), .val (.int p1), .val (.int (5 : Int32)), .val (.ref o5), .val (.int (1 : Int32)), .val (.int (1 : Int32)), .val (.int (0 : Int32)), .unset, .unset, .unset]) rfl ?_
          show Steps p.tables e below (T117.setTop (mkF m 68 #[.val (.int p0), .val (.int p1), .val (.int (5 : Int32)), .val (.ref o5), .val (.int (1 : Int32)), .val (.int (1 : Int32)), .val (.int (0 : Int32)), .unset, .unset, .unset] [])) _
          refine XS.iload X117.here hx rfl (hb hby at_68) rfl ?_
          show Steps p.tables e below (T117.setTop (mkF m 70 #[.val (.int p0), .val (.int p1), .val (.int (5 : Int32)), .val (.ref o5), .val (.int (1 : Int32)), .val (.int (1 : Int32)), .val (.int (0 : Int32)), .unset, .unset, .unset] [(.int (1 : Int32))])) _
          refine XS.iload X117.here hx rfl (hb hby at_70) rfl ?_
          show Steps p.tables e below (T117.setTop (mkF m 72 #[.val (.int p0), .val (.int p1), .val (.int (5 : Int32)), .val (.ref o5), .val (.int (1 : Int32)), .val (.int (1 : Int32)), .val (.int (0 : Int32)), .unset, .unset, .unset] [(.int (0 : Int32)), (.int (1 : Int32))])) _
          refine st132 _ ?_
          show Steps p.tables e below (T132.setTop (mkF m 75 #[.val (.int p0), .val (.int p1), .val (.int (5 : Int32)), .val (.ref o5), .val (.int (1 : Int32)), .val (.int (1 : Int32)), .val (.int (0 : Int32)), .unset, .unset, .unset] [(.ref o4)])) _
          refine XS.astore X132.here hx rfl (hb hby at_75) rfl rfl (l' := #[.val (.int p0), .val (.int p1), .val (.int (5 : Int32)), .val (.ref o5), .val (.int (1 : Int32)), .val (.int (1 : Int32)), .val (.int (0 : Int32)), .val (.ref o4), .unset, .unset]) rfl ?_
          show Steps p.tables e below (T132.setTop (mkF m 77 #[.val (.int p0), .val (.int p1), .val (.int (5 : Int32)), .val (.ref o5), .val (.int (1 : Int32)), .val (.int (1 : Int32)), .val (.int (0 : Int32)), .val (.ref o4), .unset, .unset] [])) _
          refine XS.aloadN X132.here hx rfl (hb hby at_77) rfl rfl ?_
          show Steps p.tables e below (T132.setTop (mkF m 78 #[.val (.int p0), .val (.int p1), .val (.int (5 : Int32)), .val (.ref o5), .val (.int (1 : Int32)), .val (.int (1 : Int32)), .val (.int (0 : Int32)), .val (.ref o4), .unset, .unset] [(.ref o5)])) _
          refine st133.trans ?_
          show Steps p.tables e below (T133.setTop (mkF m 81 #[.val (.int p0), .val (.int p1), .val (.int (5 : Int32)), .val (.ref o5), .val (.int (1 : Int32)), .val (.int (1 : Int32)), .val (.int (0 : Int32)), .val (.ref o4), .unset, .unset] [(.int (1 : Int32))])) _
          refine XS.istore X133.here hx rfl (hb hby at_81) rfl (l' := #[.val (.int p0), .val (.int p1), .val (.int (5 : Int32)), .val (.ref o5), .val (.int (1 : Int32)), .val (.int (1 : Int32)), .val (.int (0 : Int32)), .val (.ref o4), .val (.int (1 : Int32)), .unset]) rfl ?_
          show Steps p.tables e below (T133.setTop (mkF m 83 #[.val (.int p0), .val (.int p1), .val (.int (5 : Int32)), .val (.ref o5), .val (.int (1 : Int32)), .val (.int (1 : Int32)), .val (.int (0 : Int32)), .val (.ref o4), .val (.int (1 : Int32)), .unset] [])) _
          refine XS.aloadN X133.here hx rfl (hb hby at_83) rfl rfl ?_
          show Steps p.tables e below (T133.setTop (mkF m 84 #[.val (.int p0), .val (.int p1), .val (.int (5 : Int32)), .val (.ref o5), .val (.int (1 : Int32)), .val (.int (1 : Int32)), .val (.int (0 : Int32)), .val (.ref o4), .val (.int (1 : Int32)), .unset] [(.ref o5)])) _
          refine st134.trans ?_
          show Steps p.tables e below (T134.setTop (mkF m 87 #[.val (.int p0), .val (.int p1), .val (.int (5 : Int32)), .val (.ref o5), .val (.int (1 : Int32)), .val (.int (1 : Int32)), .val (.int (0 : Int32)), .val (.ref o4), .val (.int (1 : Int32)), .unset] [(.int (0 : Int32))])) _
          refine XS.istore X134.here hx rfl (hb hby at_87) rfl (l' := #[.val (.int p0), .val (.int p1), .val (.int (5 : Int32)), .val (.ref o5), .val (.int (1 : Int32)), .val (.int (1 : Int32)), .val (.int (0 : Int32)), .val (.ref o4), .val (.int (1 : Int32)), .val (.int (0 : Int32))]) rfl ?_
          show Steps p.tables e below (T134.setTop (mkF m 89 #[.val (.int p0), .val (.int p1), .val (.int (5 : Int32)), .val (.ref o5), .val (.int (1 : Int32)), .val (.int (1 : Int32)), .val (.int (0 : Int32)), .val (.ref o4), .val (.int (1 : Int32)), .val (.int (0 : Int32))] [])) _
          refine XS.iload X134.here hx rfl (hb hby at_89) rfl ?_
          show Steps p.tables e below (T134.setTop (mkF m 91 #[.val (.int p0), .val (.int p1), .val (.int (5 : Int32)), .val (.ref o5), .val (.int (1 : Int32)), .val (.int (1 : Int32)), .val (.int (0 : Int32)), .val (.ref o4), .val (.int (1 : Int32)), .val (.int (0 : Int32))] [(.int (1 : Int32))])) _
          refine XS.iload X134.here hx rfl (hb hby at_91) rfl ?_
          show Steps p.tables e below (T134.setTop (mkF m 93 #[.val (.int p0), .val (.int p1), .val (.int (5 : Int32)), .val (.ref o5), .val (.int (1 : Int32)), .val (.int (1 : Int32)), .val (.int (0 : Int32)), .val (.ref o4), .val (.int (1 : Int32)), .val (.int (0 : Int32))] [(.int (1 : Int32)), (.int (1 : Int32))])) _
          refine XS.icmpNo X134.here hx rfl (hb hby at_93) rfl (teq (by decide : (1 : Int32) = (1 : Int32))).2 ?_
          show Steps p.tables e below (T134.setTop (mkF m 96 #[.val (.int p0), .val (.int p1), .val (.int (5 : Int32)), .val (.ref o5), .val (.int (1 : Int32)), .val (.int (1 : Int32)), .val (.int (0 : Int32)), .val (.ref o4), .val (.int (1 : Int32)), .val (.int (0 : Int32))] [])) _
          refine XS.aload X134.here hx rfl (hb hby at_96) rfl rfl ?_
          show Steps p.tables e below (T134.setTop (mkF m 98 #[.val (.int p0), .val (.int p1), .val (.int (5 : Int32)), .val (.ref o5), .val (.int (1 : Int32)), .val (.int (1 : Int32)), .val (.int (0 : Int32)), .val (.ref o4), .val (.int (1 : Int32)), .val (.int (0 : Int32))] [(.ref o4)])) _
          refine st135.trans ?_
          show Steps p.tables e below (T135.setTop (mkF m 101 #[.val (.int p0), .val (.int p1), .val (.int (5 : Int32)), .val (.ref o5), .val (.int (1 : Int32)), .val (.int (1 : Int32)), .val (.int (0 : Int32)), .val (.ref o4), .val (.int (1 : Int32)), .val (.int (0 : Int32))] [(.int (0 : Int32))])) _
          refine XS.iload X135.here hx rfl (hb hby at_101) rfl ?_
          show Steps p.tables e below (T135.setTop (mkF m 103 #[.val (.int p0), .val (.int p1), .val (.int (5 : Int32)), .val (.ref o5), .val (.int (1 : Int32)), .val (.int (1 : Int32)), .val (.int (0 : Int32)), .val (.ref o4), .val (.int (1 : Int32)), .val (.int (0 : Int32))] [(.int (1 : Int32)), (.int (0 : Int32))])) _
          refine XS.ifYes X135.here hx rfl (pc0 := 103) (pc' := 110) rfl (hb hby at_103) rfl ((if0 _ _).trans (feq (by decide : ¬ ((1 : Int32) = (0 : Int32)))).2) (by decide) (by decide) ?_
          show Steps p.tables e below (T135.setTop (mkF m 110 #[.val (.int p0), .val (.int p1), .val (.int (5 : Int32)), .val (.ref o5), .val (.int (1 : Int32)), .val (.int (1 : Int32)), .val (.int (0 : Int32)), .val (.ref o4), .val (.int (1 : Int32)), .val (.int (0 : Int32))] [(.int (0 : Int32))])) _
          refine XS.iconst X135.here hx rfl (hb hby at_110) ?_
          show Steps p.tables e below (T135.setTop (mkF m 111 #[.val (.int p0), .val (.int p1), .val (.int (5 : Int32)), .val (.ref o5), .val (.int (1 : Int32)), .val (.int (1 : Int32)), .val (.int (0 : Int32)), .val (.ref o4), .val (.int (1 : Int32)), .val (.int (0 : Int32))] [(.int (0 : Int32)), (.int (0 : Int32))])) _
          refine XS.icmpNo X135.here hx rfl (hb hby at_111) rfl (teq (by decide : (0 : Int32) = (0 : Int32))).2 ?_
          show Steps p.tables e below (T135.setTop (mkF m 114 #[.val (.int p0), .val (.int p1), .val (.int (5 : Int32)), .val (.ref o5), .val (.int (1 : Int32)), .val (.int (1 : Int32)), .val (.int (0 : Int32)), .val (.ref o4), .val (.int (1 : Int32)), .val (.int (0 : Int32))] [])) _
          refine XS.iload X135.here hx rfl (hb hby at_114) rfl ?_
          show Steps p.tables e below (T135.setTop (mkF m 116 #[.val (.int p0), .val (.int p1), .val (.int (5 : Int32)), .val (.ref o5), .val (.int (1 : Int32)), .val (.int (1 : Int32)), .val (.int (0 : Int32)), .val (.ref o4), .val (.int (1 : Int32)), .val (.int (0 : Int32))] [(.int (1 : Int32))])) _
          refine XS.ifNo X135.here hx rfl (hb hby at_116) rfl ((if0 _ _).trans (feq (by decide : ¬ ((1 : Int32) = (0 : Int32)))).1) ?_
          show Steps p.tables e below (T135.setTop (mkF m 119 #[.val (.int p0), .val (.int p1), .val (.int (5 : Int32)), .val (.ref o5), .val (.int (1 : Int32)), .val (.int (1 : Int32)), .val (.int (0 : Int32)), .val (.ref o4), .val (.int (1 : Int32)), .val (.int (0 : Int32))] [])) _
          refine XS.iload X135.here hx rfl (hb hby at_119) rfl ?_
          show Steps p.tables e below (T135.setTop (mkF m 121 #[.val (.int p0), .val (.int p1), .val (.int (5 : Int32)), .val (.ref o5), .val (.int (1 : Int32)), .val (.int (1 : Int32)), .val (.int (0 : Int32)), .val (.ref o4), .val (.int (1 : Int32)), .val (.int (0 : Int32))] [(.int (0 : Int32))])) _
          refine XS.ifNo X135.here hx rfl (hb hby at_121) rfl ((if0 _ _).trans (teq (by decide : (0 : Int32) = (0 : Int32))).2) ?_
          show Steps p.tables e below (T135.setTop (mkF m 124 #[.val (.int p0), .val (.int p1), .val (.int (5 : Int32)), .val (.ref o5), .val (.int (1 : Int32)), .val (.int (1 : Int32)), .val (.int (0 : Int32)), .val (.ref o4), .val (.int (1 : Int32)), .val (.int (0 : Int32))] [])) _
          refine XS.iconst X135.here hx rfl (hb hby at_124) ?_
          show Steps p.tables e below (T135.setTop (mkF m 125 #[.val (.int p0), .val (.int p1), .val (.int (5 : Int32)), .val (.ref o5), .val (.int (1 : Int32)), .val (.int (1 : Int32)), .val (.int (0 : Int32)), .val (.ref o4), .val (.int (1 : Int32)), .val (.int (0 : Int32))] [(.int (1 : Int32))])) _
          refine XS.goto X135.here hx rfl (pc0 := 125) (pc' := 129) rfl (hb hby at_125) (by decide) (by decide) ?_
          show Steps p.tables e below (T135.setTop (mkF m 129 #[.val (.int p0), .val (.int p1), .val (.int (5 : Int32)), .val (.ref o5), .val (.int (1 : Int32)), .val (.int (1 : Int32)), .val (.int (0 : Int32)), .val (.ref o4), .val (.int (1 : Int32)), .val (.int (0 : Int32))] [(.int (1 : Int32))])) _
          exact retN X135 hx (t := .boolean) Bd.returns (by simp) (hb hby at_129) hr
        · show Q0 Z p0 p1 o0 o1 o2 o3 o4 o5 o6 o7 h0 n0 _ T135.heap _
          rw [e135]
          exact ⟨rfl, N135⟩
      · obtain ⟨_, _, ⟨T136, L136, k136, n136⟩, -, X136, ⟨Lc136, hQ136, l136, y136, z136⟩, st136⟩ := Jvm.LawKit.callS X117 hx (y := (⟨"com/example/unanimity/unanimity/engine/Outcome", "forced", "(ZZ)Lcom/example/unanimity/unanimity/engine/Outcome;"⟩ : MethodName)) hown (mvT hZ (hw _ (List.mem_of_getElem? (i := 7) rfl))) (mvT hZ (hw _ (List.mem_of_getElem? (i := 8) rfl))) (mvT hZ (hw _ (List.mem_of_getElem? (i := 5) rfl))) (mvT hZ (hw _ (List.mem_of_getElem? (i := 9) rfl))) (by decide) (backOf (W := 0) (rm2 l Z aw hw [] (1 : Int32) (1 : Int32) o0 o1 o2 o3 o4 o5 o6 o7 h0 n0 Z0 S_COMMITTED S_ABORTED S_IN_DOUBT S_UNKNOWN S_FORCED_COMMIT S_FORCED_ABORT S_FORCED_COMMIT_CONFLICT S_FORCED_ABORT_CONFLICT) hZ (hw _ (List.mem_of_getElem? (i := 9) rfl)) (hw _ (List.mem_of_getElem? (i := 5) rfl)) (by decide) (by decide)) (g := (mkF m 72 #[.val (.int p0), .val (.int p1), .val (.int (5 : Int32)), .val (.ref o5), .val (.int (1 : Int32)), .val (.int (1 : Int32)), .val (.int (1 : Int32)), .unset, .unset, .unset] [(.int (1 : Int32)), (.int (1 : Int32))])) rfl (by rw [hml]; rfl) (argsL := [(.int (1 : Int32)), (.int (1 : Int32))]) (rest := []) (lenOf pd_1 rfl) rfl (by show 2 * 0 + _ ≤ _; exact Nat.le_of_eq rfl) (hb hby at_72) (fun _ _ => ⟨rfl, e117, (by decide : 0 + 0 ≤ _), (by decide : 0 + 0 ≤ _)⟩)
        dsimp only [Pt.U, Pt.locs, Pt.cells, Pt.slots] at X136 l136 y136 z136 st136 hQ136
        subst l136 y136 z136
        obtain ⟨hv136, N136q, e136⟩ := hQ136
        rw [show own_forced (1 : Int32) (1 : Int32) o4 o5 o6 o7 = o6 from rfl] at hv136
        subst hv136
        have N136 := Fr.app N117 N136q
        obtain ⟨cq137, kq137, q137a, q137b, q137c⟩ := isOf hZ e136 E5
        obtain ⟨_, _, ⟨T137, L137, k137, n137⟩, -, X137, ⟨Lc137, hQ137, l137, y137, z137⟩, st137⟩ := X136.virtualBack hx (y := (⟨"com/example/unanimity/unanimity/engine/Outcome", "abortedHere", "()Z"⟩ : MethodName)) (z := (⟨"com/example/unanimity/unanimity/engine/Outcome", "abortedHere", "()Z"⟩ : MethodName)) hown (mvT hZ (hw _ (List.mem_of_getElem? (i := 12) rfl))) (mvT hZ (hw _ (List.mem_of_getElem? (i := 13) rfl))) (notFace_of_selects (args := #[]) (mvT hZ (hw _ (List.mem_of_getElem? (i := 15) rfl)))) (mvT hZ (hw _ (List.mem_of_getElem? (i := 15) rfl))) (mvT hZ (hw _ (List.mem_of_getElem? (i := 14) rfl))) (by decide) (backOf (W := 0) (rm3 l Z aw hw [] o5 o0 o1 o2 o3 o4 o5 o6 o7 h0 n0 Z0 S_COMMITTED S_ABORTED S_IN_DOUBT S_UNKNOWN S_FORCED_COMMIT S_FORCED_ABORT S_FORCED_COMMIT_CONFLICT S_FORCED_ABORT_CONFLICT) hZ (hw _ (List.mem_of_getElem? (i := 16) rfl)) (hw _ (List.mem_of_getElem? (i := 5) rfl)) (by decide) (by decide)) q137a q137c (g := (mkF m 78 #[.val (.int p0), .val (.int p1), .val (.int (5 : Int32)), .val (.ref o5), .val (.int (1 : Int32)), .val (.int (1 : Int32)), .val (.int (1 : Int32)), .val (.ref o6), .unset, .unset] [(.ref o5)])) rfl (by rw [hml]; rfl) (Steps.refl _) (argsL := []) (rest := []) (lenOf pd_2 rfl) rfl (by show 2 * 0 + _ ≤ _; exact Nat.le_of_eq rfl) (hb hby at_78) (fun _ _ => ⟨rfl, e136, (by decide : 0 + 0 ≤ _), (by decide : 0 + 0 ≤ _)⟩)
        dsimp only [Pt.U, Pt.locs, Pt.cells, Pt.slots] at X137 l137 y137 z137 st137 hQ137
        subst l137 y137 z137
        obtain ⟨hv137, N137q, e137⟩ := hQ137
        rw [own_three_hit2] at hv137
        subst hv137
        have N137 := Fr.app N136 N137q
        obtain ⟨cq138, kq138, q138a, q138b, q138c⟩ := isOf hZ e137 E5
        obtain ⟨_, _, ⟨T138, L138, k138, n138⟩, -, X138, ⟨Lc138, hQ138, l138, y138, z138⟩, st138⟩ := X137.virtualBack hx (y := (⟨"com/example/unanimity/unanimity/engine/Outcome", "committedHere", "()Z"⟩ : MethodName)) (z := (⟨"com/example/unanimity/unanimity/engine/Outcome", "committedHere", "()Z"⟩ : MethodName)) hown (mvT hZ (hw _ (List.mem_of_getElem? (i := 23) rfl))) (mvT hZ (hw _ (List.mem_of_getElem? (i := 24) rfl))) (notFace_of_selects (args := #[]) (mvT hZ (hw _ (List.mem_of_getElem? (i := 26) rfl)))) (mvT hZ (hw _ (List.mem_of_getElem? (i := 26) rfl))) (mvT hZ (hw _ (List.mem_of_getElem? (i := 25) rfl))) (by decide) (backOf (W := 0) (rm4 l Z aw hw [] o5 o0 o1 o2 o3 o4 o5 o6 o7 h0 n0 Z0 S_COMMITTED S_ABORTED S_IN_DOUBT S_UNKNOWN S_FORCED_COMMIT S_FORCED_ABORT S_FORCED_COMMIT_CONFLICT S_FORCED_ABORT_CONFLICT) hZ (hw _ (List.mem_of_getElem? (i := 27) rfl)) (hw _ (List.mem_of_getElem? (i := 5) rfl)) (by decide) (by decide)) q138a q138c (g := (mkF m 84 #[.val (.int p0), .val (.int p1), .val (.int (5 : Int32)), .val (.ref o5), .val (.int (1 : Int32)), .val (.int (1 : Int32)), .val (.int (1 : Int32)), .val (.ref o6), .val (.int (1 : Int32)), .unset] [(.ref o5)])) rfl (by rw [hml]; rfl) (Steps.refl _) (argsL := []) (rest := []) (lenOf pd_2 rfl) rfl (by show 2 * 0 + _ ≤ _; exact Nat.le_of_eq rfl) (hb hby at_84) (fun _ _ => ⟨rfl, e137, (by decide : 0 + 0 ≤ _), (by decide : 0 + 0 ≤ _)⟩)
        dsimp only [Pt.U, Pt.locs, Pt.cells, Pt.slots] at X138 l138 y138 z138 st138 hQ138
        subst l138 y138 z138
        obtain ⟨hv138, N138q, e138⟩ := hQ138
        rw [own_three_no (Ne.symm d0_5) (Ne.symm d4_5) d5_6] at hv138
        subst hv138
        have N138 := Fr.app N137 N138q
        obtain ⟨cq139, kq139, q139a, q139b, q139c⟩ := isOf hZ e138 E6
        obtain ⟨_, _, ⟨T139, L139, k139, n139⟩, -, X139, ⟨Lc139, hQ139, l139, y139, z139⟩, st139⟩ := X138.virtualBack hx (y := (⟨"com/example/unanimity/unanimity/engine/Outcome", "abortedHere", "()Z"⟩ : MethodName)) (z := (⟨"com/example/unanimity/unanimity/engine/Outcome", "abortedHere", "()Z"⟩ : MethodName)) hown (mvT hZ (hw _ (List.mem_of_getElem? (i := 12) rfl))) (mvT hZ (hw _ (List.mem_of_getElem? (i := 13) rfl))) (notFace_of_selects (args := #[]) (mvT hZ (hw _ (List.mem_of_getElem? (i := 15) rfl)))) (mvT hZ (hw _ (List.mem_of_getElem? (i := 15) rfl))) (mvT hZ (hw _ (List.mem_of_getElem? (i := 14) rfl))) (by decide) (backOf (W := 0) (rm3 l Z aw hw [] o6 o0 o1 o2 o3 o4 o5 o6 o7 h0 n0 Z0 S_COMMITTED S_ABORTED S_IN_DOUBT S_UNKNOWN S_FORCED_COMMIT S_FORCED_ABORT S_FORCED_COMMIT_CONFLICT S_FORCED_ABORT_CONFLICT) hZ (hw _ (List.mem_of_getElem? (i := 16) rfl)) (hw _ (List.mem_of_getElem? (i := 5) rfl)) (by decide) (by decide)) q139a q139c (g := (mkF m 98 #[.val (.int p0), .val (.int p1), .val (.int (5 : Int32)), .val (.ref o5), .val (.int (1 : Int32)), .val (.int (1 : Int32)), .val (.int (1 : Int32)), .val (.ref o6), .val (.int (1 : Int32)), .val (.int (0 : Int32))] [(.ref o6)])) rfl (by rw [hml]; rfl) (Steps.refl _) (argsL := []) (rest := []) (lenOf pd_2 rfl) rfl (by show 2 * 0 + _ ≤ _; exact Nat.le_of_eq rfl) (hb hby at_98) (fun _ _ => ⟨rfl, e138, (by decide : 0 + 0 ≤ _), (by decide : 0 + 0 ≤ _)⟩)
        dsimp only [Pt.U, Pt.locs, Pt.cells, Pt.slots] at X139 l139 y139 z139 st139 hQ139
        subst l139 y139 z139
        obtain ⟨hv139, N139q, e139⟩ := hQ139
        rw [own_three_no (Ne.symm d1_6) (Ne.symm d5_6) d6_7] at hv139
        subst hv139
        have N139 := Fr.app N138 N139q
        obtain ⟨fs, hr, hrun, hended, hW, hsame⟩ := X139.leave (v := some (.int (1 : Int32))) (fun h => by rw [Bd.returns] at h; cases h)
        refine ⟨_, _, pre130 _ ?_, hrun, hended, _, _, rfl, ?_, ⟨_, rfl⟩, hW, hsame.mono (by decide) (by decide)⟩
        · show Steps p.tables e below (T117.setTop (mkF m 58 #[.val (.int p0), .val (.int p1), .val (.int (5 : Int32)), .val (.ref o5), .val (.int (1 : Int32)), .val (.int (1 : Int32)), .unset, .unset, .unset, .unset] [(.int (p1 &&& (2 : Int32)))])) _
          refine XS.ifNo X117.here hx rfl (hb hby at_58) rfl ((if0 _ _).trans (feq hc131).1) ?_
          show Steps p.tables e below (T117.setTop (mkF m 61 #[.val (.int p0), .val (.int p1), .val (.int (5 : Int32)), .val (.ref o5), .val (.int (1 : Int32)), .val (.int (1 : Int32)), .unset, .unset, .unset, .unset] [])) _
          refine XS.iconst X117.here hx rfl (hb hby at_61) ?_
          show Steps p.tables e below (T117.setTop (mkF m 62 #[.val (.int p0), .val (.int p1), .val (.int (5 : Int32)), .val (.ref o5), .val (.int (1 : Int32)), .val (.int (1 : Int32)), .unset, .unset, .unset, .unset] [(.int (1 : Int32))])) _
          refine XS.goto X117.here hx rfl (pc0 := 62) (pc' := 66) rfl (hb hby at_62) (by decide) (by decide) ?_
          show Steps p.tables e below (T117.setTop (mkF m 66 #[.val (.int p0), .val (.int p1), .val (.int (5 : Int32)), .val (.ref o5), .val (.int (1 : Int32)), .val (.int (1 : Int32)), .unset, .unset, .unset, .unset] [(.int (1 : Int32))])) _
          refine XS.istore X117.here hx rfl (hb hby at_66) rfl (l' := #[.val (.int p0), .val (.int p1), .val (.int (5 : Int32)), .val (.ref o5), .val (.int (1 : Int32)), .val (.int (1 : Int32)), .val (.int (1 : Int32)), .unset, .unset, .unset]) rfl ?_
          show Steps p.tables e below (T117.setTop (mkF m 68 #[.val (.int p0), .val (.int p1), .val (.int (5 : Int32)), .val (.ref o5), .val (.int (1 : Int32)), .val (.int (1 : Int32)), .val (.int (1 : Int32)), .unset, .unset, .unset] [])) _
          refine XS.iload X117.here hx rfl (hb hby at_68) rfl ?_
          show Steps p.tables e below (T117.setTop (mkF m 70 #[.val (.int p0), .val (.int p1), .val (.int (5 : Int32)), .val (.ref o5), .val (.int (1 : Int32)), .val (.int (1 : Int32)), .val (.int (1 : Int32)), .unset, .unset, .unset] [(.int (1 : Int32))])) _
          refine XS.iload X117.here hx rfl (hb hby at_70) rfl ?_
          show Steps p.tables e below (T117.setTop (mkF m 72 #[.val (.int p0), .val (.int p1), .val (.int (5 : Int32)), .val (.ref o5), .val (.int (1 : Int32)), .val (.int (1 : Int32)), .val (.int (1 : Int32)), .unset, .unset, .unset] [(.int (1 : Int32)), (.int (1 : Int32))])) _
          refine st136 _ ?_
          show Steps p.tables e below (T136.setTop (mkF m 75 #[.val (.int p0), .val (.int p1), .val (.int (5 : Int32)), .val (.ref o5), .val (.int (1 : Int32)), .val (.int (1 : Int32)), .val (.int (1 : Int32)), .unset, .unset, .unset] [(.ref o6)])) _
          refine XS.astore X136.here hx rfl (hb hby at_75) rfl rfl (l' := #[.val (.int p0), .val (.int p1), .val (.int (5 : Int32)), .val (.ref o5), .val (.int (1 : Int32)), .val (.int (1 : Int32)), .val (.int (1 : Int32)), .val (.ref o6), .unset, .unset]) rfl ?_
          show Steps p.tables e below (T136.setTop (mkF m 77 #[.val (.int p0), .val (.int p1), .val (.int (5 : Int32)), .val (.ref o5), .val (.int (1 : Int32)), .val (.int (1 : Int32)), .val (.int (1 : Int32)), .val (.ref o6), .unset, .unset] [])) _
          refine XS.aloadN X136.here hx rfl (hb hby at_77) rfl rfl ?_
          show Steps p.tables e below (T136.setTop (mkF m 78 #[.val (.int p0), .val (.int p1), .val (.int (5 : Int32)), .val (.ref o5), .val (.int (1 : Int32)), .val (.int (1 : Int32)), .val (.int (1 : Int32)), .val (.ref o6), .unset, .unset] [(.ref o5)])) _
          refine st137.trans ?_
          show Steps p.tables e below (T137.setTop (mkF m 81 #[.val (.int p0), .val (.int p1), .val (.int (5 : Int32)), .val (.ref o5), .val (.int (1 : Int32)), .val (.int (1 : Int32)), .val (.int (1 : Int32)), .val (.ref o6), .unset, .unset] [(.int (1 : Int32))])) _
          refine XS.istore X137.here hx rfl (hb hby at_81) rfl (l' := #[.val (.int p0), .val (.int p1), .val (.int (5 : Int32)), .val (.ref o5), .val (.int (1 : Int32)), .val (.int (1 : Int32)), .val (.int (1 : Int32)), .val (.ref o6), .val (.int (1 : Int32)), .unset]) rfl ?_
          show Steps p.tables e below (T137.setTop (mkF m 83 #[.val (.int p0), .val (.int p1), .val (.int (5 : Int32)), .val (.ref o5), .val (.int (1 : Int32)), .val (.int (1 : Int32)), .val (.int (1 : Int32)), .val (.ref o6), .val (.int (1 : Int32)), .unset] [])) _
          refine XS.aloadN X137.here hx rfl (hb hby at_83) rfl rfl ?_
          show Steps p.tables e below (T137.setTop (mkF m 84 #[.val (.int p0), .val (.int p1), .val (.int (5 : Int32)), .val (.ref o5), .val (.int (1 : Int32)), .val (.int (1 : Int32)), .val (.int (1 : Int32)), .val (.ref o6), .val (.int (1 : Int32)), .unset] [(.ref o5)])) _
          refine st138.trans ?_
          show Steps p.tables e below (T138.setTop (mkF m 87 #[.val (.int p0), .val (.int p1), .val (.int (5 : Int32)), .val (.ref o5), .val (.int (1 : Int32)), .val (.int (1 : Int32)), .val (.int (1 : Int32)), .val (.ref o6), .val (.int (1 : Int32)), .unset] [(.int (0 : Int32))])) _
          refine XS.istore X138.here hx rfl (hb hby at_87) rfl (l' := #[.val (.int p0), .val (.int p1), .val (.int (5 : Int32)), .val (.ref o5), .val (.int (1 : Int32)), .val (.int (1 : Int32)), .val (.int (1 : Int32)), .val (.ref o6), .val (.int (1 : Int32)), .val (.int (0 : Int32))]) rfl ?_
          show Steps p.tables e below (T138.setTop (mkF m 89 #[.val (.int p0), .val (.int p1), .val (.int (5 : Int32)), .val (.ref o5), .val (.int (1 : Int32)), .val (.int (1 : Int32)), .val (.int (1 : Int32)), .val (.ref o6), .val (.int (1 : Int32)), .val (.int (0 : Int32))] [])) _
          refine XS.iload X138.here hx rfl (hb hby at_89) rfl ?_
          show Steps p.tables e below (T138.setTop (mkF m 91 #[.val (.int p0), .val (.int p1), .val (.int (5 : Int32)), .val (.ref o5), .val (.int (1 : Int32)), .val (.int (1 : Int32)), .val (.int (1 : Int32)), .val (.ref o6), .val (.int (1 : Int32)), .val (.int (0 : Int32))] [(.int (1 : Int32))])) _
          refine XS.iload X138.here hx rfl (hb hby at_91) rfl ?_
          show Steps p.tables e below (T138.setTop (mkF m 93 #[.val (.int p0), .val (.int p1), .val (.int (5 : Int32)), .val (.ref o5), .val (.int (1 : Int32)), .val (.int (1 : Int32)), .val (.int (1 : Int32)), .val (.ref o6), .val (.int (1 : Int32)), .val (.int (0 : Int32))] [(.int (1 : Int32)), (.int (1 : Int32))])) _
          refine XS.icmpNo X138.here hx rfl (hb hby at_93) rfl (teq (by decide : (1 : Int32) = (1 : Int32))).2 ?_
          show Steps p.tables e below (T138.setTop (mkF m 96 #[.val (.int p0), .val (.int p1), .val (.int (5 : Int32)), .val (.ref o5), .val (.int (1 : Int32)), .val (.int (1 : Int32)), .val (.int (1 : Int32)), .val (.ref o6), .val (.int (1 : Int32)), .val (.int (0 : Int32))] [])) _
          refine XS.aload X138.here hx rfl (hb hby at_96) rfl rfl ?_
          show Steps p.tables e below (T138.setTop (mkF m 98 #[.val (.int p0), .val (.int p1), .val (.int (5 : Int32)), .val (.ref o5), .val (.int (1 : Int32)), .val (.int (1 : Int32)), .val (.int (1 : Int32)), .val (.ref o6), .val (.int (1 : Int32)), .val (.int (0 : Int32))] [(.ref o6)])) _
          refine st139.trans ?_
          show Steps p.tables e below (T139.setTop (mkF m 101 #[.val (.int p0), .val (.int p1), .val (.int (5 : Int32)), .val (.ref o5), .val (.int (1 : Int32)), .val (.int (1 : Int32)), .val (.int (1 : Int32)), .val (.ref o6), .val (.int (1 : Int32)), .val (.int (0 : Int32))] [(.int (0 : Int32))])) _
          refine XS.iload X139.here hx rfl (hb hby at_101) rfl ?_
          show Steps p.tables e below (T139.setTop (mkF m 103 #[.val (.int p0), .val (.int p1), .val (.int (5 : Int32)), .val (.ref o5), .val (.int (1 : Int32)), .val (.int (1 : Int32)), .val (.int (1 : Int32)), .val (.ref o6), .val (.int (1 : Int32)), .val (.int (0 : Int32))] [(.int (1 : Int32)), (.int (0 : Int32))])) _
          refine XS.ifYes X139.here hx rfl (pc0 := 103) (pc' := 110) rfl (hb hby at_103) rfl ((if0 _ _).trans (feq (by decide : ¬ ((1 : Int32) = (0 : Int32)))).2) (by decide) (by decide) ?_
          show Steps p.tables e below (T139.setTop (mkF m 110 #[.val (.int p0), .val (.int p1), .val (.int (5 : Int32)), .val (.ref o5), .val (.int (1 : Int32)), .val (.int (1 : Int32)), .val (.int (1 : Int32)), .val (.ref o6), .val (.int (1 : Int32)), .val (.int (0 : Int32))] [(.int (0 : Int32))])) _
          refine XS.iconst X139.here hx rfl (hb hby at_110) ?_
          show Steps p.tables e below (T139.setTop (mkF m 111 #[.val (.int p0), .val (.int p1), .val (.int (5 : Int32)), .val (.ref o5), .val (.int (1 : Int32)), .val (.int (1 : Int32)), .val (.int (1 : Int32)), .val (.ref o6), .val (.int (1 : Int32)), .val (.int (0 : Int32))] [(.int (0 : Int32)), (.int (0 : Int32))])) _
          refine XS.icmpNo X139.here hx rfl (hb hby at_111) rfl (teq (by decide : (0 : Int32) = (0 : Int32))).2 ?_
          show Steps p.tables e below (T139.setTop (mkF m 114 #[.val (.int p0), .val (.int p1), .val (.int (5 : Int32)), .val (.ref o5), .val (.int (1 : Int32)), .val (.int (1 : Int32)), .val (.int (1 : Int32)), .val (.ref o6), .val (.int (1 : Int32)), .val (.int (0 : Int32))] [])) _
          refine XS.iload X139.here hx rfl (hb hby at_114) rfl ?_
          show Steps p.tables e below (T139.setTop (mkF m 116 #[.val (.int p0), .val (.int p1), .val (.int (5 : Int32)), .val (.ref o5), .val (.int (1 : Int32)), .val (.int (1 : Int32)), .val (.int (1 : Int32)), .val (.ref o6), .val (.int (1 : Int32)), .val (.int (0 : Int32))] [(.int (1 : Int32))])) _
          refine XS.ifNo X139.here hx rfl (hb hby at_116) rfl ((if0 _ _).trans (feq (by decide : ¬ ((1 : Int32) = (0 : Int32)))).1) ?_
          show Steps p.tables e below (T139.setTop (mkF m 119 #[.val (.int p0), .val (.int p1), .val (.int (5 : Int32)), .val (.ref o5), .val (.int (1 : Int32)), .val (.int (1 : Int32)), .val (.int (1 : Int32)), .val (.ref o6), .val (.int (1 : Int32)), .val (.int (0 : Int32))] [])) _
          refine XS.iload X139.here hx rfl (hb hby at_119) rfl ?_
          show Steps p.tables e below (T139.setTop (mkF m 121 #[.val (.int p0), .val (.int p1), .val (.int (5 : Int32)), .val (.ref o5), .val (.int (1 : Int32)), .val (.int (1 : Int32)), .val (.int (1 : Int32)), .val (.ref o6), .val (.int (1 : Int32)), .val (.int (0 : Int32))] [(.int (0 : Int32))])) _
          refine XS.ifNo X139.here hx rfl (hb hby at_121) rfl ((if0 _ _).trans (teq (by decide : (0 : Int32) = (0 : Int32))).2) ?_
          show Steps p.tables e below (T139.setTop (mkF m 124 #[.val (.int p0), .val (.int p1), .val (.int (5 : Int32)), .val (.ref o5), .val (.int (1 : Int32)), .val (.int (1 : Int32)), .val (.int (1 : Int32)), .val (.ref o6), .val (.int (1 : Int32)), .val (.int (0 : Int32))] [])) _
          refine XS.iconst X139.here hx rfl (hb hby at_124) ?_
          show Steps p.tables e below (T139.setTop (mkF m 125 #[.val (.int p0), .val (.int p1), .val (.int (5 : Int32)), .val (.ref o5), .val (.int (1 : Int32)), .val (.int (1 : Int32)), .val (.int (1 : Int32)), .val (.ref o6), .val (.int (1 : Int32)), .val (.int (0 : Int32))] [(.int (1 : Int32))])) _
          refine XS.goto X139.here hx rfl (pc0 := 125) (pc' := 129) rfl (hb hby at_125) (by decide) (by decide) ?_
          show Steps p.tables e below (T139.setTop (mkF m 129 #[.val (.int p0), .val (.int p1), .val (.int (5 : Int32)), .val (.ref o5), .val (.int (1 : Int32)), .val (.int (1 : Int32)), .val (.int (1 : Int32)), .val (.ref o6), .val (.int (1 : Int32)), .val (.int (0 : Int32))] [(.int (1 : Int32))])) _
          exact retN X139 hx (t := .boolean) Bd.returns (by simp) (hb hby at_129) hr
        · show Q0 Z p0 p1 o0 o1 o2 o3 o4 o5 o6 o7 h0 n0 _ T139.heap _
          rw [e139]
          exact ⟨rfl, N139⟩
  · obtain ⟨_, _, ⟨T140, L140, k140, n140⟩, -, X140, ⟨Lc140, hQ140, l140, y140, z140⟩, st140⟩ := Jvm.LawKit.callS X0 hx (y := (⟨"com/example/unanimity/unanimity/engine/OutcomeAbortedHerePinLaw", "pick", "(I)Lcom/example/unanimity/unanimity/engine/Outcome;"⟩ : MethodName)) hown (mvT hZ (hw _ (List.mem_of_getElem? (i := 0) rfl))) (mvT hZ (hw _ (List.mem_of_getElem? (i := 1) rfl))) (mvT hZ (hw _ (List.mem_of_getElem? (i := 2) rfl))) (mvT hZ (hw _ (List.mem_of_getElem? (i := 3) rfl))) (by decide) (backOf (W := 0) (rm1 l Z aw hw [] (6 : Int32) o0 o1 o2 o3 o4 o5 o6 o7 h0 n0 Z0 S_COMMITTED S_ABORTED S_IN_DOUBT S_UNKNOWN S_FORCED_COMMIT S_FORCED_ABORT S_FORCED_COMMIT_CONFLICT S_FORCED_ABORT_CONFLICT) hZ (hw _ (List.mem_of_getElem? (i := 3) rfl)) (hw _ (List.mem_of_getElem? (i := 2) rfl)) (by decide) (by decide)) (g := (mkF m 6 #[.val (.int p0), .val (.int p1), .val (.int (6 : Int32)), .unset, .unset, .unset, .unset, .unset, .unset, .unset] [(.int (6 : Int32))])) rfl (by rw [hml]; rfl) (argsL := [(.int (6 : Int32))]) (rest := []) (lenOf pd_0 rfl) rfl (by show 2 * 0 + _ ≤ _; exact Nat.le_of_eq rfl) (hb hby at_6) (fun _ _ => ⟨rfl, e0, (by decide : 0 + 0 ≤ _), (by decide : 0 + 0 ≤ _)⟩)
    dsimp only [Pt.U, Pt.locs, Pt.cells, Pt.slots] at X140 l140 y140 z140 st140 hQ140
    subst l140 y140 z140
    obtain ⟨hv140, N140q, e140⟩ := hQ140
    rw [show own_pick (6 : Int32) o0 o1 o2 o3 o4 o5 o6 o7 = o6 from rfl] at hv140
    subst hv140
    have N140 := Fr.app N0 N140q
    have pre141 : ∀ t, Steps p.tables e below (T140.setTop (mkF m 45 #[.val (.int p0), .val (.int p1), .val (.int (6 : Int32)), .val (.ref o6), .val (.int (0 : Int32)), .unset, .unset, .unset, .unset, .unset] [(.int (p1 &&& (1 : Int32)))])) t → Steps p.tables e below (s₁.setTop (entryFrame m #[(.int p0), (.int p1)] maxLocals)) t := fun t k => by
      refine pre1 t ?_
      show Steps p.tables e below (s₁.setTop (mkF m 5 #[.val (.int p0), .val (.int p1), .val (.int (6 : Int32)), .unset, .unset, .unset, .unset, .unset, .unset, .unset] [])) _
      refine XS.iloadN X0.here hx rfl (hb hby at_5) rfl ?_
      show Steps p.tables e below (s₁.setTop (mkF m 6 #[.val (.int p0), .val (.int p1), .val (.int (6 : Int32)), .unset, .unset, .unset, .unset, .unset, .unset, .unset] [(.int (6 : Int32))])) _
      refine st140 _ ?_
      show Steps p.tables e below (T140.setTop (mkF m 9 #[.val (.int p0), .val (.int p1), .val (.int (6 : Int32)), .unset, .unset, .unset, .unset, .unset, .unset, .unset] [(.ref o6)])) _
      refine XS.astoreN X140.here hx rfl (hb hby at_9) rfl rfl (l' := #[.val (.int p0), .val (.int p1), .val (.int (6 : Int32)), .val (.ref o6), .unset, .unset, .unset, .unset, .unset, .unset]) rfl ?_
      show Steps p.tables e below (T140.setTop (mkF m 10 #[.val (.int p0), .val (.int p1), .val (.int (6 : Int32)), .val (.ref o6), .unset, .unset, .unset, .unset, .unset, .unset] [])) _
      refine XS.iloadN X140.here hx rfl (hb hby at_10) rfl ?_
      show Steps p.tables e below (T140.setTop (mkF m 11 #[.val (.int p0), .val (.int p1), .val (.int (6 : Int32)), .val (.ref o6), .unset, .unset, .unset, .unset, .unset, .unset] [(.int (6 : Int32))])) _
      refine XS.iconst X140.here hx rfl (hb hby at_11) ?_
      show Steps p.tables e below (T140.setTop (mkF m 12 #[.val (.int p0), .val (.int p1), .val (.int (6 : Int32)), .val (.ref o6), .unset, .unset, .unset, .unset, .unset, .unset] [(.int (4 : Int32)), (.int (6 : Int32))])) _
      refine XS.icmpYes X140.here hx rfl (pc0 := 12) (pc' := 28) rfl (hb hby at_12) rfl (flt (by decide : ¬ ((6 : Int32) < (4 : Int32)))).2.1 (by decide) (by decide) ?_
      show Steps p.tables e below (T140.setTop (mkF m 28 #[.val (.int p0), .val (.int p1), .val (.int (6 : Int32)), .val (.ref o6), .unset, .unset, .unset, .unset, .unset, .unset] [])) _
      refine XS.iloadN X140.here hx rfl (hb hby at_28) rfl ?_
      show Steps p.tables e below (T140.setTop (mkF m 29 #[.val (.int p0), .val (.int p1), .val (.int (6 : Int32)), .val (.ref o6), .unset, .unset, .unset, .unset, .unset, .unset] [(.int (6 : Int32))])) _
      refine XS.iconst X140.here hx rfl (hb hby at_29) ?_
      show Steps p.tables e below (T140.setTop (mkF m 30 #[.val (.int p0), .val (.int p1), .val (.int (6 : Int32)), .val (.ref o6), .unset, .unset, .unset, .unset, .unset, .unset] [(.int (1 : Int32)), (.int (6 : Int32))])) _
      refine XS.iand X140.here hx rfl (hb hby at_30) rfl ?_
      show Steps p.tables e below (T140.setTop (mkF m 31 #[.val (.int p0), .val (.int p1), .val (.int (6 : Int32)), .val (.ref o6), .unset, .unset, .unset, .unset, .unset, .unset] [(.int (0 : Int32))])) _
      refine XS.iconst X140.here hx rfl (hb hby at_31) ?_
      show Steps p.tables e below (T140.setTop (mkF m 32 #[.val (.int p0), .val (.int p1), .val (.int (6 : Int32)), .val (.ref o6), .unset, .unset, .unset, .unset, .unset, .unset] [(.int (1 : Int32)), (.int (0 : Int32))])) _
      refine XS.icmpYes X140.here hx rfl (pc0 := 32) (pc' := 39) rfl (hb hby at_32) rfl (feq (by decide : ¬ ((0 : Int32) = (1 : Int32)))).2 (by decide) (by decide) ?_
      show Steps p.tables e below (T140.setTop (mkF m 39 #[.val (.int p0), .val (.int p1), .val (.int (6 : Int32)), .val (.ref o6), .unset, .unset, .unset, .unset, .unset, .unset] [])) _
      refine XS.iconst X140.here hx rfl (hb hby at_39) ?_
      show Steps p.tables e below (T140.setTop (mkF m 40 #[.val (.int p0), .val (.int p1), .val (.int (6 : Int32)), .val (.ref o6), .unset, .unset, .unset, .unset, .unset, .unset] [(.int (0 : Int32))])) _
      refine XS.istore X140.here hx rfl (hb hby at_40) rfl (l' := #[.val (.int p0), .val (.int p1), .val (.int (6 : Int32)), .val (.ref o6), .val (.int (0 : Int32)), .unset, .unset, .unset, .unset, .unset]) rfl ?_
      show Steps p.tables e below (T140.setTop (mkF m 42 #[.val (.int p0), .val (.int p1), .val (.int (6 : Int32)), .val (.ref o6), .val (.int (0 : Int32)), .unset, .unset, .unset, .unset, .unset] [])) _
      refine XS.iloadN X140.here hx rfl (hb hby at_42) rfl ?_
      show Steps p.tables e below (T140.setTop (mkF m 43 #[.val (.int p0), .val (.int p1), .val (.int (6 : Int32)), .val (.ref o6), .val (.int (0 : Int32)), .unset, .unset, .unset, .unset, .unset] [(.int p1)])) _
      refine XS.iconst X140.here hx rfl (hb hby at_43) ?_
      show Steps p.tables e below (T140.setTop (mkF m 44 #[.val (.int p0), .val (.int p1), .val (.int (6 : Int32)), .val (.ref o6), .val (.int (0 : Int32)), .unset, .unset, .unset, .unset, .unset] [(.int (1 : Int32)), (.int p1)])) _
      refine XS.iand X140.here hx rfl (hb hby at_44) rfl ?_
      exact k
    by_cases hc142 : (p1 &&& (1 : Int32)) = (0 : Int32)
    · have pre143 : ∀ t, Steps p.tables e below (T140.setTop (mkF m 58 #[.val (.int p0), .val (.int p1), .val (.int (6 : Int32)), .val (.ref o6), .val (.int (0 : Int32)), .val (.int (0 : Int32)), .unset, .unset, .unset, .unset] [(.int (p1 &&& (2 : Int32)))])) t → Steps p.tables e below (s₁.setTop (entryFrame m #[(.int p0), (.int p1)] maxLocals)) t := fun t k => by
        refine pre141 t ?_
        show Steps p.tables e below (T140.setTop (mkF m 45 #[.val (.int p0), .val (.int p1), .val (.int (6 : Int32)), .val (.ref o6), .val (.int (0 : Int32)), .unset, .unset, .unset, .unset, .unset] [(.int (p1 &&& (1 : Int32)))])) _
        refine XS.ifYes X140.here hx rfl (pc0 := 45) (pc' := 52) rfl (hb hby at_45) rfl ((if0 _ _).trans (teq hc142).1) (by decide) (by decide) ?_
        show Steps p.tables e below (T140.setTop (mkF m 52 #[.val (.int p0), .val (.int p1), .val (.int (6 : Int32)), .val (.ref o6), .val (.int (0 : Int32)), .unset, .unset, .unset, .unset, .unset] [])) _
        refine XS.iconst X140.here hx rfl (hb hby at_52) ?_
        show Steps p.tables e below (T140.setTop (mkF m 53 #[.val (.int p0), .val (.int p1), .val (.int (6 : Int32)), .val (.ref o6), .val (.int (0 : Int32)), .unset, .unset, .unset, .unset, .unset] [(.int (0 : Int32))])) _
        refine XS.istore X140.here hx rfl (hb hby at_53) rfl (l' := #[.val (.int p0), .val (.int p1), .val (.int (6 : Int32)), .val (.ref o6), .val (.int (0 : Int32)), .val (.int (0 : Int32)), .unset, .unset, .unset, .unset]) rfl ?_
        show Steps p.tables e below (T140.setTop (mkF m 55 #[.val (.int p0), .val (.int p1), .val (.int (6 : Int32)), .val (.ref o6), .val (.int (0 : Int32)), .val (.int (0 : Int32)), .unset, .unset, .unset, .unset] [])) _
        refine XS.iloadN X140.here hx rfl (hb hby at_55) rfl ?_
        show Steps p.tables e below (T140.setTop (mkF m 56 #[.val (.int p0), .val (.int p1), .val (.int (6 : Int32)), .val (.ref o6), .val (.int (0 : Int32)), .val (.int (0 : Int32)), .unset, .unset, .unset, .unset] [(.int p1)])) _
        refine XS.iconst X140.here hx rfl (hb hby at_56) ?_
        show Steps p.tables e below (T140.setTop (mkF m 57 #[.val (.int p0), .val (.int p1), .val (.int (6 : Int32)), .val (.ref o6), .val (.int (0 : Int32)), .val (.int (0 : Int32)), .unset, .unset, .unset, .unset] [(.int (2 : Int32)), (.int p1)])) _
        refine XS.iand X140.here hx rfl (hb hby at_57) rfl ?_
        exact k
      by_cases hc144 : (p1 &&& (2 : Int32)) = (0 : Int32)
      · obtain ⟨_, _, ⟨T145, L145, k145, n145⟩, -, X145, ⟨Lc145, hQ145, l145, y145, z145⟩, st145⟩ := Jvm.LawKit.callS X140 hx (y := (⟨"com/example/unanimity/unanimity/engine/Outcome", "forced", "(ZZ)Lcom/example/unanimity/unanimity/engine/Outcome;"⟩ : MethodName)) hown (mvT hZ (hw _ (List.mem_of_getElem? (i := 7) rfl))) (mvT hZ (hw _ (List.mem_of_getElem? (i := 8) rfl))) (mvT hZ (hw _ (List.mem_of_getElem? (i := 5) rfl))) (mvT hZ (hw _ (List.mem_of_getElem? (i := 9) rfl))) (by decide) (backOf (W := 0) (rm2 l Z aw hw [] (0 : Int32) (0 : Int32) o0 o1 o2 o3 o4 o5 o6 o7 h0 n0 Z0 S_COMMITTED S_ABORTED S_IN_DOUBT S_UNKNOWN S_FORCED_COMMIT S_FORCED_ABORT S_FORCED_COMMIT_CONFLICT S_FORCED_ABORT_CONFLICT) hZ (hw _ (List.mem_of_getElem? (i := 9) rfl)) (hw _ (List.mem_of_getElem? (i := 5) rfl)) (by decide) (by decide)) (g := (mkF m 72 #[.val (.int p0), .val (.int p1), .val (.int (6 : Int32)), .val (.ref o6), .val (.int (0 : Int32)), .val (.int (0 : Int32)), .val (.int (0 : Int32)), .unset, .unset, .unset] [(.int (0 : Int32)), (.int (0 : Int32))])) rfl (by rw [hml]; rfl) (argsL := [(.int (0 : Int32)), (.int (0 : Int32))]) (rest := []) (lenOf pd_1 rfl) rfl (by show 2 * 0 + _ ≤ _; exact Nat.le_of_eq rfl) (hb hby at_72) (fun _ _ => ⟨rfl, e140, (by decide : 0 + 0 ≤ _), (by decide : 0 + 0 ≤ _)⟩)
        dsimp only [Pt.U, Pt.locs, Pt.cells, Pt.slots] at X145 l145 y145 z145 st145 hQ145
        subst l145 y145 z145
        obtain ⟨hv145, N145q, e145⟩ := hQ145
        rw [show own_forced (0 : Int32) (0 : Int32) o4 o5 o6 o7 = o5 from rfl] at hv145
        subst hv145
        have N145 := Fr.app N140 N145q
        obtain ⟨cq146, kq146, q146a, q146b, q146c⟩ := isOf hZ e145 E6
        obtain ⟨_, _, ⟨T146, L146, k146, n146⟩, -, X146, ⟨Lc146, hQ146, l146, y146, z146⟩, st146⟩ := X145.virtualBack hx (y := (⟨"com/example/unanimity/unanimity/engine/Outcome", "abortedHere", "()Z"⟩ : MethodName)) (z := (⟨"com/example/unanimity/unanimity/engine/Outcome", "abortedHere", "()Z"⟩ : MethodName)) hown (mvT hZ (hw _ (List.mem_of_getElem? (i := 12) rfl))) (mvT hZ (hw _ (List.mem_of_getElem? (i := 13) rfl))) (notFace_of_selects (args := #[]) (mvT hZ (hw _ (List.mem_of_getElem? (i := 15) rfl)))) (mvT hZ (hw _ (List.mem_of_getElem? (i := 15) rfl))) (mvT hZ (hw _ (List.mem_of_getElem? (i := 14) rfl))) (by decide) (backOf (W := 0) (rm3 l Z aw hw [] o6 o0 o1 o2 o3 o4 o5 o6 o7 h0 n0 Z0 S_COMMITTED S_ABORTED S_IN_DOUBT S_UNKNOWN S_FORCED_COMMIT S_FORCED_ABORT S_FORCED_COMMIT_CONFLICT S_FORCED_ABORT_CONFLICT) hZ (hw _ (List.mem_of_getElem? (i := 16) rfl)) (hw _ (List.mem_of_getElem? (i := 5) rfl)) (by decide) (by decide)) q146a q146c (g := (mkF m 78 #[.val (.int p0), .val (.int p1), .val (.int (6 : Int32)), .val (.ref o6), .val (.int (0 : Int32)), .val (.int (0 : Int32)), .val (.int (0 : Int32)), .val (.ref o5), .unset, .unset] [(.ref o6)])) rfl (by rw [hml]; rfl) (Steps.refl _) (argsL := []) (rest := []) (lenOf pd_2 rfl) rfl (by show 2 * 0 + _ ≤ _; exact Nat.le_of_eq rfl) (hb hby at_78) (fun _ _ => ⟨rfl, e145, (by decide : 0 + 0 ≤ _), (by decide : 0 + 0 ≤ _)⟩)
        dsimp only [Pt.U, Pt.locs, Pt.cells, Pt.slots] at X146 l146 y146 z146 st146 hQ146
        subst l146 y146 z146
        obtain ⟨hv146, N146q, e146⟩ := hQ146
        rw [own_three_no (Ne.symm d1_6) (Ne.symm d5_6) d6_7] at hv146
        subst hv146
        have N146 := Fr.app N145 N146q
        obtain ⟨cq147, kq147, q147a, q147b, q147c⟩ := isOf hZ e146 E6
        obtain ⟨_, _, ⟨T147, L147, k147, n147⟩, -, X147, ⟨Lc147, hQ147, l147, y147, z147⟩, st147⟩ := X146.virtualBack hx (y := (⟨"com/example/unanimity/unanimity/engine/Outcome", "committedHere", "()Z"⟩ : MethodName)) (z := (⟨"com/example/unanimity/unanimity/engine/Outcome", "committedHere", "()Z"⟩ : MethodName)) hown (mvT hZ (hw _ (List.mem_of_getElem? (i := 23) rfl))) (mvT hZ (hw _ (List.mem_of_getElem? (i := 24) rfl))) (notFace_of_selects (args := #[]) (mvT hZ (hw _ (List.mem_of_getElem? (i := 26) rfl)))) (mvT hZ (hw _ (List.mem_of_getElem? (i := 26) rfl))) (mvT hZ (hw _ (List.mem_of_getElem? (i := 25) rfl))) (by decide) (backOf (W := 0) (rm4 l Z aw hw [] o6 o0 o1 o2 o3 o4 o5 o6 o7 h0 n0 Z0 S_COMMITTED S_ABORTED S_IN_DOUBT S_UNKNOWN S_FORCED_COMMIT S_FORCED_ABORT S_FORCED_COMMIT_CONFLICT S_FORCED_ABORT_CONFLICT) hZ (hw _ (List.mem_of_getElem? (i := 27) rfl)) (hw _ (List.mem_of_getElem? (i := 5) rfl)) (by decide) (by decide)) q147a q147c (g := (mkF m 84 #[.val (.int p0), .val (.int p1), .val (.int (6 : Int32)), .val (.ref o6), .val (.int (0 : Int32)), .val (.int (0 : Int32)), .val (.int (0 : Int32)), .val (.ref o5), .val (.int (0 : Int32)), .unset] [(.ref o6)])) rfl (by rw [hml]; rfl) (Steps.refl _) (argsL := []) (rest := []) (lenOf pd_2 rfl) rfl (by show 2 * 0 + _ ≤ _; exact Nat.le_of_eq rfl) (hb hby at_84) (fun _ _ => ⟨rfl, e146, (by decide : 0 + 0 ≤ _), (by decide : 0 + 0 ≤ _)⟩)
        dsimp only [Pt.U, Pt.locs, Pt.cells, Pt.slots] at X147 l147 y147 z147 st147 hQ147
        subst l147 y147 z147
        obtain ⟨hv147, N147q, e147⟩ := hQ147
        rw [own_three_hit3] at hv147
        subst hv147
        have N147 := Fr.app N146 N147q
        obtain ⟨cq148, kq148, q148a, q148b, q148c⟩ := isOf hZ e147 E5
        obtain ⟨_, _, ⟨T148, L148, k148, n148⟩, -, X148, ⟨Lc148, hQ148, l148, y148, z148⟩, st148⟩ := X147.virtualBack hx (y := (⟨"com/example/unanimity/unanimity/engine/Outcome", "abortedHere", "()Z"⟩ : MethodName)) (z := (⟨"com/example/unanimity/unanimity/engine/Outcome", "abortedHere", "()Z"⟩ : MethodName)) hown (mvT hZ (hw _ (List.mem_of_getElem? (i := 12) rfl))) (mvT hZ (hw _ (List.mem_of_getElem? (i := 13) rfl))) (notFace_of_selects (args := #[]) (mvT hZ (hw _ (List.mem_of_getElem? (i := 15) rfl)))) (mvT hZ (hw _ (List.mem_of_getElem? (i := 15) rfl))) (mvT hZ (hw _ (List.mem_of_getElem? (i := 14) rfl))) (by decide) (backOf (W := 0) (rm3 l Z aw hw [] o5 o0 o1 o2 o3 o4 o5 o6 o7 h0 n0 Z0 S_COMMITTED S_ABORTED S_IN_DOUBT S_UNKNOWN S_FORCED_COMMIT S_FORCED_ABORT S_FORCED_COMMIT_CONFLICT S_FORCED_ABORT_CONFLICT) hZ (hw _ (List.mem_of_getElem? (i := 16) rfl)) (hw _ (List.mem_of_getElem? (i := 5) rfl)) (by decide) (by decide)) q148a q148c (g := (mkF m 98 #[.val (.int p0), .val (.int p1), .val (.int (6 : Int32)), .val (.ref o6), .val (.int (0 : Int32)), .val (.int (0 : Int32)), .val (.int (0 : Int32)), .val (.ref o5), .val (.int (0 : Int32)), .val (.int (1 : Int32))] [(.ref o5)])) rfl (by rw [hml]; rfl) (Steps.refl _) (argsL := []) (rest := []) (lenOf pd_2 rfl) rfl (by show 2 * 0 + _ ≤ _; exact Nat.le_of_eq rfl) (hb hby at_98) (fun _ _ => ⟨rfl, e147, (by decide : 0 + 0 ≤ _), (by decide : 0 + 0 ≤ _)⟩)
        dsimp only [Pt.U, Pt.locs, Pt.cells, Pt.slots] at X148 l148 y148 z148 st148 hQ148
        subst l148 y148 z148
        obtain ⟨hv148, N148q, e148⟩ := hQ148
        rw [own_three_hit2] at hv148
        subst hv148
        have N148 := Fr.app N147 N148q
        obtain ⟨fs, hr, hrun, hended, hW, hsame⟩ := X148.leave (v := some (.int (1 : Int32))) (fun h => by rw [Bd.returns] at h; cases h)
        refine ⟨_, _, pre143 _ ?_, hrun, hended, _, _, rfl, ?_, ⟨_, rfl⟩, hW, hsame.mono (by decide) (by decide)⟩
        · show Steps p.tables e below (T140.setTop (mkF m 58 #[.val (.int p0), .val (.int p1), .val (.int (6 : Int32)), .val (.ref o6), .val (.int (0 : Int32)), .val (.int (0 : Int32)), .unset, .unset, .unset, .unset] [(.int (p1 &&& (2 : Int32)))])) _
          refine XS.ifYes X140.here hx rfl (pc0 := 58) (pc' := 65) rfl (hb hby at_58) rfl ((if0 _ _).trans (teq hc144).1) (by decide) (by decide) ?_
          show Steps p.tables e below (T140.setTop (mkF m 65 #[.val (.int p0), .val (.int p1), .val (.int (6 : Int32)), .val (.ref o6), .val (.int (0 : Int32)), .val (.int (0 : Int32)), .unset, .unset, .unset, .unset] [])) _
          refine XS.iconst X140.here hx rfl (hb hby at_65) ?_
          show Steps p.tables e below (T140.setTop (mkF m 66 #[.val (.int p0), .val (.int p1), .val (.int (6 : Int32)), .val (.ref o6), .val (.int (0 : Int32)), .val (.int (0 : Int32)), .unset, .unset, .unset, .unset] [(.int (0 : Int32))])) _
          refine XS.istore X140.here hx rfl (hb hby at_66) rfl (l' := #[.val (.int p0), .val (.int p1), .val (.int (6 : Int32)), .val (.ref o6), .val (.int (0 : Int32)), .val (.int (0 : Int32)), .val (.int (0 : Int32)), .unset, .unset, .unset]) rfl ?_
          show Steps p.tables e below (T140.setTop (mkF m 68 #[.val (.int p0), .val (.int p1), .val (.int (6 : Int32)), .val (.ref o6), .val (.int (0 : Int32)), .val (.int (0 : Int32)), .val (.int (0 : Int32)), .unset, .unset, .unset] [])) _
          refine XS.iload X140.here hx rfl (hb hby at_68) rfl ?_
          show Steps p.tables e below (T140.setTop (mkF m 70 #[.val (.int p0), .val (.int p1), .val (.int (6 : Int32)), .val (.ref o6), .val (.int (0 : Int32)), .val (.int (0 : Int32)), .val (.int (0 : Int32)), .unset, .unset, .unset] [(.int (0 : Int32))])) _
          refine XS.iload X140.here hx rfl (hb hby at_70) rfl ?_
          show Steps p.tables e below (T140.setTop (mkF m 72 #[.val (.int p0), .val (.int p1), .val (.int (6 : Int32)), .val (.ref o6), .val (.int (0 : Int32)), .val (.int (0 : Int32)), .val (.int (0 : Int32)), .unset, .unset, .unset] [(.int (0 : Int32)), (.int (0 : Int32))])) _
          refine st145 _ ?_
          show Steps p.tables e below (T145.setTop (mkF m 75 #[.val (.int p0), .val (.int p1), .val (.int (6 : Int32)), .val (.ref o6), .val (.int (0 : Int32)), .val (.int (0 : Int32)), .val (.int (0 : Int32)), .unset, .unset, .unset] [(.ref o5)])) _
          refine XS.astore X145.here hx rfl (hb hby at_75) rfl rfl (l' := #[.val (.int p0), .val (.int p1), .val (.int (6 : Int32)), .val (.ref o6), .val (.int (0 : Int32)), .val (.int (0 : Int32)), .val (.int (0 : Int32)), .val (.ref o5), .unset, .unset]) rfl ?_
          show Steps p.tables e below (T145.setTop (mkF m 77 #[.val (.int p0), .val (.int p1), .val (.int (6 : Int32)), .val (.ref o6), .val (.int (0 : Int32)), .val (.int (0 : Int32)), .val (.int (0 : Int32)), .val (.ref o5), .unset, .unset] [])) _
          refine XS.aloadN X145.here hx rfl (hb hby at_77) rfl rfl ?_
          show Steps p.tables e below (T145.setTop (mkF m 78 #[.val (.int p0), .val (.int p1), .val (.int (6 : Int32)), .val (.ref o6), .val (.int (0 : Int32)), .val (.int (0 : Int32)), .val (.int (0 : Int32)), .val (.ref o5), .unset, .unset] [(.ref o6)])) _
          refine st146.trans ?_
          show Steps p.tables e below (T146.setTop (mkF m 81 #[.val (.int p0), .val (.int p1), .val (.int (6 : Int32)), .val (.ref o6), .val (.int (0 : Int32)), .val (.int (0 : Int32)), .val (.int (0 : Int32)), .val (.ref o5), .unset, .unset] [(.int (0 : Int32))])) _
          refine XS.istore X146.here hx rfl (hb hby at_81) rfl (l' := #[.val (.int p0), .val (.int p1), .val (.int (6 : Int32)), .val (.ref o6), .val (.int (0 : Int32)), .val (.int (0 : Int32)), .val (.int (0 : Int32)), .val (.ref o5), .val (.int (0 : Int32)), .unset]) rfl ?_
          show Steps p.tables e below (T146.setTop (mkF m 83 #[.val (.int p0), .val (.int p1), .val (.int (6 : Int32)), .val (.ref o6), .val (.int (0 : Int32)), .val (.int (0 : Int32)), .val (.int (0 : Int32)), .val (.ref o5), .val (.int (0 : Int32)), .unset] [])) _
          refine XS.aloadN X146.here hx rfl (hb hby at_83) rfl rfl ?_
          show Steps p.tables e below (T146.setTop (mkF m 84 #[.val (.int p0), .val (.int p1), .val (.int (6 : Int32)), .val (.ref o6), .val (.int (0 : Int32)), .val (.int (0 : Int32)), .val (.int (0 : Int32)), .val (.ref o5), .val (.int (0 : Int32)), .unset] [(.ref o6)])) _
          refine st147.trans ?_
          show Steps p.tables e below (T147.setTop (mkF m 87 #[.val (.int p0), .val (.int p1), .val (.int (6 : Int32)), .val (.ref o6), .val (.int (0 : Int32)), .val (.int (0 : Int32)), .val (.int (0 : Int32)), .val (.ref o5), .val (.int (0 : Int32)), .unset] [(.int (1 : Int32))])) _
          refine XS.istore X147.here hx rfl (hb hby at_87) rfl (l' := #[.val (.int p0), .val (.int p1), .val (.int (6 : Int32)), .val (.ref o6), .val (.int (0 : Int32)), .val (.int (0 : Int32)), .val (.int (0 : Int32)), .val (.ref o5), .val (.int (0 : Int32)), .val (.int (1 : Int32))]) rfl ?_
          show Steps p.tables e below (T147.setTop (mkF m 89 #[.val (.int p0), .val (.int p1), .val (.int (6 : Int32)), .val (.ref o6), .val (.int (0 : Int32)), .val (.int (0 : Int32)), .val (.int (0 : Int32)), .val (.ref o5), .val (.int (0 : Int32)), .val (.int (1 : Int32))] [])) _
          refine XS.iload X147.here hx rfl (hb hby at_89) rfl ?_
          show Steps p.tables e below (T147.setTop (mkF m 91 #[.val (.int p0), .val (.int p1), .val (.int (6 : Int32)), .val (.ref o6), .val (.int (0 : Int32)), .val (.int (0 : Int32)), .val (.int (0 : Int32)), .val (.ref o5), .val (.int (0 : Int32)), .val (.int (1 : Int32))] [(.int (0 : Int32))])) _
          refine XS.iload X147.here hx rfl (hb hby at_91) rfl ?_
          show Steps p.tables e below (T147.setTop (mkF m 93 #[.val (.int p0), .val (.int p1), .val (.int (6 : Int32)), .val (.ref o6), .val (.int (0 : Int32)), .val (.int (0 : Int32)), .val (.int (0 : Int32)), .val (.ref o5), .val (.int (0 : Int32)), .val (.int (1 : Int32))] [(.int (0 : Int32)), (.int (0 : Int32))])) _
          refine XS.icmpNo X147.here hx rfl (hb hby at_93) rfl (teq (by decide : (0 : Int32) = (0 : Int32))).2 ?_
          show Steps p.tables e below (T147.setTop (mkF m 96 #[.val (.int p0), .val (.int p1), .val (.int (6 : Int32)), .val (.ref o6), .val (.int (0 : Int32)), .val (.int (0 : Int32)), .val (.int (0 : Int32)), .val (.ref o5), .val (.int (0 : Int32)), .val (.int (1 : Int32))] [])) _
          refine XS.aload X147.here hx rfl (hb hby at_96) rfl rfl ?_
          show Steps p.tables e below (T147.setTop (mkF m 98 #[.val (.int p0), .val (.int p1), .val (.int (6 : Int32)), .val (.ref o6), .val (.int (0 : Int32)), .val (.int (0 : Int32)), .val (.int (0 : Int32)), .val (.ref o5), .val (.int (0 : Int32)), .val (.int (1 : Int32))] [(.ref o5)])) _
          refine st148.trans ?_
          show Steps p.tables e below (T148.setTop (mkF m 101 #[.val (.int p0), .val (.int p1), .val (.int (6 : Int32)), .val (.ref o6), .val (.int (0 : Int32)), .val (.int (0 : Int32)), .val (.int (0 : Int32)), .val (.ref o5), .val (.int (0 : Int32)), .val (.int (1 : Int32))] [(.int (1 : Int32))])) _
          refine XS.iload X148.here hx rfl (hb hby at_101) rfl ?_
          show Steps p.tables e below (T148.setTop (mkF m 103 #[.val (.int p0), .val (.int p1), .val (.int (6 : Int32)), .val (.ref o6), .val (.int (0 : Int32)), .val (.int (0 : Int32)), .val (.int (0 : Int32)), .val (.ref o5), .val (.int (0 : Int32)), .val (.int (1 : Int32))] [(.int (0 : Int32)), (.int (1 : Int32))])) _
          refine XS.ifNo X148.here hx rfl (hb hby at_103) rfl ((if0 _ _).trans (teq (by decide : (0 : Int32) = (0 : Int32))).2) ?_
          show Steps p.tables e below (T148.setTop (mkF m 106 #[.val (.int p0), .val (.int p1), .val (.int (6 : Int32)), .val (.ref o6), .val (.int (0 : Int32)), .val (.int (0 : Int32)), .val (.int (0 : Int32)), .val (.ref o5), .val (.int (0 : Int32)), .val (.int (1 : Int32))] [(.int (1 : Int32))])) _
          refine XS.iconst X148.here hx rfl (hb hby at_106) ?_
          show Steps p.tables e below (T148.setTop (mkF m 107 #[.val (.int p0), .val (.int p1), .val (.int (6 : Int32)), .val (.ref o6), .val (.int (0 : Int32)), .val (.int (0 : Int32)), .val (.int (0 : Int32)), .val (.ref o5), .val (.int (0 : Int32)), .val (.int (1 : Int32))] [(.int (1 : Int32)), (.int (1 : Int32))])) _
          refine XS.goto X148.here hx rfl (pc0 := 107) (pc' := 111) rfl (hb hby at_107) (by decide) (by decide) ?_
          show Steps p.tables e below (T148.setTop (mkF m 111 #[.val (.int p0), .val (.int p1), .val (.int (6 : Int32)), .val (.ref o6), .val (.int (0 : Int32)), .val (.int (0 : Int32)), .val (.int (0 : Int32)), .val (.ref o5), .val (.int (0 : Int32)), .val (.int (1 : Int32))] [(.int (1 : Int32)), (.int (1 : Int32))])) _
          refine XS.icmpNo X148.here hx rfl (hb hby at_111) rfl (teq (by decide : (1 : Int32) = (1 : Int32))).2 ?_
          show Steps p.tables e below (T148.setTop (mkF m 114 #[.val (.int p0), .val (.int p1), .val (.int (6 : Int32)), .val (.ref o6), .val (.int (0 : Int32)), .val (.int (0 : Int32)), .val (.int (0 : Int32)), .val (.ref o5), .val (.int (0 : Int32)), .val (.int (1 : Int32))] [])) _
          refine XS.iload X148.here hx rfl (hb hby at_114) rfl ?_
          show Steps p.tables e below (T148.setTop (mkF m 116 #[.val (.int p0), .val (.int p1), .val (.int (6 : Int32)), .val (.ref o6), .val (.int (0 : Int32)), .val (.int (0 : Int32)), .val (.int (0 : Int32)), .val (.ref o5), .val (.int (0 : Int32)), .val (.int (1 : Int32))] [(.int (0 : Int32))])) _
          refine XS.ifYes X148.here hx rfl (pc0 := 116) (pc' := 124) rfl (hb hby at_116) rfl ((if0 _ _).trans (teq (by decide : (0 : Int32) = (0 : Int32))).1) (by decide) (by decide) ?_
          show Steps p.tables e below (T148.setTop (mkF m 124 #[.val (.int p0), .val (.int p1), .val (.int (6 : Int32)), .val (.ref o6), .val (.int (0 : Int32)), .val (.int (0 : Int32)), .val (.int (0 : Int32)), .val (.ref o5), .val (.int (0 : Int32)), .val (.int (1 : Int32))] [])) _
          refine XS.iconst X148.here hx rfl (hb hby at_124) ?_
          show Steps p.tables e below (T148.setTop (mkF m 125 #[.val (.int p0), .val (.int p1), .val (.int (6 : Int32)), .val (.ref o6), .val (.int (0 : Int32)), .val (.int (0 : Int32)), .val (.int (0 : Int32)), .val (.ref o5), .val (.int (0 : Int32)), .val (.int (1 : Int32))] [(.int (1 : Int32))])) _
          refine XS.goto X148.here hx rfl (pc0 := 125) (pc' := 129) rfl (hb hby at_125) (by decide) (by decide) ?_
          show Steps p.tables e below (T148.setTop (mkF m 129 #[.val (.int p0), .val (.int p1), .val (.int (6 : Int32)), .val (.ref o6), .val (.int (0 : Int32)), .val (.int (0 : Int32)), .val (.int (0 : Int32)), .val (.ref o5), .val (.int (0 : Int32)), .val (.int (1 : Int32))] [(.int (1 : Int32))])) _
          exact retN X148 hx (t := .boolean) Bd.returns (by simp) (hb hby at_129) hr
        · show Q0 Z p0 p1 o0 o1 o2 o3 o4 o5 o6 o7 h0 n0 _ T148.heap _
          rw [e148]
          exact ⟨rfl, N148⟩
      · obtain ⟨_, _, ⟨T149, L149, k149, n149⟩, -, X149, ⟨Lc149, hQ149, l149, y149, z149⟩, st149⟩ := Jvm.LawKit.callS X140 hx (y := (⟨"com/example/unanimity/unanimity/engine/Outcome", "forced", "(ZZ)Lcom/example/unanimity/unanimity/engine/Outcome;"⟩ : MethodName)) hown (mvT hZ (hw _ (List.mem_of_getElem? (i := 7) rfl))) (mvT hZ (hw _ (List.mem_of_getElem? (i := 8) rfl))) (mvT hZ (hw _ (List.mem_of_getElem? (i := 5) rfl))) (mvT hZ (hw _ (List.mem_of_getElem? (i := 9) rfl))) (by decide) (backOf (W := 0) (rm2 l Z aw hw [] (0 : Int32) (1 : Int32) o0 o1 o2 o3 o4 o5 o6 o7 h0 n0 Z0 S_COMMITTED S_ABORTED S_IN_DOUBT S_UNKNOWN S_FORCED_COMMIT S_FORCED_ABORT S_FORCED_COMMIT_CONFLICT S_FORCED_ABORT_CONFLICT) hZ (hw _ (List.mem_of_getElem? (i := 9) rfl)) (hw _ (List.mem_of_getElem? (i := 5) rfl)) (by decide) (by decide)) (g := (mkF m 72 #[.val (.int p0), .val (.int p1), .val (.int (6 : Int32)), .val (.ref o6), .val (.int (0 : Int32)), .val (.int (0 : Int32)), .val (.int (1 : Int32)), .unset, .unset, .unset] [(.int (1 : Int32)), (.int (0 : Int32))])) rfl (by rw [hml]; rfl) (argsL := [(.int (0 : Int32)), (.int (1 : Int32))]) (rest := []) (lenOf pd_1 rfl) rfl (by show 2 * 0 + _ ≤ _; exact Nat.le_of_eq rfl) (hb hby at_72) (fun _ _ => ⟨rfl, e140, (by decide : 0 + 0 ≤ _), (by decide : 0 + 0 ≤ _)⟩)
        dsimp only [Pt.U, Pt.locs, Pt.cells, Pt.slots] at X149 l149 y149 z149 st149 hQ149
        subst l149 y149 z149
        obtain ⟨hv149, N149q, e149⟩ := hQ149
        rw [show own_forced (0 : Int32) (1 : Int32) o4 o5 o6 o7 = o7 from rfl] at hv149
        subst hv149
        have N149 := Fr.app N140 N149q
        obtain ⟨cq150, kq150, q150a, q150b, q150c⟩ := isOf hZ e149 E6
        obtain ⟨_, _, ⟨T150, L150, k150, n150⟩, -, X150, ⟨Lc150, hQ150, l150, y150, z150⟩, st150⟩ := X149.virtualBack hx (y := (⟨"com/example/unanimity/unanimity/engine/Outcome", "abortedHere", "()Z"⟩ : MethodName)) (z := (⟨"com/example/unanimity/unanimity/engine/Outcome", "abortedHere", "()Z"⟩ : MethodName)) hown (mvT hZ (hw _ (List.mem_of_getElem? (i := 12) rfl))) (mvT hZ (hw _ (List.mem_of_getElem? (i := 13) rfl))) (notFace_of_selects (args := #[]) (mvT hZ (hw _ (List.mem_of_getElem? (i := 15) rfl)))) (mvT hZ (hw _ (List.mem_of_getElem? (i := 15) rfl))) (mvT hZ (hw _ (List.mem_of_getElem? (i := 14) rfl))) (by decide) (backOf (W := 0) (rm3 l Z aw hw [] o6 o0 o1 o2 o3 o4 o5 o6 o7 h0 n0 Z0 S_COMMITTED S_ABORTED S_IN_DOUBT S_UNKNOWN S_FORCED_COMMIT S_FORCED_ABORT S_FORCED_COMMIT_CONFLICT S_FORCED_ABORT_CONFLICT) hZ (hw _ (List.mem_of_getElem? (i := 16) rfl)) (hw _ (List.mem_of_getElem? (i := 5) rfl)) (by decide) (by decide)) q150a q150c (g := (mkF m 78 #[.val (.int p0), .val (.int p1), .val (.int (6 : Int32)), .val (.ref o6), .val (.int (0 : Int32)), .val (.int (0 : Int32)), .val (.int (1 : Int32)), .val (.ref o7), .unset, .unset] [(.ref o6)])) rfl (by rw [hml]; rfl) (Steps.refl _) (argsL := []) (rest := []) (lenOf pd_2 rfl) rfl (by show 2 * 0 + _ ≤ _; exact Nat.le_of_eq rfl) (hb hby at_78) (fun _ _ => ⟨rfl, e149, (by decide : 0 + 0 ≤ _), (by decide : 0 + 0 ≤ _)⟩)
        dsimp only [Pt.U, Pt.locs, Pt.cells, Pt.slots] at X150 l150 y150 z150 st150 hQ150
        subst l150 y150 z150
        obtain ⟨hv150, N150q, e150⟩ := hQ150
        rw [own_three_no (Ne.symm d1_6) (Ne.symm d5_6) d6_7] at hv150
        subst hv150
        have N150 := Fr.app N149 N150q
        obtain ⟨cq151, kq151, q151a, q151b, q151c⟩ := isOf hZ e150 E6
        obtain ⟨_, _, ⟨T151, L151, k151, n151⟩, -, X151, ⟨Lc151, hQ151, l151, y151, z151⟩, st151⟩ := X150.virtualBack hx (y := (⟨"com/example/unanimity/unanimity/engine/Outcome", "committedHere", "()Z"⟩ : MethodName)) (z := (⟨"com/example/unanimity/unanimity/engine/Outcome", "committedHere", "()Z"⟩ : MethodName)) hown (mvT hZ (hw _ (List.mem_of_getElem? (i := 23) rfl))) (mvT hZ (hw _ (List.mem_of_getElem? (i := 24) rfl))) (notFace_of_selects (args := #[]) (mvT hZ (hw _ (List.mem_of_getElem? (i := 26) rfl)))) (mvT hZ (hw _ (List.mem_of_getElem? (i := 26) rfl))) (mvT hZ (hw _ (List.mem_of_getElem? (i := 25) rfl))) (by decide) (backOf (W := 0) (rm4 l Z aw hw [] o6 o0 o1 o2 o3 o4 o5 o6 o7 h0 n0 Z0 S_COMMITTED S_ABORTED S_IN_DOUBT S_UNKNOWN S_FORCED_COMMIT S_FORCED_ABORT S_FORCED_COMMIT_CONFLICT S_FORCED_ABORT_CONFLICT) hZ (hw _ (List.mem_of_getElem? (i := 27) rfl)) (hw _ (List.mem_of_getElem? (i := 5) rfl)) (by decide) (by decide)) q151a q151c (g := (mkF m 84 #[.val (.int p0), .val (.int p1), .val (.int (6 : Int32)), .val (.ref o6), .val (.int (0 : Int32)), .val (.int (0 : Int32)), .val (.int (1 : Int32)), .val (.ref o7), .val (.int (0 : Int32)), .unset] [(.ref o6)])) rfl (by rw [hml]; rfl) (Steps.refl _) (argsL := []) (rest := []) (lenOf pd_2 rfl) rfl (by show 2 * 0 + _ ≤ _; exact Nat.le_of_eq rfl) (hb hby at_84) (fun _ _ => ⟨rfl, e150, (by decide : 0 + 0 ≤ _), (by decide : 0 + 0 ≤ _)⟩)
        dsimp only [Pt.U, Pt.locs, Pt.cells, Pt.slots] at X151 l151 y151 z151 st151 hQ151
        subst l151 y151 z151
        obtain ⟨hv151, N151q, e151⟩ := hQ151
        rw [own_three_hit3] at hv151
        subst hv151
        have N151 := Fr.app N150 N151q
        obtain ⟨cq152, kq152, q152a, q152b, q152c⟩ := isOf hZ e151 E7
        obtain ⟨_, _, ⟨T152, L152, k152, n152⟩, -, X152, ⟨Lc152, hQ152, l152, y152, z152⟩, st152⟩ := X151.virtualBack hx (y := (⟨"com/example/unanimity/unanimity/engine/Outcome", "abortedHere", "()Z"⟩ : MethodName)) (z := (⟨"com/example/unanimity/unanimity/engine/Outcome", "abortedHere", "()Z"⟩ : MethodName)) hown (mvT hZ (hw _ (List.mem_of_getElem? (i := 12) rfl))) (mvT hZ (hw _ (List.mem_of_getElem? (i := 13) rfl))) (notFace_of_selects (args := #[]) (mvT hZ (hw _ (List.mem_of_getElem? (i := 15) rfl)))) (mvT hZ (hw _ (List.mem_of_getElem? (i := 15) rfl))) (mvT hZ (hw _ (List.mem_of_getElem? (i := 14) rfl))) (by decide) (backOf (W := 0) (rm3 l Z aw hw [] o7 o0 o1 o2 o3 o4 o5 o6 o7 h0 n0 Z0 S_COMMITTED S_ABORTED S_IN_DOUBT S_UNKNOWN S_FORCED_COMMIT S_FORCED_ABORT S_FORCED_COMMIT_CONFLICT S_FORCED_ABORT_CONFLICT) hZ (hw _ (List.mem_of_getElem? (i := 16) rfl)) (hw _ (List.mem_of_getElem? (i := 5) rfl)) (by decide) (by decide)) q152a q152c (g := (mkF m 98 #[.val (.int p0), .val (.int p1), .val (.int (6 : Int32)), .val (.ref o6), .val (.int (0 : Int32)), .val (.int (0 : Int32)), .val (.int (1 : Int32)), .val (.ref o7), .val (.int (0 : Int32)), .val (.int (1 : Int32))] [(.ref o7)])) rfl (by rw [hml]; rfl) (Steps.refl _) (argsL := []) (rest := []) (lenOf pd_2 rfl) rfl (by show 2 * 0 + _ ≤ _; exact Nat.le_of_eq rfl) (hb hby at_98) (fun _ _ => ⟨rfl, e151, (by decide : 0 + 0 ≤ _), (by decide : 0 + 0 ≤ _)⟩)
        dsimp only [Pt.U, Pt.locs, Pt.cells, Pt.slots] at X152 l152 y152 z152 st152 hQ152
        subst l152 y152 z152
        obtain ⟨hv152, N152q, e152⟩ := hQ152
        rw [own_three_hit3] at hv152
        subst hv152
        have N152 := Fr.app N151 N152q
        obtain ⟨fs, hr, hrun, hended, hW, hsame⟩ := X152.leave (v := some (.int (1 : Int32))) (fun h => by rw [Bd.returns] at h; cases h)
        refine ⟨_, _, pre143 _ ?_, hrun, hended, _, _, rfl, ?_, ⟨_, rfl⟩, hW, hsame.mono (by decide) (by decide)⟩
        · show Steps p.tables e below (T140.setTop (mkF m 58 #[.val (.int p0), .val (.int p1), .val (.int (6 : Int32)), .val (.ref o6), .val (.int (0 : Int32)), .val (.int (0 : Int32)), .unset, .unset, .unset, .unset] [(.int (p1 &&& (2 : Int32)))])) _
          refine XS.ifNo X140.here hx rfl (hb hby at_58) rfl ((if0 _ _).trans (feq hc144).1) ?_
          show Steps p.tables e below (T140.setTop (mkF m 61 #[.val (.int p0), .val (.int p1), .val (.int (6 : Int32)), .val (.ref o6), .val (.int (0 : Int32)), .val (.int (0 : Int32)), .unset, .unset, .unset, .unset] [])) _
          refine XS.iconst X140.here hx rfl (hb hby at_61) ?_
          show Steps p.tables e below (T140.setTop (mkF m 62 #[.val (.int p0), .val (.int p1), .val (.int (6 : Int32)), .val (.ref o6), .val (.int (0 : Int32)), .val (.int (0 : Int32)), .unset, .unset, .unset, .unset] [(.int (1 : Int32))])) _
          refine XS.goto X140.here hx rfl (pc0 := 62) (pc' := 66) rfl (hb hby at_62) (by decide) (by decide) ?_
          show Steps p.tables e below (T140.setTop (mkF m 66 #[.val (.int p0), .val (.int p1), .val (.int (6 : Int32)), .val (.ref o6), .val (.int (0 : Int32)), .val (.int (0 : Int32)), .unset, .unset, .unset, .unset] [(.int (1 : Int32))])) _
          refine XS.istore X140.here hx rfl (hb hby at_66) rfl (l' := #[.val (.int p0), .val (.int p1), .val (.int (6 : Int32)), .val (.ref o6), .val (.int (0 : Int32)), .val (.int (0 : Int32)), .val (.int (1 : Int32)), .unset, .unset, .unset]) rfl ?_
          show Steps p.tables e below (T140.setTop (mkF m 68 #[.val (.int p0), .val (.int p1), .val (.int (6 : Int32)), .val (.ref o6), .val (.int (0 : Int32)), .val (.int (0 : Int32)), .val (.int (1 : Int32)), .unset, .unset, .unset] [])) _
          refine XS.iload X140.here hx rfl (hb hby at_68) rfl ?_
          show Steps p.tables e below (T140.setTop (mkF m 70 #[.val (.int p0), .val (.int p1), .val (.int (6 : Int32)), .val (.ref o6), .val (.int (0 : Int32)), .val (.int (0 : Int32)), .val (.int (1 : Int32)), .unset, .unset, .unset] [(.int (0 : Int32))])) _
          refine XS.iload X140.here hx rfl (hb hby at_70) rfl ?_
          show Steps p.tables e below (T140.setTop (mkF m 72 #[.val (.int p0), .val (.int p1), .val (.int (6 : Int32)), .val (.ref o6), .val (.int (0 : Int32)), .val (.int (0 : Int32)), .val (.int (1 : Int32)), .unset, .unset, .unset] [(.int (1 : Int32)), (.int (0 : Int32))])) _
          refine st149 _ ?_
          show Steps p.tables e below (T149.setTop (mkF m 75 #[.val (.int p0), .val (.int p1), .val (.int (6 : Int32)), .val (.ref o6), .val (.int (0 : Int32)), .val (.int (0 : Int32)), .val (.int (1 : Int32)), .unset, .unset, .unset] [(.ref o7)])) _
          refine XS.astore X149.here hx rfl (hb hby at_75) rfl rfl (l' := #[.val (.int p0), .val (.int p1), .val (.int (6 : Int32)), .val (.ref o6), .val (.int (0 : Int32)), .val (.int (0 : Int32)), .val (.int (1 : Int32)), .val (.ref o7), .unset, .unset]) rfl ?_
          show Steps p.tables e below (T149.setTop (mkF m 77 #[.val (.int p0), .val (.int p1), .val (.int (6 : Int32)), .val (.ref o6), .val (.int (0 : Int32)), .val (.int (0 : Int32)), .val (.int (1 : Int32)), .val (.ref o7), .unset, .unset] [])) _
          refine XS.aloadN X149.here hx rfl (hb hby at_77) rfl rfl ?_
          show Steps p.tables e below (T149.setTop (mkF m 78 #[.val (.int p0), .val (.int p1), .val (.int (6 : Int32)), .val (.ref o6), .val (.int (0 : Int32)), .val (.int (0 : Int32)), .val (.int (1 : Int32)), .val (.ref o7), .unset, .unset] [(.ref o6)])) _
          refine st150.trans ?_
          show Steps p.tables e below (T150.setTop (mkF m 81 #[.val (.int p0), .val (.int p1), .val (.int (6 : Int32)), .val (.ref o6), .val (.int (0 : Int32)), .val (.int (0 : Int32)), .val (.int (1 : Int32)), .val (.ref o7), .unset, .unset] [(.int (0 : Int32))])) _
          refine XS.istore X150.here hx rfl (hb hby at_81) rfl (l' := #[.val (.int p0), .val (.int p1), .val (.int (6 : Int32)), .val (.ref o6), .val (.int (0 : Int32)), .val (.int (0 : Int32)), .val (.int (1 : Int32)), .val (.ref o7), .val (.int (0 : Int32)), .unset]) rfl ?_
          show Steps p.tables e below (T150.setTop (mkF m 83 #[.val (.int p0), .val (.int p1), .val (.int (6 : Int32)), .val (.ref o6), .val (.int (0 : Int32)), .val (.int (0 : Int32)), .val (.int (1 : Int32)), .val (.ref o7), .val (.int (0 : Int32)), .unset] [])) _
          refine XS.aloadN X150.here hx rfl (hb hby at_83) rfl rfl ?_
          show Steps p.tables e below (T150.setTop (mkF m 84 #[.val (.int p0), .val (.int p1), .val (.int (6 : Int32)), .val (.ref o6), .val (.int (0 : Int32)), .val (.int (0 : Int32)), .val (.int (1 : Int32)), .val (.ref o7), .val (.int (0 : Int32)), .unset] [(.ref o6)])) _
          refine st151.trans ?_
          show Steps p.tables e below (T151.setTop (mkF m 87 #[.val (.int p0), .val (.int p1), .val (.int (6 : Int32)), .val (.ref o6), .val (.int (0 : Int32)), .val (.int (0 : Int32)), .val (.int (1 : Int32)), .val (.ref o7), .val (.int (0 : Int32)), .unset] [(.int (1 : Int32))])) _
          refine XS.istore X151.here hx rfl (hb hby at_87) rfl (l' := #[.val (.int p0), .val (.int p1), .val (.int (6 : Int32)), .val (.ref o6), .val (.int (0 : Int32)), .val (.int (0 : Int32)), .val (.int (1 : Int32)), .val (.ref o7), .val (.int (0 : Int32)), .val (.int (1 : Int32))]) rfl ?_
          show Steps p.tables e below (T151.setTop (mkF m 89 #[.val (.int p0), .val (.int p1), .val (.int (6 : Int32)), .val (.ref o6), .val (.int (0 : Int32)), .val (.int (0 : Int32)), .val (.int (1 : Int32)), .val (.ref o7), .val (.int (0 : Int32)), .val (.int (1 : Int32))] [])) _
          refine XS.iload X151.here hx rfl (hb hby at_89) rfl ?_
          show Steps p.tables e below (T151.setTop (mkF m 91 #[.val (.int p0), .val (.int p1), .val (.int (6 : Int32)), .val (.ref o6), .val (.int (0 : Int32)), .val (.int (0 : Int32)), .val (.int (1 : Int32)), .val (.ref o7), .val (.int (0 : Int32)), .val (.int (1 : Int32))] [(.int (0 : Int32))])) _
          refine XS.iload X151.here hx rfl (hb hby at_91) rfl ?_
          show Steps p.tables e below (T151.setTop (mkF m 93 #[.val (.int p0), .val (.int p1), .val (.int (6 : Int32)), .val (.ref o6), .val (.int (0 : Int32)), .val (.int (0 : Int32)), .val (.int (1 : Int32)), .val (.ref o7), .val (.int (0 : Int32)), .val (.int (1 : Int32))] [(.int (0 : Int32)), (.int (0 : Int32))])) _
          refine XS.icmpNo X151.here hx rfl (hb hby at_93) rfl (teq (by decide : (0 : Int32) = (0 : Int32))).2 ?_
          show Steps p.tables e below (T151.setTop (mkF m 96 #[.val (.int p0), .val (.int p1), .val (.int (6 : Int32)), .val (.ref o6), .val (.int (0 : Int32)), .val (.int (0 : Int32)), .val (.int (1 : Int32)), .val (.ref o7), .val (.int (0 : Int32)), .val (.int (1 : Int32))] [])) _
          refine XS.aload X151.here hx rfl (hb hby at_96) rfl rfl ?_
          show Steps p.tables e below (T151.setTop (mkF m 98 #[.val (.int p0), .val (.int p1), .val (.int (6 : Int32)), .val (.ref o6), .val (.int (0 : Int32)), .val (.int (0 : Int32)), .val (.int (1 : Int32)), .val (.ref o7), .val (.int (0 : Int32)), .val (.int (1 : Int32))] [(.ref o7)])) _
          refine st152.trans ?_
          show Steps p.tables e below (T152.setTop (mkF m 101 #[.val (.int p0), .val (.int p1), .val (.int (6 : Int32)), .val (.ref o6), .val (.int (0 : Int32)), .val (.int (0 : Int32)), .val (.int (1 : Int32)), .val (.ref o7), .val (.int (0 : Int32)), .val (.int (1 : Int32))] [(.int (1 : Int32))])) _
          refine XS.iload X152.here hx rfl (hb hby at_101) rfl ?_
          show Steps p.tables e below (T152.setTop (mkF m 103 #[.val (.int p0), .val (.int p1), .val (.int (6 : Int32)), .val (.ref o6), .val (.int (0 : Int32)), .val (.int (0 : Int32)), .val (.int (1 : Int32)), .val (.ref o7), .val (.int (0 : Int32)), .val (.int (1 : Int32))] [(.int (0 : Int32)), (.int (1 : Int32))])) _
          refine XS.ifNo X152.here hx rfl (hb hby at_103) rfl ((if0 _ _).trans (teq (by decide : (0 : Int32) = (0 : Int32))).2) ?_
          show Steps p.tables e below (T152.setTop (mkF m 106 #[.val (.int p0), .val (.int p1), .val (.int (6 : Int32)), .val (.ref o6), .val (.int (0 : Int32)), .val (.int (0 : Int32)), .val (.int (1 : Int32)), .val (.ref o7), .val (.int (0 : Int32)), .val (.int (1 : Int32))] [(.int (1 : Int32))])) _
          refine XS.iconst X152.here hx rfl (hb hby at_106) ?_
          show Steps p.tables e below (T152.setTop (mkF m 107 #[.val (.int p0), .val (.int p1), .val (.int (6 : Int32)), .val (.ref o6), .val (.int (0 : Int32)), .val (.int (0 : Int32)), .val (.int (1 : Int32)), .val (.ref o7), .val (.int (0 : Int32)), .val (.int (1 : Int32))] [(.int (1 : Int32)), (.int (1 : Int32))])) _
          refine XS.goto X152.here hx rfl (pc0 := 107) (pc' := 111) rfl (hb hby at_107) (by decide) (by decide) ?_
          show Steps p.tables e below (T152.setTop (mkF m 111 #[.val (.int p0), .val (.int p1), .val (.int (6 : Int32)), .val (.ref o6), .val (.int (0 : Int32)), .val (.int (0 : Int32)), .val (.int (1 : Int32)), .val (.ref o7), .val (.int (0 : Int32)), .val (.int (1 : Int32))] [(.int (1 : Int32)), (.int (1 : Int32))])) _
          refine XS.icmpNo X152.here hx rfl (hb hby at_111) rfl (teq (by decide : (1 : Int32) = (1 : Int32))).2 ?_
          show Steps p.tables e below (T152.setTop (mkF m 114 #[.val (.int p0), .val (.int p1), .val (.int (6 : Int32)), .val (.ref o6), .val (.int (0 : Int32)), .val (.int (0 : Int32)), .val (.int (1 : Int32)), .val (.ref o7), .val (.int (0 : Int32)), .val (.int (1 : Int32))] [])) _
          refine XS.iload X152.here hx rfl (hb hby at_114) rfl ?_
          show Steps p.tables e below (T152.setTop (mkF m 116 #[.val (.int p0), .val (.int p1), .val (.int (6 : Int32)), .val (.ref o6), .val (.int (0 : Int32)), .val (.int (0 : Int32)), .val (.int (1 : Int32)), .val (.ref o7), .val (.int (0 : Int32)), .val (.int (1 : Int32))] [(.int (0 : Int32))])) _
          refine XS.ifYes X152.here hx rfl (pc0 := 116) (pc' := 124) rfl (hb hby at_116) rfl ((if0 _ _).trans (teq (by decide : (0 : Int32) = (0 : Int32))).1) (by decide) (by decide) ?_
          show Steps p.tables e below (T152.setTop (mkF m 124 #[.val (.int p0), .val (.int p1), .val (.int (6 : Int32)), .val (.ref o6), .val (.int (0 : Int32)), .val (.int (0 : Int32)), .val (.int (1 : Int32)), .val (.ref o7), .val (.int (0 : Int32)), .val (.int (1 : Int32))] [])) _
          refine XS.iconst X152.here hx rfl (hb hby at_124) ?_
          show Steps p.tables e below (T152.setTop (mkF m 125 #[.val (.int p0), .val (.int p1), .val (.int (6 : Int32)), .val (.ref o6), .val (.int (0 : Int32)), .val (.int (0 : Int32)), .val (.int (1 : Int32)), .val (.ref o7), .val (.int (0 : Int32)), .val (.int (1 : Int32))] [(.int (1 : Int32))])) _
          refine XS.goto X152.here hx rfl (pc0 := 125) (pc' := 129) rfl (hb hby at_125) (by decide) (by decide) ?_
          show Steps p.tables e below (T152.setTop (mkF m 129 #[.val (.int p0), .val (.int p1), .val (.int (6 : Int32)), .val (.ref o6), .val (.int (0 : Int32)), .val (.int (0 : Int32)), .val (.int (1 : Int32)), .val (.ref o7), .val (.int (0 : Int32)), .val (.int (1 : Int32))] [(.int (1 : Int32))])) _
          exact retN X152 hx (t := .boolean) Bd.returns (by simp) (hb hby at_129) hr
        · show Q0 Z p0 p1 o0 o1 o2 o3 o4 o5 o6 o7 h0 n0 _ T152.heap _
          rw [e152]
          exact ⟨rfl, N152⟩
    · have pre153 : ∀ t, Steps p.tables e below (T140.setTop (mkF m 58 #[.val (.int p0), .val (.int p1), .val (.int (6 : Int32)), .val (.ref o6), .val (.int (0 : Int32)), .val (.int (1 : Int32)), .unset, .unset, .unset, .unset] [(.int (p1 &&& (2 : Int32)))])) t → Steps p.tables e below (s₁.setTop (entryFrame m #[(.int p0), (.int p1)] maxLocals)) t := fun t k => by
        refine pre141 t ?_
        show Steps p.tables e below (T140.setTop (mkF m 45 #[.val (.int p0), .val (.int p1), .val (.int (6 : Int32)), .val (.ref o6), .val (.int (0 : Int32)), .unset, .unset, .unset, .unset, .unset] [(.int (p1 &&& (1 : Int32)))])) _
        refine XS.ifNo X140.here hx rfl (hb hby at_45) rfl ((if0 _ _).trans (feq hc142).1) ?_
        show Steps p.tables e below (T140.setTop (mkF m 48 #[.val (.int p0), .val (.int p1), .val (.int (6 : Int32)), .val (.ref o6), .val (.int (0 : Int32)), .unset, .unset, .unset, .unset, .unset] [])) _
        refine XS.iconst X140.here hx rfl (hb hby at_48) ?_
        show Steps p.tables e below (T140.setTop (mkF m 49 #[.val (.int p0), .val (.int p1), .val (.int (6 : Int32)), .val (.ref o6), .val (.int (0 : Int32)), .unset, .unset, .unset, .unset, .unset] [(.int (1 : Int32))])) _
        refine XS.goto X140.here hx rfl (pc0 := 49) (pc' := 53) rfl (hb hby at_49) (by decide) (by decide) ?_
        show Steps p.tables e below (T140.setTop (mkF m 53 #[.val (.int p0), .val (.int p1), .val (.int (6 : Int32)), .val (.ref o6), .val (.int (0 : Int32)), .unset, .unset, .unset, .unset, .unset] [(.int (1 : Int32))])) _
        refine XS.istore X140.here hx rfl (hb hby at_53) rfl (l' := #[.val (.int p0), .val (.int p1), .val (.int (6 : Int32)), .val (.ref o6), .val (.int (0 : Int32)), .val (.int (1 : Int32)), .unset, .unset, .unset, .unset]) rfl ?_
        show Steps p.tables e below (T140.setTop (mkF m 55 #[.val (.int p0), .val (.int p1), .val (.int (6 : Int32)), .val (.ref o6), .val (.int (0 : Int32)), .val (.int (1 : Int32)), .unset, .unset, .unset, .unset] [])) _
        refine XS.iloadN X140.here hx rfl (hb hby at_55) rfl ?_
        show Steps p.tables e below (T140.setTop (mkF m 56 #[.val (.int p0), .val (.int p1), .val (.int (6 : Int32)), .val (.ref o6), .val (.int (0 : Int32)), .val (.int (1 : Int32)), .unset, .unset, .unset, .unset] [(.int p1)])) _
        refine XS.iconst X140.here hx rfl (hb hby at_56) ?_
        show Steps p.tables e below (T140.setTop (mkF m 57 #[.val (.int p0), .val (.int p1), .val (.int (6 : Int32)), .val (.ref o6), .val (.int (0 : Int32)), .val (.int (1 : Int32)), .unset, .unset, .unset, .unset] [(.int (2 : Int32)), (.int p1)])) _
        refine XS.iand X140.here hx rfl (hb hby at_57) rfl ?_
        exact k
      by_cases hc154 : (p1 &&& (2 : Int32)) = (0 : Int32)
      · obtain ⟨_, _, ⟨T155, L155, k155, n155⟩, -, X155, ⟨Lc155, hQ155, l155, y155, z155⟩, st155⟩ := Jvm.LawKit.callS X140 hx (y := (⟨"com/example/unanimity/unanimity/engine/Outcome", "forced", "(ZZ)Lcom/example/unanimity/unanimity/engine/Outcome;"⟩ : MethodName)) hown (mvT hZ (hw _ (List.mem_of_getElem? (i := 7) rfl))) (mvT hZ (hw _ (List.mem_of_getElem? (i := 8) rfl))) (mvT hZ (hw _ (List.mem_of_getElem? (i := 5) rfl))) (mvT hZ (hw _ (List.mem_of_getElem? (i := 9) rfl))) (by decide) (backOf (W := 0) (rm2 l Z aw hw [] (1 : Int32) (0 : Int32) o0 o1 o2 o3 o4 o5 o6 o7 h0 n0 Z0 S_COMMITTED S_ABORTED S_IN_DOUBT S_UNKNOWN S_FORCED_COMMIT S_FORCED_ABORT S_FORCED_COMMIT_CONFLICT S_FORCED_ABORT_CONFLICT) hZ (hw _ (List.mem_of_getElem? (i := 9) rfl)) (hw _ (List.mem_of_getElem? (i := 5) rfl)) (by decide) (by decide)) (g := (mkF m 72 #[.val (.int p0), .val (.int p1), .val (.int (6 : Int32)), .val (.ref o6), .val (.int (0 : Int32)), .val (.int (1 : Int32)), .val (.int (0 : Int32)), .unset, .unset, .unset] [(.int (0 : Int32)), (.int (1 : Int32))])) rfl (by rw [hml]; rfl) (argsL := [(.int (1 : Int32)), (.int (0 : Int32))]) (rest := []) (lenOf pd_1 rfl) rfl (by show 2 * 0 + _ ≤ _; exact Nat.le_of_eq rfl) (hb hby at_72) (fun _ _ => ⟨rfl, e140, (by decide : 0 + 0 ≤ _), (by decide : 0 + 0 ≤ _)⟩)
        dsimp only [Pt.U, Pt.locs, Pt.cells, Pt.slots] at X155 l155 y155 z155 st155 hQ155
        subst l155 y155 z155
        obtain ⟨hv155, N155q, e155⟩ := hQ155
        rw [show own_forced (1 : Int32) (0 : Int32) o4 o5 o6 o7 = o4 from rfl] at hv155
        subst hv155
        have N155 := Fr.app N140 N155q
        obtain ⟨cq156, kq156, q156a, q156b, q156c⟩ := isOf hZ e155 E6
        obtain ⟨_, _, ⟨T156, L156, k156, n156⟩, -, X156, ⟨Lc156, hQ156, l156, y156, z156⟩, st156⟩ := X155.virtualBack hx (y := (⟨"com/example/unanimity/unanimity/engine/Outcome", "abortedHere", "()Z"⟩ : MethodName)) (z := (⟨"com/example/unanimity/unanimity/engine/Outcome", "abortedHere", "()Z"⟩ : MethodName)) hown (mvT hZ (hw _ (List.mem_of_getElem? (i := 12) rfl))) (mvT hZ (hw _ (List.mem_of_getElem? (i := 13) rfl))) (notFace_of_selects (args := #[]) (mvT hZ (hw _ (List.mem_of_getElem? (i := 15) rfl)))) (mvT hZ (hw _ (List.mem_of_getElem? (i := 15) rfl))) (mvT hZ (hw _ (List.mem_of_getElem? (i := 14) rfl))) (by decide) (backOf (W := 0) (rm3 l Z aw hw [] o6 o0 o1 o2 o3 o4 o5 o6 o7 h0 n0 Z0 S_COMMITTED S_ABORTED S_IN_DOUBT S_UNKNOWN S_FORCED_COMMIT S_FORCED_ABORT S_FORCED_COMMIT_CONFLICT S_FORCED_ABORT_CONFLICT) hZ (hw _ (List.mem_of_getElem? (i := 16) rfl)) (hw _ (List.mem_of_getElem? (i := 5) rfl)) (by decide) (by decide)) q156a q156c (g := (mkF m 78 #[.val (.int p0), .val (.int p1), .val (.int (6 : Int32)), .val (.ref o6), .val (.int (0 : Int32)), .val (.int (1 : Int32)), .val (.int (0 : Int32)), .val (.ref o4), .unset, .unset] [(.ref o6)])) rfl (by rw [hml]; rfl) (Steps.refl _) (argsL := []) (rest := []) (lenOf pd_2 rfl) rfl (by show 2 * 0 + _ ≤ _; exact Nat.le_of_eq rfl) (hb hby at_78) (fun _ _ => ⟨rfl, e155, (by decide : 0 + 0 ≤ _), (by decide : 0 + 0 ≤ _)⟩)
        dsimp only [Pt.U, Pt.locs, Pt.cells, Pt.slots] at X156 l156 y156 z156 st156 hQ156
        subst l156 y156 z156
        obtain ⟨hv156, N156q, e156⟩ := hQ156
        rw [own_three_no (Ne.symm d1_6) (Ne.symm d5_6) d6_7] at hv156
        subst hv156
        have N156 := Fr.app N155 N156q
        obtain ⟨cq157, kq157, q157a, q157b, q157c⟩ := isOf hZ e156 E6
        obtain ⟨_, _, ⟨T157, L157, k157, n157⟩, -, X157, ⟨Lc157, hQ157, l157, y157, z157⟩, st157⟩ := X156.virtualBack hx (y := (⟨"com/example/unanimity/unanimity/engine/Outcome", "committedHere", "()Z"⟩ : MethodName)) (z := (⟨"com/example/unanimity/unanimity/engine/Outcome", "committedHere", "()Z"⟩ : MethodName)) hown (mvT hZ (hw _ (List.mem_of_getElem? (i := 23) rfl))) (mvT hZ (hw _ (List.mem_of_getElem? (i := 24) rfl))) (notFace_of_selects (args := #[]) (mvT hZ (hw _ (List.mem_of_getElem? (i := 26) rfl)))) (mvT hZ (hw _ (List.mem_of_getElem? (i := 26) rfl))) (mvT hZ (hw _ (List.mem_of_getElem? (i := 25) rfl))) (by decide) (backOf (W := 0) (rm4 l Z aw hw [] o6 o0 o1 o2 o3 o4 o5 o6 o7 h0 n0 Z0 S_COMMITTED S_ABORTED S_IN_DOUBT S_UNKNOWN S_FORCED_COMMIT S_FORCED_ABORT S_FORCED_COMMIT_CONFLICT S_FORCED_ABORT_CONFLICT) hZ (hw _ (List.mem_of_getElem? (i := 27) rfl)) (hw _ (List.mem_of_getElem? (i := 5) rfl)) (by decide) (by decide)) q157a q157c (g := (mkF m 84 #[.val (.int p0), .val (.int p1), .val (.int (6 : Int32)), .val (.ref o6), .val (.int (0 : Int32)), .val (.int (1 : Int32)), .val (.int (0 : Int32)), .val (.ref o4), .val (.int (0 : Int32)), .unset] [(.ref o6)])) rfl (by rw [hml]; rfl) (Steps.refl _) (argsL := []) (rest := []) (lenOf pd_2 rfl) rfl (by show 2 * 0 + _ ≤ _; exact Nat.le_of_eq rfl) (hb hby at_84) (fun _ _ => ⟨rfl, e156, (by decide : 0 + 0 ≤ _), (by decide : 0 + 0 ≤ _)⟩)
        dsimp only [Pt.U, Pt.locs, Pt.cells, Pt.slots] at X157 l157 y157 z157 st157 hQ157
        subst l157 y157 z157
        obtain ⟨hv157, N157q, e157⟩ := hQ157
        rw [own_three_hit3] at hv157
        subst hv157
        have N157 := Fr.app N156 N157q
        obtain ⟨cq158, kq158, q158a, q158b, q158c⟩ := isOf hZ e157 E4
        obtain ⟨_, _, ⟨T158, L158, k158, n158⟩, -, X158, ⟨Lc158, hQ158, l158, y158, z158⟩, st158⟩ := X157.virtualBack hx (y := (⟨"com/example/unanimity/unanimity/engine/Outcome", "abortedHere", "()Z"⟩ : MethodName)) (z := (⟨"com/example/unanimity/unanimity/engine/Outcome", "abortedHere", "()Z"⟩ : MethodName)) hown (mvT hZ (hw _ (List.mem_of_getElem? (i := 12) rfl))) (mvT hZ (hw _ (List.mem_of_getElem? (i := 13) rfl))) (notFace_of_selects (args := #[]) (mvT hZ (hw _ (List.mem_of_getElem? (i := 15) rfl)))) (mvT hZ (hw _ (List.mem_of_getElem? (i := 15) rfl))) (mvT hZ (hw _ (List.mem_of_getElem? (i := 14) rfl))) (by decide) (backOf (W := 0) (rm3 l Z aw hw [] o4 o0 o1 o2 o3 o4 o5 o6 o7 h0 n0 Z0 S_COMMITTED S_ABORTED S_IN_DOUBT S_UNKNOWN S_FORCED_COMMIT S_FORCED_ABORT S_FORCED_COMMIT_CONFLICT S_FORCED_ABORT_CONFLICT) hZ (hw _ (List.mem_of_getElem? (i := 16) rfl)) (hw _ (List.mem_of_getElem? (i := 5) rfl)) (by decide) (by decide)) q158a q158c (g := (mkF m 98 #[.val (.int p0), .val (.int p1), .val (.int (6 : Int32)), .val (.ref o6), .val (.int (0 : Int32)), .val (.int (1 : Int32)), .val (.int (0 : Int32)), .val (.ref o4), .val (.int (0 : Int32)), .val (.int (1 : Int32))] [(.ref o4)])) rfl (by rw [hml]; rfl) (Steps.refl _) (argsL := []) (rest := []) (lenOf pd_2 rfl) rfl (by show 2 * 0 + _ ≤ _; exact Nat.le_of_eq rfl) (hb hby at_98) (fun _ _ => ⟨rfl, e157, (by decide : 0 + 0 ≤ _), (by decide : 0 + 0 ≤ _)⟩)
        dsimp only [Pt.U, Pt.locs, Pt.cells, Pt.slots] at X158 l158 y158 z158 st158 hQ158
        subst l158 y158 z158
        obtain ⟨hv158, N158q, e158⟩ := hQ158
        rw [own_three_no (Ne.symm d1_4) d4_5 d4_7] at hv158
        subst hv158
        have N158 := Fr.app N157 N158q
        obtain ⟨fs, hr, hrun, hended, hW, hsame⟩ := X158.leave (v := some (.int (1 : Int32))) (fun h => by rw [Bd.returns] at h; cases h)
        refine ⟨_, _, pre153 _ ?_, hrun, hended, _, _, rfl, ?_, ⟨_, rfl⟩, hW, hsame.mono (by decide) (by decide)⟩
        · show Steps p.tables e below (T140.setTop (mkF m 58 #[.val (.int p0), .val (.int p1), .val (.int (6 : Int32)), .val (.ref o6), .val (.int (0 : Int32)), .val (.int (1 : Int32)), .unset, .unset, .unset, .unset] [(.int (p1 &&& (2 : Int32)))])) _
          refine XS.ifYes X140.here hx rfl (pc0 := 58) (pc' := 65) rfl (hb hby at_58) rfl ((if0 _ _).trans (teq hc154).1) (by decide) (by decide) ?_
          show Steps p.tables e below (T140.setTop (mkF m 65 #[.val (.int p0), .val (.int p1), .val (.int (6 : Int32)), .val (.ref o6), .val (.int (0 : Int32)), .val (.int (1 : Int32)), .unset, .unset, .unset, .unset] [])) _
          refine XS.iconst X140.here hx rfl (hb hby at_65) ?_
          show Steps p.tables e below (T140.setTop (mkF m 66 #[.val (.int p0), .val (.int p1), .val (.int (6 : Int32)), .val (.ref o6), .val (.int (0 : Int32)), .val (.int (1 : Int32)), .unset, .unset, .unset, .unset] [(.int (0 : Int32))])) _
          refine XS.istore X140.here hx rfl (hb hby at_66) rfl (l' := #[.val (.int p0), .val (.int p1), .val (.int (6 : Int32)), .val (.ref o6), .val (.int (0 : Int32)), .val (.int (1 : Int32)), .val (.int (0 : Int32)), .unset, .unset, .unset]) rfl ?_
          show Steps p.tables e below (T140.setTop (mkF m 68 #[.val (.int p0), .val (.int p1), .val (.int (6 : Int32)), .val (.ref o6), .val (.int (0 : Int32)), .val (.int (1 : Int32)), .val (.int (0 : Int32)), .unset, .unset, .unset] [])) _
          refine XS.iload X140.here hx rfl (hb hby at_68) rfl ?_
          show Steps p.tables e below (T140.setTop (mkF m 70 #[.val (.int p0), .val (.int p1), .val (.int (6 : Int32)), .val (.ref o6), .val (.int (0 : Int32)), .val (.int (1 : Int32)), .val (.int (0 : Int32)), .unset, .unset, .unset] [(.int (1 : Int32))])) _
          refine XS.iload X140.here hx rfl (hb hby at_70) rfl ?_
          show Steps p.tables e below (T140.setTop (mkF m 72 #[.val (.int p0), .val (.int p1), .val (.int (6 : Int32)), .val (.ref o6), .val (.int (0 : Int32)), .val (.int (1 : Int32)), .val (.int (0 : Int32)), .unset, .unset, .unset] [(.int (0 : Int32)), (.int (1 : Int32))])) _
          refine st155 _ ?_
          show Steps p.tables e below (T155.setTop (mkF m 75 #[.val (.int p0), .val (.int p1), .val (.int (6 : Int32)), .val (.ref o6), .val (.int (0 : Int32)), .val (.int (1 : Int32)), .val (.int (0 : Int32)), .unset, .unset, .unset] [(.ref o4)])) _
          refine XS.astore X155.here hx rfl (hb hby at_75) rfl rfl (l' := #[.val (.int p0), .val (.int p1), .val (.int (6 : Int32)), .val (.ref o6), .val (.int (0 : Int32)), .val (.int (1 : Int32)), .val (.int (0 : Int32)), .val (.ref o4), .unset, .unset]) rfl ?_
          show Steps p.tables e below (T155.setTop (mkF m 77 #[.val (.int p0), .val (.int p1), .val (.int (6 : Int32)), .val (.ref o6), .val (.int (0 : Int32)), .val (.int (1 : Int32)), .val (.int (0 : Int32)), .val (.ref o4), .unset, .unset] [])) _
          refine XS.aloadN X155.here hx rfl (hb hby at_77) rfl rfl ?_
          show Steps p.tables e below (T155.setTop (mkF m 78 #[.val (.int p0), .val (.int p1), .val (.int (6 : Int32)), .val (.ref o6), .val (.int (0 : Int32)), .val (.int (1 : Int32)), .val (.int (0 : Int32)), .val (.ref o4), .unset, .unset] [(.ref o6)])) _
          refine st156.trans ?_
          show Steps p.tables e below (T156.setTop (mkF m 81 #[.val (.int p0), .val (.int p1), .val (.int (6 : Int32)), .val (.ref o6), .val (.int (0 : Int32)), .val (.int (1 : Int32)), .val (.int (0 : Int32)), .val (.ref o4), .unset, .unset] [(.int (0 : Int32))])) _
          refine XS.istore X156.here hx rfl (hb hby at_81) rfl (l' := #[.val (.int p0), .val (.int p1), .val (.int (6 : Int32)), .val (.ref o6), .val (.int (0 : Int32)), .val (.int (1 : Int32)), .val (.int (0 : Int32)), .val (.ref o4), .val (.int (0 : Int32)), .unset]) rfl ?_
          show Steps p.tables e below (T156.setTop (mkF m 83 #[.val (.int p0), .val (.int p1), .val (.int (6 : Int32)), .val (.ref o6), .val (.int (0 : Int32)), .val (.int (1 : Int32)), .val (.int (0 : Int32)), .val (.ref o4), .val (.int (0 : Int32)), .unset] [])) _
          refine XS.aloadN X156.here hx rfl (hb hby at_83) rfl rfl ?_
          show Steps p.tables e below (T156.setTop (mkF m 84 #[.val (.int p0), .val (.int p1), .val (.int (6 : Int32)), .val (.ref o6), .val (.int (0 : Int32)), .val (.int (1 : Int32)), .val (.int (0 : Int32)), .val (.ref o4), .val (.int (0 : Int32)), .unset] [(.ref o6)])) _
          refine st157.trans ?_
          show Steps p.tables e below (T157.setTop (mkF m 87 #[.val (.int p0), .val (.int p1), .val (.int (6 : Int32)), .val (.ref o6), .val (.int (0 : Int32)), .val (.int (1 : Int32)), .val (.int (0 : Int32)), .val (.ref o4), .val (.int (0 : Int32)), .unset] [(.int (1 : Int32))])) _
          refine XS.istore X157.here hx rfl (hb hby at_87) rfl (l' := #[.val (.int p0), .val (.int p1), .val (.int (6 : Int32)), .val (.ref o6), .val (.int (0 : Int32)), .val (.int (1 : Int32)), .val (.int (0 : Int32)), .val (.ref o4), .val (.int (0 : Int32)), .val (.int (1 : Int32))]) rfl ?_
          show Steps p.tables e below (T157.setTop (mkF m 89 #[.val (.int p0), .val (.int p1), .val (.int (6 : Int32)), .val (.ref o6), .val (.int (0 : Int32)), .val (.int (1 : Int32)), .val (.int (0 : Int32)), .val (.ref o4), .val (.int (0 : Int32)), .val (.int (1 : Int32))] [])) _
          refine XS.iload X157.here hx rfl (hb hby at_89) rfl ?_
          show Steps p.tables e below (T157.setTop (mkF m 91 #[.val (.int p0), .val (.int p1), .val (.int (6 : Int32)), .val (.ref o6), .val (.int (0 : Int32)), .val (.int (1 : Int32)), .val (.int (0 : Int32)), .val (.ref o4), .val (.int (0 : Int32)), .val (.int (1 : Int32))] [(.int (0 : Int32))])) _
          refine XS.iload X157.here hx rfl (hb hby at_91) rfl ?_
          show Steps p.tables e below (T157.setTop (mkF m 93 #[.val (.int p0), .val (.int p1), .val (.int (6 : Int32)), .val (.ref o6), .val (.int (0 : Int32)), .val (.int (1 : Int32)), .val (.int (0 : Int32)), .val (.ref o4), .val (.int (0 : Int32)), .val (.int (1 : Int32))] [(.int (0 : Int32)), (.int (0 : Int32))])) _
          refine XS.icmpNo X157.here hx rfl (hb hby at_93) rfl (teq (by decide : (0 : Int32) = (0 : Int32))).2 ?_
          show Steps p.tables e below (T157.setTop (mkF m 96 #[.val (.int p0), .val (.int p1), .val (.int (6 : Int32)), .val (.ref o6), .val (.int (0 : Int32)), .val (.int (1 : Int32)), .val (.int (0 : Int32)), .val (.ref o4), .val (.int (0 : Int32)), .val (.int (1 : Int32))] [])) _
          refine XS.aload X157.here hx rfl (hb hby at_96) rfl rfl ?_
          show Steps p.tables e below (T157.setTop (mkF m 98 #[.val (.int p0), .val (.int p1), .val (.int (6 : Int32)), .val (.ref o6), .val (.int (0 : Int32)), .val (.int (1 : Int32)), .val (.int (0 : Int32)), .val (.ref o4), .val (.int (0 : Int32)), .val (.int (1 : Int32))] [(.ref o4)])) _
          refine st158.trans ?_
          show Steps p.tables e below (T158.setTop (mkF m 101 #[.val (.int p0), .val (.int p1), .val (.int (6 : Int32)), .val (.ref o6), .val (.int (0 : Int32)), .val (.int (1 : Int32)), .val (.int (0 : Int32)), .val (.ref o4), .val (.int (0 : Int32)), .val (.int (1 : Int32))] [(.int (0 : Int32))])) _
          refine XS.iload X158.here hx rfl (hb hby at_101) rfl ?_
          show Steps p.tables e below (T158.setTop (mkF m 103 #[.val (.int p0), .val (.int p1), .val (.int (6 : Int32)), .val (.ref o6), .val (.int (0 : Int32)), .val (.int (1 : Int32)), .val (.int (0 : Int32)), .val (.ref o4), .val (.int (0 : Int32)), .val (.int (1 : Int32))] [(.int (1 : Int32)), (.int (0 : Int32))])) _
          refine XS.ifYes X158.here hx rfl (pc0 := 103) (pc' := 110) rfl (hb hby at_103) rfl ((if0 _ _).trans (feq (by decide : ¬ ((1 : Int32) = (0 : Int32)))).2) (by decide) (by decide) ?_
          show Steps p.tables e below (T158.setTop (mkF m 110 #[.val (.int p0), .val (.int p1), .val (.int (6 : Int32)), .val (.ref o6), .val (.int (0 : Int32)), .val (.int (1 : Int32)), .val (.int (0 : Int32)), .val (.ref o4), .val (.int (0 : Int32)), .val (.int (1 : Int32))] [(.int (0 : Int32))])) _
          refine XS.iconst X158.here hx rfl (hb hby at_110) ?_
          show Steps p.tables e below (T158.setTop (mkF m 111 #[.val (.int p0), .val (.int p1), .val (.int (6 : Int32)), .val (.ref o6), .val (.int (0 : Int32)), .val (.int (1 : Int32)), .val (.int (0 : Int32)), .val (.ref o4), .val (.int (0 : Int32)), .val (.int (1 : Int32))] [(.int (0 : Int32)), (.int (0 : Int32))])) _
          refine XS.icmpNo X158.here hx rfl (hb hby at_111) rfl (teq (by decide : (0 : Int32) = (0 : Int32))).2 ?_
          show Steps p.tables e below (T158.setTop (mkF m 114 #[.val (.int p0), .val (.int p1), .val (.int (6 : Int32)), .val (.ref o6), .val (.int (0 : Int32)), .val (.int (1 : Int32)), .val (.int (0 : Int32)), .val (.ref o4), .val (.int (0 : Int32)), .val (.int (1 : Int32))] [])) _
          refine XS.iload X158.here hx rfl (hb hby at_114) rfl ?_
          show Steps p.tables e below (T158.setTop (mkF m 116 #[.val (.int p0), .val (.int p1), .val (.int (6 : Int32)), .val (.ref o6), .val (.int (0 : Int32)), .val (.int (1 : Int32)), .val (.int (0 : Int32)), .val (.ref o4), .val (.int (0 : Int32)), .val (.int (1 : Int32))] [(.int (0 : Int32))])) _
          refine XS.ifYes X158.here hx rfl (pc0 := 116) (pc' := 124) rfl (hb hby at_116) rfl ((if0 _ _).trans (teq (by decide : (0 : Int32) = (0 : Int32))).1) (by decide) (by decide) ?_
          show Steps p.tables e below (T158.setTop (mkF m 124 #[.val (.int p0), .val (.int p1), .val (.int (6 : Int32)), .val (.ref o6), .val (.int (0 : Int32)), .val (.int (1 : Int32)), .val (.int (0 : Int32)), .val (.ref o4), .val (.int (0 : Int32)), .val (.int (1 : Int32))] [])) _
          refine XS.iconst X158.here hx rfl (hb hby at_124) ?_
          show Steps p.tables e below (T158.setTop (mkF m 125 #[.val (.int p0), .val (.int p1), .val (.int (6 : Int32)), .val (.ref o6), .val (.int (0 : Int32)), .val (.int (1 : Int32)), .val (.int (0 : Int32)), .val (.ref o4), .val (.int (0 : Int32)), .val (.int (1 : Int32))] [(.int (1 : Int32))])) _
          refine XS.goto X158.here hx rfl (pc0 := 125) (pc' := 129) rfl (hb hby at_125) (by decide) (by decide) ?_
          show Steps p.tables e below (T158.setTop (mkF m 129 #[.val (.int p0), .val (.int p1), .val (.int (6 : Int32)), .val (.ref o6), .val (.int (0 : Int32)), .val (.int (1 : Int32)), .val (.int (0 : Int32)), .val (.ref o4), .val (.int (0 : Int32)), .val (.int (1 : Int32))] [(.int (1 : Int32))])) _
          exact retN X158 hx (t := .boolean) Bd.returns (by simp) (hb hby at_129) hr
        · show Q0 Z p0 p1 o0 o1 o2 o3 o4 o5 o6 o7 h0 n0 _ T158.heap _
          rw [e158]
          exact ⟨rfl, N158⟩
      · obtain ⟨_, _, ⟨T159, L159, k159, n159⟩, -, X159, ⟨Lc159, hQ159, l159, y159, z159⟩, st159⟩ := Jvm.LawKit.callS X140 hx (y := (⟨"com/example/unanimity/unanimity/engine/Outcome", "forced", "(ZZ)Lcom/example/unanimity/unanimity/engine/Outcome;"⟩ : MethodName)) hown (mvT hZ (hw _ (List.mem_of_getElem? (i := 7) rfl))) (mvT hZ (hw _ (List.mem_of_getElem? (i := 8) rfl))) (mvT hZ (hw _ (List.mem_of_getElem? (i := 5) rfl))) (mvT hZ (hw _ (List.mem_of_getElem? (i := 9) rfl))) (by decide) (backOf (W := 0) (rm2 l Z aw hw [] (1 : Int32) (1 : Int32) o0 o1 o2 o3 o4 o5 o6 o7 h0 n0 Z0 S_COMMITTED S_ABORTED S_IN_DOUBT S_UNKNOWN S_FORCED_COMMIT S_FORCED_ABORT S_FORCED_COMMIT_CONFLICT S_FORCED_ABORT_CONFLICT) hZ (hw _ (List.mem_of_getElem? (i := 9) rfl)) (hw _ (List.mem_of_getElem? (i := 5) rfl)) (by decide) (by decide)) (g := (mkF m 72 #[.val (.int p0), .val (.int p1), .val (.int (6 : Int32)), .val (.ref o6), .val (.int (0 : Int32)), .val (.int (1 : Int32)), .val (.int (1 : Int32)), .unset, .unset, .unset] [(.int (1 : Int32)), (.int (1 : Int32))])) rfl (by rw [hml]; rfl) (argsL := [(.int (1 : Int32)), (.int (1 : Int32))]) (rest := []) (lenOf pd_1 rfl) rfl (by show 2 * 0 + _ ≤ _; exact Nat.le_of_eq rfl) (hb hby at_72) (fun _ _ => ⟨rfl, e140, (by decide : 0 + 0 ≤ _), (by decide : 0 + 0 ≤ _)⟩)
        dsimp only [Pt.U, Pt.locs, Pt.cells, Pt.slots] at X159 l159 y159 z159 st159 hQ159
        subst l159 y159 z159
        obtain ⟨hv159, N159q, e159⟩ := hQ159
        rw [show own_forced (1 : Int32) (1 : Int32) o4 o5 o6 o7 = o6 from rfl] at hv159
        subst hv159
        have N159 := Fr.app N140 N159q
        obtain ⟨cq160, kq160, q160a, q160b, q160c⟩ := isOf hZ e159 E6
        obtain ⟨_, _, ⟨T160, L160, k160, n160⟩, -, X160, ⟨Lc160, hQ160, l160, y160, z160⟩, st160⟩ := X159.virtualBack hx (y := (⟨"com/example/unanimity/unanimity/engine/Outcome", "abortedHere", "()Z"⟩ : MethodName)) (z := (⟨"com/example/unanimity/unanimity/engine/Outcome", "abortedHere", "()Z"⟩ : MethodName)) hown (mvT hZ (hw _ (List.mem_of_getElem? (i := 12) rfl))) (mvT hZ (hw _ (List.mem_of_getElem? (i := 13) rfl))) (notFace_of_selects (args := #[]) (mvT hZ (hw _ (List.mem_of_getElem? (i := 15) rfl)))) (mvT hZ (hw _ (List.mem_of_getElem? (i := 15) rfl))) (mvT hZ (hw _ (List.mem_of_getElem? (i := 14) rfl))) (by decide) (backOf (W := 0) (rm3 l Z aw hw [] o6 o0 o1 o2 o3 o4 o5 o6 o7 h0 n0 Z0 S_COMMITTED S_ABORTED S_IN_DOUBT S_UNKNOWN S_FORCED_COMMIT S_FORCED_ABORT S_FORCED_COMMIT_CONFLICT S_FORCED_ABORT_CONFLICT) hZ (hw _ (List.mem_of_getElem? (i := 16) rfl)) (hw _ (List.mem_of_getElem? (i := 5) rfl)) (by decide) (by decide)) q160a q160c (g := (mkF m 78 #[.val (.int p0), .val (.int p1), .val (.int (6 : Int32)), .val (.ref o6), .val (.int (0 : Int32)), .val (.int (1 : Int32)), .val (.int (1 : Int32)), .val (.ref o6), .unset, .unset] [(.ref o6)])) rfl (by rw [hml]; rfl) (Steps.refl _) (argsL := []) (rest := []) (lenOf pd_2 rfl) rfl (by show 2 * 0 + _ ≤ _; exact Nat.le_of_eq rfl) (hb hby at_78) (fun _ _ => ⟨rfl, e159, (by decide : 0 + 0 ≤ _), (by decide : 0 + 0 ≤ _)⟩)
        dsimp only [Pt.U, Pt.locs, Pt.cells, Pt.slots] at X160 l160 y160 z160 st160 hQ160
        subst l160 y160 z160
        obtain ⟨hv160, N160q, e160⟩ := hQ160
        rw [own_three_no (Ne.symm d1_6) (Ne.symm d5_6) d6_7] at hv160
        subst hv160
        have N160 := Fr.app N159 N160q
        obtain ⟨cq161, kq161, q161a, q161b, q161c⟩ := isOf hZ e160 E6
        obtain ⟨_, _, ⟨T161, L161, k161, n161⟩, -, X161, ⟨Lc161, hQ161, l161, y161, z161⟩, st161⟩ := X160.virtualBack hx (y := (⟨"com/example/unanimity/unanimity/engine/Outcome", "committedHere", "()Z"⟩ : MethodName)) (z := (⟨"com/example/unanimity/unanimity/engine/Outcome", "committedHere", "()Z"⟩ : MethodName)) hown (mvT hZ (hw _ (List.mem_of_getElem? (i := 23) rfl))) (mvT hZ (hw _ (List.mem_of_getElem? (i := 24) rfl))) (notFace_of_selects (args := #[]) (mvT hZ (hw _ (List.mem_of_getElem? (i := 26) rfl)))) (mvT hZ (hw _ (List.mem_of_getElem? (i := 26) rfl))) (mvT hZ (hw _ (List.mem_of_getElem? (i := 25) rfl))) (by decide) (backOf (W := 0) (rm4 l Z aw hw [] o6 o0 o1 o2 o3 o4 o5 o6 o7 h0 n0 Z0 S_COMMITTED S_ABORTED S_IN_DOUBT S_UNKNOWN S_FORCED_COMMIT S_FORCED_ABORT S_FORCED_COMMIT_CONFLICT S_FORCED_ABORT_CONFLICT) hZ (hw _ (List.mem_of_getElem? (i := 27) rfl)) (hw _ (List.mem_of_getElem? (i := 5) rfl)) (by decide) (by decide)) q161a q161c (g := (mkF m 84 #[.val (.int p0), .val (.int p1), .val (.int (6 : Int32)), .val (.ref o6), .val (.int (0 : Int32)), .val (.int (1 : Int32)), .val (.int (1 : Int32)), .val (.ref o6), .val (.int (0 : Int32)), .unset] [(.ref o6)])) rfl (by rw [hml]; rfl) (Steps.refl _) (argsL := []) (rest := []) (lenOf pd_2 rfl) rfl (by show 2 * 0 + _ ≤ _; exact Nat.le_of_eq rfl) (hb hby at_84) (fun _ _ => ⟨rfl, e160, (by decide : 0 + 0 ≤ _), (by decide : 0 + 0 ≤ _)⟩)
        dsimp only [Pt.U, Pt.locs, Pt.cells, Pt.slots] at X161 l161 y161 z161 st161 hQ161
        subst l161 y161 z161
        obtain ⟨hv161, N161q, e161⟩ := hQ161
        rw [own_three_hit3] at hv161
        subst hv161
        have N161 := Fr.app N160 N161q
        obtain ⟨cq162, kq162, q162a, q162b, q162c⟩ := isOf hZ e161 E6
        obtain ⟨_, _, ⟨T162, L162, k162, n162⟩, -, X162, ⟨Lc162, hQ162, l162, y162, z162⟩, st162⟩ := X161.virtualBack hx (y := (⟨"com/example/unanimity/unanimity/engine/Outcome", "abortedHere", "()Z"⟩ : MethodName)) (z := (⟨"com/example/unanimity/unanimity/engine/Outcome", "abortedHere", "()Z"⟩ : MethodName)) hown (mvT hZ (hw _ (List.mem_of_getElem? (i := 12) rfl))) (mvT hZ (hw _ (List.mem_of_getElem? (i := 13) rfl))) (notFace_of_selects (args := #[]) (mvT hZ (hw _ (List.mem_of_getElem? (i := 15) rfl)))) (mvT hZ (hw _ (List.mem_of_getElem? (i := 15) rfl))) (mvT hZ (hw _ (List.mem_of_getElem? (i := 14) rfl))) (by decide) (backOf (W := 0) (rm3 l Z aw hw [] o6 o0 o1 o2 o3 o4 o5 o6 o7 h0 n0 Z0 S_COMMITTED S_ABORTED S_IN_DOUBT S_UNKNOWN S_FORCED_COMMIT S_FORCED_ABORT S_FORCED_COMMIT_CONFLICT S_FORCED_ABORT_CONFLICT) hZ (hw _ (List.mem_of_getElem? (i := 16) rfl)) (hw _ (List.mem_of_getElem? (i := 5) rfl)) (by decide) (by decide)) q162a q162c (g := (mkF m 98 #[.val (.int p0), .val (.int p1), .val (.int (6 : Int32)), .val (.ref o6), .val (.int (0 : Int32)), .val (.int (1 : Int32)), .val (.int (1 : Int32)), .val (.ref o6), .val (.int (0 : Int32)), .val (.int (1 : Int32))] [(.ref o6)])) rfl (by rw [hml]; rfl) (Steps.refl _) (argsL := []) (rest := []) (lenOf pd_2 rfl) rfl (by show 2 * 0 + _ ≤ _; exact Nat.le_of_eq rfl) (hb hby at_98) (fun _ _ => ⟨rfl, e161, (by decide : 0 + 0 ≤ _), (by decide : 0 + 0 ≤ _)⟩)
        dsimp only [Pt.U, Pt.locs, Pt.cells, Pt.slots] at X162 l162 y162 z162 st162 hQ162
        subst l162 y162 z162
        obtain ⟨hv162, N162q, e162⟩ := hQ162
        rw [own_three_no (Ne.symm d1_6) (Ne.symm d5_6) d6_7] at hv162
        subst hv162
        have N162 := Fr.app N161 N162q
        obtain ⟨fs, hr, hrun, hended, hW, hsame⟩ := X162.leave (v := some (.int (1 : Int32))) (fun h => by rw [Bd.returns] at h; cases h)
        refine ⟨_, _, pre153 _ ?_, hrun, hended, _, _, rfl, ?_, ⟨_, rfl⟩, hW, hsame.mono (by decide) (by decide)⟩
        · show Steps p.tables e below (T140.setTop (mkF m 58 #[.val (.int p0), .val (.int p1), .val (.int (6 : Int32)), .val (.ref o6), .val (.int (0 : Int32)), .val (.int (1 : Int32)), .unset, .unset, .unset, .unset] [(.int (p1 &&& (2 : Int32)))])) _
          refine XS.ifNo X140.here hx rfl (hb hby at_58) rfl ((if0 _ _).trans (feq hc154).1) ?_
          show Steps p.tables e below (T140.setTop (mkF m 61 #[.val (.int p0), .val (.int p1), .val (.int (6 : Int32)), .val (.ref o6), .val (.int (0 : Int32)), .val (.int (1 : Int32)), .unset, .unset, .unset, .unset] [])) _
          refine XS.iconst X140.here hx rfl (hb hby at_61) ?_
          show Steps p.tables e below (T140.setTop (mkF m 62 #[.val (.int p0), .val (.int p1), .val (.int (6 : Int32)), .val (.ref o6), .val (.int (0 : Int32)), .val (.int (1 : Int32)), .unset, .unset, .unset, .unset] [(.int (1 : Int32))])) _
          refine XS.goto X140.here hx rfl (pc0 := 62) (pc' := 66) rfl (hb hby at_62) (by decide) (by decide) ?_
          show Steps p.tables e below (T140.setTop (mkF m 66 #[.val (.int p0), .val (.int p1), .val (.int (6 : Int32)), .val (.ref o6), .val (.int (0 : Int32)), .val (.int (1 : Int32)), .unset, .unset, .unset, .unset] [(.int (1 : Int32))])) _
          refine XS.istore X140.here hx rfl (hb hby at_66) rfl (l' := #[.val (.int p0), .val (.int p1), .val (.int (6 : Int32)), .val (.ref o6), .val (.int (0 : Int32)), .val (.int (1 : Int32)), .val (.int (1 : Int32)), .unset, .unset, .unset]) rfl ?_
          show Steps p.tables e below (T140.setTop (mkF m 68 #[.val (.int p0), .val (.int p1), .val (.int (6 : Int32)), .val (.ref o6), .val (.int (0 : Int32)), .val (.int (1 : Int32)), .val (.int (1 : Int32)), .unset, .unset, .unset] [])) _
          refine XS.iload X140.here hx rfl (hb hby at_68) rfl ?_
          show Steps p.tables e below (T140.setTop (mkF m 70 #[.val (.int p0), .val (.int p1), .val (.int (6 : Int32)), .val (.ref o6), .val (.int (0 : Int32)), .val (.int (1 : Int32)), .val (.int (1 : Int32)), .unset, .unset, .unset] [(.int (1 : Int32))])) _
          refine XS.iload X140.here hx rfl (hb hby at_70) rfl ?_
          show Steps p.tables e below (T140.setTop (mkF m 72 #[.val (.int p0), .val (.int p1), .val (.int (6 : Int32)), .val (.ref o6), .val (.int (0 : Int32)), .val (.int (1 : Int32)), .val (.int (1 : Int32)), .unset, .unset, .unset] [(.int (1 : Int32)), (.int (1 : Int32))])) _
          refine st159 _ ?_
          show Steps p.tables e below (T159.setTop (mkF m 75 #[.val (.int p0), .val (.int p1), .val (.int (6 : Int32)), .val (.ref o6), .val (.int (0 : Int32)), .val (.int (1 : Int32)), .val (.int (1 : Int32)), .unset, .unset, .unset] [(.ref o6)])) _
          refine XS.astore X159.here hx rfl (hb hby at_75) rfl rfl (l' := #[.val (.int p0), .val (.int p1), .val (.int (6 : Int32)), .val (.ref o6), .val (.int (0 : Int32)), .val (.int (1 : Int32)), .val (.int (1 : Int32)), .val (.ref o6), .unset, .unset]) rfl ?_
          show Steps p.tables e below (T159.setTop (mkF m 77 #[.val (.int p0), .val (.int p1), .val (.int (6 : Int32)), .val (.ref o6), .val (.int (0 : Int32)), .val (.int (1 : Int32)), .val (.int (1 : Int32)), .val (.ref o6), .unset, .unset] [])) _
          refine XS.aloadN X159.here hx rfl (hb hby at_77) rfl rfl ?_
          show Steps p.tables e below (T159.setTop (mkF m 78 #[.val (.int p0), .val (.int p1), .val (.int (6 : Int32)), .val (.ref o6), .val (.int (0 : Int32)), .val (.int (1 : Int32)), .val (.int (1 : Int32)), .val (.ref o6), .unset, .unset] [(.ref o6)])) _
          refine st160.trans ?_
          show Steps p.tables e below (T160.setTop (mkF m 81 #[.val (.int p0), .val (.int p1), .val (.int (6 : Int32)), .val (.ref o6), .val (.int (0 : Int32)), .val (.int (1 : Int32)), .val (.int (1 : Int32)), .val (.ref o6), .unset, .unset] [(.int (0 : Int32))])) _
          refine XS.istore X160.here hx rfl (hb hby at_81) rfl (l' := #[.val (.int p0), .val (.int p1), .val (.int (6 : Int32)), .val (.ref o6), .val (.int (0 : Int32)), .val (.int (1 : Int32)), .val (.int (1 : Int32)), .val (.ref o6), .val (.int (0 : Int32)), .unset]) rfl ?_
          show Steps p.tables e below (T160.setTop (mkF m 83 #[.val (.int p0), .val (.int p1), .val (.int (6 : Int32)), .val (.ref o6), .val (.int (0 : Int32)), .val (.int (1 : Int32)), .val (.int (1 : Int32)), .val (.ref o6), .val (.int (0 : Int32)), .unset] [])) _
          refine XS.aloadN X160.here hx rfl (hb hby at_83) rfl rfl ?_
          show Steps p.tables e below (T160.setTop (mkF m 84 #[.val (.int p0), .val (.int p1), .val (.int (6 : Int32)), .val (.ref o6), .val (.int (0 : Int32)), .val (.int (1 : Int32)), .val (.int (1 : Int32)), .val (.ref o6), .val (.int (0 : Int32)), .unset] [(.ref o6)])) _
          refine st161.trans ?_
          show Steps p.tables e below (T161.setTop (mkF m 87 #[.val (.int p0), .val (.int p1), .val (.int (6 : Int32)), .val (.ref o6), .val (.int (0 : Int32)), .val (.int (1 : Int32)), .val (.int (1 : Int32)), .val (.ref o6), .val (.int (0 : Int32)), .unset] [(.int (1 : Int32))])) _
          refine XS.istore X161.here hx rfl (hb hby at_87) rfl (l' := #[.val (.int p0), .val (.int p1), .val (.int (6 : Int32)), .val (.ref o6), .val (.int (0 : Int32)), .val (.int (1 : Int32)), .val (.int (1 : Int32)), .val (.ref o6), .val (.int (0 : Int32)), .val (.int (1 : Int32))]) rfl ?_
          show Steps p.tables e below (T161.setTop (mkF m 89 #[.val (.int p0), .val (.int p1), .val (.int (6 : Int32)), .val (.ref o6), .val (.int (0 : Int32)), .val (.int (1 : Int32)), .val (.int (1 : Int32)), .val (.ref o6), .val (.int (0 : Int32)), .val (.int (1 : Int32))] [])) _
          refine XS.iload X161.here hx rfl (hb hby at_89) rfl ?_
          show Steps p.tables e below (T161.setTop (mkF m 91 #[.val (.int p0), .val (.int p1), .val (.int (6 : Int32)), .val (.ref o6), .val (.int (0 : Int32)), .val (.int (1 : Int32)), .val (.int (1 : Int32)), .val (.ref o6), .val (.int (0 : Int32)), .val (.int (1 : Int32))] [(.int (0 : Int32))])) _
          refine XS.iload X161.here hx rfl (hb hby at_91) rfl ?_
          show Steps p.tables e below (T161.setTop (mkF m 93 #[.val (.int p0), .val (.int p1), .val (.int (6 : Int32)), .val (.ref o6), .val (.int (0 : Int32)), .val (.int (1 : Int32)), .val (.int (1 : Int32)), .val (.ref o6), .val (.int (0 : Int32)), .val (.int (1 : Int32))] [(.int (0 : Int32)), (.int (0 : Int32))])) _
          refine XS.icmpNo X161.here hx rfl (hb hby at_93) rfl (teq (by decide : (0 : Int32) = (0 : Int32))).2 ?_
          show Steps p.tables e below (T161.setTop (mkF m 96 #[.val (.int p0), .val (.int p1), .val (.int (6 : Int32)), .val (.ref o6), .val (.int (0 : Int32)), .val (.int (1 : Int32)), .val (.int (1 : Int32)), .val (.ref o6), .val (.int (0 : Int32)), .val (.int (1 : Int32))] [])) _
          refine XS.aload X161.here hx rfl (hb hby at_96) rfl rfl ?_
          show Steps p.tables e below (T161.setTop (mkF m 98 #[.val (.int p0), .val (.int p1), .val (.int (6 : Int32)), .val (.ref o6), .val (.int (0 : Int32)), .val (.int (1 : Int32)), .val (.int (1 : Int32)), .val (.ref o6), .val (.int (0 : Int32)), .val (.int (1 : Int32))] [(.ref o6)])) _
          refine st162.trans ?_
          show Steps p.tables e below (T162.setTop (mkF m 101 #[.val (.int p0), .val (.int p1), .val (.int (6 : Int32)), .val (.ref o6), .val (.int (0 : Int32)), .val (.int (1 : Int32)), .val (.int (1 : Int32)), .val (.ref o6), .val (.int (0 : Int32)), .val (.int (1 : Int32))] [(.int (0 : Int32))])) _
          refine XS.iload X162.here hx rfl (hb hby at_101) rfl ?_
          show Steps p.tables e below (T162.setTop (mkF m 103 #[.val (.int p0), .val (.int p1), .val (.int (6 : Int32)), .val (.ref o6), .val (.int (0 : Int32)), .val (.int (1 : Int32)), .val (.int (1 : Int32)), .val (.ref o6), .val (.int (0 : Int32)), .val (.int (1 : Int32))] [(.int (1 : Int32)), (.int (0 : Int32))])) _
          refine XS.ifYes X162.here hx rfl (pc0 := 103) (pc' := 110) rfl (hb hby at_103) rfl ((if0 _ _).trans (feq (by decide : ¬ ((1 : Int32) = (0 : Int32)))).2) (by decide) (by decide) ?_
          show Steps p.tables e below (T162.setTop (mkF m 110 #[.val (.int p0), .val (.int p1), .val (.int (6 : Int32)), .val (.ref o6), .val (.int (0 : Int32)), .val (.int (1 : Int32)), .val (.int (1 : Int32)), .val (.ref o6), .val (.int (0 : Int32)), .val (.int (1 : Int32))] [(.int (0 : Int32))])) _
          refine XS.iconst X162.here hx rfl (hb hby at_110) ?_
          show Steps p.tables e below (T162.setTop (mkF m 111 #[.val (.int p0), .val (.int p1), .val (.int (6 : Int32)), .val (.ref o6), .val (.int (0 : Int32)), .val (.int (1 : Int32)), .val (.int (1 : Int32)), .val (.ref o6), .val (.int (0 : Int32)), .val (.int (1 : Int32))] [(.int (0 : Int32)), (.int (0 : Int32))])) _
          refine XS.icmpNo X162.here hx rfl (hb hby at_111) rfl (teq (by decide : (0 : Int32) = (0 : Int32))).2 ?_
          show Steps p.tables e below (T162.setTop (mkF m 114 #[.val (.int p0), .val (.int p1), .val (.int (6 : Int32)), .val (.ref o6), .val (.int (0 : Int32)), .val (.int (1 : Int32)), .val (.int (1 : Int32)), .val (.ref o6), .val (.int (0 : Int32)), .val (.int (1 : Int32))] [])) _
          refine XS.iload X162.here hx rfl (hb hby at_114) rfl ?_
          show Steps p.tables e below (T162.setTop (mkF m 116 #[.val (.int p0), .val (.int p1), .val (.int (6 : Int32)), .val (.ref o6), .val (.int (0 : Int32)), .val (.int (1 : Int32)), .val (.int (1 : Int32)), .val (.ref o6), .val (.int (0 : Int32)), .val (.int (1 : Int32))] [(.int (0 : Int32))])) _
          refine XS.ifYes X162.here hx rfl (pc0 := 116) (pc' := 124) rfl (hb hby at_116) rfl ((if0 _ _).trans (teq (by decide : (0 : Int32) = (0 : Int32))).1) (by decide) (by decide) ?_
          show Steps p.tables e below (T162.setTop (mkF m 124 #[.val (.int p0), .val (.int p1), .val (.int (6 : Int32)), .val (.ref o6), .val (.int (0 : Int32)), .val (.int (1 : Int32)), .val (.int (1 : Int32)), .val (.ref o6), .val (.int (0 : Int32)), .val (.int (1 : Int32))] [])) _
          refine XS.iconst X162.here hx rfl (hb hby at_124) ?_
          show Steps p.tables e below (T162.setTop (mkF m 125 #[.val (.int p0), .val (.int p1), .val (.int (6 : Int32)), .val (.ref o6), .val (.int (0 : Int32)), .val (.int (1 : Int32)), .val (.int (1 : Int32)), .val (.ref o6), .val (.int (0 : Int32)), .val (.int (1 : Int32))] [(.int (1 : Int32))])) _
          refine XS.goto X162.here hx rfl (pc0 := 125) (pc' := 129) rfl (hb hby at_125) (by decide) (by decide) ?_
          show Steps p.tables e below (T162.setTop (mkF m 129 #[.val (.int p0), .val (.int p1), .val (.int (6 : Int32)), .val (.ref o6), .val (.int (0 : Int32)), .val (.int (1 : Int32)), .val (.int (1 : Int32)), .val (.ref o6), .val (.int (0 : Int32)), .val (.int (1 : Int32))] [(.int (1 : Int32))])) _
          exact retN X162 hx (t := .boolean) Bd.returns (by simp) (hb hby at_129) hr
        · show Q0 Z p0 p1 o0 o1 o2 o3 o4 o5 o6 o7 h0 n0 _ T162.heap _
          rw [e162]
          exact ⟨rfl, N162⟩
  · obtain ⟨_, _, ⟨T163, L163, k163, n163⟩, -, X163, ⟨Lc163, hQ163, l163, y163, z163⟩, st163⟩ := Jvm.LawKit.callS X0 hx (y := (⟨"com/example/unanimity/unanimity/engine/OutcomeAbortedHerePinLaw", "pick", "(I)Lcom/example/unanimity/unanimity/engine/Outcome;"⟩ : MethodName)) hown (mvT hZ (hw _ (List.mem_of_getElem? (i := 0) rfl))) (mvT hZ (hw _ (List.mem_of_getElem? (i := 1) rfl))) (mvT hZ (hw _ (List.mem_of_getElem? (i := 2) rfl))) (mvT hZ (hw _ (List.mem_of_getElem? (i := 3) rfl))) (by decide) (backOf (W := 0) (rm1 l Z aw hw [] (7 : Int32) o0 o1 o2 o3 o4 o5 o6 o7 h0 n0 Z0 S_COMMITTED S_ABORTED S_IN_DOUBT S_UNKNOWN S_FORCED_COMMIT S_FORCED_ABORT S_FORCED_COMMIT_CONFLICT S_FORCED_ABORT_CONFLICT) hZ (hw _ (List.mem_of_getElem? (i := 3) rfl)) (hw _ (List.mem_of_getElem? (i := 2) rfl)) (by decide) (by decide)) (g := (mkF m 6 #[.val (.int p0), .val (.int p1), .val (.int (7 : Int32)), .unset, .unset, .unset, .unset, .unset, .unset, .unset] [(.int (7 : Int32))])) rfl (by rw [hml]; rfl) (argsL := [(.int (7 : Int32))]) (rest := []) (lenOf pd_0 rfl) rfl (by show 2 * 0 + _ ≤ _; exact Nat.le_of_eq rfl) (hb hby at_6) (fun _ _ => ⟨rfl, e0, (by decide : 0 + 0 ≤ _), (by decide : 0 + 0 ≤ _)⟩)
    dsimp only [Pt.U, Pt.locs, Pt.cells, Pt.slots] at X163 l163 y163 z163 st163 hQ163
    subst l163 y163 z163
    obtain ⟨hv163, N163q, e163⟩ := hQ163
    rw [show own_pick (7 : Int32) o0 o1 o2 o3 o4 o5 o6 o7 = o7 from rfl] at hv163
    subst hv163
    have N163 := Fr.app N0 N163q
    have pre164 : ∀ t, Steps p.tables e below (T163.setTop (mkF m 45 #[.val (.int p0), .val (.int p1), .val (.int (7 : Int32)), .val (.ref o7), .val (.int (1 : Int32)), .unset, .unset, .unset, .unset, .unset] [(.int (p1 &&& (1 : Int32)))])) t → Steps p.tables e below (s₁.setTop (entryFrame m #[(.int p0), (.int p1)] maxLocals)) t := fun t k => by
      refine pre1 t ?_
      show Steps p.tables e below (s₁.setTop (mkF m 5 #[.val (.int p0), .val (.int p1), .val (.int (7 : Int32)), .unset, .unset, .unset, .unset, .unset, .unset, .unset] [])) _
      refine XS.iloadN X0.here hx rfl (hb hby at_5) rfl ?_
      show Steps p.tables e below (s₁.setTop (mkF m 6 #[.val (.int p0), .val (.int p1), .val (.int (7 : Int32)), .unset, .unset, .unset, .unset, .unset, .unset, .unset] [(.int (7 : Int32))])) _
      refine st163 _ ?_
      show Steps p.tables e below (T163.setTop (mkF m 9 #[.val (.int p0), .val (.int p1), .val (.int (7 : Int32)), .unset, .unset, .unset, .unset, .unset, .unset, .unset] [(.ref o7)])) _
      refine XS.astoreN X163.here hx rfl (hb hby at_9) rfl rfl (l' := #[.val (.int p0), .val (.int p1), .val (.int (7 : Int32)), .val (.ref o7), .unset, .unset, .unset, .unset, .unset, .unset]) rfl ?_
      show Steps p.tables e below (T163.setTop (mkF m 10 #[.val (.int p0), .val (.int p1), .val (.int (7 : Int32)), .val (.ref o7), .unset, .unset, .unset, .unset, .unset, .unset] [])) _
      refine XS.iloadN X163.here hx rfl (hb hby at_10) rfl ?_
      show Steps p.tables e below (T163.setTop (mkF m 11 #[.val (.int p0), .val (.int p1), .val (.int (7 : Int32)), .val (.ref o7), .unset, .unset, .unset, .unset, .unset, .unset] [(.int (7 : Int32))])) _
      refine XS.iconst X163.here hx rfl (hb hby at_11) ?_
      show Steps p.tables e below (T163.setTop (mkF m 12 #[.val (.int p0), .val (.int p1), .val (.int (7 : Int32)), .val (.ref o7), .unset, .unset, .unset, .unset, .unset, .unset] [(.int (4 : Int32)), (.int (7 : Int32))])) _
      refine XS.icmpYes X163.here hx rfl (pc0 := 12) (pc' := 28) rfl (hb hby at_12) rfl (flt (by decide : ¬ ((7 : Int32) < (4 : Int32)))).2.1 (by decide) (by decide) ?_
      show Steps p.tables e below (T163.setTop (mkF m 28 #[.val (.int p0), .val (.int p1), .val (.int (7 : Int32)), .val (.ref o7), .unset, .unset, .unset, .unset, .unset, .unset] [])) _
      refine XS.iloadN X163.here hx rfl (hb hby at_28) rfl ?_
      show Steps p.tables e below (T163.setTop (mkF m 29 #[.val (.int p0), .val (.int p1), .val (.int (7 : Int32)), .val (.ref o7), .unset, .unset, .unset, .unset, .unset, .unset] [(.int (7 : Int32))])) _
      refine XS.iconst X163.here hx rfl (hb hby at_29) ?_
      show Steps p.tables e below (T163.setTop (mkF m 30 #[.val (.int p0), .val (.int p1), .val (.int (7 : Int32)), .val (.ref o7), .unset, .unset, .unset, .unset, .unset, .unset] [(.int (1 : Int32)), (.int (7 : Int32))])) _
      refine XS.iand X163.here hx rfl (hb hby at_30) rfl ?_
      show Steps p.tables e below (T163.setTop (mkF m 31 #[.val (.int p0), .val (.int p1), .val (.int (7 : Int32)), .val (.ref o7), .unset, .unset, .unset, .unset, .unset, .unset] [(.int (1 : Int32))])) _
      refine XS.iconst X163.here hx rfl (hb hby at_31) ?_
      show Steps p.tables e below (T163.setTop (mkF m 32 #[.val (.int p0), .val (.int p1), .val (.int (7 : Int32)), .val (.ref o7), .unset, .unset, .unset, .unset, .unset, .unset] [(.int (1 : Int32)), (.int (1 : Int32))])) _
      refine XS.icmpNo X163.here hx rfl (hb hby at_32) rfl (teq (by decide : (1 : Int32) = (1 : Int32))).2 ?_
      show Steps p.tables e below (T163.setTop (mkF m 35 #[.val (.int p0), .val (.int p1), .val (.int (7 : Int32)), .val (.ref o7), .unset, .unset, .unset, .unset, .unset, .unset] [])) _
      refine XS.iconst X163.here hx rfl (hb hby at_35) ?_
      show Steps p.tables e below (T163.setTop (mkF m 36 #[.val (.int p0), .val (.int p1), .val (.int (7 : Int32)), .val (.ref o7), .unset, .unset, .unset, .unset, .unset, .unset] [(.int (1 : Int32))])) _
      refine XS.goto X163.here hx rfl (pc0 := 36) (pc' := 40) rfl (hb hby at_36) (by decide) (by decide) ?_
      show Steps p.tables e below (T163.setTop (mkF m 40 #[.val (.int p0), .val (.int p1), .val (.int (7 : Int32)), .val (.ref o7), .unset, .unset, .unset, .unset, .unset, .unset] [(.int (1 : Int32))])) _
      refine XS.istore X163.here hx rfl (hb hby at_40) rfl (l' := #[.val (.int p0), .val (.int p1), .val (.int (7 : Int32)), .val (.ref o7), .val (.int (1 : Int32)), .unset, .unset, .unset, .unset, .unset]) rfl ?_
      show Steps p.tables e below (T163.setTop (mkF m 42 #[.val (.int p0), .val (.int p1), .val (.int (7 : Int32)), .val (.ref o7), .val (.int (1 : Int32)), .unset, .unset, .unset, .unset, .unset] [])) _
      refine XS.iloadN X163.here hx rfl (hb hby at_42) rfl ?_
      show Steps p.tables e below (T163.setTop (mkF m 43 #[.val (.int p0), .val (.int p1), .val (.int (7 : Int32)), .val (.ref o7), .val (.int (1 : Int32)), .unset, .unset, .unset, .unset, .unset] [(.int p1)])) _
      refine XS.iconst X163.here hx rfl (hb hby at_43) ?_
      show Steps p.tables e below (T163.setTop (mkF m 44 #[.val (.int p0), .val (.int p1), .val (.int (7 : Int32)), .val (.ref o7), .val (.int (1 : Int32)), .unset, .unset, .unset, .unset, .unset] [(.int (1 : Int32)), (.int p1)])) _
      refine XS.iand X163.here hx rfl (hb hby at_44) rfl ?_
      exact k
    by_cases hc165 : (p1 &&& (1 : Int32)) = (0 : Int32)
    · have pre166 : ∀ t, Steps p.tables e below (T163.setTop (mkF m 58 #[.val (.int p0), .val (.int p1), .val (.int (7 : Int32)), .val (.ref o7), .val (.int (1 : Int32)), .val (.int (0 : Int32)), .unset, .unset, .unset, .unset] [(.int (p1 &&& (2 : Int32)))])) t → Steps p.tables e below (s₁.setTop (entryFrame m #[(.int p0), (.int p1)] maxLocals)) t := fun t k => by
        refine pre164 t ?_
        show Steps p.tables e below (T163.setTop (mkF m 45 #[.val (.int p0), .val (.int p1), .val (.int (7 : Int32)), .val (.ref o7), .val (.int (1 : Int32)), .unset, .unset, .unset, .unset, .unset] [(.int (p1 &&& (1 : Int32)))])) _
        refine XS.ifYes X163.here hx rfl (pc0 := 45) (pc' := 52) rfl (hb hby at_45) rfl ((if0 _ _).trans (teq hc165).1) (by decide) (by decide) ?_
        show Steps p.tables e below (T163.setTop (mkF m 52 #[.val (.int p0), .val (.int p1), .val (.int (7 : Int32)), .val (.ref o7), .val (.int (1 : Int32)), .unset, .unset, .unset, .unset, .unset] [])) _
        refine XS.iconst X163.here hx rfl (hb hby at_52) ?_
        show Steps p.tables e below (T163.setTop (mkF m 53 #[.val (.int p0), .val (.int p1), .val (.int (7 : Int32)), .val (.ref o7), .val (.int (1 : Int32)), .unset, .unset, .unset, .unset, .unset] [(.int (0 : Int32))])) _
        refine XS.istore X163.here hx rfl (hb hby at_53) rfl (l' := #[.val (.int p0), .val (.int p1), .val (.int (7 : Int32)), .val (.ref o7), .val (.int (1 : Int32)), .val (.int (0 : Int32)), .unset, .unset, .unset, .unset]) rfl ?_
        show Steps p.tables e below (T163.setTop (mkF m 55 #[.val (.int p0), .val (.int p1), .val (.int (7 : Int32)), .val (.ref o7), .val (.int (1 : Int32)), .val (.int (0 : Int32)), .unset, .unset, .unset, .unset] [])) _
        refine XS.iloadN X163.here hx rfl (hb hby at_55) rfl ?_
        show Steps p.tables e below (T163.setTop (mkF m 56 #[.val (.int p0), .val (.int p1), .val (.int (7 : Int32)), .val (.ref o7), .val (.int (1 : Int32)), .val (.int (0 : Int32)), .unset, .unset, .unset, .unset] [(.int p1)])) _
        refine XS.iconst X163.here hx rfl (hb hby at_56) ?_
        show Steps p.tables e below (T163.setTop (mkF m 57 #[.val (.int p0), .val (.int p1), .val (.int (7 : Int32)), .val (.ref o7), .val (.int (1 : Int32)), .val (.int (0 : Int32)), .unset, .unset, .unset, .unset] [(.int (2 : Int32)), (.int p1)])) _
        refine XS.iand X163.here hx rfl (hb hby at_57) rfl ?_
        exact k
      by_cases hc167 : (p1 &&& (2 : Int32)) = (0 : Int32)
      · obtain ⟨_, _, ⟨T168, L168, k168, n168⟩, -, X168, ⟨Lc168, hQ168, l168, y168, z168⟩, st168⟩ := Jvm.LawKit.callS X163 hx (y := (⟨"com/example/unanimity/unanimity/engine/Outcome", "forced", "(ZZ)Lcom/example/unanimity/unanimity/engine/Outcome;"⟩ : MethodName)) hown (mvT hZ (hw _ (List.mem_of_getElem? (i := 7) rfl))) (mvT hZ (hw _ (List.mem_of_getElem? (i := 8) rfl))) (mvT hZ (hw _ (List.mem_of_getElem? (i := 5) rfl))) (mvT hZ (hw _ (List.mem_of_getElem? (i := 9) rfl))) (by decide) (backOf (W := 0) (rm2 l Z aw hw [] (0 : Int32) (0 : Int32) o0 o1 o2 o3 o4 o5 o6 o7 h0 n0 Z0 S_COMMITTED S_ABORTED S_IN_DOUBT S_UNKNOWN S_FORCED_COMMIT S_FORCED_ABORT S_FORCED_COMMIT_CONFLICT S_FORCED_ABORT_CONFLICT) hZ (hw _ (List.mem_of_getElem? (i := 9) rfl)) (hw _ (List.mem_of_getElem? (i := 5) rfl)) (by decide) (by decide)) (g := (mkF m 72 #[.val (.int p0), .val (.int p1), .val (.int (7 : Int32)), .val (.ref o7), .val (.int (1 : Int32)), .val (.int (0 : Int32)), .val (.int (0 : Int32)), .unset, .unset, .unset] [(.int (0 : Int32)), (.int (0 : Int32))])) rfl (by rw [hml]; rfl) (argsL := [(.int (0 : Int32)), (.int (0 : Int32))]) (rest := []) (lenOf pd_1 rfl) rfl (by show 2 * 0 + _ ≤ _; exact Nat.le_of_eq rfl) (hb hby at_72) (fun _ _ => ⟨rfl, e163, (by decide : 0 + 0 ≤ _), (by decide : 0 + 0 ≤ _)⟩)
        dsimp only [Pt.U, Pt.locs, Pt.cells, Pt.slots] at X168 l168 y168 z168 st168 hQ168
        subst l168 y168 z168
        obtain ⟨hv168, N168q, e168⟩ := hQ168
        rw [show own_forced (0 : Int32) (0 : Int32) o4 o5 o6 o7 = o5 from rfl] at hv168
        subst hv168
        have N168 := Fr.app N163 N168q
        obtain ⟨cq169, kq169, q169a, q169b, q169c⟩ := isOf hZ e168 E7
        obtain ⟨_, _, ⟨T169, L169, k169, n169⟩, -, X169, ⟨Lc169, hQ169, l169, y169, z169⟩, st169⟩ := X168.virtualBack hx (y := (⟨"com/example/unanimity/unanimity/engine/Outcome", "abortedHere", "()Z"⟩ : MethodName)) (z := (⟨"com/example/unanimity/unanimity/engine/Outcome", "abortedHere", "()Z"⟩ : MethodName)) hown (mvT hZ (hw _ (List.mem_of_getElem? (i := 12) rfl))) (mvT hZ (hw _ (List.mem_of_getElem? (i := 13) rfl))) (notFace_of_selects (args := #[]) (mvT hZ (hw _ (List.mem_of_getElem? (i := 15) rfl)))) (mvT hZ (hw _ (List.mem_of_getElem? (i := 15) rfl))) (mvT hZ (hw _ (List.mem_of_getElem? (i := 14) rfl))) (by decide) (backOf (W := 0) (rm3 l Z aw hw [] o7 o0 o1 o2 o3 o4 o5 o6 o7 h0 n0 Z0 S_COMMITTED S_ABORTED S_IN_DOUBT S_UNKNOWN S_FORCED_COMMIT S_FORCED_ABORT S_FORCED_COMMIT_CONFLICT S_FORCED_ABORT_CONFLICT) hZ (hw _ (List.mem_of_getElem? (i := 16) rfl)) (hw _ (List.mem_of_getElem? (i := 5) rfl)) (by decide) (by decide)) q169a q169c (g := (mkF m 78 #[.val (.int p0), .val (.int p1), .val (.int (7 : Int32)), .val (.ref o7), .val (.int (1 : Int32)), .val (.int (0 : Int32)), .val (.int (0 : Int32)), .val (.ref o5), .unset, .unset] [(.ref o7)])) rfl (by rw [hml]; rfl) (Steps.refl _) (argsL := []) (rest := []) (lenOf pd_2 rfl) rfl (by show 2 * 0 + _ ≤ _; exact Nat.le_of_eq rfl) (hb hby at_78) (fun _ _ => ⟨rfl, e168, (by decide : 0 + 0 ≤ _), (by decide : 0 + 0 ≤ _)⟩)
        dsimp only [Pt.U, Pt.locs, Pt.cells, Pt.slots] at X169 l169 y169 z169 st169 hQ169
        subst l169 y169 z169
        obtain ⟨hv169, N169q, e169⟩ := hQ169
        rw [own_three_hit3] at hv169
        subst hv169
        have N169 := Fr.app N168 N169q
        obtain ⟨cq170, kq170, q170a, q170b, q170c⟩ := isOf hZ e169 E7
        obtain ⟨_, _, ⟨T170, L170, k170, n170⟩, -, X170, ⟨Lc170, hQ170, l170, y170, z170⟩, st170⟩ := X169.virtualBack hx (y := (⟨"com/example/unanimity/unanimity/engine/Outcome", "committedHere", "()Z"⟩ : MethodName)) (z := (⟨"com/example/unanimity/unanimity/engine/Outcome", "committedHere", "()Z"⟩ : MethodName)) hown (mvT hZ (hw _ (List.mem_of_getElem? (i := 23) rfl))) (mvT hZ (hw _ (List.mem_of_getElem? (i := 24) rfl))) (notFace_of_selects (args := #[]) (mvT hZ (hw _ (List.mem_of_getElem? (i := 26) rfl)))) (mvT hZ (hw _ (List.mem_of_getElem? (i := 26) rfl))) (mvT hZ (hw _ (List.mem_of_getElem? (i := 25) rfl))) (by decide) (backOf (W := 0) (rm4 l Z aw hw [] o7 o0 o1 o2 o3 o4 o5 o6 o7 h0 n0 Z0 S_COMMITTED S_ABORTED S_IN_DOUBT S_UNKNOWN S_FORCED_COMMIT S_FORCED_ABORT S_FORCED_COMMIT_CONFLICT S_FORCED_ABORT_CONFLICT) hZ (hw _ (List.mem_of_getElem? (i := 27) rfl)) (hw _ (List.mem_of_getElem? (i := 5) rfl)) (by decide) (by decide)) q170a q170c (g := (mkF m 84 #[.val (.int p0), .val (.int p1), .val (.int (7 : Int32)), .val (.ref o7), .val (.int (1 : Int32)), .val (.int (0 : Int32)), .val (.int (0 : Int32)), .val (.ref o5), .val (.int (1 : Int32)), .unset] [(.ref o7)])) rfl (by rw [hml]; rfl) (Steps.refl _) (argsL := []) (rest := []) (lenOf pd_2 rfl) rfl (by show 2 * 0 + _ ≤ _; exact Nat.le_of_eq rfl) (hb hby at_84) (fun _ _ => ⟨rfl, e169, (by decide : 0 + 0 ≤ _), (by decide : 0 + 0 ≤ _)⟩)
        dsimp only [Pt.U, Pt.locs, Pt.cells, Pt.slots] at X170 l170 y170 z170 st170 hQ170
        subst l170 y170 z170
        obtain ⟨hv170, N170q, e170⟩ := hQ170
        rw [own_three_no (Ne.symm d0_7) (Ne.symm d4_7) (Ne.symm d6_7)] at hv170
        subst hv170
        have N170 := Fr.app N169 N170q
        obtain ⟨cq171, kq171, q171a, q171b, q171c⟩ := isOf hZ e170 E5
        obtain ⟨_, _, ⟨T171, L171, k171, n171⟩, -, X171, ⟨Lc171, hQ171, l171, y171, z171⟩, st171⟩ := X170.virtualBack hx (y := (⟨"com/example/unanimity/unanimity/engine/Outcome", "abortedHere", "()Z"⟩ : MethodName)) (z := (⟨"com/example/unanimity/unanimity/engine/Outcome", "abortedHere", "()Z"⟩ : MethodName)) hown (mvT hZ (hw _ (List.mem_of_getElem? (i := 12) rfl))) (mvT hZ (hw _ (List.mem_of_getElem? (i := 13) rfl))) (notFace_of_selects (args := #[]) (mvT hZ (hw _ (List.mem_of_getElem? (i := 15) rfl)))) (mvT hZ (hw _ (List.mem_of_getElem? (i := 15) rfl))) (mvT hZ (hw _ (List.mem_of_getElem? (i := 14) rfl))) (by decide) (backOf (W := 0) (rm3 l Z aw hw [] o5 o0 o1 o2 o3 o4 o5 o6 o7 h0 n0 Z0 S_COMMITTED S_ABORTED S_IN_DOUBT S_UNKNOWN S_FORCED_COMMIT S_FORCED_ABORT S_FORCED_COMMIT_CONFLICT S_FORCED_ABORT_CONFLICT) hZ (hw _ (List.mem_of_getElem? (i := 16) rfl)) (hw _ (List.mem_of_getElem? (i := 5) rfl)) (by decide) (by decide)) q171a q171c (g := (mkF m 98 #[.val (.int p0), .val (.int p1), .val (.int (7 : Int32)), .val (.ref o7), .val (.int (1 : Int32)), .val (.int (0 : Int32)), .val (.int (0 : Int32)), .val (.ref o5), .val (.int (1 : Int32)), .val (.int (0 : Int32))] [(.ref o5)])) rfl (by rw [hml]; rfl) (Steps.refl _) (argsL := []) (rest := []) (lenOf pd_2 rfl) rfl (by show 2 * 0 + _ ≤ _; exact Nat.le_of_eq rfl) (hb hby at_98) (fun _ _ => ⟨rfl, e170, (by decide : 0 + 0 ≤ _), (by decide : 0 + 0 ≤ _)⟩)
        dsimp only [Pt.U, Pt.locs, Pt.cells, Pt.slots] at X171 l171 y171 z171 st171 hQ171
        subst l171 y171 z171
        obtain ⟨hv171, N171q, e171⟩ := hQ171
        rw [own_three_hit2] at hv171
        subst hv171
        have N171 := Fr.app N170 N171q
        obtain ⟨fs, hr, hrun, hended, hW, hsame⟩ := X171.leave (v := some (.int (1 : Int32))) (fun h => by rw [Bd.returns] at h; cases h)
        refine ⟨_, _, pre166 _ ?_, hrun, hended, _, _, rfl, ?_, ⟨_, rfl⟩, hW, hsame.mono (by decide) (by decide)⟩
        · show Steps p.tables e below (T163.setTop (mkF m 58 #[.val (.int p0), .val (.int p1), .val (.int (7 : Int32)), .val (.ref o7), .val (.int (1 : Int32)), .val (.int (0 : Int32)), .unset, .unset, .unset, .unset] [(.int (p1 &&& (2 : Int32)))])) _
          refine XS.ifYes X163.here hx rfl (pc0 := 58) (pc' := 65) rfl (hb hby at_58) rfl ((if0 _ _).trans (teq hc167).1) (by decide) (by decide) ?_
          show Steps p.tables e below (T163.setTop (mkF m 65 #[.val (.int p0), .val (.int p1), .val (.int (7 : Int32)), .val (.ref o7), .val (.int (1 : Int32)), .val (.int (0 : Int32)), .unset, .unset, .unset, .unset] [])) _
          refine XS.iconst X163.here hx rfl (hb hby at_65) ?_
          show Steps p.tables e below (T163.setTop (mkF m 66 #[.val (.int p0), .val (.int p1), .val (.int (7 : Int32)), .val (.ref o7), .val (.int (1 : Int32)), .val (.int (0 : Int32)), .unset, .unset, .unset, .unset] [(.int (0 : Int32))])) _
          refine XS.istore X163.here hx rfl (hb hby at_66) rfl (l' := #[.val (.int p0), .val (.int p1), .val (.int (7 : Int32)), .val (.ref o7), .val (.int (1 : Int32)), .val (.int (0 : Int32)), .val (.int (0 : Int32)), .unset, .unset, .unset]) rfl ?_
          show Steps p.tables e below (T163.setTop (mkF m 68 #[.val (.int p0), .val (.int p1), .val (.int (7 : Int32)), .val (.ref o7), .val (.int (1 : Int32)), .val (.int (0 : Int32)), .val (.int (0 : Int32)), .unset, .unset, .unset] [])) _
          refine XS.iload X163.here hx rfl (hb hby at_68) rfl ?_
          show Steps p.tables e below (T163.setTop (mkF m 70 #[.val (.int p0), .val (.int p1), .val (.int (7 : Int32)), .val (.ref o7), .val (.int (1 : Int32)), .val (.int (0 : Int32)), .val (.int (0 : Int32)), .unset, .unset, .unset] [(.int (0 : Int32))])) _
          refine XS.iload X163.here hx rfl (hb hby at_70) rfl ?_
          show Steps p.tables e below (T163.setTop (mkF m 72 #[.val (.int p0), .val (.int p1), .val (.int (7 : Int32)), .val (.ref o7), .val (.int (1 : Int32)), .val (.int (0 : Int32)), .val (.int (0 : Int32)), .unset, .unset, .unset] [(.int (0 : Int32)), (.int (0 : Int32))])) _
          refine st168 _ ?_
          show Steps p.tables e below (T168.setTop (mkF m 75 #[.val (.int p0), .val (.int p1), .val (.int (7 : Int32)), .val (.ref o7), .val (.int (1 : Int32)), .val (.int (0 : Int32)), .val (.int (0 : Int32)), .unset, .unset, .unset] [(.ref o5)])) _
          refine XS.astore X168.here hx rfl (hb hby at_75) rfl rfl (l' := #[.val (.int p0), .val (.int p1), .val (.int (7 : Int32)), .val (.ref o7), .val (.int (1 : Int32)), .val (.int (0 : Int32)), .val (.int (0 : Int32)), .val (.ref o5), .unset, .unset]) rfl ?_
          show Steps p.tables e below (T168.setTop (mkF m 77 #[.val (.int p0), .val (.int p1), .val (.int (7 : Int32)), .val (.ref o7), .val (.int (1 : Int32)), .val (.int (0 : Int32)), .val (.int (0 : Int32)), .val (.ref o5), .unset, .unset] [])) _
          refine XS.aloadN X168.here hx rfl (hb hby at_77) rfl rfl ?_
          show Steps p.tables e below (T168.setTop (mkF m 78 #[.val (.int p0), .val (.int p1), .val (.int (7 : Int32)), .val (.ref o7), .val (.int (1 : Int32)), .val (.int (0 : Int32)), .val (.int (0 : Int32)), .val (.ref o5), .unset, .unset] [(.ref o7)])) _
          refine st169.trans ?_
          show Steps p.tables e below (T169.setTop (mkF m 81 #[.val (.int p0), .val (.int p1), .val (.int (7 : Int32)), .val (.ref o7), .val (.int (1 : Int32)), .val (.int (0 : Int32)), .val (.int (0 : Int32)), .val (.ref o5), .unset, .unset] [(.int (1 : Int32))])) _
          refine XS.istore X169.here hx rfl (hb hby at_81) rfl (l' := #[.val (.int p0), .val (.int p1), .val (.int (7 : Int32)), .val (.ref o7), .val (.int (1 : Int32)), .val (.int (0 : Int32)), .val (.int (0 : Int32)), .val (.ref o5), .val (.int (1 : Int32)), .unset]) rfl ?_
          show Steps p.tables e below (T169.setTop (mkF m 83 #[.val (.int p0), .val (.int p1), .val (.int (7 : Int32)), .val (.ref o7), .val (.int (1 : Int32)), .val (.int (0 : Int32)), .val (.int (0 : Int32)), .val (.ref o5), .val (.int (1 : Int32)), .unset] [])) _
          refine XS.aloadN X169.here hx rfl (hb hby at_83) rfl rfl ?_
          show Steps p.tables e below (T169.setTop (mkF m 84 #[.val (.int p0), .val (.int p1), .val (.int (7 : Int32)), .val (.ref o7), .val (.int (1 : Int32)), .val (.int (0 : Int32)), .val (.int (0 : Int32)), .val (.ref o5), .val (.int (1 : Int32)), .unset] [(.ref o7)])) _
          refine st170.trans ?_
          show Steps p.tables e below (T170.setTop (mkF m 87 #[.val (.int p0), .val (.int p1), .val (.int (7 : Int32)), .val (.ref o7), .val (.int (1 : Int32)), .val (.int (0 : Int32)), .val (.int (0 : Int32)), .val (.ref o5), .val (.int (1 : Int32)), .unset] [(.int (0 : Int32))])) _
          refine XS.istore X170.here hx rfl (hb hby at_87) rfl (l' := #[.val (.int p0), .val (.int p1), .val (.int (7 : Int32)), .val (.ref o7), .val (.int (1 : Int32)), .val (.int (0 : Int32)), .val (.int (0 : Int32)), .val (.ref o5), .val (.int (1 : Int32)), .val (.int (0 : Int32))]) rfl ?_
          show Steps p.tables e below (T170.setTop (mkF m 89 #[.val (.int p0), .val (.int p1), .val (.int (7 : Int32)), .val (.ref o7), .val (.int (1 : Int32)), .val (.int (0 : Int32)), .val (.int (0 : Int32)), .val (.ref o5), .val (.int (1 : Int32)), .val (.int (0 : Int32))] [])) _
          refine XS.iload X170.here hx rfl (hb hby at_89) rfl ?_
          show Steps p.tables e below (T170.setTop (mkF m 91 #[.val (.int p0), .val (.int p1), .val (.int (7 : Int32)), .val (.ref o7), .val (.int (1 : Int32)), .val (.int (0 : Int32)), .val (.int (0 : Int32)), .val (.ref o5), .val (.int (1 : Int32)), .val (.int (0 : Int32))] [(.int (1 : Int32))])) _
          refine XS.iload X170.here hx rfl (hb hby at_91) rfl ?_
          show Steps p.tables e below (T170.setTop (mkF m 93 #[.val (.int p0), .val (.int p1), .val (.int (7 : Int32)), .val (.ref o7), .val (.int (1 : Int32)), .val (.int (0 : Int32)), .val (.int (0 : Int32)), .val (.ref o5), .val (.int (1 : Int32)), .val (.int (0 : Int32))] [(.int (1 : Int32)), (.int (1 : Int32))])) _
          refine XS.icmpNo X170.here hx rfl (hb hby at_93) rfl (teq (by decide : (1 : Int32) = (1 : Int32))).2 ?_
          show Steps p.tables e below (T170.setTop (mkF m 96 #[.val (.int p0), .val (.int p1), .val (.int (7 : Int32)), .val (.ref o7), .val (.int (1 : Int32)), .val (.int (0 : Int32)), .val (.int (0 : Int32)), .val (.ref o5), .val (.int (1 : Int32)), .val (.int (0 : Int32))] [])) _
          refine XS.aload X170.here hx rfl (hb hby at_96) rfl rfl ?_
          show Steps p.tables e below (T170.setTop (mkF m 98 #[.val (.int p0), .val (.int p1), .val (.int (7 : Int32)), .val (.ref o7), .val (.int (1 : Int32)), .val (.int (0 : Int32)), .val (.int (0 : Int32)), .val (.ref o5), .val (.int (1 : Int32)), .val (.int (0 : Int32))] [(.ref o5)])) _
          refine st171.trans ?_
          show Steps p.tables e below (T171.setTop (mkF m 101 #[.val (.int p0), .val (.int p1), .val (.int (7 : Int32)), .val (.ref o7), .val (.int (1 : Int32)), .val (.int (0 : Int32)), .val (.int (0 : Int32)), .val (.ref o5), .val (.int (1 : Int32)), .val (.int (0 : Int32))] [(.int (1 : Int32))])) _
          refine XS.iload X171.here hx rfl (hb hby at_101) rfl ?_
          show Steps p.tables e below (T171.setTop (mkF m 103 #[.val (.int p0), .val (.int p1), .val (.int (7 : Int32)), .val (.ref o7), .val (.int (1 : Int32)), .val (.int (0 : Int32)), .val (.int (0 : Int32)), .val (.ref o5), .val (.int (1 : Int32)), .val (.int (0 : Int32))] [(.int (0 : Int32)), (.int (1 : Int32))])) _
          refine XS.ifNo X171.here hx rfl (hb hby at_103) rfl ((if0 _ _).trans (teq (by decide : (0 : Int32) = (0 : Int32))).2) ?_
          show Steps p.tables e below (T171.setTop (mkF m 106 #[.val (.int p0), .val (.int p1), .val (.int (7 : Int32)), .val (.ref o7), .val (.int (1 : Int32)), .val (.int (0 : Int32)), .val (.int (0 : Int32)), .val (.ref o5), .val (.int (1 : Int32)), .val (.int (0 : Int32))] [(.int (1 : Int32))])) _
          refine XS.iconst X171.here hx rfl (hb hby at_106) ?_
          show Steps p.tables e below (T171.setTop (mkF m 107 #[.val (.int p0), .val (.int p1), .val (.int (7 : Int32)), .val (.ref o7), .val (.int (1 : Int32)), .val (.int (0 : Int32)), .val (.int (0 : Int32)), .val (.ref o5), .val (.int (1 : Int32)), .val (.int (0 : Int32))] [(.int (1 : Int32)), (.int (1 : Int32))])) _
          refine XS.goto X171.here hx rfl (pc0 := 107) (pc' := 111) rfl (hb hby at_107) (by decide) (by decide) ?_
          show Steps p.tables e below (T171.setTop (mkF m 111 #[.val (.int p0), .val (.int p1), .val (.int (7 : Int32)), .val (.ref o7), .val (.int (1 : Int32)), .val (.int (0 : Int32)), .val (.int (0 : Int32)), .val (.ref o5), .val (.int (1 : Int32)), .val (.int (0 : Int32))] [(.int (1 : Int32)), (.int (1 : Int32))])) _
          refine XS.icmpNo X171.here hx rfl (hb hby at_111) rfl (teq (by decide : (1 : Int32) = (1 : Int32))).2 ?_
          show Steps p.tables e below (T171.setTop (mkF m 114 #[.val (.int p0), .val (.int p1), .val (.int (7 : Int32)), .val (.ref o7), .val (.int (1 : Int32)), .val (.int (0 : Int32)), .val (.int (0 : Int32)), .val (.ref o5), .val (.int (1 : Int32)), .val (.int (0 : Int32))] [])) _
          refine XS.iload X171.here hx rfl (hb hby at_114) rfl ?_
          show Steps p.tables e below (T171.setTop (mkF m 116 #[.val (.int p0), .val (.int p1), .val (.int (7 : Int32)), .val (.ref o7), .val (.int (1 : Int32)), .val (.int (0 : Int32)), .val (.int (0 : Int32)), .val (.ref o5), .val (.int (1 : Int32)), .val (.int (0 : Int32))] [(.int (1 : Int32))])) _
          refine XS.ifNo X171.here hx rfl (hb hby at_116) rfl ((if0 _ _).trans (feq (by decide : ¬ ((1 : Int32) = (0 : Int32)))).1) ?_
          show Steps p.tables e below (T171.setTop (mkF m 119 #[.val (.int p0), .val (.int p1), .val (.int (7 : Int32)), .val (.ref o7), .val (.int (1 : Int32)), .val (.int (0 : Int32)), .val (.int (0 : Int32)), .val (.ref o5), .val (.int (1 : Int32)), .val (.int (0 : Int32))] [])) _
          refine XS.iload X171.here hx rfl (hb hby at_119) rfl ?_
          show Steps p.tables e below (T171.setTop (mkF m 121 #[.val (.int p0), .val (.int p1), .val (.int (7 : Int32)), .val (.ref o7), .val (.int (1 : Int32)), .val (.int (0 : Int32)), .val (.int (0 : Int32)), .val (.ref o5), .val (.int (1 : Int32)), .val (.int (0 : Int32))] [(.int (0 : Int32))])) _
          refine XS.ifNo X171.here hx rfl (hb hby at_121) rfl ((if0 _ _).trans (teq (by decide : (0 : Int32) = (0 : Int32))).2) ?_
          show Steps p.tables e below (T171.setTop (mkF m 124 #[.val (.int p0), .val (.int p1), .val (.int (7 : Int32)), .val (.ref o7), .val (.int (1 : Int32)), .val (.int (0 : Int32)), .val (.int (0 : Int32)), .val (.ref o5), .val (.int (1 : Int32)), .val (.int (0 : Int32))] [])) _
          refine XS.iconst X171.here hx rfl (hb hby at_124) ?_
          show Steps p.tables e below (T171.setTop (mkF m 125 #[.val (.int p0), .val (.int p1), .val (.int (7 : Int32)), .val (.ref o7), .val (.int (1 : Int32)), .val (.int (0 : Int32)), .val (.int (0 : Int32)), .val (.ref o5), .val (.int (1 : Int32)), .val (.int (0 : Int32))] [(.int (1 : Int32))])) _
          refine XS.goto X171.here hx rfl (pc0 := 125) (pc' := 129) rfl (hb hby at_125) (by decide) (by decide) ?_
          show Steps p.tables e below (T171.setTop (mkF m 129 #[.val (.int p0), .val (.int p1), .val (.int (7 : Int32)), .val (.ref o7), .val (.int (1 : Int32)), .val (.int (0 : Int32)), .val (.int (0 : Int32)), .val (.ref o5), .val (.int (1 : Int32)), .val (.int (0 : Int32))] [(.int (1 : Int32))])) _
          exact retN X171 hx (t := .boolean) Bd.returns (by simp) (hb hby at_129) hr
        · show Q0 Z p0 p1 o0 o1 o2 o3 o4 o5 o6 o7 h0 n0 _ T171.heap _
          rw [e171]
          exact ⟨rfl, N171⟩
      · obtain ⟨_, _, ⟨T172, L172, k172, n172⟩, -, X172, ⟨Lc172, hQ172, l172, y172, z172⟩, st172⟩ := Jvm.LawKit.callS X163 hx (y := (⟨"com/example/unanimity/unanimity/engine/Outcome", "forced", "(ZZ)Lcom/example/unanimity/unanimity/engine/Outcome;"⟩ : MethodName)) hown (mvT hZ (hw _ (List.mem_of_getElem? (i := 7) rfl))) (mvT hZ (hw _ (List.mem_of_getElem? (i := 8) rfl))) (mvT hZ (hw _ (List.mem_of_getElem? (i := 5) rfl))) (mvT hZ (hw _ (List.mem_of_getElem? (i := 9) rfl))) (by decide) (backOf (W := 0) (rm2 l Z aw hw [] (0 : Int32) (1 : Int32) o0 o1 o2 o3 o4 o5 o6 o7 h0 n0 Z0 S_COMMITTED S_ABORTED S_IN_DOUBT S_UNKNOWN S_FORCED_COMMIT S_FORCED_ABORT S_FORCED_COMMIT_CONFLICT S_FORCED_ABORT_CONFLICT) hZ (hw _ (List.mem_of_getElem? (i := 9) rfl)) (hw _ (List.mem_of_getElem? (i := 5) rfl)) (by decide) (by decide)) (g := (mkF m 72 #[.val (.int p0), .val (.int p1), .val (.int (7 : Int32)), .val (.ref o7), .val (.int (1 : Int32)), .val (.int (0 : Int32)), .val (.int (1 : Int32)), .unset, .unset, .unset] [(.int (1 : Int32)), (.int (0 : Int32))])) rfl (by rw [hml]; rfl) (argsL := [(.int (0 : Int32)), (.int (1 : Int32))]) (rest := []) (lenOf pd_1 rfl) rfl (by show 2 * 0 + _ ≤ _; exact Nat.le_of_eq rfl) (hb hby at_72) (fun _ _ => ⟨rfl, e163, (by decide : 0 + 0 ≤ _), (by decide : 0 + 0 ≤ _)⟩)
        dsimp only [Pt.U, Pt.locs, Pt.cells, Pt.slots] at X172 l172 y172 z172 st172 hQ172
        subst l172 y172 z172
        obtain ⟨hv172, N172q, e172⟩ := hQ172
        rw [show own_forced (0 : Int32) (1 : Int32) o4 o5 o6 o7 = o7 from rfl] at hv172
        subst hv172
        have N172 := Fr.app N163 N172q
        obtain ⟨cq173, kq173, q173a, q173b, q173c⟩ := isOf hZ e172 E7
        obtain ⟨_, _, ⟨T173, L173, k173, n173⟩, -, X173, ⟨Lc173, hQ173, l173, y173, z173⟩, st173⟩ := X172.virtualBack hx (y := (⟨"com/example/unanimity/unanimity/engine/Outcome", "abortedHere", "()Z"⟩ : MethodName)) (z := (⟨"com/example/unanimity/unanimity/engine/Outcome", "abortedHere", "()Z"⟩ : MethodName)) hown (mvT hZ (hw _ (List.mem_of_getElem? (i := 12) rfl))) (mvT hZ (hw _ (List.mem_of_getElem? (i := 13) rfl))) (notFace_of_selects (args := #[]) (mvT hZ (hw _ (List.mem_of_getElem? (i := 15) rfl)))) (mvT hZ (hw _ (List.mem_of_getElem? (i := 15) rfl))) (mvT hZ (hw _ (List.mem_of_getElem? (i := 14) rfl))) (by decide) (backOf (W := 0) (rm3 l Z aw hw [] o7 o0 o1 o2 o3 o4 o5 o6 o7 h0 n0 Z0 S_COMMITTED S_ABORTED S_IN_DOUBT S_UNKNOWN S_FORCED_COMMIT S_FORCED_ABORT S_FORCED_COMMIT_CONFLICT S_FORCED_ABORT_CONFLICT) hZ (hw _ (List.mem_of_getElem? (i := 16) rfl)) (hw _ (List.mem_of_getElem? (i := 5) rfl)) (by decide) (by decide)) q173a q173c (g := (mkF m 78 #[.val (.int p0), .val (.int p1), .val (.int (7 : Int32)), .val (.ref o7), .val (.int (1 : Int32)), .val (.int (0 : Int32)), .val (.int (1 : Int32)), .val (.ref o7), .unset, .unset] [(.ref o7)])) rfl (by rw [hml]; rfl) (Steps.refl _) (argsL := []) (rest := []) (lenOf pd_2 rfl) rfl (by show 2 * 0 + _ ≤ _; exact Nat.le_of_eq rfl) (hb hby at_78) (fun _ _ => ⟨rfl, e172, (by decide : 0 + 0 ≤ _), (by decide : 0 + 0 ≤ _)⟩)
        dsimp only [Pt.U, Pt.locs, Pt.cells, Pt.slots] at X173 l173 y173 z173 st173 hQ173
        subst l173 y173 z173
        obtain ⟨hv173, N173q, e173⟩ := hQ173
        rw [own_three_hit3] at hv173
        subst hv173
        have N173 := Fr.app N172 N173q
        obtain ⟨cq174, kq174, q174a, q174b, q174c⟩ := isOf hZ e173 E7
        obtain ⟨_, _, ⟨T174, L174, k174, n174⟩, -, X174, ⟨Lc174, hQ174, l174, y174, z174⟩, st174⟩ := X173.virtualBack hx (y := (⟨"com/example/unanimity/unanimity/engine/Outcome", "committedHere", "()Z"⟩ : MethodName)) (z := (⟨"com/example/unanimity/unanimity/engine/Outcome", "committedHere", "()Z"⟩ : MethodName)) hown (mvT hZ (hw _ (List.mem_of_getElem? (i := 23) rfl))) (mvT hZ (hw _ (List.mem_of_getElem? (i := 24) rfl))) (notFace_of_selects (args := #[]) (mvT hZ (hw _ (List.mem_of_getElem? (i := 26) rfl)))) (mvT hZ (hw _ (List.mem_of_getElem? (i := 26) rfl))) (mvT hZ (hw _ (List.mem_of_getElem? (i := 25) rfl))) (by decide) (backOf (W := 0) (rm4 l Z aw hw [] o7 o0 o1 o2 o3 o4 o5 o6 o7 h0 n0 Z0 S_COMMITTED S_ABORTED S_IN_DOUBT S_UNKNOWN S_FORCED_COMMIT S_FORCED_ABORT S_FORCED_COMMIT_CONFLICT S_FORCED_ABORT_CONFLICT) hZ (hw _ (List.mem_of_getElem? (i := 27) rfl)) (hw _ (List.mem_of_getElem? (i := 5) rfl)) (by decide) (by decide)) q174a q174c (g := (mkF m 84 #[.val (.int p0), .val (.int p1), .val (.int (7 : Int32)), .val (.ref o7), .val (.int (1 : Int32)), .val (.int (0 : Int32)), .val (.int (1 : Int32)), .val (.ref o7), .val (.int (1 : Int32)), .unset] [(.ref o7)])) rfl (by rw [hml]; rfl) (Steps.refl _) (argsL := []) (rest := []) (lenOf pd_2 rfl) rfl (by show 2 * 0 + _ ≤ _; exact Nat.le_of_eq rfl) (hb hby at_84) (fun _ _ => ⟨rfl, e173, (by decide : 0 + 0 ≤ _), (by decide : 0 + 0 ≤ _)⟩)
        dsimp only [Pt.U, Pt.locs, Pt.cells, Pt.slots] at X174 l174 y174 z174 st174 hQ174
        subst l174 y174 z174
        obtain ⟨hv174, N174q, e174⟩ := hQ174
        rw [own_three_no (Ne.symm d0_7) (Ne.symm d4_7) (Ne.symm d6_7)] at hv174
        subst hv174
        have N174 := Fr.app N173 N174q
        obtain ⟨cq175, kq175, q175a, q175b, q175c⟩ := isOf hZ e174 E7
        obtain ⟨_, _, ⟨T175, L175, k175, n175⟩, -, X175, ⟨Lc175, hQ175, l175, y175, z175⟩, st175⟩ := X174.virtualBack hx (y := (⟨"com/example/unanimity/unanimity/engine/Outcome", "abortedHere", "()Z"⟩ : MethodName)) (z := (⟨"com/example/unanimity/unanimity/engine/Outcome", "abortedHere", "()Z"⟩ : MethodName)) hown (mvT hZ (hw _ (List.mem_of_getElem? (i := 12) rfl))) (mvT hZ (hw _ (List.mem_of_getElem? (i := 13) rfl))) (notFace_of_selects (args := #[]) (mvT hZ (hw _ (List.mem_of_getElem? (i := 15) rfl)))) (mvT hZ (hw _ (List.mem_of_getElem? (i := 15) rfl))) (mvT hZ (hw _ (List.mem_of_getElem? (i := 14) rfl))) (by decide) (backOf (W := 0) (rm3 l Z aw hw [] o7 o0 o1 o2 o3 o4 o5 o6 o7 h0 n0 Z0 S_COMMITTED S_ABORTED S_IN_DOUBT S_UNKNOWN S_FORCED_COMMIT S_FORCED_ABORT S_FORCED_COMMIT_CONFLICT S_FORCED_ABORT_CONFLICT) hZ (hw _ (List.mem_of_getElem? (i := 16) rfl)) (hw _ (List.mem_of_getElem? (i := 5) rfl)) (by decide) (by decide)) q175a q175c (g := (mkF m 98 #[.val (.int p0), .val (.int p1), .val (.int (7 : Int32)), .val (.ref o7), .val (.int (1 : Int32)), .val (.int (0 : Int32)), .val (.int (1 : Int32)), .val (.ref o7), .val (.int (1 : Int32)), .val (.int (0 : Int32))] [(.ref o7)])) rfl (by rw [hml]; rfl) (Steps.refl _) (argsL := []) (rest := []) (lenOf pd_2 rfl) rfl (by show 2 * 0 + _ ≤ _; exact Nat.le_of_eq rfl) (hb hby at_98) (fun _ _ => ⟨rfl, e174, (by decide : 0 + 0 ≤ _), (by decide : 0 + 0 ≤ _)⟩)
        dsimp only [Pt.U, Pt.locs, Pt.cells, Pt.slots] at X175 l175 y175 z175 st175 hQ175
        subst l175 y175 z175
        obtain ⟨hv175, N175q, e175⟩ := hQ175
        rw [own_three_hit3] at hv175
        subst hv175
        have N175 := Fr.app N174 N175q
        obtain ⟨fs, hr, hrun, hended, hW, hsame⟩ := X175.leave (v := some (.int (1 : Int32))) (fun h => by rw [Bd.returns] at h; cases h)
        refine ⟨_, _, pre166 _ ?_, hrun, hended, _, _, rfl, ?_, ⟨_, rfl⟩, hW, hsame.mono (by decide) (by decide)⟩
        · show Steps p.tables e below (T163.setTop (mkF m 58 #[.val (.int p0), .val (.int p1), .val (.int (7 : Int32)), .val (.ref o7), .val (.int (1 : Int32)), .val (.int (0 : Int32)), .unset, .unset, .unset, .unset] [(.int (p1 &&& (2 : Int32)))])) _
          refine XS.ifNo X163.here hx rfl (hb hby at_58) rfl ((if0 _ _).trans (feq hc167).1) ?_
          show Steps p.tables e below (T163.setTop (mkF m 61 #[.val (.int p0), .val (.int p1), .val (.int (7 : Int32)), .val (.ref o7), .val (.int (1 : Int32)), .val (.int (0 : Int32)), .unset, .unset, .unset, .unset] [])) _
          refine XS.iconst X163.here hx rfl (hb hby at_61) ?_
          show Steps p.tables e below (T163.setTop (mkF m 62 #[.val (.int p0), .val (.int p1), .val (.int (7 : Int32)), .val (.ref o7), .val (.int (1 : Int32)), .val (.int (0 : Int32)), .unset, .unset, .unset, .unset] [(.int (1 : Int32))])) _
          refine XS.goto X163.here hx rfl (pc0 := 62) (pc' := 66) rfl (hb hby at_62) (by decide) (by decide) ?_
          show Steps p.tables e below (T163.setTop (mkF m 66 #[.val (.int p0), .val (.int p1), .val (.int (7 : Int32)), .val (.ref o7), .val (.int (1 : Int32)), .val (.int (0 : Int32)), .unset, .unset, .unset, .unset] [(.int (1 : Int32))])) _
          refine XS.istore X163.here hx rfl (hb hby at_66) rfl (l' := #[.val (.int p0), .val (.int p1), .val (.int (7 : Int32)), .val (.ref o7), .val (.int (1 : Int32)), .val (.int (0 : Int32)), .val (.int (1 : Int32)), .unset, .unset, .unset]) rfl ?_
          show Steps p.tables e below (T163.setTop (mkF m 68 #[.val (.int p0), .val (.int p1), .val (.int (7 : Int32)), .val (.ref o7), .val (.int (1 : Int32)), .val (.int (0 : Int32)), .val (.int (1 : Int32)), .unset, .unset, .unset] [])) _
          refine XS.iload X163.here hx rfl (hb hby at_68) rfl ?_
          show Steps p.tables e below (T163.setTop (mkF m 70 #[.val (.int p0), .val (.int p1), .val (.int (7 : Int32)), .val (.ref o7), .val (.int (1 : Int32)), .val (.int (0 : Int32)), .val (.int (1 : Int32)), .unset, .unset, .unset] [(.int (0 : Int32))])) _
          refine XS.iload X163.here hx rfl (hb hby at_70) rfl ?_
          show Steps p.tables e below (T163.setTop (mkF m 72 #[.val (.int p0), .val (.int p1), .val (.int (7 : Int32)), .val (.ref o7), .val (.int (1 : Int32)), .val (.int (0 : Int32)), .val (.int (1 : Int32)), .unset, .unset, .unset] [(.int (1 : Int32)), (.int (0 : Int32))])) _
          refine st172 _ ?_
          show Steps p.tables e below (T172.setTop (mkF m 75 #[.val (.int p0), .val (.int p1), .val (.int (7 : Int32)), .val (.ref o7), .val (.int (1 : Int32)), .val (.int (0 : Int32)), .val (.int (1 : Int32)), .unset, .unset, .unset] [(.ref o7)])) _
          refine XS.astore X172.here hx rfl (hb hby at_75) rfl rfl (l' := #[.val (.int p0), .val (.int p1), .val (.int (7 : Int32)), .val (.ref o7), .val (.int (1 : Int32)), .val (.int (0 : Int32)), .val (.int (1 : Int32)), .val (.ref o7), .unset, .unset]) rfl ?_
          show Steps p.tables e below (T172.setTop (mkF m 77 #[.val (.int p0), .val (.int p1), .val (.int (7 : Int32)), .val (.ref o7), .val (.int (1 : Int32)), .val (.int (0 : Int32)), .val (.int (1 : Int32)), .val (.ref o7), .unset, .unset] [])) _
          refine XS.aloadN X172.here hx rfl (hb hby at_77) rfl rfl ?_
          show Steps p.tables e below (T172.setTop (mkF m 78 #[.val (.int p0), .val (.int p1), .val (.int (7 : Int32)), .val (.ref o7), .val (.int (1 : Int32)), .val (.int (0 : Int32)), .val (.int (1 : Int32)), .val (.ref o7), .unset, .unset] [(.ref o7)])) _
          refine st173.trans ?_
          show Steps p.tables e below (T173.setTop (mkF m 81 #[.val (.int p0), .val (.int p1), .val (.int (7 : Int32)), .val (.ref o7), .val (.int (1 : Int32)), .val (.int (0 : Int32)), .val (.int (1 : Int32)), .val (.ref o7), .unset, .unset] [(.int (1 : Int32))])) _
          refine XS.istore X173.here hx rfl (hb hby at_81) rfl (l' := #[.val (.int p0), .val (.int p1), .val (.int (7 : Int32)), .val (.ref o7), .val (.int (1 : Int32)), .val (.int (0 : Int32)), .val (.int (1 : Int32)), .val (.ref o7), .val (.int (1 : Int32)), .unset]) rfl ?_
          show Steps p.tables e below (T173.setTop (mkF m 83 #[.val (.int p0), .val (.int p1), .val (.int (7 : Int32)), .val (.ref o7), .val (.int (1 : Int32)), .val (.int (0 : Int32)), .val (.int (1 : Int32)), .val (.ref o7), .val (.int (1 : Int32)), .unset] [])) _
          refine XS.aloadN X173.here hx rfl (hb hby at_83) rfl rfl ?_
          show Steps p.tables e below (T173.setTop (mkF m 84 #[.val (.int p0), .val (.int p1), .val (.int (7 : Int32)), .val (.ref o7), .val (.int (1 : Int32)), .val (.int (0 : Int32)), .val (.int (1 : Int32)), .val (.ref o7), .val (.int (1 : Int32)), .unset] [(.ref o7)])) _
          refine st174.trans ?_
          show Steps p.tables e below (T174.setTop (mkF m 87 #[.val (.int p0), .val (.int p1), .val (.int (7 : Int32)), .val (.ref o7), .val (.int (1 : Int32)), .val (.int (0 : Int32)), .val (.int (1 : Int32)), .val (.ref o7), .val (.int (1 : Int32)), .unset] [(.int (0 : Int32))])) _
          refine XS.istore X174.here hx rfl (hb hby at_87) rfl (l' := #[.val (.int p0), .val (.int p1), .val (.int (7 : Int32)), .val (.ref o7), .val (.int (1 : Int32)), .val (.int (0 : Int32)), .val (.int (1 : Int32)), .val (.ref o7), .val (.int (1 : Int32)), .val (.int (0 : Int32))]) rfl ?_
          show Steps p.tables e below (T174.setTop (mkF m 89 #[.val (.int p0), .val (.int p1), .val (.int (7 : Int32)), .val (.ref o7), .val (.int (1 : Int32)), .val (.int (0 : Int32)), .val (.int (1 : Int32)), .val (.ref o7), .val (.int (1 : Int32)), .val (.int (0 : Int32))] [])) _
          refine XS.iload X174.here hx rfl (hb hby at_89) rfl ?_
          show Steps p.tables e below (T174.setTop (mkF m 91 #[.val (.int p0), .val (.int p1), .val (.int (7 : Int32)), .val (.ref o7), .val (.int (1 : Int32)), .val (.int (0 : Int32)), .val (.int (1 : Int32)), .val (.ref o7), .val (.int (1 : Int32)), .val (.int (0 : Int32))] [(.int (1 : Int32))])) _
          refine XS.iload X174.here hx rfl (hb hby at_91) rfl ?_
          show Steps p.tables e below (T174.setTop (mkF m 93 #[.val (.int p0), .val (.int p1), .val (.int (7 : Int32)), .val (.ref o7), .val (.int (1 : Int32)), .val (.int (0 : Int32)), .val (.int (1 : Int32)), .val (.ref o7), .val (.int (1 : Int32)), .val (.int (0 : Int32))] [(.int (1 : Int32)), (.int (1 : Int32))])) _
          refine XS.icmpNo X174.here hx rfl (hb hby at_93) rfl (teq (by decide : (1 : Int32) = (1 : Int32))).2 ?_
          show Steps p.tables e below (T174.setTop (mkF m 96 #[.val (.int p0), .val (.int p1), .val (.int (7 : Int32)), .val (.ref o7), .val (.int (1 : Int32)), .val (.int (0 : Int32)), .val (.int (1 : Int32)), .val (.ref o7), .val (.int (1 : Int32)), .val (.int (0 : Int32))] [])) _
          refine XS.aload X174.here hx rfl (hb hby at_96) rfl rfl ?_
          show Steps p.tables e below (T174.setTop (mkF m 98 #[.val (.int p0), .val (.int p1), .val (.int (7 : Int32)), .val (.ref o7), .val (.int (1 : Int32)), .val (.int (0 : Int32)), .val (.int (1 : Int32)), .val (.ref o7), .val (.int (1 : Int32)), .val (.int (0 : Int32))] [(.ref o7)])) _
          refine st175.trans ?_
          show Steps p.tables e below (T175.setTop (mkF m 101 #[.val (.int p0), .val (.int p1), .val (.int (7 : Int32)), .val (.ref o7), .val (.int (1 : Int32)), .val (.int (0 : Int32)), .val (.int (1 : Int32)), .val (.ref o7), .val (.int (1 : Int32)), .val (.int (0 : Int32))] [(.int (1 : Int32))])) _
          refine XS.iload X175.here hx rfl (hb hby at_101) rfl ?_
          show Steps p.tables e below (T175.setTop (mkF m 103 #[.val (.int p0), .val (.int p1), .val (.int (7 : Int32)), .val (.ref o7), .val (.int (1 : Int32)), .val (.int (0 : Int32)), .val (.int (1 : Int32)), .val (.ref o7), .val (.int (1 : Int32)), .val (.int (0 : Int32))] [(.int (0 : Int32)), (.int (1 : Int32))])) _
          refine XS.ifNo X175.here hx rfl (hb hby at_103) rfl ((if0 _ _).trans (teq (by decide : (0 : Int32) = (0 : Int32))).2) ?_
          show Steps p.tables e below (T175.setTop (mkF m 106 #[.val (.int p0), .val (.int p1), .val (.int (7 : Int32)), .val (.ref o7), .val (.int (1 : Int32)), .val (.int (0 : Int32)), .val (.int (1 : Int32)), .val (.ref o7), .val (.int (1 : Int32)), .val (.int (0 : Int32))] [(.int (1 : Int32))])) _
          refine XS.iconst X175.here hx rfl (hb hby at_106) ?_
          show Steps p.tables e below (T175.setTop (mkF m 107 #[.val (.int p0), .val (.int p1), .val (.int (7 : Int32)), .val (.ref o7), .val (.int (1 : Int32)), .val (.int (0 : Int32)), .val (.int (1 : Int32)), .val (.ref o7), .val (.int (1 : Int32)), .val (.int (0 : Int32))] [(.int (1 : Int32)), (.int (1 : Int32))])) _
          refine XS.goto X175.here hx rfl (pc0 := 107) (pc' := 111) rfl (hb hby at_107) (by decide) (by decide) ?_
          show Steps p.tables e below (T175.setTop (mkF m 111 #[.val (.int p0), .val (.int p1), .val (.int (7 : Int32)), .val (.ref o7), .val (.int (1 : Int32)), .val (.int (0 : Int32)), .val (.int (1 : Int32)), .val (.ref o7), .val (.int (1 : Int32)), .val (.int (0 : Int32))] [(.int (1 : Int32)), (.int (1 : Int32))])) _
          refine XS.icmpNo X175.here hx rfl (hb hby at_111) rfl (teq (by decide : (1 : Int32) = (1 : Int32))).2 ?_
          show Steps p.tables e below (T175.setTop (mkF m 114 #[.val (.int p0), .val (.int p1), .val (.int (7 : Int32)), .val (.ref o7), .val (.int (1 : Int32)), .val (.int (0 : Int32)), .val (.int (1 : Int32)), .val (.ref o7), .val (.int (1 : Int32)), .val (.int (0 : Int32))] [])) _
          refine XS.iload X175.here hx rfl (hb hby at_114) rfl ?_
          show Steps p.tables e below (T175.setTop (mkF m 116 #[.val (.int p0), .val (.int p1), .val (.int (7 : Int32)), .val (.ref o7), .val (.int (1 : Int32)), .val (.int (0 : Int32)), .val (.int (1 : Int32)), .val (.ref o7), .val (.int (1 : Int32)), .val (.int (0 : Int32))] [(.int (1 : Int32))])) _
          refine XS.ifNo X175.here hx rfl (hb hby at_116) rfl ((if0 _ _).trans (feq (by decide : ¬ ((1 : Int32) = (0 : Int32)))).1) ?_
          show Steps p.tables e below (T175.setTop (mkF m 119 #[.val (.int p0), .val (.int p1), .val (.int (7 : Int32)), .val (.ref o7), .val (.int (1 : Int32)), .val (.int (0 : Int32)), .val (.int (1 : Int32)), .val (.ref o7), .val (.int (1 : Int32)), .val (.int (0 : Int32))] [])) _
          refine XS.iload X175.here hx rfl (hb hby at_119) rfl ?_
          show Steps p.tables e below (T175.setTop (mkF m 121 #[.val (.int p0), .val (.int p1), .val (.int (7 : Int32)), .val (.ref o7), .val (.int (1 : Int32)), .val (.int (0 : Int32)), .val (.int (1 : Int32)), .val (.ref o7), .val (.int (1 : Int32)), .val (.int (0 : Int32))] [(.int (0 : Int32))])) _
          refine XS.ifNo X175.here hx rfl (hb hby at_121) rfl ((if0 _ _).trans (teq (by decide : (0 : Int32) = (0 : Int32))).2) ?_
          show Steps p.tables e below (T175.setTop (mkF m 124 #[.val (.int p0), .val (.int p1), .val (.int (7 : Int32)), .val (.ref o7), .val (.int (1 : Int32)), .val (.int (0 : Int32)), .val (.int (1 : Int32)), .val (.ref o7), .val (.int (1 : Int32)), .val (.int (0 : Int32))] [])) _
          refine XS.iconst X175.here hx rfl (hb hby at_124) ?_
          show Steps p.tables e below (T175.setTop (mkF m 125 #[.val (.int p0), .val (.int p1), .val (.int (7 : Int32)), .val (.ref o7), .val (.int (1 : Int32)), .val (.int (0 : Int32)), .val (.int (1 : Int32)), .val (.ref o7), .val (.int (1 : Int32)), .val (.int (0 : Int32))] [(.int (1 : Int32))])) _
          refine XS.goto X175.here hx rfl (pc0 := 125) (pc' := 129) rfl (hb hby at_125) (by decide) (by decide) ?_
          show Steps p.tables e below (T175.setTop (mkF m 129 #[.val (.int p0), .val (.int p1), .val (.int (7 : Int32)), .val (.ref o7), .val (.int (1 : Int32)), .val (.int (0 : Int32)), .val (.int (1 : Int32)), .val (.ref o7), .val (.int (1 : Int32)), .val (.int (0 : Int32))] [(.int (1 : Int32))])) _
          exact retN X175 hx (t := .boolean) Bd.returns (by simp) (hb hby at_129) hr
        · show Q0 Z p0 p1 o0 o1 o2 o3 o4 o5 o6 o7 h0 n0 _ T175.heap _
          rw [e175]
          exact ⟨rfl, N175⟩
    · have pre176 : ∀ t, Steps p.tables e below (T163.setTop (mkF m 58 #[.val (.int p0), .val (.int p1), .val (.int (7 : Int32)), .val (.ref o7), .val (.int (1 : Int32)), .val (.int (1 : Int32)), .unset, .unset, .unset, .unset] [(.int (p1 &&& (2 : Int32)))])) t → Steps p.tables e below (s₁.setTop (entryFrame m #[(.int p0), (.int p1)] maxLocals)) t := fun t k => by
        refine pre164 t ?_
        show Steps p.tables e below (T163.setTop (mkF m 45 #[.val (.int p0), .val (.int p1), .val (.int (7 : Int32)), .val (.ref o7), .val (.int (1 : Int32)), .unset, .unset, .unset, .unset, .unset] [(.int (p1 &&& (1 : Int32)))])) _
        refine XS.ifNo X163.here hx rfl (hb hby at_45) rfl ((if0 _ _).trans (feq hc165).1) ?_
        show Steps p.tables e below (T163.setTop (mkF m 48 #[.val (.int p0), .val (.int p1), .val (.int (7 : Int32)), .val (.ref o7), .val (.int (1 : Int32)), .unset, .unset, .unset, .unset, .unset] [])) _
        refine XS.iconst X163.here hx rfl (hb hby at_48) ?_
        show Steps p.tables e below (T163.setTop (mkF m 49 #[.val (.int p0), .val (.int p1), .val (.int (7 : Int32)), .val (.ref o7), .val (.int (1 : Int32)), .unset, .unset, .unset, .unset, .unset] [(.int (1 : Int32))])) _
        refine XS.goto X163.here hx rfl (pc0 := 49) (pc' := 53) rfl (hb hby at_49) (by decide) (by decide) ?_
        show Steps p.tables e below (T163.setTop (mkF m 53 #[.val (.int p0), .val (.int p1), .val (.int (7 : Int32)), .val (.ref o7), .val (.int (1 : Int32)), .unset, .unset, .unset, .unset, .unset] [(.int (1 : Int32))])) _
        refine XS.istore X163.here hx rfl (hb hby at_53) rfl (l' := #[.val (.int p0), .val (.int p1), .val (.int (7 : Int32)), .val (.ref o7), .val (.int (1 : Int32)), .val (.int (1 : Int32)), .unset, .unset, .unset, .unset]) rfl ?_
        show Steps p.tables e below (T163.setTop (mkF m 55 #[.val (.int p0), .val (.int p1), .val (.int (7 : Int32)), .val (.ref o7), .val (.int (1 : Int32)), .val (.int (1 : Int32)), .unset, .unset, .unset, .unset] [])) _
        refine XS.iloadN X163.here hx rfl (hb hby at_55) rfl ?_
        show Steps p.tables e below (T163.setTop (mkF m 56 #[.val (.int p0), .val (.int p1), .val (.int (7 : Int32)), .val (.ref o7), .val (.int (1 : Int32)), .val (.int (1 : Int32)), .unset, .unset, .unset, .unset] [(.int p1)])) _
        refine XS.iconst X163.here hx rfl (hb hby at_56) ?_
        show Steps p.tables e below (T163.setTop (mkF m 57 #[.val (.int p0), .val (.int p1), .val (.int (7 : Int32)), .val (.ref o7), .val (.int (1 : Int32)), .val (.int (1 : Int32)), .unset, .unset, .unset, .unset] [(.int (2 : Int32)), (.int p1)])) _
        refine XS.iand X163.here hx rfl (hb hby at_57) rfl ?_
        exact k
      by_cases hc177 : (p1 &&& (2 : Int32)) = (0 : Int32)
      · obtain ⟨_, _, ⟨T178, L178, k178, n178⟩, -, X178, ⟨Lc178, hQ178, l178, y178, z178⟩, st178⟩ := Jvm.LawKit.callS X163 hx (y := (⟨"com/example/unanimity/unanimity/engine/Outcome", "forced", "(ZZ)Lcom/example/unanimity/unanimity/engine/Outcome;"⟩ : MethodName)) hown (mvT hZ (hw _ (List.mem_of_getElem? (i := 7) rfl))) (mvT hZ (hw _ (List.mem_of_getElem? (i := 8) rfl))) (mvT hZ (hw _ (List.mem_of_getElem? (i := 5) rfl))) (mvT hZ (hw _ (List.mem_of_getElem? (i := 9) rfl))) (by decide) (backOf (W := 0) (rm2 l Z aw hw [] (1 : Int32) (0 : Int32) o0 o1 o2 o3 o4 o5 o6 o7 h0 n0 Z0 S_COMMITTED S_ABORTED S_IN_DOUBT S_UNKNOWN S_FORCED_COMMIT S_FORCED_ABORT S_FORCED_COMMIT_CONFLICT S_FORCED_ABORT_CONFLICT) hZ (hw _ (List.mem_of_getElem? (i := 9) rfl)) (hw _ (List.mem_of_getElem? (i := 5) rfl)) (by decide) (by decide)) (g := (mkF m 72 #[.val (.int p0), .val (.int p1), .val (.int (7 : Int32)), .val (.ref o7), .val (.int (1 : Int32)), .val (.int (1 : Int32)), .val (.int (0 : Int32)), .unset, .unset, .unset] [(.int (0 : Int32)), (.int (1 : Int32))])) rfl (by rw [hml]; rfl) (argsL := [(.int (1 : Int32)), (.int (0 : Int32))]) (rest := []) (lenOf pd_1 rfl) rfl (by show 2 * 0 + _ ≤ _; exact Nat.le_of_eq rfl) (hb hby at_72) (fun _ _ => ⟨rfl, e163, (by decide : 0 + 0 ≤ _), (by decide : 0 + 0 ≤ _)⟩)
        dsimp only [Pt.U, Pt.locs, Pt.cells, Pt.slots] at X178 l178 y178 z178 st178 hQ178
        subst l178 y178 z178
        obtain ⟨hv178, N178q, e178⟩ := hQ178
        rw [show own_forced (1 : Int32) (0 : Int32) o4 o5 o6 o7 = o4 from rfl] at hv178
        subst hv178
        have N178 := Fr.app N163 N178q
        obtain ⟨cq179, kq179, q179a, q179b, q179c⟩ := isOf hZ e178 E7
        obtain ⟨_, _, ⟨T179, L179, k179, n179⟩, -, X179, ⟨Lc179, hQ179, l179, y179, z179⟩, st179⟩ := X178.virtualBack hx (y := (⟨"com/example/unanimity/unanimity/engine/Outcome", "abortedHere", "()Z"⟩ : MethodName)) (z := (⟨"com/example/unanimity/unanimity/engine/Outcome", "abortedHere", "()Z"⟩ : MethodName)) hown (mvT hZ (hw _ (List.mem_of_getElem? (i := 12) rfl))) (mvT hZ (hw _ (List.mem_of_getElem? (i := 13) rfl))) (notFace_of_selects (args := #[]) (mvT hZ (hw _ (List.mem_of_getElem? (i := 15) rfl)))) (mvT hZ (hw _ (List.mem_of_getElem? (i := 15) rfl))) (mvT hZ (hw _ (List.mem_of_getElem? (i := 14) rfl))) (by decide) (backOf (W := 0) (rm3 l Z aw hw [] o7 o0 o1 o2 o3 o4 o5 o6 o7 h0 n0 Z0 S_COMMITTED S_ABORTED S_IN_DOUBT S_UNKNOWN S_FORCED_COMMIT S_FORCED_ABORT S_FORCED_COMMIT_CONFLICT S_FORCED_ABORT_CONFLICT) hZ (hw _ (List.mem_of_getElem? (i := 16) rfl)) (hw _ (List.mem_of_getElem? (i := 5) rfl)) (by decide) (by decide)) q179a q179c (g := (mkF m 78 #[.val (.int p0), .val (.int p1), .val (.int (7 : Int32)), .val (.ref o7), .val (.int (1 : Int32)), .val (.int (1 : Int32)), .val (.int (0 : Int32)), .val (.ref o4), .unset, .unset] [(.ref o7)])) rfl (by rw [hml]; rfl) (Steps.refl _) (argsL := []) (rest := []) (lenOf pd_2 rfl) rfl (by show 2 * 0 + _ ≤ _; exact Nat.le_of_eq rfl) (hb hby at_78) (fun _ _ => ⟨rfl, e178, (by decide : 0 + 0 ≤ _), (by decide : 0 + 0 ≤ _)⟩)
        dsimp only [Pt.U, Pt.locs, Pt.cells, Pt.slots] at X179 l179 y179 z179 st179 hQ179
        subst l179 y179 z179
        obtain ⟨hv179, N179q, e179⟩ := hQ179
        rw [own_three_hit3] at hv179
        subst hv179
        have N179 := Fr.app N178 N179q
        obtain ⟨cq180, kq180, q180a, q180b, q180c⟩ := isOf hZ e179 E7
        obtain ⟨_, _, ⟨T180, L180, k180, n180⟩, -, X180, ⟨Lc180, hQ180, l180, y180, z180⟩, st180⟩ := X179.virtualBack hx (y := (⟨"com/example/unanimity/unanimity/engine/Outcome", "committedHere", "()Z"⟩ : MethodName)) (z := (⟨"com/example/unanimity/unanimity/engine/Outcome", "committedHere", "()Z"⟩ : MethodName)) hown (mvT hZ (hw _ (List.mem_of_getElem? (i := 23) rfl))) (mvT hZ (hw _ (List.mem_of_getElem? (i := 24) rfl))) (notFace_of_selects (args := #[]) (mvT hZ (hw _ (List.mem_of_getElem? (i := 26) rfl)))) (mvT hZ (hw _ (List.mem_of_getElem? (i := 26) rfl))) (mvT hZ (hw _ (List.mem_of_getElem? (i := 25) rfl))) (by decide) (backOf (W := 0) (rm4 l Z aw hw [] o7 o0 o1 o2 o3 o4 o5 o6 o7 h0 n0 Z0 S_COMMITTED S_ABORTED S_IN_DOUBT S_UNKNOWN S_FORCED_COMMIT S_FORCED_ABORT S_FORCED_COMMIT_CONFLICT S_FORCED_ABORT_CONFLICT) hZ (hw _ (List.mem_of_getElem? (i := 27) rfl)) (hw _ (List.mem_of_getElem? (i := 5) rfl)) (by decide) (by decide)) q180a q180c (g := (mkF m 84 #[.val (.int p0), .val (.int p1), .val (.int (7 : Int32)), .val (.ref o7), .val (.int (1 : Int32)), .val (.int (1 : Int32)), .val (.int (0 : Int32)), .val (.ref o4), .val (.int (1 : Int32)), .unset] [(.ref o7)])) rfl (by rw [hml]; rfl) (Steps.refl _) (argsL := []) (rest := []) (lenOf pd_2 rfl) rfl (by show 2 * 0 + _ ≤ _; exact Nat.le_of_eq rfl) (hb hby at_84) (fun _ _ => ⟨rfl, e179, (by decide : 0 + 0 ≤ _), (by decide : 0 + 0 ≤ _)⟩)
        dsimp only [Pt.U, Pt.locs, Pt.cells, Pt.slots] at X180 l180 y180 z180 st180 hQ180
        subst l180 y180 z180
        obtain ⟨hv180, N180q, e180⟩ := hQ180
        rw [own_three_no (Ne.symm d0_7) (Ne.symm d4_7) (Ne.symm d6_7)] at hv180
        subst hv180
        have N180 := Fr.app N179 N180q
        obtain ⟨cq181, kq181, q181a, q181b, q181c⟩ := isOf hZ e180 E4
        obtain ⟨_, _, ⟨T181, L181, k181, n181⟩, -, X181, ⟨Lc181, hQ181, l181, y181, z181⟩, st181⟩ := X180.virtualBack hx (y := (⟨"com/example/unanimity/unanimity/engine/Outcome", "abortedHere", "()Z"⟩ : MethodName)) (z := (⟨"com/example/unanimity/unanimity/engine/Outcome", "abortedHere", "()Z"⟩ : MethodName)) hown (mvT hZ (hw _ (List.mem_of_getElem? (i := 12) rfl))) (mvT hZ (hw _ (List.mem_of_getElem? (i := 13) rfl))) (notFace_of_selects (args := #[]) (mvT hZ (hw _ (List.mem_of_getElem? (i := 15) rfl)))) (mvT hZ (hw _ (List.mem_of_getElem? (i := 15) rfl))) (mvT hZ (hw _ (List.mem_of_getElem? (i := 14) rfl))) (by decide) (backOf (W := 0) (rm3 l Z aw hw [] o4 o0 o1 o2 o3 o4 o5 o6 o7 h0 n0 Z0 S_COMMITTED S_ABORTED S_IN_DOUBT S_UNKNOWN S_FORCED_COMMIT S_FORCED_ABORT S_FORCED_COMMIT_CONFLICT S_FORCED_ABORT_CONFLICT) hZ (hw _ (List.mem_of_getElem? (i := 16) rfl)) (hw _ (List.mem_of_getElem? (i := 5) rfl)) (by decide) (by decide)) q181a q181c (g := (mkF m 98 #[.val (.int p0), .val (.int p1), .val (.int (7 : Int32)), .val (.ref o7), .val (.int (1 : Int32)), .val (.int (1 : Int32)), .val (.int (0 : Int32)), .val (.ref o4), .val (.int (1 : Int32)), .val (.int (0 : Int32))] [(.ref o4)])) rfl (by rw [hml]; rfl) (Steps.refl _) (argsL := []) (rest := []) (lenOf pd_2 rfl) rfl (by show 2 * 0 + _ ≤ _; exact Nat.le_of_eq rfl) (hb hby at_98) (fun _ _ => ⟨rfl, e180, (by decide : 0 + 0 ≤ _), (by decide : 0 + 0 ≤ _)⟩)
        dsimp only [Pt.U, Pt.locs, Pt.cells, Pt.slots] at X181 l181 y181 z181 st181 hQ181
        subst l181 y181 z181
        obtain ⟨hv181, N181q, e181⟩ := hQ181
        rw [own_three_no (Ne.symm d1_4) d4_5 d4_7] at hv181
        subst hv181
        have N181 := Fr.app N180 N181q
        obtain ⟨fs, hr, hrun, hended, hW, hsame⟩ := X181.leave (v := some (.int (1 : Int32))) (fun h => by rw [Bd.returns] at h; cases h)
        refine ⟨_, _, pre176 _ ?_, hrun, hended, _, _, rfl, ?_, ⟨_, rfl⟩, hW, hsame.mono (by decide) (by decide)⟩
        · show Steps p.tables e below (T163.setTop (mkF m 58 #[.val (.int p0), .val (.int p1), .val (.int (7 : Int32)), .val (.ref o7), .val (.int (1 : Int32)), .val (.int (1 : Int32)), .unset, .unset, .unset, .unset] [(.int (p1 &&& (2 : Int32)))])) _
          refine XS.ifYes X163.here hx rfl (pc0 := 58) (pc' := 65) rfl (hb hby at_58) rfl ((if0 _ _).trans (teq hc177).1) (by decide) (by decide) ?_
          show Steps p.tables e below (T163.setTop (mkF m 65 #[.val (.int p0), .val (.int p1), .val (.int (7 : Int32)), .val (.ref o7), .val (.int (1 : Int32)), .val (.int (1 : Int32)), .unset, .unset, .unset, .unset] [])) _
          refine XS.iconst X163.here hx rfl (hb hby at_65) ?_
          show Steps p.tables e below (T163.setTop (mkF m 66 #[.val (.int p0), .val (.int p1), .val (.int (7 : Int32)), .val (.ref o7), .val (.int (1 : Int32)), .val (.int (1 : Int32)), .unset, .unset, .unset, .unset] [(.int (0 : Int32))])) _
          refine XS.istore X163.here hx rfl (hb hby at_66) rfl (l' := #[.val (.int p0), .val (.int p1), .val (.int (7 : Int32)), .val (.ref o7), .val (.int (1 : Int32)), .val (.int (1 : Int32)), .val (.int (0 : Int32)), .unset, .unset, .unset]) rfl ?_
          show Steps p.tables e below (T163.setTop (mkF m 68 #[.val (.int p0), .val (.int p1), .val (.int (7 : Int32)), .val (.ref o7), .val (.int (1 : Int32)), .val (.int (1 : Int32)), .val (.int (0 : Int32)), .unset, .unset, .unset] [])) _
          refine XS.iload X163.here hx rfl (hb hby at_68) rfl ?_
          show Steps p.tables e below (T163.setTop (mkF m 70 #[.val (.int p0), .val (.int p1), .val (.int (7 : Int32)), .val (.ref o7), .val (.int (1 : Int32)), .val (.int (1 : Int32)), .val (.int (0 : Int32)), .unset, .unset, .unset] [(.int (1 : Int32))])) _
          refine XS.iload X163.here hx rfl (hb hby at_70) rfl ?_
          show Steps p.tables e below (T163.setTop (mkF m 72 #[.val (.int p0), .val (.int p1), .val (.int (7 : Int32)), .val (.ref o7), .val (.int (1 : Int32)), .val (.int (1 : Int32)), .val (.int (0 : Int32)), .unset, .unset, .unset] [(.int (0 : Int32)), (.int (1 : Int32))])) _
          refine st178 _ ?_
          show Steps p.tables e below (T178.setTop (mkF m 75 #[.val (.int p0), .val (.int p1), .val (.int (7 : Int32)), .val (.ref o7), .val (.int (1 : Int32)), .val (.int (1 : Int32)), .val (.int (0 : Int32)), .unset, .unset, .unset] [(.ref o4)])) _
          refine XS.astore X178.here hx rfl (hb hby at_75) rfl rfl (l' := #[.val (.int p0), .val (.int p1), .val (.int (7 : Int32)), .val (.ref o7), .val (.int (1 : Int32)), .val (.int (1 : Int32)), .val (.int (0 : Int32)), .val (.ref o4), .unset, .unset]) rfl ?_
          show Steps p.tables e below (T178.setTop (mkF m 77 #[.val (.int p0), .val (.int p1), .val (.int (7 : Int32)), .val (.ref o7), .val (.int (1 : Int32)), .val (.int (1 : Int32)), .val (.int (0 : Int32)), .val (.ref o4), .unset, .unset] [])) _
          refine XS.aloadN X178.here hx rfl (hb hby at_77) rfl rfl ?_
          show Steps p.tables e below (T178.setTop (mkF m 78 #[.val (.int p0), .val (.int p1), .val (.int (7 : Int32)), .val (.ref o7), .val (.int (1 : Int32)), .val (.int (1 : Int32)), .val (.int (0 : Int32)), .val (.ref o4), .unset, .unset] [(.ref o7)])) _
          refine st179.trans ?_
          show Steps p.tables e below (T179.setTop (mkF m 81 #[.val (.int p0), .val (.int p1), .val (.int (7 : Int32)), .val (.ref o7), .val (.int (1 : Int32)), .val (.int (1 : Int32)), .val (.int (0 : Int32)), .val (.ref o4), .unset, .unset] [(.int (1 : Int32))])) _
          refine XS.istore X179.here hx rfl (hb hby at_81) rfl (l' := #[.val (.int p0), .val (.int p1), .val (.int (7 : Int32)), .val (.ref o7), .val (.int (1 : Int32)), .val (.int (1 : Int32)), .val (.int (0 : Int32)), .val (.ref o4), .val (.int (1 : Int32)), .unset]) rfl ?_
          show Steps p.tables e below (T179.setTop (mkF m 83 #[.val (.int p0), .val (.int p1), .val (.int (7 : Int32)), .val (.ref o7), .val (.int (1 : Int32)), .val (.int (1 : Int32)), .val (.int (0 : Int32)), .val (.ref o4), .val (.int (1 : Int32)), .unset] [])) _
          refine XS.aloadN X179.here hx rfl (hb hby at_83) rfl rfl ?_
          show Steps p.tables e below (T179.setTop (mkF m 84 #[.val (.int p0), .val (.int p1), .val (.int (7 : Int32)), .val (.ref o7), .val (.int (1 : Int32)), .val (.int (1 : Int32)), .val (.int (0 : Int32)), .val (.ref o4), .val (.int (1 : Int32)), .unset] [(.ref o7)])) _
          refine st180.trans ?_
          show Steps p.tables e below (T180.setTop (mkF m 87 #[.val (.int p0), .val (.int p1), .val (.int (7 : Int32)), .val (.ref o7), .val (.int (1 : Int32)), .val (.int (1 : Int32)), .val (.int (0 : Int32)), .val (.ref o4), .val (.int (1 : Int32)), .unset] [(.int (0 : Int32))])) _
          refine XS.istore X180.here hx rfl (hb hby at_87) rfl (l' := #[.val (.int p0), .val (.int p1), .val (.int (7 : Int32)), .val (.ref o7), .val (.int (1 : Int32)), .val (.int (1 : Int32)), .val (.int (0 : Int32)), .val (.ref o4), .val (.int (1 : Int32)), .val (.int (0 : Int32))]) rfl ?_
          show Steps p.tables e below (T180.setTop (mkF m 89 #[.val (.int p0), .val (.int p1), .val (.int (7 : Int32)), .val (.ref o7), .val (.int (1 : Int32)), .val (.int (1 : Int32)), .val (.int (0 : Int32)), .val (.ref o4), .val (.int (1 : Int32)), .val (.int (0 : Int32))] [])) _
          refine XS.iload X180.here hx rfl (hb hby at_89) rfl ?_
          show Steps p.tables e below (T180.setTop (mkF m 91 #[.val (.int p0), .val (.int p1), .val (.int (7 : Int32)), .val (.ref o7), .val (.int (1 : Int32)), .val (.int (1 : Int32)), .val (.int (0 : Int32)), .val (.ref o4), .val (.int (1 : Int32)), .val (.int (0 : Int32))] [(.int (1 : Int32))])) _
          refine XS.iload X180.here hx rfl (hb hby at_91) rfl ?_
          show Steps p.tables e below (T180.setTop (mkF m 93 #[.val (.int p0), .val (.int p1), .val (.int (7 : Int32)), .val (.ref o7), .val (.int (1 : Int32)), .val (.int (1 : Int32)), .val (.int (0 : Int32)), .val (.ref o4), .val (.int (1 : Int32)), .val (.int (0 : Int32))] [(.int (1 : Int32)), (.int (1 : Int32))])) _
          refine XS.icmpNo X180.here hx rfl (hb hby at_93) rfl (teq (by decide : (1 : Int32) = (1 : Int32))).2 ?_
          show Steps p.tables e below (T180.setTop (mkF m 96 #[.val (.int p0), .val (.int p1), .val (.int (7 : Int32)), .val (.ref o7), .val (.int (1 : Int32)), .val (.int (1 : Int32)), .val (.int (0 : Int32)), .val (.ref o4), .val (.int (1 : Int32)), .val (.int (0 : Int32))] [])) _
          refine XS.aload X180.here hx rfl (hb hby at_96) rfl rfl ?_
          show Steps p.tables e below (T180.setTop (mkF m 98 #[.val (.int p0), .val (.int p1), .val (.int (7 : Int32)), .val (.ref o7), .val (.int (1 : Int32)), .val (.int (1 : Int32)), .val (.int (0 : Int32)), .val (.ref o4), .val (.int (1 : Int32)), .val (.int (0 : Int32))] [(.ref o4)])) _
          refine st181.trans ?_
          show Steps p.tables e below (T181.setTop (mkF m 101 #[.val (.int p0), .val (.int p1), .val (.int (7 : Int32)), .val (.ref o7), .val (.int (1 : Int32)), .val (.int (1 : Int32)), .val (.int (0 : Int32)), .val (.ref o4), .val (.int (1 : Int32)), .val (.int (0 : Int32))] [(.int (0 : Int32))])) _
          refine XS.iload X181.here hx rfl (hb hby at_101) rfl ?_
          show Steps p.tables e below (T181.setTop (mkF m 103 #[.val (.int p0), .val (.int p1), .val (.int (7 : Int32)), .val (.ref o7), .val (.int (1 : Int32)), .val (.int (1 : Int32)), .val (.int (0 : Int32)), .val (.ref o4), .val (.int (1 : Int32)), .val (.int (0 : Int32))] [(.int (1 : Int32)), (.int (0 : Int32))])) _
          refine XS.ifYes X181.here hx rfl (pc0 := 103) (pc' := 110) rfl (hb hby at_103) rfl ((if0 _ _).trans (feq (by decide : ¬ ((1 : Int32) = (0 : Int32)))).2) (by decide) (by decide) ?_
          show Steps p.tables e below (T181.setTop (mkF m 110 #[.val (.int p0), .val (.int p1), .val (.int (7 : Int32)), .val (.ref o7), .val (.int (1 : Int32)), .val (.int (1 : Int32)), .val (.int (0 : Int32)), .val (.ref o4), .val (.int (1 : Int32)), .val (.int (0 : Int32))] [(.int (0 : Int32))])) _
          refine XS.iconst X181.here hx rfl (hb hby at_110) ?_
          show Steps p.tables e below (T181.setTop (mkF m 111 #[.val (.int p0), .val (.int p1), .val (.int (7 : Int32)), .val (.ref o7), .val (.int (1 : Int32)), .val (.int (1 : Int32)), .val (.int (0 : Int32)), .val (.ref o4), .val (.int (1 : Int32)), .val (.int (0 : Int32))] [(.int (0 : Int32)), (.int (0 : Int32))])) _
          refine XS.icmpNo X181.here hx rfl (hb hby at_111) rfl (teq (by decide : (0 : Int32) = (0 : Int32))).2 ?_
          show Steps p.tables e below (T181.setTop (mkF m 114 #[.val (.int p0), .val (.int p1), .val (.int (7 : Int32)), .val (.ref o7), .val (.int (1 : Int32)), .val (.int (1 : Int32)), .val (.int (0 : Int32)), .val (.ref o4), .val (.int (1 : Int32)), .val (.int (0 : Int32))] [])) _
          refine XS.iload X181.here hx rfl (hb hby at_114) rfl ?_
          show Steps p.tables e below (T181.setTop (mkF m 116 #[.val (.int p0), .val (.int p1), .val (.int (7 : Int32)), .val (.ref o7), .val (.int (1 : Int32)), .val (.int (1 : Int32)), .val (.int (0 : Int32)), .val (.ref o4), .val (.int (1 : Int32)), .val (.int (0 : Int32))] [(.int (1 : Int32))])) _
          refine XS.ifNo X181.here hx rfl (hb hby at_116) rfl ((if0 _ _).trans (feq (by decide : ¬ ((1 : Int32) = (0 : Int32)))).1) ?_
          show Steps p.tables e below (T181.setTop (mkF m 119 #[.val (.int p0), .val (.int p1), .val (.int (7 : Int32)), .val (.ref o7), .val (.int (1 : Int32)), .val (.int (1 : Int32)), .val (.int (0 : Int32)), .val (.ref o4), .val (.int (1 : Int32)), .val (.int (0 : Int32))] [])) _
          refine XS.iload X181.here hx rfl (hb hby at_119) rfl ?_
          show Steps p.tables e below (T181.setTop (mkF m 121 #[.val (.int p0), .val (.int p1), .val (.int (7 : Int32)), .val (.ref o7), .val (.int (1 : Int32)), .val (.int (1 : Int32)), .val (.int (0 : Int32)), .val (.ref o4), .val (.int (1 : Int32)), .val (.int (0 : Int32))] [(.int (0 : Int32))])) _
          refine XS.ifNo X181.here hx rfl (hb hby at_121) rfl ((if0 _ _).trans (teq (by decide : (0 : Int32) = (0 : Int32))).2) ?_
          show Steps p.tables e below (T181.setTop (mkF m 124 #[.val (.int p0), .val (.int p1), .val (.int (7 : Int32)), .val (.ref o7), .val (.int (1 : Int32)), .val (.int (1 : Int32)), .val (.int (0 : Int32)), .val (.ref o4), .val (.int (1 : Int32)), .val (.int (0 : Int32))] [])) _
          refine XS.iconst X181.here hx rfl (hb hby at_124) ?_
          show Steps p.tables e below (T181.setTop (mkF m 125 #[.val (.int p0), .val (.int p1), .val (.int (7 : Int32)), .val (.ref o7), .val (.int (1 : Int32)), .val (.int (1 : Int32)), .val (.int (0 : Int32)), .val (.ref o4), .val (.int (1 : Int32)), .val (.int (0 : Int32))] [(.int (1 : Int32))])) _
          refine XS.goto X181.here hx rfl (pc0 := 125) (pc' := 129) rfl (hb hby at_125) (by decide) (by decide) ?_
          show Steps p.tables e below (T181.setTop (mkF m 129 #[.val (.int p0), .val (.int p1), .val (.int (7 : Int32)), .val (.ref o7), .val (.int (1 : Int32)), .val (.int (1 : Int32)), .val (.int (0 : Int32)), .val (.ref o4), .val (.int (1 : Int32)), .val (.int (0 : Int32))] [(.int (1 : Int32))])) _
          exact retN X181 hx (t := .boolean) Bd.returns (by simp) (hb hby at_129) hr
        · show Q0 Z p0 p1 o0 o1 o2 o3 o4 o5 o6 o7 h0 n0 _ T181.heap _
          rw [e181]
          exact ⟨rfl, N181⟩
      · obtain ⟨_, _, ⟨T182, L182, k182, n182⟩, -, X182, ⟨Lc182, hQ182, l182, y182, z182⟩, st182⟩ := Jvm.LawKit.callS X163 hx (y := (⟨"com/example/unanimity/unanimity/engine/Outcome", "forced", "(ZZ)Lcom/example/unanimity/unanimity/engine/Outcome;"⟩ : MethodName)) hown (mvT hZ (hw _ (List.mem_of_getElem? (i := 7) rfl))) (mvT hZ (hw _ (List.mem_of_getElem? (i := 8) rfl))) (mvT hZ (hw _ (List.mem_of_getElem? (i := 5) rfl))) (mvT hZ (hw _ (List.mem_of_getElem? (i := 9) rfl))) (by decide) (backOf (W := 0) (rm2 l Z aw hw [] (1 : Int32) (1 : Int32) o0 o1 o2 o3 o4 o5 o6 o7 h0 n0 Z0 S_COMMITTED S_ABORTED S_IN_DOUBT S_UNKNOWN S_FORCED_COMMIT S_FORCED_ABORT S_FORCED_COMMIT_CONFLICT S_FORCED_ABORT_CONFLICT) hZ (hw _ (List.mem_of_getElem? (i := 9) rfl)) (hw _ (List.mem_of_getElem? (i := 5) rfl)) (by decide) (by decide)) (g := (mkF m 72 #[.val (.int p0), .val (.int p1), .val (.int (7 : Int32)), .val (.ref o7), .val (.int (1 : Int32)), .val (.int (1 : Int32)), .val (.int (1 : Int32)), .unset, .unset, .unset] [(.int (1 : Int32)), (.int (1 : Int32))])) rfl (by rw [hml]; rfl) (argsL := [(.int (1 : Int32)), (.int (1 : Int32))]) (rest := []) (lenOf pd_1 rfl) rfl (by show 2 * 0 + _ ≤ _; exact Nat.le_of_eq rfl) (hb hby at_72) (fun _ _ => ⟨rfl, e163, (by decide : 0 + 0 ≤ _), (by decide : 0 + 0 ≤ _)⟩)
        dsimp only [Pt.U, Pt.locs, Pt.cells, Pt.slots] at X182 l182 y182 z182 st182 hQ182
        subst l182 y182 z182
        obtain ⟨hv182, N182q, e182⟩ := hQ182
        rw [show own_forced (1 : Int32) (1 : Int32) o4 o5 o6 o7 = o6 from rfl] at hv182
        subst hv182
        have N182 := Fr.app N163 N182q
        obtain ⟨cq183, kq183, q183a, q183b, q183c⟩ := isOf hZ e182 E7
        obtain ⟨_, _, ⟨T183, L183, k183, n183⟩, -, X183, ⟨Lc183, hQ183, l183, y183, z183⟩, st183⟩ := X182.virtualBack hx (y := (⟨"com/example/unanimity/unanimity/engine/Outcome", "abortedHere", "()Z"⟩ : MethodName)) (z := (⟨"com/example/unanimity/unanimity/engine/Outcome", "abortedHere", "()Z"⟩ : MethodName)) hown (mvT hZ (hw _ (List.mem_of_getElem? (i := 12) rfl))) (mvT hZ (hw _ (List.mem_of_getElem? (i := 13) rfl))) (notFace_of_selects (args := #[]) (mvT hZ (hw _ (List.mem_of_getElem? (i := 15) rfl)))) (mvT hZ (hw _ (List.mem_of_getElem? (i := 15) rfl))) (mvT hZ (hw _ (List.mem_of_getElem? (i := 14) rfl))) (by decide) (backOf (W := 0) (rm3 l Z aw hw [] o7 o0 o1 o2 o3 o4 o5 o6 o7 h0 n0 Z0 S_COMMITTED S_ABORTED S_IN_DOUBT S_UNKNOWN S_FORCED_COMMIT S_FORCED_ABORT S_FORCED_COMMIT_CONFLICT S_FORCED_ABORT_CONFLICT) hZ (hw _ (List.mem_of_getElem? (i := 16) rfl)) (hw _ (List.mem_of_getElem? (i := 5) rfl)) (by decide) (by decide)) q183a q183c (g := (mkF m 78 #[.val (.int p0), .val (.int p1), .val (.int (7 : Int32)), .val (.ref o7), .val (.int (1 : Int32)), .val (.int (1 : Int32)), .val (.int (1 : Int32)), .val (.ref o6), .unset, .unset] [(.ref o7)])) rfl (by rw [hml]; rfl) (Steps.refl _) (argsL := []) (rest := []) (lenOf pd_2 rfl) rfl (by show 2 * 0 + _ ≤ _; exact Nat.le_of_eq rfl) (hb hby at_78) (fun _ _ => ⟨rfl, e182, (by decide : 0 + 0 ≤ _), (by decide : 0 + 0 ≤ _)⟩)
        dsimp only [Pt.U, Pt.locs, Pt.cells, Pt.slots] at X183 l183 y183 z183 st183 hQ183
        subst l183 y183 z183
        obtain ⟨hv183, N183q, e183⟩ := hQ183
        rw [own_three_hit3] at hv183
        subst hv183
        have N183 := Fr.app N182 N183q
        obtain ⟨cq184, kq184, q184a, q184b, q184c⟩ := isOf hZ e183 E7
        obtain ⟨_, _, ⟨T184, L184, k184, n184⟩, -, X184, ⟨Lc184, hQ184, l184, y184, z184⟩, st184⟩ := X183.virtualBack hx (y := (⟨"com/example/unanimity/unanimity/engine/Outcome", "committedHere", "()Z"⟩ : MethodName)) (z := (⟨"com/example/unanimity/unanimity/engine/Outcome", "committedHere", "()Z"⟩ : MethodName)) hown (mvT hZ (hw _ (List.mem_of_getElem? (i := 23) rfl))) (mvT hZ (hw _ (List.mem_of_getElem? (i := 24) rfl))) (notFace_of_selects (args := #[]) (mvT hZ (hw _ (List.mem_of_getElem? (i := 26) rfl)))) (mvT hZ (hw _ (List.mem_of_getElem? (i := 26) rfl))) (mvT hZ (hw _ (List.mem_of_getElem? (i := 25) rfl))) (by decide) (backOf (W := 0) (rm4 l Z aw hw [] o7 o0 o1 o2 o3 o4 o5 o6 o7 h0 n0 Z0 S_COMMITTED S_ABORTED S_IN_DOUBT S_UNKNOWN S_FORCED_COMMIT S_FORCED_ABORT S_FORCED_COMMIT_CONFLICT S_FORCED_ABORT_CONFLICT) hZ (hw _ (List.mem_of_getElem? (i := 27) rfl)) (hw _ (List.mem_of_getElem? (i := 5) rfl)) (by decide) (by decide)) q184a q184c (g := (mkF m 84 #[.val (.int p0), .val (.int p1), .val (.int (7 : Int32)), .val (.ref o7), .val (.int (1 : Int32)), .val (.int (1 : Int32)), .val (.int (1 : Int32)), .val (.ref o6), .val (.int (1 : Int32)), .unset] [(.ref o7)])) rfl (by rw [hml]; rfl) (Steps.refl _) (argsL := []) (rest := []) (lenOf pd_2 rfl) rfl (by show 2 * 0 + _ ≤ _; exact Nat.le_of_eq rfl) (hb hby at_84) (fun _ _ => ⟨rfl, e183, (by decide : 0 + 0 ≤ _), (by decide : 0 + 0 ≤ _)⟩)
        dsimp only [Pt.U, Pt.locs, Pt.cells, Pt.slots] at X184 l184 y184 z184 st184 hQ184
        subst l184 y184 z184
        obtain ⟨hv184, N184q, e184⟩ := hQ184
        rw [own_three_no (Ne.symm d0_7) (Ne.symm d4_7) (Ne.symm d6_7)] at hv184
        subst hv184
        have N184 := Fr.app N183 N184q
        obtain ⟨cq185, kq185, q185a, q185b, q185c⟩ := isOf hZ e184 E6
        obtain ⟨_, _, ⟨T185, L185, k185, n185⟩, -, X185, ⟨Lc185, hQ185, l185, y185, z185⟩, st185⟩ := X184.virtualBack hx (y := (⟨"com/example/unanimity/unanimity/engine/Outcome", "abortedHere", "()Z"⟩ : MethodName)) (z := (⟨"com/example/unanimity/unanimity/engine/Outcome", "abortedHere", "()Z"⟩ : MethodName)) hown (mvT hZ (hw _ (List.mem_of_getElem? (i := 12) rfl))) (mvT hZ (hw _ (List.mem_of_getElem? (i := 13) rfl))) (notFace_of_selects (args := #[]) (mvT hZ (hw _ (List.mem_of_getElem? (i := 15) rfl)))) (mvT hZ (hw _ (List.mem_of_getElem? (i := 15) rfl))) (mvT hZ (hw _ (List.mem_of_getElem? (i := 14) rfl))) (by decide) (backOf (W := 0) (rm3 l Z aw hw [] o6 o0 o1 o2 o3 o4 o5 o6 o7 h0 n0 Z0 S_COMMITTED S_ABORTED S_IN_DOUBT S_UNKNOWN S_FORCED_COMMIT S_FORCED_ABORT S_FORCED_COMMIT_CONFLICT S_FORCED_ABORT_CONFLICT) hZ (hw _ (List.mem_of_getElem? (i := 16) rfl)) (hw _ (List.mem_of_getElem? (i := 5) rfl)) (by decide) (by decide)) q185a q185c (g := (mkF m 98 #[.val (.int p0), .val (.int p1), .val (.int (7 : Int32)), .val (.ref o7), .val (.int (1 : Int32)), .val (.int (1 : Int32)), .val (.int (1 : Int32)), .val (.ref o6), .val (.int (1 : Int32)), .val (.int (0 : Int32))] [(.ref o6)])) rfl (by rw [hml]; rfl) (Steps.refl _) (argsL := []) (rest := []) (lenOf pd_2 rfl) rfl (by show 2 * 0 + _ ≤ _; exact Nat.le_of_eq rfl) (hb hby at_98) (fun _ _ => ⟨rfl, e184, (by decide : 0 + 0 ≤ _), (by decide : 0 + 0 ≤ _)⟩)
        dsimp only [Pt.U, Pt.locs, Pt.cells, Pt.slots] at X185 l185 y185 z185 st185 hQ185
        subst l185 y185 z185
        obtain ⟨hv185, N185q, e185⟩ := hQ185
        rw [own_three_no (Ne.symm d1_6) (Ne.symm d5_6) d6_7] at hv185
        subst hv185
        have N185 := Fr.app N184 N185q
        obtain ⟨fs, hr, hrun, hended, hW, hsame⟩ := X185.leave (v := some (.int (1 : Int32))) (fun h => by rw [Bd.returns] at h; cases h)
        refine ⟨_, _, pre176 _ ?_, hrun, hended, _, _, rfl, ?_, ⟨_, rfl⟩, hW, hsame.mono (by decide) (by decide)⟩
        · show Steps p.tables e below (T163.setTop (mkF m 58 #[.val (.int p0), .val (.int p1), .val (.int (7 : Int32)), .val (.ref o7), .val (.int (1 : Int32)), .val (.int (1 : Int32)), .unset, .unset, .unset, .unset] [(.int (p1 &&& (2 : Int32)))])) _
          refine XS.ifNo X163.here hx rfl (hb hby at_58) rfl ((if0 _ _).trans (feq hc177).1) ?_
          show Steps p.tables e below (T163.setTop (mkF m 61 #[.val (.int p0), .val (.int p1), .val (.int (7 : Int32)), .val (.ref o7), .val (.int (1 : Int32)), .val (.int (1 : Int32)), .unset, .unset, .unset, .unset] [])) _
          refine XS.iconst X163.here hx rfl (hb hby at_61) ?_
          show Steps p.tables e below (T163.setTop (mkF m 62 #[.val (.int p0), .val (.int p1), .val (.int (7 : Int32)), .val (.ref o7), .val (.int (1 : Int32)), .val (.int (1 : Int32)), .unset, .unset, .unset, .unset] [(.int (1 : Int32))])) _
          refine XS.goto X163.here hx rfl (pc0 := 62) (pc' := 66) rfl (hb hby at_62) (by decide) (by decide) ?_
          show Steps p.tables e below (T163.setTop (mkF m 66 #[.val (.int p0), .val (.int p1), .val (.int (7 : Int32)), .val (.ref o7), .val (.int (1 : Int32)), .val (.int (1 : Int32)), .unset, .unset, .unset, .unset] [(.int (1 : Int32))])) _
          refine XS.istore X163.here hx rfl (hb hby at_66) rfl (l' := #[.val (.int p0), .val (.int p1), .val (.int (7 : Int32)), .val (.ref o7), .val (.int (1 : Int32)), .val (.int (1 : Int32)), .val (.int (1 : Int32)), .unset, .unset, .unset]) rfl ?_
          show Steps p.tables e below (T163.setTop (mkF m 68 #[.val (.int p0), .val (.int p1), .val (.int (7 : Int32)), .val (.ref o7), .val (.int (1 : Int32)), .val (.int (1 : Int32)), .val (.int (1 : Int32)), .unset, .unset, .unset] [])) _
          refine XS.iload X163.here hx rfl (hb hby at_68) rfl ?_
          show Steps p.tables e below (T163.setTop (mkF m 70 #[.val (.int p0), .val (.int p1), .val (.int (7 : Int32)), .val (.ref o7), .val (.int (1 : Int32)), .val (.int (1 : Int32)), .val (.int (1 : Int32)), .unset, .unset, .unset] [(.int (1 : Int32))])) _
          refine XS.iload X163.here hx rfl (hb hby at_70) rfl ?_
          show Steps p.tables e below (T163.setTop (mkF m 72 #[.val (.int p0), .val (.int p1), .val (.int (7 : Int32)), .val (.ref o7), .val (.int (1 : Int32)), .val (.int (1 : Int32)), .val (.int (1 : Int32)), .unset, .unset, .unset] [(.int (1 : Int32)), (.int (1 : Int32))])) _
          refine st182 _ ?_
          show Steps p.tables e below (T182.setTop (mkF m 75 #[.val (.int p0), .val (.int p1), .val (.int (7 : Int32)), .val (.ref o7), .val (.int (1 : Int32)), .val (.int (1 : Int32)), .val (.int (1 : Int32)), .unset, .unset, .unset] [(.ref o6)])) _
          refine XS.astore X182.here hx rfl (hb hby at_75) rfl rfl (l' := #[.val (.int p0), .val (.int p1), .val (.int (7 : Int32)), .val (.ref o7), .val (.int (1 : Int32)), .val (.int (1 : Int32)), .val (.int (1 : Int32)), .val (.ref o6), .unset, .unset]) rfl ?_
          show Steps p.tables e below (T182.setTop (mkF m 77 #[.val (.int p0), .val (.int p1), .val (.int (7 : Int32)), .val (.ref o7), .val (.int (1 : Int32)), .val (.int (1 : Int32)), .val (.int (1 : Int32)), .val (.ref o6), .unset, .unset] [])) _
          refine XS.aloadN X182.here hx rfl (hb hby at_77) rfl rfl ?_
          show Steps p.tables e below (T182.setTop (mkF m 78 #[.val (.int p0), .val (.int p1), .val (.int (7 : Int32)), .val (.ref o7), .val (.int (1 : Int32)), .val (.int (1 : Int32)), .val (.int (1 : Int32)), .val (.ref o6), .unset, .unset] [(.ref o7)])) _
          refine st183.trans ?_
          show Steps p.tables e below (T183.setTop (mkF m 81 #[.val (.int p0), .val (.int p1), .val (.int (7 : Int32)), .val (.ref o7), .val (.int (1 : Int32)), .val (.int (1 : Int32)), .val (.int (1 : Int32)), .val (.ref o6), .unset, .unset] [(.int (1 : Int32))])) _
          refine XS.istore X183.here hx rfl (hb hby at_81) rfl (l' := #[.val (.int p0), .val (.int p1), .val (.int (7 : Int32)), .val (.ref o7), .val (.int (1 : Int32)), .val (.int (1 : Int32)), .val (.int (1 : Int32)), .val (.ref o6), .val (.int (1 : Int32)), .unset]) rfl ?_
          show Steps p.tables e below (T183.setTop (mkF m 83 #[.val (.int p0), .val (.int p1), .val (.int (7 : Int32)), .val (.ref o7), .val (.int (1 : Int32)), .val (.int (1 : Int32)), .val (.int (1 : Int32)), .val (.ref o6), .val (.int (1 : Int32)), .unset] [])) _
          refine XS.aloadN X183.here hx rfl (hb hby at_83) rfl rfl ?_
          show Steps p.tables e below (T183.setTop (mkF m 84 #[.val (.int p0), .val (.int p1), .val (.int (7 : Int32)), .val (.ref o7), .val (.int (1 : Int32)), .val (.int (1 : Int32)), .val (.int (1 : Int32)), .val (.ref o6), .val (.int (1 : Int32)), .unset] [(.ref o7)])) _
          refine st184.trans ?_
          show Steps p.tables e below (T184.setTop (mkF m 87 #[.val (.int p0), .val (.int p1), .val (.int (7 : Int32)), .val (.ref o7), .val (.int (1 : Int32)), .val (.int (1 : Int32)), .val (.int (1 : Int32)), .val (.ref o6), .val (.int (1 : Int32)), .unset] [(.int (0 : Int32))])) _
          refine XS.istore X184.here hx rfl (hb hby at_87) rfl (l' := #[.val (.int p0), .val (.int p1), .val (.int (7 : Int32)), .val (.ref o7), .val (.int (1 : Int32)), .val (.int (1 : Int32)), .val (.int (1 : Int32)), .val (.ref o6), .val (.int (1 : Int32)), .val (.int (0 : Int32))]) rfl ?_
          show Steps p.tables e below (T184.setTop (mkF m 89 #[.val (.int p0), .val (.int p1), .val (.int (7 : Int32)), .val (.ref o7), .val (.int (1 : Int32)), .val (.int (1 : Int32)), .val (.int (1 : Int32)), .val (.ref o6), .val (.int (1 : Int32)), .val (.int (0 : Int32))] [])) _
          refine XS.iload X184.here hx rfl (hb hby at_89) rfl ?_
          show Steps p.tables e below (T184.setTop (mkF m 91 #[.val (.int p0), .val (.int p1), .val (.int (7 : Int32)), .val (.ref o7), .val (.int (1 : Int32)), .val (.int (1 : Int32)), .val (.int (1 : Int32)), .val (.ref o6), .val (.int (1 : Int32)), .val (.int (0 : Int32))] [(.int (1 : Int32))])) _
          refine XS.iload X184.here hx rfl (hb hby at_91) rfl ?_
          show Steps p.tables e below (T184.setTop (mkF m 93 #[.val (.int p0), .val (.int p1), .val (.int (7 : Int32)), .val (.ref o7), .val (.int (1 : Int32)), .val (.int (1 : Int32)), .val (.int (1 : Int32)), .val (.ref o6), .val (.int (1 : Int32)), .val (.int (0 : Int32))] [(.int (1 : Int32)), (.int (1 : Int32))])) _
          refine XS.icmpNo X184.here hx rfl (hb hby at_93) rfl (teq (by decide : (1 : Int32) = (1 : Int32))).2 ?_
          show Steps p.tables e below (T184.setTop (mkF m 96 #[.val (.int p0), .val (.int p1), .val (.int (7 : Int32)), .val (.ref o7), .val (.int (1 : Int32)), .val (.int (1 : Int32)), .val (.int (1 : Int32)), .val (.ref o6), .val (.int (1 : Int32)), .val (.int (0 : Int32))] [])) _
          refine XS.aload X184.here hx rfl (hb hby at_96) rfl rfl ?_
          show Steps p.tables e below (T184.setTop (mkF m 98 #[.val (.int p0), .val (.int p1), .val (.int (7 : Int32)), .val (.ref o7), .val (.int (1 : Int32)), .val (.int (1 : Int32)), .val (.int (1 : Int32)), .val (.ref o6), .val (.int (1 : Int32)), .val (.int (0 : Int32))] [(.ref o6)])) _
          refine st185.trans ?_
          show Steps p.tables e below (T185.setTop (mkF m 101 #[.val (.int p0), .val (.int p1), .val (.int (7 : Int32)), .val (.ref o7), .val (.int (1 : Int32)), .val (.int (1 : Int32)), .val (.int (1 : Int32)), .val (.ref o6), .val (.int (1 : Int32)), .val (.int (0 : Int32))] [(.int (0 : Int32))])) _
          refine XS.iload X185.here hx rfl (hb hby at_101) rfl ?_
          show Steps p.tables e below (T185.setTop (mkF m 103 #[.val (.int p0), .val (.int p1), .val (.int (7 : Int32)), .val (.ref o7), .val (.int (1 : Int32)), .val (.int (1 : Int32)), .val (.int (1 : Int32)), .val (.ref o6), .val (.int (1 : Int32)), .val (.int (0 : Int32))] [(.int (1 : Int32)), (.int (0 : Int32))])) _
          refine XS.ifYes X185.here hx rfl (pc0 := 103) (pc' := 110) rfl (hb hby at_103) rfl ((if0 _ _).trans (feq (by decide : ¬ ((1 : Int32) = (0 : Int32)))).2) (by decide) (by decide) ?_
          show Steps p.tables e below (T185.setTop (mkF m 110 #[.val (.int p0), .val (.int p1), .val (.int (7 : Int32)), .val (.ref o7), .val (.int (1 : Int32)), .val (.int (1 : Int32)), .val (.int (1 : Int32)), .val (.ref o6), .val (.int (1 : Int32)), .val (.int (0 : Int32))] [(.int (0 : Int32))])) _
          refine XS.iconst X185.here hx rfl (hb hby at_110) ?_
          show Steps p.tables e below (T185.setTop (mkF m 111 #[.val (.int p0), .val (.int p1), .val (.int (7 : Int32)), .val (.ref o7), .val (.int (1 : Int32)), .val (.int (1 : Int32)), .val (.int (1 : Int32)), .val (.ref o6), .val (.int (1 : Int32)), .val (.int (0 : Int32))] [(.int (0 : Int32)), (.int (0 : Int32))])) _
          refine XS.icmpNo X185.here hx rfl (hb hby at_111) rfl (teq (by decide : (0 : Int32) = (0 : Int32))).2 ?_
          show Steps p.tables e below (T185.setTop (mkF m 114 #[.val (.int p0), .val (.int p1), .val (.int (7 : Int32)), .val (.ref o7), .val (.int (1 : Int32)), .val (.int (1 : Int32)), .val (.int (1 : Int32)), .val (.ref o6), .val (.int (1 : Int32)), .val (.int (0 : Int32))] [])) _
          refine XS.iload X185.here hx rfl (hb hby at_114) rfl ?_
          show Steps p.tables e below (T185.setTop (mkF m 116 #[.val (.int p0), .val (.int p1), .val (.int (7 : Int32)), .val (.ref o7), .val (.int (1 : Int32)), .val (.int (1 : Int32)), .val (.int (1 : Int32)), .val (.ref o6), .val (.int (1 : Int32)), .val (.int (0 : Int32))] [(.int (1 : Int32))])) _
          refine XS.ifNo X185.here hx rfl (hb hby at_116) rfl ((if0 _ _).trans (feq (by decide : ¬ ((1 : Int32) = (0 : Int32)))).1) ?_
          show Steps p.tables e below (T185.setTop (mkF m 119 #[.val (.int p0), .val (.int p1), .val (.int (7 : Int32)), .val (.ref o7), .val (.int (1 : Int32)), .val (.int (1 : Int32)), .val (.int (1 : Int32)), .val (.ref o6), .val (.int (1 : Int32)), .val (.int (0 : Int32))] [])) _
          refine XS.iload X185.here hx rfl (hb hby at_119) rfl ?_
          show Steps p.tables e below (T185.setTop (mkF m 121 #[.val (.int p0), .val (.int p1), .val (.int (7 : Int32)), .val (.ref o7), .val (.int (1 : Int32)), .val (.int (1 : Int32)), .val (.int (1 : Int32)), .val (.ref o6), .val (.int (1 : Int32)), .val (.int (0 : Int32))] [(.int (0 : Int32))])) _
          refine XS.ifNo X185.here hx rfl (hb hby at_121) rfl ((if0 _ _).trans (teq (by decide : (0 : Int32) = (0 : Int32))).2) ?_
          show Steps p.tables e below (T185.setTop (mkF m 124 #[.val (.int p0), .val (.int p1), .val (.int (7 : Int32)), .val (.ref o7), .val (.int (1 : Int32)), .val (.int (1 : Int32)), .val (.int (1 : Int32)), .val (.ref o6), .val (.int (1 : Int32)), .val (.int (0 : Int32))] [])) _
          refine XS.iconst X185.here hx rfl (hb hby at_124) ?_
          show Steps p.tables e below (T185.setTop (mkF m 125 #[.val (.int p0), .val (.int p1), .val (.int (7 : Int32)), .val (.ref o7), .val (.int (1 : Int32)), .val (.int (1 : Int32)), .val (.int (1 : Int32)), .val (.ref o6), .val (.int (1 : Int32)), .val (.int (0 : Int32))] [(.int (1 : Int32))])) _
          refine XS.goto X185.here hx rfl (pc0 := 125) (pc' := 129) rfl (hb hby at_125) (by decide) (by decide) ?_
          show Steps p.tables e below (T185.setTop (mkF m 129 #[.val (.int p0), .val (.int p1), .val (.int (7 : Int32)), .val (.ref o7), .val (.int (1 : Int32)), .val (.int (1 : Int32)), .val (.int (1 : Int32)), .val (.ref o6), .val (.int (1 : Int32)), .val (.int (0 : Int32))] [(.int (1 : Int32))])) _
          exact retN X185 hx (t := .boolean) Bd.returns (by simp) (hb hby at_129) hr
        · show Q0 Z p0 p1 o0 o1 o2 o3 o4 o5 o6 o7 h0 n0 _ T185.heap _
          rw [e185]
          exact ⟨rfl, N185⟩
set_option maxRecDepth 65536 in
set_option maxHeartbeats 40000000 in
theorem comes_1 {Post : Tables → Env → Array Value → State → Outcome → State → Prop} (hpost : ∀ tb e args s v u, (limb_1_1.after args s (.returned v) u = true ∧ limb_1_2.after args s (.returned v) u = true ∧ True) → FrameEnd s (.returned v) u (Jvm.fieldLocs frame_1_writes args s ++ Jvm.arrayLocs frame_1_arrays args s ++ Jvm.staticLocs frame_1_statics s) 0 0 → Post tb e args s (.returned v) u) :
    ArmFor flags0 classFile x code maxLocals ret World_1 tables_1 room_1 Calls_1 rest_1 Pre_1 Post := by
  intro l hfl _ _ p e ha hc hk s m args below hf hA hF happ hP
  obtain ⟨hcalls, hrest, hpre⟩ := hP
  obtain ⟨-, -, -, hnamed, -, -, -, hat⟩ := (Spec.applies_iff hf).mp happ
  obtain ⟨hg, hn⟩ := and_e (Cond.before_iff.mp (show (Jvm.Cond.and given_1 narrow_1).before args s = true from hpre))
  obtain ⟨hga, hgb⟩ := and_e hg
  obtain ⟨hgba, hgbb⟩ := and_e hgb
  obtain ⟨w0, w1, rfl⟩ : ∃ w0 w1 : Value, args = #[w0, w1] := by
    have hs : args.size = 2 := by simpa [Cond.value, given_1] using hga
    obtain ⟨L⟩ := args
    match L, hs with
    | [w0, w1], _ => exact ⟨w0, w1, rfl⟩
  have hw := fun d (hd : d ∈ tables_1) => atoms_spec (ws := Jvm.Cond.code x code maxLocals ret :: tables_1) hat d (List.mem_cons_of_mem _ hd)
  have hfit : Fit s := fun {y c} hc i hi => by
    obtain ⟨ha, rfl⟩ := Array.getElem?_eq_some_iff.mp hc
    have q := List.all_eq_true.mp ((Array.all_eq_true_iff_forall_mem.mp hF) _ (Array.getElem_mem ha)) i (List.mem_range.mpr hi)
    simpa [Array.getElem?_eq_getElem hi] using q
  obtain ⟨i0, ei0⟩ := is_v hgba
  obtain rfl : w0 = (.int i0) := Option.some.inj ei0
  obtain ⟨i1, ei1⟩ := is_v hgbb
  obtain rfl : w1 = (.int i1) := Option.some.inj ei1
  obtain ⟨hna, hnb⟩ := and_e hn
  obtain ⟨hnba, hnbb⟩ := and_e hnb
  obtain ⟨hnbba, hnbbb⟩ := and_e hnbb
  obtain ⟨hnbbba, hnbbbb⟩ := and_e hnbbb
  obtain ⟨hnbbbba, hnbbbbb⟩ := and_e hnbbbb
  obtain ⟨hnbbbbba, hnbbbbbb⟩ := and_e hnbbbbb
  obtain ⟨hnbbbbbba, hnbbbbbbb⟩ := and_e hnbbbbbb
  obtain ⟨hnbbbbbbba, hnbbbbbbbb⟩ := and_e hnbbbbbbb
  obtain ⟨hnbbbbbbbba, hnbbbbbbbbb⟩ := and_e hnbbbbbbbb
  obtain ⟨hnbbbbbbbbba, hnbbbbbbbbbb⟩ := and_e hnbbbbbbbbb
  obtain ⟨hnbbbbbbbbbba, hnbbbbbbbbbbb⟩ := and_e hnbbbbbbbbbb
  obtain ⟨hnbbbbbbbbbbba, hnbbbbbbbbbbbb⟩ := and_e hnbbbbbbbbbbb
  obtain ⟨hnbbbbbbbbbbbba, hnbbbbbbbbbbbbb⟩ := and_e hnbbbbbbbbbbbb
  obtain ⟨hnbbbbbbbbbbbbba, hnbbbbbbbbbbbbbb⟩ := and_e hnbbbbbbbbbbbbb
  obtain ⟨hnbbbbbbbbbbbbbba, hnbbbbbbbbbbbbbbb⟩ := and_e hnbbbbbbbbbbbbbb
  obtain ⟨w_COMMITTED, S_COMMITTED, E_COMMITTED, ev_COMMITTED⟩ := own_exa (a0 := #[]) (hw _ (List.mem_of_getElem? (i := 5) rfl)) (hw _ (List.mem_of_getElem? (i := 6) rfl)) hna
  obtain ⟨w_FORCED_COMMIT_CONFLICT, S_FORCED_COMMIT_CONFLICT, E_FORCED_COMMIT_CONFLICT, ev_FORCED_COMMIT_CONFLICT⟩ := own_exa (a0 := #[]) (hw _ (List.mem_of_getElem? (i := 5) rfl)) (hw _ (List.mem_of_getElem? (i := 11) rfl)) hnba
  obtain ⟨w_ABORTED, S_ABORTED, E_ABORTED, ev_ABORTED⟩ := own_exa (a0 := #[]) (hw _ (List.mem_of_getElem? (i := 5) rfl)) (hw _ (List.mem_of_getElem? (i := 18) rfl)) hnbba
  obtain ⟨w_FORCED_ABORT, S_FORCED_ABORT, E_FORCED_ABORT, ev_FORCED_ABORT⟩ := own_exa (a0 := #[]) (hw _ (List.mem_of_getElem? (i := 5) rfl)) (hw _ (List.mem_of_getElem? (i := 20) rfl)) hnbbbbba
  obtain ⟨w_FORCED_ABORT_CONFLICT, S_FORCED_ABORT_CONFLICT, E_FORCED_ABORT_CONFLICT, ev_FORCED_ABORT_CONFLICT⟩ := own_exa (a0 := #[]) (hw _ (List.mem_of_getElem? (i := 5) rfl)) (hw _ (List.mem_of_getElem? (i := 22) rfl)) hnbbbbbbba
  obtain ⟨w_FORCED_COMMIT, S_FORCED_COMMIT, E_FORCED_COMMIT, ev_FORCED_COMMIT⟩ := own_exa (a0 := #[]) (hw _ (List.mem_of_getElem? (i := 5) rfl)) (hw _ (List.mem_of_getElem? (i := 31) rfl)) hnbbbbbbbbbba
  obtain ⟨w_UNKNOWN, S_UNKNOWN, E_UNKNOWN, ev_UNKNOWN⟩ := own_exa (a0 := #[]) (hw _ (List.mem_of_getElem? (i := 5) rfl)) (hw _ (List.mem_of_getElem? (i := 36) rfl)) hnbbbbbbbbbbbba
  obtain ⟨w_IN_DOUBT, S_IN_DOUBT, E_IN_DOUBT, ev_IN_DOUBT⟩ := own_exa (a0 := #[]) (hw _ (List.mem_of_getElem? (i := 5) rfl)) (hw _ (List.mem_of_getElem? (i := 39) rfl)) hnbbbbbbbbbbbbbba
  have F_COMMITTED_ordinal := own_fldI ev_COMMITTED hnbbba
  have F_ABORTED_ordinal := own_fldI ev_ABORTED hnbbbba
  have F_FORCED_ABORT_ordinal := own_fldI ev_FORCED_ABORT hnbbbbbba
  have F_FORCED_ABORT_CONFLICT_ordinal := own_fldI ev_FORCED_ABORT_CONFLICT hnbbbbbbbba
  have F_FORCED_COMMIT_CONFLICT_ordinal := own_fldI ev_FORCED_COMMIT_CONFLICT hnbbbbbbbbba
  have F_FORCED_COMMIT_ordinal := own_fldI ev_FORCED_COMMIT hnbbbbbbbbbbba
  have F_UNKNOWN_ordinal := own_fldI ev_UNKNOWN hnbbbbbbbbbbbbba
  have F_IN_DOUBT_ordinal := own_fldI ev_IN_DOUBT hnbbbbbbbbbbbbbbb
  obtain ⟨n, o, h1, h2, h3, _, L, rfl, ⟨rfl, N⟩, hq⟩ := rm0 l s _ hw tables_1 i0 i1 w_COMMITTED w_ABORTED w_IN_DOUBT w_UNKNOWN w_FORCED_COMMIT w_FORCED_ABORT w_FORCED_COMMIT_CONFLICT w_FORCED_ABORT_CONFLICT s.heap s.heap.size (Nat.le_refl _) S_COMMITTED S_ABORTED S_IN_DOUBT S_UNKNOWN S_FORCED_COMMIT S_FORCED_ABORT S_FORCED_COMMIT_CONFLICT S_FORCED_ABORT_CONFLICT E_COMMITTED E_ABORTED E_IN_DOUBT E_UNKNOWN E_FORCED_COMMIT E_FORCED_ABORT E_FORCED_COMMIT_CONFLICT E_FORCED_ABORT_CONFLICT (F_COMMITTED_ordinal.ne F_ABORTED_ordinal (by decide)) (F_COMMITTED_ordinal.ne F_IN_DOUBT_ordinal (by decide)) (F_COMMITTED_ordinal.ne F_UNKNOWN_ordinal (by decide)) (F_COMMITTED_ordinal.ne F_FORCED_COMMIT_ordinal (by decide)) (F_COMMITTED_ordinal.ne F_FORCED_ABORT_ordinal (by decide)) (F_COMMITTED_ordinal.ne F_FORCED_COMMIT_CONFLICT_ordinal (by decide)) (F_COMMITTED_ordinal.ne F_FORCED_ABORT_CONFLICT_ordinal (by decide)) (F_ABORTED_ordinal.ne F_IN_DOUBT_ordinal (by decide)) (F_ABORTED_ordinal.ne F_UNKNOWN_ordinal (by decide)) (F_ABORTED_ordinal.ne F_FORCED_COMMIT_ordinal (by decide)) (F_ABORTED_ordinal.ne F_FORCED_ABORT_ordinal (by decide)) (F_ABORTED_ordinal.ne F_FORCED_COMMIT_CONFLICT_ordinal (by decide)) (F_ABORTED_ordinal.ne F_FORCED_ABORT_CONFLICT_ordinal (by decide)) (F_IN_DOUBT_ordinal.ne F_FORCED_COMMIT_ordinal (by decide)) (F_IN_DOUBT_ordinal.ne F_FORCED_ABORT_ordinal (by decide)) (F_IN_DOUBT_ordinal.ne F_FORCED_COMMIT_CONFLICT_ordinal (by decide)) (F_IN_DOUBT_ordinal.ne F_FORCED_ABORT_CONFLICT_ordinal (by decide)) (F_UNKNOWN_ordinal.ne F_FORCED_COMMIT_ordinal (by decide)) (F_UNKNOWN_ordinal.ne F_FORCED_ABORT_ordinal (by decide)) (F_UNKNOWN_ordinal.ne F_FORCED_COMMIT_CONFLICT_ordinal (by decide)) (F_UNKNOWN_ordinal.ne F_FORCED_ABORT_CONFLICT_ordinal (by decide)) (F_FORCED_COMMIT_ordinal.ne F_FORCED_ABORT_ordinal (by decide)) (F_FORCED_COMMIT_ordinal.ne F_FORCED_COMMIT_CONFLICT_ordinal (by decide)) (F_FORCED_COMMIT_ordinal.ne F_FORCED_ABORT_CONFLICT_ordinal (by decide)) (F_FORCED_ABORT_ordinal.ne F_FORCED_COMMIT_CONFLICT_ordinal (by decide)) (F_FORCED_ABORT_ordinal.ne F_FORCED_ABORT_CONFLICT_ordinal (by decide)) (F_FORCED_COMMIT_CONFLICT_ordinal.ne F_FORCED_ABORT_CONFLICT_ordinal (by decide)) p e ha hc hk s m _ below hf ((Spec.applies_iff_loose hf).mp happ).1 ⟨rfl, State.Warmed39.refl s, rfl⟩ trivial
  refine ⟨n, _, h1, h2, h3, hpost _ _ _ _ _ _ ⟨Cond.after_iff.mpr rfl, Cond.after_iff.mpr (eq_i res_at (Term.int_eval (1)) rfl), trivial⟩ ⟨hq.1, hq.2.1, (hq.2.2.sift fun y hy => Or.inr (N y hy)).mono (by decide) (by decide)⟩⟩
theorem main_1_1 : Claimed_1_1 := comes_1 fun _ _ _ _ _ _ h hF => ⟨h.1, hF⟩
theorem main_1_2 : Claimed_1_2 := comes_1 fun _ _ _ _ _ _ h hF => ⟨h.2.1, hF⟩
end Jvm.Pilot.@@N@@
namespace Jvm.Pilot.@@N@@
open Jvm Jvm.ClassFile Sem Op Lib Jvm.Free Jvm.Stand Jvm.Pilot.@@N@@.Jvm.D
/-! MADE BY PROGRAM (witnessworld.py) out of the Statement's table words and the real class files: 12 classes; the members and pool entries that the words name. The judged class is class 1, her method 2. -/
namespace start1
open Jvm.ClassFile
def u (s : String) : CpInfo := .utf8 (stringToUtf16 s)
/-- a pool by its gaps: so many unusable entries, then the entry; so many at the end -/
def gap : Nat → List CpInfo → List CpInfo
  | 0, r => r
  | n + 1, r => .unusable :: gap n r
def poolList (es : List (Nat × CpInfo)) (last : Nat) : List CpInfo := es.foldr (fun e r => gap e.1 (e.2 :: r)) (gap last [])
def pool (es : List (Nat × CpInfo)) (last : Nat) : Array CpInfo := ⟨poolList es last⟩
def fileOf (pool : Array CpInfo) (this : Nat) (attrs : Array Attribute := #[]) (ms : Array MethodInfo := #[]) (fl : Nat := 33) (sup : Nat := 0) (ifs : Array Nat := #[]) (fds : Array FieldInfo := #[]) : ClassFile where
  minorVersion := 0
  majorVersion := 65
  constantPool := pool
  accessFlags := fl
  thisClass := this
  superClass := sup
  interfaces := ifs
  fields := fds
  methods := ms
  attributes := attrs
def plain (name : String) (sup : Option ClassId) : Class where
  name := name
  kind := .ordinary
  loader := none
  accessFlags := 33
  super := sup
  interfaces := #[]
  cf := none
  fields := #[]
  methods := #[]
  instanceTypes := #[]
  staticTypes := #[]
  resolved := #[]
  callSites := []
  init := .initialized
  statics := none
  mirror := none

def pool0 : Array CpInfo := pool [(5, u "<init>"), (0, u "()V"), (1, .class_ 10), (1, u "java/lang/Object")] 113

def k0m0 : Method := { name := "<init>", desc := "()V", sig := { parameters := [], returnType := none }, accessFlags := 1, code := none }
/-- java/lang/Object -/
def k0 : Class := { plain "java/lang/Object" none with
  accessFlags := 33
  interfaces := #[]
  cf := some (fileOf pool0 8 #[] #[{ accessFlags := 1, nameIndex := 5, descriptorIndex := 6, attributes := #[] }] 33 0 #[] #[])
  fields := #[]
  methods := #[k0m0]
  instanceTypes := #[]
  staticTypes := #[]
  resolved := Array.replicate 124 none
  statics := none }

def pool1 : Array CpInfo := pool [(2, .class_ 4), (1, u "java/lang/Object"), (0, u "<init>"), (0, u "()V"), (0, .fieldref 8 9), (0, .class_ 10), (0, .nameAndType 11 12), (0, u "com/example/unanimity/unanimity/engine/Outcome"), (0, u "COMMITTED"), (0, u "Lcom/example/unanimity/unanimity/engine/Outcome;"), (0, .fieldref 8 14), (0, .nameAndType 15 12), (0, u "ABORTED"), (0, .fieldref 8 17), (0, .nameAndType 18 12), (0, u "IN_DOUBT"), (0, .fieldref 8 20), (0, .nameAndType 21 12), (0, u "UNKNOWN"), (0, .fieldref 8 23), (0, .nameAndType 24 12), (0, u "FORCED_COMMIT"), (0, .fieldref 8 26), (0, .nameAndType 27 12), (0, u "FORCED_ABORT"), (0, .fieldref 8 29), (0, .nameAndType 30 12), (0, u "FORCED_COMMIT_CONFLICT"), (0, .fieldref 8 32), (0, .nameAndType 33 12), (0, u "FORCED_ABORT_CONFLICT"), (0, .methodref 35 36), (0, .class_ 37), (0, .nameAndType 38 39), (0, u "com/example/unanimity/unanimity/engine/OutcomeAbortedHerePinLaw"), (0, u "pick"), (0, u "(I)Lcom/example/unanimity/unanimity/engine/Outcome;"), (0, .methodref 8 41), (0, .nameAndType 42 43), (0, u "forced"), (0, u "(ZZ)Lcom/example/unanimity/unanimity/engine/Outcome;"), (0, .methodref 8 45), (0, .nameAndType 46 47), (0, u "abortedHere"), (0, u "()Z"), (0, .methodref 8 49), (0, .nameAndType 50 47), (0, u "committedHere"), (3, u "law"), (0, u "(II)Z")] 2

def k1m0 : Method := { name := "<init>", desc := "()V", sig := { parameters := [], returnType := none }, accessFlags := 2, code := none }
def k1c1 : Code := { maxStack := 2, maxLocals := 1, code := method_2_code, exceptionTable := #[], attributes := #[] }
def k1m1 : Method := { name := "pick", desc := "(I)Lcom/example/unanimity/unanimity/engine/Outcome;", sig := { parameters := [.int], returnType := some (.object "com/example/unanimity/unanimity/engine/Outcome") }, accessFlags := 10, code := some k1c1 }
def k1c2 : Code := { maxStack := 2, maxLocals := 10, code := code, exceptionTable := #[], attributes := #[] }
def k1m2 : Method := { name := "law", desc := "(II)Z", sig := { parameters := [.int, .int], returnType := some .boolean }, accessFlags := 9, code := some k1c2 }
/-- com/example/unanimity/unanimity/engine/OutcomeAbortedHerePinLaw -/
def k1 : Class := { plain "com/example/unanimity/unanimity/engine/OutcomeAbortedHerePinLaw" (some 0) with
  accessFlags := 49
  interfaces := #[]
  cf := some (fileOf pool1 35 #[] #[{ accessFlags := 2, nameIndex := 5, descriptorIndex := 6, attributes := #[] }, { accessFlags := 10, nameIndex := 38, descriptorIndex := 39, attributes := #[] }, { accessFlags := 9, nameIndex := 54, descriptorIndex := 55, attributes := #[] }] 49 2 #[] #[])
  fields := #[]
  methods := #[k1m0, k1m1, k1m2]
  instanceTypes := #[]
  staticTypes := #[]
  resolved := Array.replicate 58 none
  statics := none }

def pool2 : Array CpInfo := pool [(1, .class_ 2), (0, u "java/lang/constant/Constable"), (0, .class_ 4), (0, u "java/lang/Object")] 6

/-- java/lang/constant/Constable -/
def k2 : Class := { plain "java/lang/constant/Constable" (some 0) with
  accessFlags := 1537
  interfaces := #[]
  cf := some (fileOf pool2 1 #[] #[] 1537 3 #[] #[])
  fields := #[]
  methods := #[]
  instanceTypes := #[]
  staticTypes := #[]
  resolved := Array.replicate 11 none
  statics := none }

def pool3 : Array CpInfo := pool [(1, .class_ 2), (0, u "java/lang/Comparable"), (0, .class_ 4), (0, u "java/lang/Object")] 7

/-- java/lang/Comparable -/
def k3 : Class := { plain "java/lang/Comparable" (some 0) with
  accessFlags := 1537
  interfaces := #[]
  cf := some (fileOf pool3 1 #[] #[] 1537 3 #[] #[])
  fields := #[]
  methods := #[]
  instanceTypes := #[]
  staticTypes := #[]
  resolved := Array.replicate 12 none
  statics := none }

def pool4 : Array CpInfo := pool [(1, .class_ 2), (0, u "java/io/Serializable"), (0, .class_ 4), (0, u "java/lang/Object")] 2

/-- java/io/Serializable -/
def k4 : Class := { plain "java/io/Serializable" (some 0) with
  accessFlags := 1537
  interfaces := #[]
  cf := some (fileOf pool4 1 #[] #[] 1537 3 #[] #[])
  fields := #[]
  methods := #[]
  instanceTypes := #[]
  staticTypes := #[]
  resolved := Array.replicate 7 none
  statics := none }

def pool5 : Array CpInfo := pool [(2, .class_ 4), (1, u "java/lang/Enum"), (0, u "name"), (0, u "Ljava/lang/String;"), (2, u "ordinal"), (0, u "I"), (1, .class_ 14), (1, u "java/lang/Object"), (4, u "hash"), (86, .class_ 108), (1, u "java/lang/Enum$EnumDesc"), (2, .class_ 112), (0, u "java/lang/constant/Constable"), (0, .class_ 114), (0, u "java/lang/Comparable"), (0, .class_ 116), (0, u "java/io/Serializable")] 87

/-- java/lang/Enum -/
def k5 : Class := { plain "java/lang/Enum" (some 0) with
  accessFlags := 1057
  interfaces := #[2, 3, 4]
  cf := some (fileOf pool5 2 #[.nestMembers #[106]] #[] 1057 12 #[111, 113, 115] #[{ accessFlags := 18, nameIndex := 5, descriptorIndex := 6, attributes := #[] }, { accessFlags := 18, nameIndex := 9, descriptorIndex := 10, attributes := #[] }, { accessFlags := 2, nameIndex := 19, descriptorIndex := 10, attributes := #[] }])
  fields := #[{ name := "name", type := (.object "java/lang/String"), accessFlags := 18, slot := 0, constantValue := 0 }, { name := "ordinal", type := .int, accessFlags := 18, slot := 1, constantValue := 0 }, { name := "hash", type := .int, accessFlags := 2, slot := 2, constantValue := 0 }]
  methods := #[]
  instanceTypes := #[(.object "java/lang/String"), .int, .int]
  staticTypes := #[]
  resolved := Array.replicate 204 none
  statics := none }

def pool6 : Array CpInfo := pool [(1, .class_ 2), (0, u "com/example/unanimity/unanimity/engine/Outcome"), (0, .fieldref 1 4), (0, .nameAndType 5 6), (0, u "COMMITTED"), (0, u "Lcom/example/unanimity/unanimity/engine/Outcome;"), (0, .fieldref 1 8), (0, .nameAndType 9 6), (0, u "ABORTED"), (2, u "IN_DOUBT"), (2, u "UNKNOWN"), (0, .fieldref 1 17), (0, .nameAndType 18 6), (0, u "FORCED_COMMIT"), (0, .fieldref 1 20), (0, .nameAndType 21 6), (0, u "FORCED_ABORT"), (0, .fieldref 1 23), (0, .nameAndType 24 6), (0, u "FORCED_COMMIT_CONFLICT"), (0, .fieldref 1 26), (0, .nameAndType 27 6), (0, u "FORCED_ABORT_CONFLICT"), (2, u "$VALUES"), (0, u "[Lcom/example/unanimity/unanimity/engine/Outcome;"), (6, .class_ 40), (1, u "java/lang/Enum"), (8, u "word"), (0, u "Ljava/lang/String;"), (88, u "forced"), (0, u "(ZZ)Lcom/example/unanimity/unanimity/engine/Outcome;"), (1, u "committedHere"), (0, u "()Z"), (0, u "abortedHere")] 48

def k6c0 : Code := { maxStack := 1, maxLocals := 2, code := prog_99_method_4_code, exceptionTable := #[], attributes := #[] }
def k6m0 : Method := { name := "forced", desc := "(ZZ)Lcom/example/unanimity/unanimity/engine/Outcome;", sig := { parameters := [.boolean, .boolean], returnType := some (.object "com/example/unanimity/unanimity/engine/Outcome") }, accessFlags := 8, code := some k6c0 }
def k6c1 : Code := { maxStack := 2, maxLocals := 1, code := prog_99_method_5_code, exceptionTable := #[], attributes := #[] }
def k6m1 : Method := { name := "committedHere", desc := "()Z", sig := { parameters := [], returnType := some .boolean }, accessFlags := 1, code := some k6c1 }
def k6c2 : Code := { maxStack := 2, maxLocals := 1, code := prog_99_method_6_code, exceptionTable := #[], attributes := #[] }
def k6m2 : Method := { name := "abortedHere", desc := "()Z", sig := { parameters := [], returnType := some .boolean }, accessFlags := 1, code := some k6c2 }
/-- com/example/unanimity/unanimity/engine/Outcome -/
def k6 : Class := { plain "com/example/unanimity/unanimity/engine/Outcome" (some 5) with
  accessFlags := 16433
  interfaces := #[]
  cf := some (fileOf pool6 1 #[] #[{ accessFlags := 8, nameIndex := 139, descriptorIndex := 140, attributes := #[] }, { accessFlags := 1, nameIndex := 142, descriptorIndex := 143, attributes := #[] }, { accessFlags := 1, nameIndex := 144, descriptorIndex := 143, attributes := #[] }] 16433 38 #[] #[{ accessFlags := 16409, nameIndex := 5, descriptorIndex := 6, attributes := #[] }, { accessFlags := 16409, nameIndex := 9, descriptorIndex := 6, attributes := #[] }, { accessFlags := 16409, nameIndex := 12, descriptorIndex := 6, attributes := #[] }, { accessFlags := 16409, nameIndex := 15, descriptorIndex := 6, attributes := #[] }, { accessFlags := 16409, nameIndex := 18, descriptorIndex := 6, attributes := #[] }, { accessFlags := 16409, nameIndex := 21, descriptorIndex := 6, attributes := #[] }, { accessFlags := 16409, nameIndex := 24, descriptorIndex := 6, attributes := #[] }, { accessFlags := 16409, nameIndex := 27, descriptorIndex := 6, attributes := #[] }, { accessFlags := 18, nameIndex := 49, descriptorIndex := 50, attributes := #[] }, { accessFlags := 4122, nameIndex := 30, descriptorIndex := 31, attributes := #[] }])
  fields := #[{ name := "COMMITTED", type := (.object "com/example/unanimity/unanimity/engine/Outcome"), accessFlags := 16409, slot := 0, constantValue := 0 }, { name := "ABORTED", type := (.object "com/example/unanimity/unanimity/engine/Outcome"), accessFlags := 16409, slot := 1, constantValue := 0 }, { name := "IN_DOUBT", type := (.object "com/example/unanimity/unanimity/engine/Outcome"), accessFlags := 16409, slot := 2, constantValue := 0 }, { name := "UNKNOWN", type := (.object "com/example/unanimity/unanimity/engine/Outcome"), accessFlags := 16409, slot := 3, constantValue := 0 }, { name := "FORCED_COMMIT", type := (.object "com/example/unanimity/unanimity/engine/Outcome"), accessFlags := 16409, slot := 4, constantValue := 0 }, { name := "FORCED_ABORT", type := (.object "com/example/unanimity/unanimity/engine/Outcome"), accessFlags := 16409, slot := 5, constantValue := 0 }, { name := "FORCED_COMMIT_CONFLICT", type := (.object "com/example/unanimity/unanimity/engine/Outcome"), accessFlags := 16409, slot := 6, constantValue := 0 }, { name := "FORCED_ABORT_CONFLICT", type := (.object "com/example/unanimity/unanimity/engine/Outcome"), accessFlags := 16409, slot := 7, constantValue := 0 }, { name := "word", type := (.object "java/lang/String"), accessFlags := 18, slot := 3, constantValue := 0 }, { name := "$VALUES", type := (.array (.object "com/example/unanimity/unanimity/engine/Outcome")), accessFlags := 4122, slot := 8, constantValue := 0 }]
  methods := #[k6m0, k6m1, k6m2]
  instanceTypes := #[(.object "java/lang/String"), .int, .int, (.object "java/lang/String")]
  staticTypes := #[(.object "com/example/unanimity/unanimity/engine/Outcome"), (.object "com/example/unanimity/unanimity/engine/Outcome"), (.object "com/example/unanimity/unanimity/engine/Outcome"), (.object "com/example/unanimity/unanimity/engine/Outcome"), (.object "com/example/unanimity/unanimity/engine/Outcome"), (.object "com/example/unanimity/unanimity/engine/Outcome"), (.object "com/example/unanimity/unanimity/engine/Outcome"), (.object "com/example/unanimity/unanimity/engine/Outcome"), (.array (.object "com/example/unanimity/unanimity/engine/Outcome"))]
  resolved := Array.replicate 193 none
  statics := some 0 }

def pool7 : Array CpInfo := pool [(1, u "java/lang/Cloneable"), (0, .class_ 1), (0, u "java/lang/Object"), (0, .class_ 3)] 3

/-- java/lang/Cloneable -/
def k7 : Class := { plain "java/lang/Cloneable" (some 0) with
  accessFlags := 1537
  interfaces := #[]
  cf := some (fileOf pool7 2 #[] #[] 1537 4 #[] #[])
  fields := #[]
  methods := #[]
  instanceTypes := #[]
  staticTypes := #[]
  resolved := Array.replicate 8 none
  statics := none }

/-- the primitive byte -/
def k8 : Class := { plain "byte" none with kind := .primitive 'B', accessFlags := 0x411 }
/-- [B -/
def k9 : Class := { plain "[B" (some 0) with kind := .array 8 .byte, interfaces := #[7, 4], accessFlags := 1041 }

/-- the primitive int -/
def k10 : Class := { plain "int" none with kind := .primitive 'I', accessFlags := 0x411 }
/-- [I -/
def k11 : Class := { plain "[I" (some 0) with kind := .array 10 .int, interfaces := #[7, 4], accessFlags := 1041 }

def heap : Heap := #[{ cls := 6, slots := #[.ref 1, .ref 2, .ref 3, .ref 4, .ref 5, .ref 6, .ref 7, .ref 8, .null], vm := .statics 6 },
  { cls := 6, slots := #[.null, .int 0, .int 0, .null], vm := .none },
  { cls := 6, slots := #[.null, .int 1, .int 0, .null], vm := .none },
  { cls := 6, slots := #[.null, .int 2, .int 0, .null], vm := .none },
  { cls := 6, slots := #[.null, .int 3, .int 0, .null], vm := .none },
  { cls := 6, slots := #[.null, .int 4, .int 0, .null], vm := .none },
  { cls := 6, slots := #[.null, .int 5, .int 0, .null], vm := .none },
  { cls := 6, slots := #[.null, .int 6, .int 0, .null], vm := .none },
  { cls := 6, slots := #[.null, .int 7, .int 0, .null], vm := .none }]
def classes : Array Class := #[k0, k1, k2, k3, k4, k5, k6, k7, k8, k9, k10, k11]
def interned : List (Array UInt16 × Addr) := []
def slotsUsed : Nat := 41
def theMethod : MethodId := ⟨1, 2⟩
def args0 : Array Value := #[.int 5, .int 7]
def aboutOver (below : List Frame) : State where
  vm := { classes := classes, interned := interned.toArray }
  heap := heap
  slotsUsed := slotsUsed
  threads := #[{ frames := .invoking theMethod args0 :: below }]
def below0 : List Frame := [.native { method := ⟨0, 0⟩, args := #[] }]
def about1 : State := aboutOver below0
def p0 : Program := .bare "" "" ""
def e0 : Env := launch0.env 0 0 0
theorem w_frames : about1.frames = Frame.invoking theMethod args0 :: below0 := rfl
set_option maxRecDepth 65536 in
theorem w_args : argsFit about1.vm theMethod args0 = true := by decide +kernel
set_option maxRecDepth 65536 in
theorem w_heap : heapFits about1 = true := by decide +kernel
set_option maxRecDepth 65536 in
theorem w_runnable : about1.curStatus? = some .runnable := by decide +kernel
set_option maxRecDepth 65536 in
theorem w_alone : about1.alone = true := by decide +kernel
set_option maxRecDepth 65536 in
theorem w_named : about1.methodNamed? x = some theMethod := by decide +kernel
set_option maxRecDepth 65536 in
theorem w_hears : about1.hears theMethod below0 = true := by decide +kernel
set_option maxRecDepth 65536 in
theorem w_ripe : about1.ripe theMethod args0 below0 = true := by decide +kernel
theorem w_running : about1.status = .running := rfl
set_option maxRecDepth 65536 in
theorem w_room : about1.hasRoom e0.platform room_1 = true :=
  launch0.hasRoom_least _ room_1 (by decide +kernel) (by decide +kernel) (by decide +kernel) (by decide +kernel) (by decide +kernel) (by decide +kernel)
theorem allAtoms_all (ts : List Jvm.Cond) (a : Array Jvm.Value) (st : Jvm.State) : (allAtoms ts).before a st = ts.all (fun c => c.before a st) := by
  induction ts with
  | nil => rfl
  | cons c t ih =>
    show (Jvm.Cond.and c (allAtoms t)).before a st = _
    rw [Jvm.Cond.before_and, ih, List.all_cons]
def words1 : List Jvm.Cond := Jvm.Cond.code x code maxLocals ret :: tables_1
/-- a 'code' word, met by the world's own term for the bytes: nothing is compared byte by byte -/
theorem code_word {y : MethodName} {bytes : ByteArray} {mx : Nat} {rt : Option FieldType} {a : Array Value} {s : State} {m : MethodId} {meth : Method} {c : Code} (h1 : s.methodNamed? y = some m) (h2 : s.vm.method? m = some meth) (h3 : meth.code = some c) (h4 : c.code = bytes)
    (h5 : (c.maxLocals == mx && c.exceptionTable.isEmpty && decide (c.maxStack ≤ mostOperands) && decide (meth.sig.returnType = rt) && !meth.locks && decide (parseMethodDescriptor y.desc = some meth.sig)) = true) : (Jvm.Cond.code y bytes mx rt).before a s = true := by
  simp only [Bool.and_eq_true, beq_iff_eq, Bool.not_eq_true', decide_eq_true_eq] at h5
  obtain ⟨⟨⟨⟨⟨g1, g2⟩, g3⟩, g4⟩, g5⟩, g6⟩ := h5
  simp [Cond.before, Cond.holds, Cond.value, h1, h2, h3, h4, g1, g2, g3, g4, g5, g6]
def isCode : Jvm.Cond → Bool
  | .code _ _ _ _ => true
  | _ => false
theorem all_split {L : List Jvm.Cond} {P : Jvm.Cond → Bool} (h1 : L.all (fun c => isCode c || P c) = true) (h2 : ∀ c ∈ L.filter isCode, P c = true) : L.all P = true := by
  refine List.all_eq_true.mpr fun c hc => ?_
  have h := List.all_eq_true.mp h1 c hc
  rcases Bool.eq_false_or_eq_true (isCode c) with hi | hi
  · exact h2 c (List.mem_filter.mpr ⟨hc, hi⟩)
  · simpa [hi] using h
set_option maxRecDepth 65536 in
theorem w_c0 : (Jvm.Cond.code x code maxLocals ret).before args0 about1 = true := code_word (m := ⟨1, 2⟩) (meth := k1m2) (c := k1c2) (by decide +kernel) rfl rfl rfl (by decide +kernel)
set_option maxRecDepth 65536 in
theorem w_c1 : (Jvm.Cond.code ({ cls := "com/example/unanimity/unanimity/engine/OutcomeAbortedHerePinLaw", name := "pick", desc := "(I)Lcom/example/unanimity/unanimity/engine/Outcome;" } : Jvm.MethodName) method_2_code (1 : Nat) (Option.some (Jvm.ClassFile.FieldType.object "com/example/unanimity/unanimity/engine/Outcome"))).before args0 about1 = true := code_word (m := ⟨1, 1⟩) (meth := k1m1) (c := k1c1) (by decide +kernel) rfl rfl rfl (by decide +kernel)
set_option maxRecDepth 65536 in
theorem w_c2 : (Jvm.Cond.code ({ cls := "com/example/unanimity/unanimity/engine/Outcome", name := "forced", desc := "(ZZ)Lcom/example/unanimity/unanimity/engine/Outcome;" } : Jvm.MethodName) prog_99_method_4_code (2 : Nat) (Option.some (Jvm.ClassFile.FieldType.object "com/example/unanimity/unanimity/engine/Outcome"))).before args0 about1 = true := code_word (m := ⟨6, 0⟩) (meth := k6m0) (c := k6c0) (by decide +kernel) rfl rfl rfl (by decide +kernel)
set_option maxRecDepth 65536 in
theorem w_c3 : (Jvm.Cond.code ({ cls := "com/example/unanimity/unanimity/engine/Outcome", name := "abortedHere", desc := "()Z" } : Jvm.MethodName) prog_99_method_6_code (1 : Nat) (Option.some Jvm.ClassFile.FieldType.boolean)).before args0 about1 = true := code_word (m := ⟨6, 2⟩) (meth := k6m2) (c := k6c2) (by decide +kernel) rfl rfl rfl (by decide +kernel)
set_option maxRecDepth 65536 in
theorem w_c4 : (Jvm.Cond.code ({ cls := "com/example/unanimity/unanimity/engine/Outcome", name := "committedHere", desc := "()Z" } : Jvm.MethodName) prog_99_method_5_code (1 : Nat) (Option.some Jvm.ClassFile.FieldType.boolean)).before args0 about1 = true := code_word (m := ⟨6, 1⟩) (meth := k6m1) (c := k6c1) (by decide +kernel) rfl rfl rfl (by decide +kernel)
def codes1 : List Jvm.Cond := [Jvm.Cond.code x code maxLocals ret, Jvm.Cond.code ({ cls := "com/example/unanimity/unanimity/engine/OutcomeAbortedHerePinLaw", name := "pick", desc := "(I)Lcom/example/unanimity/unanimity/engine/Outcome;" } : Jvm.MethodName) method_2_code (1 : Nat) (Option.some (Jvm.ClassFile.FieldType.object "com/example/unanimity/unanimity/engine/Outcome")), Jvm.Cond.code ({ cls := "com/example/unanimity/unanimity/engine/Outcome", name := "forced", desc := "(ZZ)Lcom/example/unanimity/unanimity/engine/Outcome;" } : Jvm.MethodName) prog_99_method_4_code (2 : Nat) (Option.some (Jvm.ClassFile.FieldType.object "com/example/unanimity/unanimity/engine/Outcome")), Jvm.Cond.code ({ cls := "com/example/unanimity/unanimity/engine/Outcome", name := "abortedHere", desc := "()Z" } : Jvm.MethodName) prog_99_method_6_code (1 : Nat) (Option.some Jvm.ClassFile.FieldType.boolean), Jvm.Cond.code ({ cls := "com/example/unanimity/unanimity/engine/Outcome", name := "committedHere", desc := "()Z" } : Jvm.MethodName) prog_99_method_5_code (1 : Nat) (Option.some Jvm.ClassFile.FieldType.boolean)]
set_option maxRecDepth 65536 in
theorem codes_eq : words1.filter isCode = codes1 := rfl
theorem w_codes : ∀ c ∈ words1.filter isCode, c.before args0 about1 = true := by
  rw [codes_eq]
  intro c hc
  simp only [codes1, List.mem_cons, List.not_mem_nil, or_false] at hc
  rcases hc with rfl | rfl | rfl | rfl | rfl
  · exact w_c0
  · exact w_c1
  · exact w_c2
  · exact w_c3
  · exact w_c4
set_option maxRecDepth 65536 in
theorem w_t1 : (words1.take 24).all (fun c => isCode c || c.before args0 about1) = true := by decide +kernel
set_option maxRecDepth 65536 in
theorem w_t2 : (words1.drop 24).all (fun c => isCode c || c.before args0 about1) = true := by decide +kernel
theorem w_tables : (allAtoms (Jvm.Cond.code x code maxLocals ret :: tables_1)).before args0 about1 = true := by
  rw [allAtoms_all]
  show words1.all (fun c => c.before args0 about1) = true
  refine all_split ?_ w_codes
  rw [← List.take_append_drop 24 words1, List.all_append, w_t1, w_t2]
  rfl
set_option maxRecDepth 65536 in
theorem w_case : (Jvm.Cond.and given_1 narrow_1).before args0 about1 = true := by decide +kernel
theorem w_applies : (headSpec (Jvm.Cond.code x code maxLocals ret :: tables_1) room_1).applies x e0.platform about1 = true :=
  (Spec.applies_iff w_frames).mpr ⟨w_running, w_runnable, w_alone, w_named, w_hears, w_ripe, w_room, w_tables⟩
theorem atStart : AtStart classFile x code maxLocals ret World_1 tables_1 room_1 Calls_1 rest_1 Pre_1 launch0 p0 e0 about1 theMethod args0 below0 :=
  ⟨lists_1, trivial, launch0.admits_env _ _ _, launch0.least_env, fairChoices_fair.cas, fairChoices_fair.clock, w_frames, w_args, w_heap, w_applies, trivial, trivial, w_case⟩
end start1
theorem witness_1 : WitnessClaimed_1 := ⟨start1.p0, start1.e0, start1.about1, start1.theMethod, start1.args0, start1.below0, start1.atStart⟩
end Jvm.Pilot.@@N@@
