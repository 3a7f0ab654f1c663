import JvmDerived
import JvmDerived.Pilot.@@N@@Statement
import JvmDerived.Pilot.@@N@@Code
set_option linter.unusedVariables false
set_option linter.unusedSimpArgs false
namespace Jvm.RoadKit
open Sem ClassFile Op Lib Jvm.Stand Jvm.Free Jvm.LawKit
section New
variable {p : Program} {l : Launch} {e : Env} {R : Room} {s : State} {m : MethodId} {args : Array Value} {below : List Frame} {meth : Method} {c : Code} {T : State} {locs : List Loc} {cells slots : Nat}
theorem retI (X : Stand p l e R s m args below meth c T locs cells slots) (hx : p.tables.exec = Jvm.exec) {pc : Nat} {Ls : Array Slot} {z : Int32} {rest : List Value} (hret : meth.sig.returnType = some .int) (hd : decode c.code pc = .ok (.ireturn, 1)) {fs : List Frame}
    (hl : ∀ (f : JFrame) (acts : List Action), f.method = m → f.locked = none → f.entered = [] → (doReturn e (T.setTop f) acts (some (.int z))).1 = T.setFrames fs) : Steps p.tables e below (T.setTop (mkF m pc Ls (.int z :: rest))) (T.setFrames fs) := by
  have hm' : T.vm.method? m = some meth := X.method'
  have hn : narrow .int (.int z) = .int z := rfl
  show Steps p.tables e below (T.setTop { method := m, pc := pc, locals := Ls, stack := _ :: rest, locked := none }) _
  jvm_step X.here [X.here.top, hx, hd, hm', hret, hn]
  first | (intro acts; rw [hl _ acts rfl rfl rfl]) | rw [hl _ _ rfl rfl rfl]
  exact Steps.refl _
end New
end Jvm.RoadKit
namespace Jvm.Pilot.@@N@@
open Jvm Jvm.ClassFile Sem Op Lib Jvm.Free Jvm.Stand Jvm.LawKit Jvm.RoadKit Bundle Jvm.Pilot.@@N@@.Jvm.D

theorem own_exa {args a0 : Array Value} {s : State} {C n d K : String} (wi : (Jvm.Cond.initialized C).before args s = true) (wl : (Jvm.Cond.laysStatic C n d).before args s = true) (h : (Jvm.Cond.exactly (Jvm.Term.static C n d) K).value args s none s [] = some true) : ∃ a, Sta s s.heap C n d (.ref a) ∧ Exa s s.heap a K ∧ (Jvm.Term.static C n d).eval args s none [] s = some (.ref a) := by
  obtain ⟨a, ev⟩ := exa_v h
  exact ⟨a, Sta.start ev (Or.inr ⟨wi, wl⟩), Exa.start ev h, ev⟩
theorem own_fldI {args : Array Value} {s : State} {a : Addr} {t : Jvm.Term} {C n d : String} {k : Int32} (ev : t.eval args s none [] s = some (.ref a)) (h : (Jvm.Cond.eq (Jvm.Term.field t C n d) (Jvm.Term.int k)).value args s none s [] = some true) : Fld s s.heap a C n d (.int k) := by
  obtain ⟨x, y, ex, ey, -, ky⟩ := cmp_v (Or.inl h)
  obtain rfl : Value.int k = y := Option.some.inj ey
  obtain ⟨z, rfl⟩ := ky
  have hz : z = k := by simpa [Cond.value, ex, ey] using h
  subst hz
  exact Fld.start ((fld_at ev).symm.trans ex)

def own_in (x a b : Int32) : Bool := !decide (x < a) && !decide (b < x)
theorem d3_0 : decode method_2_code 0 = .ok (.iload_n 0, 1) := by decide +kernel
theorem d3_1 : decode method_2_code 1 = .ok (.iload_n 1, 1) := by decide +kernel
theorem d3_2 : decode method_2_code 2 = .ok (.if_icmp .lt 12, 3) := by decide +kernel
theorem d3_14 : decode method_2_code 14 = .ok (.iconst 0, 1) := by decide +kernel
theorem d3_15 : decode method_2_code 15 = .ok (.ireturn, 1) := by decide +kernel
theorem d3_5 : decode method_2_code 5 = .ok (.iload_n 0, 1) := by decide +kernel
theorem d3_6 : decode method_2_code 6 = .ok (.iload_n 2, 1) := by decide +kernel
theorem d3_7 : decode method_2_code 7 = .ok (.if_icmp .gt 7, 3) := by decide +kernel
theorem d3_10 : decode method_2_code 10 = .ok (.iconst 1, 1) := by decide +kernel
theorem d3_11 : decode method_2_code 11 = .ok (.goto 4, 3) := by decide +kernel
theorem ef_rm3 (m : MethodId) (x0 : Int32) (x1 : Int32) (x2 : Int32) : entryFrame m #[(.int x0), (.int x1), (.int x2)] 3 = mkF m 0 #[.val (.int x0), .val (.int x1), .val (.int x2)] [] := by first | (simp [entryFrame, mkF, argsToLocals, Value.category]; done) | rfl
theorem pn_0 : plainName "com/example/compact_path/compactpath/reading/XmlNamesIsNameStartPinLaw" = true := by first | (simp [plainName, overriddenIn]; done) | decide +kernel
def Q3 (Z : State) (p0 : Int32) (p1 : Int32) (p2 : Int32) (h0 : Heap) (n0 : Nat) (v : Option Value) (h : Heap) (L : List Loc) : Prop := v = some (.int (if own_in p0 p1 p2 then (1 : Int32) else 0)) ∧ Fr n0 L ∧ h = h0
set_option maxRecDepth 65536 in
set_option maxHeartbeats 40000000 in
theorem rm3 (l : Launch) (Z : State) (aw : Array Value) (hw : ∀ d ∈ tables_1, d.before aw Z = true) (ws : List Jvm.Cond) (p0 : Int32) (p1 : Int32) (p2 : Int32) (h0 : Heap) (n0 : Nat) (Z0 : n0 ≤ h0.size) :
    MetFree l (⟨"com/example/compact_path/compactpath/reading/XmlNamesIsNameStartPinLaw", "inRange", "(III)Z"⟩ : MethodName) (head1 (Jvm.Cond.code (⟨"com/example/compact_path/compactpath/reading/XmlNamesIsNameStartPinLaw", "inRange", "(III)Z"⟩ : MethodName) method_2_code 3 (some .boolean) :: ws) ({ frames := 0, cells := 0, slots := 0, locals := 0 } : Room)) (fun a U => a = #[(.int p0), (.int p1), (.int p2)] ∧ Z.Warmed39 U.vm ∧ U.heap = h0) (fun _ _ _ _ _ => True) (fun _ U oc U' => ∃ v L, oc = .returned v ∧ Q3 Z p0 p1 p2 h0 n0 v U'.heap L ∧ FrameEnd U oc U' L ({ frames := 0, cells := 0, slots := 0, locals := 0 } : Room).cells ({ frames := 0, cells := 0, slots := 0, locals := 0 } : Room).slots) := by
  refine MetFree.of_bodySF (plainFor_of_name pn_0) hisR ?_
  intro p e s m args below meth c s₁ Bd hml0 hP hK
  obtain ⟨rfl, hZ, hh⟩ := hP
  have hx := Bd.exec
  have hby := Bd.bytes
  have hml : c.maxLocals = 3 := hml0
  have hown : s.vm.findClass "com/example/compact_path/compactpath/reading/XmlNamesIsNameStartPinLaw" = some m.cls := findClass_of_methodNamed Bd.named
  have hnm := (name_of_methodNamed Bd.named Bd.method).1
  have X0 : Stand p l e ({ frames := 0, cells := 0, slots := 0, locals := 0 } : Room) s m #[(.int p0), (.int p1), (.int p2)] below meth c s₁ [] 0 0 := Stand.of_body Bd
  have e0 : s₁.heap = h0 := by rw [← hh, Bd.state]; rfl
  have N0 := Fr.nil n0
  have pre0 : ∀ t, Steps p.tables e below (s₁.setTop (mkF m 0 #[.val (.int p0), .val (.int p1), .val (.int p2)] [])) t → Steps p.tables e below (s₁.setTop (entryFrame m #[(.int p0), (.int p1), (.int p2)] 3)) t := fun t k => castTop (ef_rm3 m p0 p1 p2) k
  have pre101 : ∀ t, Steps p.tables e below (s₁.setTop (mkF m 2 #[.val (.int p0), .val (.int p1), .val (.int p2)] [(.int p1), (.int p0)])) t → Steps p.tables e below (s₁.setTop (entryFrame m #[(.int p0), (.int p1), (.int p2)] 3)) t := fun t k => by
    refine pre0 t ?_
    show Steps p.tables e below (s₁.setTop (mkF m 0 #[.val (.int p0), .val (.int p1), .val (.int p2)] [])) _
    refine XS.iloadN X0.here hx rfl (hb hby d3_0) rfl ?_
    show Steps p.tables e below (s₁.setTop (mkF m 1 #[.val (.int p0), .val (.int p1), .val (.int p2)] [(.int p0)])) _
    refine XS.iloadN X0.here hx rfl (hb hby d3_1) rfl ?_
    exact k
  by_cases hc102 : p0 < p1
  · obtain ⟨fs, hr, hrun, hended, hW, hsame⟩ := X0.leave (v := some (.int (0 : Int32))) (fun h => by rw [Bd.returns] at h; cases h)
    refine ⟨_, _, pre101 _ ?_, hrun, hended, _, _, rfl, ?_, ⟨_, rfl⟩, hW, hsame.mono (by decide) (by decide)⟩
    · show Steps p.tables e below (s₁.setTop (mkF m 2 #[.val (.int p0), .val (.int p1), .val (.int p2)] [(.int p1), (.int p0)])) _
      refine XS.icmpYes X0.here hx rfl (pc0 := 2) (pc' := 14) rfl (hb hby d3_2) rfl (tlt hc102).1 (by decide) (by decide) ?_
      show Steps p.tables e below (s₁.setTop (mkF m 14 #[.val (.int p0), .val (.int p1), .val (.int p2)] [])) _
      refine XS.iconst X0.here hx rfl (hb hby d3_14) ?_
      show Steps p.tables e below (s₁.setTop (mkF m 15 #[.val (.int p0), .val (.int p1), .val (.int p2)] [(.int (0 : Int32))])) _
      exact retN X0 hx (t := .boolean) Bd.returns (by simp) (hb hby d3_15) hr
    · show Q3 Z p0 p1 p2 h0 n0 _ s₁.heap _
      rw [e0]
      exact ⟨by simp [own_in, hc102], N0, rfl⟩
  · have pre103 : ∀ t, Steps p.tables e below (s₁.setTop (mkF m 7 #[.val (.int p0), .val (.int p1), .val (.int p2)] [(.int p2), (.int p0)])) t → Steps p.tables e below (s₁.setTop (entryFrame m #[(.int p0), (.int p1), (.int p2)] 3)) t := fun t k => by
      refine pre101 t ?_
      show Steps p.tables e below (s₁.setTop (mkF m 2 #[.val (.int p0), .val (.int p1), .val (.int p2)] [(.int p1), (.int p0)])) _
      refine XS.icmpNo X0.here hx rfl (hb hby d3_2) rfl (flt hc102).1 ?_
      show Steps p.tables e below (s₁.setTop (mkF m 5 #[.val (.int p0), .val (.int p1), .val (.int p2)] [])) _
      refine XS.iloadN X0.here hx rfl (hb hby d3_5) rfl ?_
      show Steps p.tables e below (s₁.setTop (mkF m 6 #[.val (.int p0), .val (.int p1), .val (.int p2)] [(.int p0)])) _
      refine XS.iloadN X0.here hx rfl (hb hby d3_6) rfl ?_
      exact k
    by_cases hc104 : p2 < p0
    · obtain ⟨fs, hr, hrun, hended, hW, hsame⟩ := X0.leave (v := some (.int (0 : Int32))) (fun h => by rw [Bd.returns] at h; cases h)
      refine ⟨_, _, pre103 _ ?_, hrun, hended, _, _, rfl, ?_, ⟨_, rfl⟩, hW, hsame.mono (by decide) (by decide)⟩
      · show Steps p.tables e below (s₁.setTop (mkF m 7 #[.val (.int p0), .val (.int p1), .val (.int p2)] [(.int p2), (.int p0)])) _
        refine XS.icmpYes X0.here hx rfl (pc0 := 7) (pc' := 14) rfl (hb hby d3_7) rfl (tlt hc104).2.2.1 (by decide) (by decide) ?_
        show Steps p.tables e below (s₁.setTop (mkF m 14 #[.val (.int p0), .val (.int p1), .val (.int p2)] [])) _
        refine XS.iconst X0.here hx rfl (hb hby d3_14) ?_
        show Steps p.tables e below (s₁.setTop (mkF m 15 #[.val (.int p0), .val (.int p1), .val (.int p2)] [(.int (0 : Int32))])) _
        exact retN X0 hx (t := .boolean) Bd.returns (by simp) (hb hby d3_15) hr
      · show Q3 Z p0 p1 p2 h0 n0 _ s₁.heap _
        rw [e0]
        exact ⟨by simp [own_in, hc102, hc104], N0, rfl⟩
    · obtain ⟨fs, hr, hrun, hended, hW, hsame⟩ := X0.leave (v := some (.int (1 : Int32))) (fun h => by rw [Bd.returns] at h; cases h)
      refine ⟨_, _, pre103 _ ?_, hrun, hended, _, _, rfl, ?_, ⟨_, rfl⟩, hW, hsame.mono (by decide) (by decide)⟩
      · show Steps p.tables e below (s₁.setTop (mkF m 7 #[.val (.int p0), .val (.int p1), .val (.int p2)] [(.int p2), (.int p0)])) _
        refine XS.icmpNo X0.here hx rfl (hb hby d3_7) rfl (flt hc104).2.2.1 ?_
        show Steps p.tables e below (s₁.setTop (mkF m 10 #[.val (.int p0), .val (.int p1), .val (.int p2)] [])) _
        refine XS.iconst X0.here hx rfl (hb hby d3_10) ?_
        show Steps p.tables e below (s₁.setTop (mkF m 11 #[.val (.int p0), .val (.int p1), .val (.int p2)] [(.int (1 : Int32))])) _
        refine XS.goto X0.here hx rfl (pc0 := 11) (pc' := 15) rfl (hb hby d3_11) (by decide) (by decide) ?_
        show Steps p.tables e below (s₁.setTop (mkF m 15 #[.val (.int p0), .val (.int p1), .val (.int p2)] [(.int (1 : Int32))])) _
        exact retN X0 hx (t := .boolean) Bd.returns (by simp) (hb hby d3_15) hr
      · show Q3 Z p0 p1 p2 h0 n0 _ s₁.heap _
        rw [e0]
        exact ⟨by simp [own_in, hc102, hc104], N0, rfl⟩
theorem own_ifz_neT {P : Prop} [Decidable P] (h : P) : if_icmp.holds .ne (if P then (1 : Int32) else 0) 0 = true := by rw [if_pos h]; decide
theorem own_ifz_neF {P : Prop} [Decidable P] (h : ¬ P) : if_icmp.holds .ne (if P then (1 : Int32) else 0) 0 = false := by rw [if_neg h]; decide
theorem own_ifz_eqT {P : Prop} [Decidable P] (h : P) : if_icmp.holds .eq (if P then (1 : Int32) else 0) 0 = false := by rw [if_pos h]; decide
theorem own_ifz_eqF {P : Prop} [Decidable P] (h : ¬ P) : if_icmp.holds .eq (if P then (1 : Int32) else 0) 0 = true := by rw [if_neg h]; decide
def own_n179 (x : Int32) : Bool := own_in x (65536 : Int32) (983039 : Int32) || false
def own_n167 (x : Int32) : Bool := own_in x (65008 : Int32) (65533 : Int32) || own_n179 x
def own_n155 (x : Int32) : Bool := own_in x (63744 : Int32) (64975 : Int32) || own_n167 x
def own_n142 (x : Int32) : Bool := own_in x (12289 : Int32) (55295 : Int32) || own_n155 x
def own_n128 (x : Int32) : Bool := own_in x (11264 : Int32) (12271 : Int32) || own_n142 x
def own_n114 (x : Int32) : Bool := own_in x (8304 : Int32) (8591 : Int32) || own_n128 x
def own_n100 (x : Int32) : Bool := own_in x (8204 : Int32) (8205 : Int32) || own_n114 x
def own_n86 (x : Int32) : Bool := own_in x (895 : Int32) (8191 : Int32) || own_n100 x
def own_n72 (x : Int32) : Bool := own_in x (880 : Int32) (893 : Int32) || own_n86 x
def own_n58 (x : Int32) : Bool := own_in x (248 : Int32) (767 : Int32) || own_n72 x
def own_n44 (x : Int32) : Bool := own_in x (216 : Int32) (246 : Int32) || own_n58 x
def own_n30 (x : Int32) : Bool := own_in x (192 : Int32) (214 : Int32) || own_n44 x
def own_n24 (x : Int32) : Bool := decide (x = (95 : Int32)) || own_n30 x
def own_n12 (x : Int32) : Bool := own_in x (65 : Int32) (90 : Int32) || own_n24 x
def own_n0 (x : Int32) : Bool := own_in x (97 : Int32) (122 : Int32) || own_n12 x
theorem d1_195 : decode prog_109_method_5_code 195 = .ok (.iconst 0, 1) := by decide +kernel
theorem d1_196 : decode prog_109_method_5_code 196 = .ok (.ireturn, 1) := by decide +kernel
theorem d1_191 : decode prog_109_method_5_code 191 = .ok (.iconst 1, 1) := by decide +kernel
theorem d1_192 : decode prog_109_method_5_code 192 = .ok (.goto 4, 3) := by decide +kernel
theorem d1_179 : decode prog_109_method_5_code 179 = .ok (.iload_n 0, 1) := by decide +kernel
theorem d1_180 : decode prog_109_method_5_code 180 = .ok (.ldc 43, 2) := by decide +kernel
theorem d1_182 : decode prog_109_method_5_code 182 = .ok (.if_icmp .lt 13, 3) := by decide +kernel
theorem d1_185 : decode prog_109_method_5_code 185 = .ok (.iload_n 0, 1) := by decide +kernel
theorem d1_186 : decode prog_109_method_5_code 186 = .ok (.ldc 44, 2) := by decide +kernel
theorem d1_188 : decode prog_109_method_5_code 188 = .ok (.if_icmp .gt 7, 3) := by decide +kernel
theorem d1_167 : decode prog_109_method_5_code 167 = .ok (.iload_n 0, 1) := by decide +kernel
theorem d1_168 : decode prog_109_method_5_code 168 = .ok (.ldc 41, 2) := by decide +kernel
theorem d1_170 : decode prog_109_method_5_code 170 = .ok (.if_icmp .lt 9, 3) := by decide +kernel
theorem d1_173 : decode prog_109_method_5_code 173 = .ok (.iload_n 0, 1) := by decide +kernel
theorem d1_174 : decode prog_109_method_5_code 174 = .ok (.ldc 42, 2) := by decide +kernel
theorem d1_176 : decode prog_109_method_5_code 176 = .ok (.if_icmp .le 15, 3) := by decide +kernel
theorem d1_155 : decode prog_109_method_5_code 155 = .ok (.iload_n 0, 1) := by decide +kernel
theorem d1_156 : decode prog_109_method_5_code 156 = .ok (.ldc 39, 2) := by decide +kernel
theorem d1_158 : decode prog_109_method_5_code 158 = .ok (.if_icmp .lt 9, 3) := by decide +kernel
theorem d1_161 : decode prog_109_method_5_code 161 = .ok (.iload_n 0, 1) := by decide +kernel
theorem d1_162 : decode prog_109_method_5_code 162 = .ok (.ldc 40, 2) := by decide +kernel
theorem d1_164 : decode prog_109_method_5_code 164 = .ok (.if_icmp .le 27, 3) := by decide +kernel
theorem d1_142 : decode prog_109_method_5_code 142 = .ok (.iload_n 0, 1) := by decide +kernel
theorem d1_143 : decode prog_109_method_5_code 143 = .ok (.sipush 12289, 3) := by decide +kernel
theorem d1_146 : decode prog_109_method_5_code 146 = .ok (.if_icmp .lt 9, 3) := by decide +kernel
theorem d1_149 : decode prog_109_method_5_code 149 = .ok (.iload_n 0, 1) := by decide +kernel
theorem d1_150 : decode prog_109_method_5_code 150 = .ok (.ldc 38, 2) := by decide +kernel
theorem d1_152 : decode prog_109_method_5_code 152 = .ok (.if_icmp .le 39, 3) := by decide +kernel
theorem d1_128 : decode prog_109_method_5_code 128 = .ok (.iload_n 0, 1) := by decide +kernel
theorem d1_129 : decode prog_109_method_5_code 129 = .ok (.sipush 11264, 3) := by decide +kernel
theorem d1_132 : decode prog_109_method_5_code 132 = .ok (.if_icmp .lt 10, 3) := by decide +kernel
theorem d1_135 : decode prog_109_method_5_code 135 = .ok (.iload_n 0, 1) := by decide +kernel
theorem d1_136 : decode prog_109_method_5_code 136 = .ok (.sipush 12271, 3) := by decide +kernel
theorem d1_139 : decode prog_109_method_5_code 139 = .ok (.if_icmp .le 52, 3) := by decide +kernel
theorem d1_114 : decode prog_109_method_5_code 114 = .ok (.iload_n 0, 1) := by decide +kernel
theorem d1_115 : decode prog_109_method_5_code 115 = .ok (.sipush 8304, 3) := by decide +kernel
theorem d1_118 : decode prog_109_method_5_code 118 = .ok (.if_icmp .lt 10, 3) := by decide +kernel
theorem d1_121 : decode prog_109_method_5_code 121 = .ok (.iload_n 0, 1) := by decide +kernel
theorem d1_122 : decode prog_109_method_5_code 122 = .ok (.sipush 8591, 3) := by decide +kernel
theorem d1_125 : decode prog_109_method_5_code 125 = .ok (.if_icmp .le 66, 3) := by decide +kernel
theorem d1_100 : decode prog_109_method_5_code 100 = .ok (.iload_n 0, 1) := by decide +kernel
theorem d1_101 : decode prog_109_method_5_code 101 = .ok (.sipush 8204, 3) := by decide +kernel
theorem d1_104 : decode prog_109_method_5_code 104 = .ok (.if_icmp .lt 10, 3) := by decide +kernel
theorem d1_107 : decode prog_109_method_5_code 107 = .ok (.iload_n 0, 1) := by decide +kernel
theorem d1_108 : decode prog_109_method_5_code 108 = .ok (.sipush 8205, 3) := by decide +kernel
theorem d1_111 : decode prog_109_method_5_code 111 = .ok (.if_icmp .le 80, 3) := by decide +kernel
theorem d1_86 : decode prog_109_method_5_code 86 = .ok (.iload_n 0, 1) := by decide +kernel
theorem d1_87 : decode prog_109_method_5_code 87 = .ok (.sipush 895, 3) := by decide +kernel
theorem d1_90 : decode prog_109_method_5_code 90 = .ok (.if_icmp .lt 10, 3) := by decide +kernel
theorem d1_93 : decode prog_109_method_5_code 93 = .ok (.iload_n 0, 1) := by decide +kernel
theorem d1_94 : decode prog_109_method_5_code 94 = .ok (.sipush 8191, 3) := by decide +kernel
theorem d1_97 : decode prog_109_method_5_code 97 = .ok (.if_icmp .le 94, 3) := by decide +kernel
theorem d1_72 : decode prog_109_method_5_code 72 = .ok (.iload_n 0, 1) := by decide +kernel
theorem d1_73 : decode prog_109_method_5_code 73 = .ok (.sipush 880, 3) := by decide +kernel
theorem d1_76 : decode prog_109_method_5_code 76 = .ok (.if_icmp .lt 10, 3) := by decide +kernel
theorem d1_79 : decode prog_109_method_5_code 79 = .ok (.iload_n 0, 1) := by decide +kernel
theorem d1_80 : decode prog_109_method_5_code 80 = .ok (.sipush 893, 3) := by decide +kernel
theorem d1_83 : decode prog_109_method_5_code 83 = .ok (.if_icmp .le 108, 3) := by decide +kernel
theorem d1_58 : decode prog_109_method_5_code 58 = .ok (.iload_n 0, 1) := by decide +kernel
theorem d1_59 : decode prog_109_method_5_code 59 = .ok (.sipush 248, 3) := by decide +kernel
theorem d1_62 : decode prog_109_method_5_code 62 = .ok (.if_icmp .lt 10, 3) := by decide +kernel
theorem d1_65 : decode prog_109_method_5_code 65 = .ok (.iload_n 0, 1) := by decide +kernel
theorem d1_66 : decode prog_109_method_5_code 66 = .ok (.sipush 767, 3) := by decide +kernel
theorem d1_69 : decode prog_109_method_5_code 69 = .ok (.if_icmp .le 122, 3) := by decide +kernel
theorem d1_44 : decode prog_109_method_5_code 44 = .ok (.iload_n 0, 1) := by decide +kernel
theorem d1_45 : decode prog_109_method_5_code 45 = .ok (.sipush 216, 3) := by decide +kernel
theorem d1_48 : decode prog_109_method_5_code 48 = .ok (.if_icmp .lt 10, 3) := by decide +kernel
theorem d1_51 : decode prog_109_method_5_code 51 = .ok (.iload_n 0, 1) := by decide +kernel
theorem d1_52 : decode prog_109_method_5_code 52 = .ok (.sipush 246, 3) := by decide +kernel
theorem d1_55 : decode prog_109_method_5_code 55 = .ok (.if_icmp .le 136, 3) := by decide +kernel
theorem d1_30 : decode prog_109_method_5_code 30 = .ok (.iload_n 0, 1) := by decide +kernel
theorem d1_31 : decode prog_109_method_5_code 31 = .ok (.sipush 192, 3) := by decide +kernel
theorem d1_34 : decode prog_109_method_5_code 34 = .ok (.if_icmp .lt 10, 3) := by decide +kernel
theorem d1_37 : decode prog_109_method_5_code 37 = .ok (.iload_n 0, 1) := by decide +kernel
theorem d1_38 : decode prog_109_method_5_code 38 = .ok (.sipush 214, 3) := by decide +kernel
theorem d1_41 : decode prog_109_method_5_code 41 = .ok (.if_icmp .le 150, 3) := by decide +kernel
theorem d1_24 : decode prog_109_method_5_code 24 = .ok (.iload_n 0, 1) := by decide +kernel
theorem d1_25 : decode prog_109_method_5_code 25 = .ok (.bipush 95, 2) := by decide +kernel
theorem d1_27 : decode prog_109_method_5_code 27 = .ok (.if_icmp .eq 164, 3) := by decide +kernel
theorem d1_12 : decode prog_109_method_5_code 12 = .ok (.iload_n 0, 1) := by decide +kernel
theorem d1_13 : decode prog_109_method_5_code 13 = .ok (.bipush 65, 2) := by decide +kernel
theorem d1_15 : decode prog_109_method_5_code 15 = .ok (.if_icmp .lt 9, 3) := by decide +kernel
theorem d1_18 : decode prog_109_method_5_code 18 = .ok (.iload_n 0, 1) := by decide +kernel
theorem d1_19 : decode prog_109_method_5_code 19 = .ok (.bipush 90, 2) := by decide +kernel
theorem d1_21 : decode prog_109_method_5_code 21 = .ok (.if_icmp .le 170, 3) := by decide +kernel
theorem d1_0 : decode prog_109_method_5_code 0 = .ok (.iload_n 0, 1) := by decide +kernel
theorem d1_1 : decode prog_109_method_5_code 1 = .ok (.bipush 97, 2) := by decide +kernel
theorem d1_3 : decode prog_109_method_5_code 3 = .ok (.if_icmp .lt 9, 3) := by decide +kernel
theorem d1_6 : decode prog_109_method_5_code 6 = .ok (.iload_n 0, 1) := by decide +kernel
theorem d1_7 : decode prog_109_method_5_code 7 = .ok (.bipush 122, 2) := by decide +kernel
theorem d1_9 : decode prog_109_method_5_code 9 = .ok (.if_icmp .le 182, 3) := by decide +kernel
theorem ef_rm1 (m : MethodId) (x0 : Int32) : entryFrame m #[(.int x0)] 1 = mkF m 0 #[.val (.int x0)] [] := by first | (simp [entryFrame, mkF, argsToLocals, Value.category]; done) | rfl
theorem pn_1 : plainName "com/example/compact_path/compactpath/reading/XmlNames" = true := by first | (simp [plainName, overriddenIn]; done) | decide +kernel
def Q1 (Z : State) (p0 : Int32) (h0 : Heap) (n0 : Nat) (v : Option Value) (h : Heap) (L : List Loc) : Prop := v = some (.int (nar .boolean (if own_n0 p0 = true then (1 : Int32) else 0))) ∧ Fr n0 L ∧ h = h0
set_option maxRecDepth 65536 in
set_option maxHeartbeats 40000000 in
theorem rm1 (l : Launch) (Z : State) (aw : Array Value) (hw : ∀ d ∈ tables_1, d.before aw Z = true) (ws : List Jvm.Cond) (p0 : Int32) (h0 : Heap) (n0 : Nat) (Z0 : n0 ≤ h0.size) :
    MetFree l (⟨"com/example/compact_path/compactpath/reading/XmlNames", "isNameStart", "(I)Z"⟩ : MethodName) (head1 (Jvm.Cond.code (⟨"com/example/compact_path/compactpath/reading/XmlNames", "isNameStart", "(I)Z"⟩ : MethodName) prog_109_method_5_code 1 (some .boolean) :: ws) ({ frames := 0, cells := 0, slots := 0, locals := 0 } : Room)) (fun a U => a = #[(.int p0)] ∧ Z.Warmed39 U.vm ∧ U.heap = h0) (fun _ _ _ _ _ => True) (fun _ U oc U' => ∃ v L, oc = .returned v ∧ Q1 Z p0 h0 n0 v U'.heap L ∧ FrameEnd U oc U' L ({ frames := 0, cells := 0, slots := 0, locals := 0 } : Room).cells ({ frames := 0, cells := 0, slots := 0, locals := 0 } : Room).slots) := by
  refine MetFree.of_bodySF (plainFor_of_name pn_1) hisR ?_
  intro p e s m args below meth c s₁ Bd hml0 hP hK
  obtain ⟨rfl, hZ, hh⟩ := hP
  have hx := Bd.exec
  have hby := Bd.bytes
  have hml : c.maxLocals = 1 := hml0
  have hown : s.vm.findClass "com/example/compact_path/compactpath/reading/XmlNames" = some m.cls := findClass_of_methodNamed Bd.named
  have hnm := (name_of_methodNamed Bd.named Bd.method).1
  have X0 : Stand p l e ({ frames := 0, cells := 0, slots := 0, locals := 0 } : Room) s m #[(.int p0)] below meth c s₁ [] 0 0 := Stand.of_body Bd
  have e0 : s₁.heap = h0 := by rw [← hh, Bd.state]; rfl
  have N0 := Fr.nil n0
  have pre0 : ∀ t, Steps p.tables e below (s₁.setTop (mkF m 0 #[.val (.int p0)] [])) t → Steps p.tables e below (s₁.setTop (entryFrame m #[(.int p0)] 1)) t := fun t k => castTop (ef_rm1 m p0) k
  have key : ∀ G : Prop, (∀ (k : Int32) (T : State) (locs : List Loc) (pc : Nat) (Ls : Array Slot) (X : Stand p l e ({ frames := 0, cells := 0, slots := 0, locals := 0 } : Room) s m #[(.int p0)] below meth c T locs 0 0) (eT : T.heap = h0) (NT : Fr n0 locs) (hd : decode c.code pc = .ok (.ireturn, 1)) (pre : ∀ t, Steps p.tables e below (T.setTop (mkF m pc Ls [(.int k)])) t → Steps p.tables e below (s₁.setTop (entryFrame m #[(.int p0)] 1)) t) (hk : k = (if own_n0 p0 = true then (1 : Int32) else 0)), G) → G := by
    intro G fin
    have B195 : ∀ (T : State) (locs : List Loc) (X : Stand p l e ({ frames := 0, cells := 0, slots := 0, locals := 0 } : Room) s m #[(.int p0)] below meth c T locs 0 0) (eT : T.heap = h0) (NT : Fr n0 locs) (pre : ∀ t, Steps p.tables e below (T.setTop (mkF m 195 #[.val (.int p0)] [])) t → Steps p.tables e below (s₁.setTop (entryFrame m #[(.int p0)] 1)) t) (hB : own_n0 p0 = false), G := by
      intro T locs X eT NT pre hB
      have pre101 : ∀ t, Steps p.tables e below (T.setTop (mkF m 196 #[.val (.int p0)] [(.int (0 : Int32))])) t → Steps p.tables e below (s₁.setTop (entryFrame m #[(.int p0)] 1)) t := fun t k => by
        refine pre t ?_
        show Steps p.tables e below (T.setTop (mkF m 195 #[.val (.int p0)] [])) _
        refine XS.iconst X.here hx rfl (hb hby d1_195) ?_
        exact k
      exact fin (0 : Int32) _ _ 196 _ X eT NT (hb hby d1_196) pre101 (by rw [hB]; rfl)
    have B191 : ∀ (T : State) (locs : List Loc) (X : Stand p l e ({ frames := 0, cells := 0, slots := 0, locals := 0 } : Room) s m #[(.int p0)] below meth c T locs 0 0) (eT : T.heap = h0) (NT : Fr n0 locs) (pre : ∀ t, Steps p.tables e below (T.setTop (mkF m 191 #[.val (.int p0)] [])) t → Steps p.tables e below (s₁.setTop (entryFrame m #[(.int p0)] 1)) t) (hB : own_n0 p0 = true), G := by
      intro T locs X eT NT pre hB
      have pre102 : ∀ t, Steps p.tables e below (T.setTop (mkF m 196 #[.val (.int p0)] [(.int (1 : Int32))])) t → Steps p.tables e below (s₁.setTop (entryFrame m #[(.int p0)] 1)) t := fun t k => by
        refine pre t ?_
        show Steps p.tables e below (T.setTop (mkF m 191 #[.val (.int p0)] [])) _
        refine XS.iconst X.here hx rfl (hb hby d1_191) ?_
        show Steps p.tables e below (T.setTop (mkF m 192 #[.val (.int p0)] [(.int (1 : Int32))])) _
        refine XS.goto X.here hx rfl (pc0 := 192) (pc' := 196) rfl (hb hby d1_192) (by decide) (by decide) ?_
        exact k
      exact fin (1 : Int32) _ _ 196 _ X eT NT (hb hby d1_196) pre102 (by rw [hB]; rfl)
    have B179 : ∀ (T : State) (locs : List Loc) (X : Stand p l e ({ frames := 0, cells := 0, slots := 0, locals := 0 } : Room) s m #[(.int p0)] below meth c T locs 0 0) (eT : T.heap = h0) (NT : Fr n0 locs) (pre : ∀ t, Steps p.tables e below (T.setTop (mkF m 179 #[.val (.int p0)] [])) t → Steps p.tables e below (s₁.setTop (entryFrame m #[(.int p0)] 1)) t) (hB : own_n0 p0 = own_n179 p0), G := by
      intro T locs X eT NT pre hB
      have pre103 : ∀ t, Steps p.tables e below (T.setTop (mkF m 182 #[.val (.int p0)] [(.int (65536 : Int32)), (.int p0)])) t → Steps p.tables e below (s₁.setTop (entryFrame m #[(.int p0)] 1)) t := fun t k => by
        refine pre t ?_
        show Steps p.tables e below (T.setTop (mkF m 179 #[.val (.int p0)] [])) _
        refine XS.iloadN X.here hx rfl (hb hby d1_179) rfl ?_
        show Steps p.tables e below (T.setTop (mkF m 180 #[.val (.int p0)] [(.int p0)])) _
        refine X.ldcInt hx hown (mvT hZ (hw _ (List.mem_of_getElem? (i := 15) rfl))) (g := (mkF m 180 #[.val (.int p0)] [(.int p0)])) rfl (hb hby d1_180) _ ?_
        exact k
      by_cases hc104 : p0 < (65536 : Int32)
      · have pre105 : ∀ t, Steps p.tables e below (T.setTop (mkF m 195 #[.val (.int p0)] [])) t → Steps p.tables e below (s₁.setTop (entryFrame m #[(.int p0)] 1)) t := fun t k => by
          refine pre103 t ?_
          show Steps p.tables e below (T.setTop (mkF m 182 #[.val (.int p0)] [(.int (65536 : Int32)), (.int p0)])) _
          refine XS.icmpYes X.here hx rfl (pc0 := 182) (pc' := 195) rfl (hb hby d1_182) rfl (tlt hc104).1 (by decide) (by decide) ?_
          exact k
        exact B195 _ _ X eT NT pre105 (hB.trans (by simp [own_n179, own_in, hc104]))
      · have pre106 : ∀ t, Steps p.tables e below (T.setTop (mkF m 188 #[.val (.int p0)] [(.int (983039 : Int32)), (.int p0)])) t → Steps p.tables e below (s₁.setTop (entryFrame m #[(.int p0)] 1)) t := fun t k => by
          refine pre103 t ?_
          show Steps p.tables e below (T.setTop (mkF m 182 #[.val (.int p0)] [(.int (65536 : Int32)), (.int p0)])) _
          refine XS.icmpNo X.here hx rfl (hb hby d1_182) rfl (flt hc104).1 ?_
          show Steps p.tables e below (T.setTop (mkF m 185 #[.val (.int p0)] [])) _
          refine XS.iloadN X.here hx rfl (hb hby d1_185) rfl ?_
          show Steps p.tables e below (T.setTop (mkF m 186 #[.val (.int p0)] [(.int p0)])) _
          refine X.ldcInt hx hown (mvT hZ (hw _ (List.mem_of_getElem? (i := 32) rfl))) (g := (mkF m 186 #[.val (.int p0)] [(.int p0)])) rfl (hb hby d1_186) _ ?_
          exact k
        by_cases hc107 : (983039 : Int32) < p0
        · have pre108 : ∀ t, Steps p.tables e below (T.setTop (mkF m 195 #[.val (.int p0)] [])) t → Steps p.tables e below (s₁.setTop (entryFrame m #[(.int p0)] 1)) t := fun t k => by
            refine pre106 t ?_
            show Steps p.tables e below (T.setTop (mkF m 188 #[.val (.int p0)] [(.int (983039 : Int32)), (.int p0)])) _
            refine XS.icmpYes X.here hx rfl (pc0 := 188) (pc' := 195) rfl (hb hby d1_188) rfl (tlt hc107).2.2.1 (by decide) (by decide) ?_
            exact k
          exact B195 _ _ X eT NT pre108 (hB.trans (by simp [own_n179, own_in, hc104, hc107]))
        · have pre109 : ∀ t, Steps p.tables e below (T.setTop (mkF m 191 #[.val (.int p0)] [])) t → Steps p.tables e below (s₁.setTop (entryFrame m #[(.int p0)] 1)) t := fun t k => by
            refine pre106 t ?_
            show Steps p.tables e below (T.setTop (mkF m 188 #[.val (.int p0)] [(.int (983039 : Int32)), (.int p0)])) _
            refine XS.icmpNo X.here hx rfl (hb hby d1_188) rfl (flt hc107).2.2.1 ?_
            exact k
          exact B191 _ _ X eT NT pre109 (hB.trans (by simp [own_n179, own_in, hc104, hc107]))
    have B167 : ∀ (T : State) (locs : List Loc) (X : Stand p l e ({ frames := 0, cells := 0, slots := 0, locals := 0 } : Room) s m #[(.int p0)] below meth c T locs 0 0) (eT : T.heap = h0) (NT : Fr n0 locs) (pre : ∀ t, Steps p.tables e below (T.setTop (mkF m 167 #[.val (.int p0)] [])) t → Steps p.tables e below (s₁.setTop (entryFrame m #[(.int p0)] 1)) t) (hB : own_n0 p0 = own_n167 p0), G := by
      intro T locs X eT NT pre hB
      have pre110 : ∀ t, Steps p.tables e below (T.setTop (mkF m 170 #[.val (.int p0)] [(.int (65008 : Int32)), (.int p0)])) t → Steps p.tables e below (s₁.setTop (entryFrame m #[(.int p0)] 1)) t := fun t k => by
        refine pre t ?_
        show Steps p.tables e below (T.setTop (mkF m 167 #[.val (.int p0)] [])) _
        refine XS.iloadN X.here hx rfl (hb hby d1_167) rfl ?_
        show Steps p.tables e below (T.setTop (mkF m 168 #[.val (.int p0)] [(.int p0)])) _
        refine X.ldcInt hx hown (mvT hZ (hw _ (List.mem_of_getElem? (i := 14) rfl))) (g := (mkF m 168 #[.val (.int p0)] [(.int p0)])) rfl (hb hby d1_168) _ ?_
        exact k
      by_cases hc111 : p0 < (65008 : Int32)
      · have pre112 : ∀ t, Steps p.tables e below (T.setTop (mkF m 179 #[.val (.int p0)] [])) t → Steps p.tables e below (s₁.setTop (entryFrame m #[(.int p0)] 1)) t := fun t k => by
          refine pre110 t ?_
          show Steps p.tables e below (T.setTop (mkF m 170 #[.val (.int p0)] [(.int (65008 : Int32)), (.int p0)])) _
          refine XS.icmpYes X.here hx rfl (pc0 := 170) (pc' := 179) rfl (hb hby d1_170) rfl (tlt hc111).1 (by decide) (by decide) ?_
          exact k
        exact B179 _ _ X eT NT pre112 (hB.trans (by simp [own_n167, own_in, hc111]))
      · have pre113 : ∀ t, Steps p.tables e below (T.setTop (mkF m 176 #[.val (.int p0)] [(.int (65533 : Int32)), (.int p0)])) t → Steps p.tables e below (s₁.setTop (entryFrame m #[(.int p0)] 1)) t := fun t k => by
          refine pre110 t ?_
          show Steps p.tables e below (T.setTop (mkF m 170 #[.val (.int p0)] [(.int (65008 : Int32)), (.int p0)])) _
          refine XS.icmpNo X.here hx rfl (hb hby d1_170) rfl (flt hc111).1 ?_
          show Steps p.tables e below (T.setTop (mkF m 173 #[.val (.int p0)] [])) _
          refine XS.iloadN X.here hx rfl (hb hby d1_173) rfl ?_
          show Steps p.tables e below (T.setTop (mkF m 174 #[.val (.int p0)] [(.int p0)])) _
          refine X.ldcInt hx hown (mvT hZ (hw _ (List.mem_of_getElem? (i := 31) rfl))) (g := (mkF m 174 #[.val (.int p0)] [(.int p0)])) rfl (hb hby d1_174) _ ?_
          exact k
        by_cases hc114 : (65533 : Int32) < p0
        · have pre115 : ∀ t, Steps p.tables e below (T.setTop (mkF m 179 #[.val (.int p0)] [])) t → Steps p.tables e below (s₁.setTop (entryFrame m #[(.int p0)] 1)) t := fun t k => by
            refine pre113 t ?_
            show Steps p.tables e below (T.setTop (mkF m 176 #[.val (.int p0)] [(.int (65533 : Int32)), (.int p0)])) _
            refine XS.icmpNo X.here hx rfl (hb hby d1_176) rfl (tlt hc114).2.2.2 ?_
            exact k
          exact B179 _ _ X eT NT pre115 (hB.trans (by simp [own_n167, own_in, hc111, hc114]))
        · have pre116 : ∀ t, Steps p.tables e below (T.setTop (mkF m 191 #[.val (.int p0)] [])) t → Steps p.tables e below (s₁.setTop (entryFrame m #[(.int p0)] 1)) t := fun t k => by
            refine pre113 t ?_
            show Steps p.tables e below (T.setTop (mkF m 176 #[.val (.int p0)] [(.int (65533 : Int32)), (.int p0)])) _
            refine XS.icmpYes X.here hx rfl (pc0 := 176) (pc' := 191) rfl (hb hby d1_176) rfl (flt hc114).2.2.2 (by decide) (by decide) ?_
            exact k
          exact B191 _ _ X eT NT pre116 (hB.trans (by simp [own_n167, own_in, hc111, hc114]))
    have B155 : ∀ (T : State) (locs : List Loc) (X : Stand p l e ({ frames := 0, cells := 0, slots := 0, locals := 0 } : Room) s m #[(.int p0)] below meth c T locs 0 0) (eT : T.heap = h0) (NT : Fr n0 locs) (pre : ∀ t, Steps p.tables e below (T.setTop (mkF m 155 #[.val (.int p0)] [])) t → Steps p.tables e below (s₁.setTop (entryFrame m #[(.int p0)] 1)) t) (hB : own_n0 p0 = own_n155 p0), G := by
      intro T locs X eT NT pre hB
      have pre117 : ∀ t, Steps p.tables e below (T.setTop (mkF m 158 #[.val (.int p0)] [(.int (63744 : Int32)), (.int p0)])) t → Steps p.tables e below (s₁.setTop (entryFrame m #[(.int p0)] 1)) t := fun t k => by
        refine pre t ?_
        show Steps p.tables e below (T.setTop (mkF m 155 #[.val (.int p0)] [])) _
        refine XS.iloadN X.here hx rfl (hb hby d1_155) rfl ?_
        show Steps p.tables e below (T.setTop (mkF m 156 #[.val (.int p0)] [(.int p0)])) _
        refine X.ldcInt hx hown (mvT hZ (hw _ (List.mem_of_getElem? (i := 13) rfl))) (g := (mkF m 156 #[.val (.int p0)] [(.int p0)])) rfl (hb hby d1_156) _ ?_
        exact k
      by_cases hc118 : p0 < (63744 : Int32)
      · have pre119 : ∀ t, Steps p.tables e below (T.setTop (mkF m 167 #[.val (.int p0)] [])) t → Steps p.tables e below (s₁.setTop (entryFrame m #[(.int p0)] 1)) t := fun t k => by
          refine pre117 t ?_
          show Steps p.tables e below (T.setTop (mkF m 158 #[.val (.int p0)] [(.int (63744 : Int32)), (.int p0)])) _
          refine XS.icmpYes X.here hx rfl (pc0 := 158) (pc' := 167) rfl (hb hby d1_158) rfl (tlt hc118).1 (by decide) (by decide) ?_
          exact k
        exact B167 _ _ X eT NT pre119 (hB.trans (by simp [own_n155, own_in, hc118]))
      · have pre120 : ∀ t, Steps p.tables e below (T.setTop (mkF m 164 #[.val (.int p0)] [(.int (64975 : Int32)), (.int p0)])) t → Steps p.tables e below (s₁.setTop (entryFrame m #[(.int p0)] 1)) t := fun t k => by
          refine pre117 t ?_
          show Steps p.tables e below (T.setTop (mkF m 158 #[.val (.int p0)] [(.int (63744 : Int32)), (.int p0)])) _
          refine XS.icmpNo X.here hx rfl (hb hby d1_158) rfl (flt hc118).1 ?_
          show Steps p.tables e below (T.setTop (mkF m 161 #[.val (.int p0)] [])) _
          refine XS.iloadN X.here hx rfl (hb hby d1_161) rfl ?_
          show Steps p.tables e below (T.setTop (mkF m 162 #[.val (.int p0)] [(.int p0)])) _
          refine X.ldcInt hx hown (mvT hZ (hw _ (List.mem_of_getElem? (i := 30) rfl))) (g := (mkF m 162 #[.val (.int p0)] [(.int p0)])) rfl (hb hby d1_162) _ ?_
          exact k
        by_cases hc121 : (64975 : Int32) < p0
        · have pre122 : ∀ t, Steps p.tables e below (T.setTop (mkF m 167 #[.val (.int p0)] [])) t → Steps p.tables e below (s₁.setTop (entryFrame m #[(.int p0)] 1)) t := fun t k => by
            refine pre120 t ?_
            show Steps p.tables e below (T.setTop (mkF m 164 #[.val (.int p0)] [(.int (64975 : Int32)), (.int p0)])) _
            refine XS.icmpNo X.here hx rfl (hb hby d1_164) rfl (tlt hc121).2.2.2 ?_
            exact k
          exact B167 _ _ X eT NT pre122 (hB.trans (by simp [own_n155, own_in, hc118, hc121]))
        · have pre123 : ∀ t, Steps p.tables e below (T.setTop (mkF m 191 #[.val (.int p0)] [])) t → Steps p.tables e below (s₁.setTop (entryFrame m #[(.int p0)] 1)) t := fun t k => by
            refine pre120 t ?_
            show Steps p.tables e below (T.setTop (mkF m 164 #[.val (.int p0)] [(.int (64975 : Int32)), (.int p0)])) _
            refine XS.icmpYes X.here hx rfl (pc0 := 164) (pc' := 191) rfl (hb hby d1_164) rfl (flt hc121).2.2.2 (by decide) (by decide) ?_
            exact k
          exact B191 _ _ X eT NT pre123 (hB.trans (by simp [own_n155, own_in, hc118, hc121]))
    have B142 : ∀ (T : State) (locs : List Loc) (X : Stand p l e ({ frames := 0, cells := 0, slots := 0, locals := 0 } : Room) s m #[(.int p0)] below meth c T locs 0 0) (eT : T.heap = h0) (NT : Fr n0 locs) (pre : ∀ t, Steps p.tables e below (T.setTop (mkF m 142 #[.val (.int p0)] [])) t → Steps p.tables e below (s₁.setTop (entryFrame m #[(.int p0)] 1)) t) (hB : own_n0 p0 = own_n142 p0), G := by
      intro T locs X eT NT pre hB
      have pre124 : ∀ t, Steps p.tables e below (T.setTop (mkF m 146 #[.val (.int p0)] [(.int (12289 : Int32)), (.int p0)])) t → Steps p.tables e below (s₁.setTop (entryFrame m #[(.int p0)] 1)) t := fun t k => by
        refine pre t ?_
        show Steps p.tables e below (T.setTop (mkF m 142 #[.val (.int p0)] [])) _
        refine XS.iloadN X.here hx rfl (hb hby d1_142) rfl ?_
        show Steps p.tables e below (T.setTop (mkF m 143 #[.val (.int p0)] [(.int p0)])) _
        refine XS.sipush X.here hx rfl (hb hby d1_143) ?_
        exact k
      by_cases hc125 : p0 < (12289 : Int32)
      · have pre126 : ∀ t, Steps p.tables e below (T.setTop (mkF m 155 #[.val (.int p0)] [])) t → Steps p.tables e below (s₁.setTop (entryFrame m #[(.int p0)] 1)) t := fun t k => by
          refine pre124 t ?_
          show Steps p.tables e below (T.setTop (mkF m 146 #[.val (.int p0)] [(.int (12289 : Int32)), (.int p0)])) _
          refine XS.icmpYes X.here hx rfl (pc0 := 146) (pc' := 155) rfl (hb hby d1_146) rfl (tlt hc125).1 (by decide) (by decide) ?_
          exact k
        exact B155 _ _ X eT NT pre126 (hB.trans (by simp [own_n142, own_in, hc125]))
      · have pre127 : ∀ t, Steps p.tables e below (T.setTop (mkF m 152 #[.val (.int p0)] [(.int (55295 : Int32)), (.int p0)])) t → Steps p.tables e below (s₁.setTop (entryFrame m #[(.int p0)] 1)) t := fun t k => by
          refine pre124 t ?_
          show Steps p.tables e below (T.setTop (mkF m 146 #[.val (.int p0)] [(.int (12289 : Int32)), (.int p0)])) _
          refine XS.icmpNo X.here hx rfl (hb hby d1_146) rfl (flt hc125).1 ?_
          show Steps p.tables e below (T.setTop (mkF m 149 #[.val (.int p0)] [])) _
          refine XS.iloadN X.here hx rfl (hb hby d1_149) rfl ?_
          show Steps p.tables e below (T.setTop (mkF m 150 #[.val (.int p0)] [(.int p0)])) _
          refine X.ldcInt hx hown (mvT hZ (hw _ (List.mem_of_getElem? (i := 29) rfl))) (g := (mkF m 150 #[.val (.int p0)] [(.int p0)])) rfl (hb hby d1_150) _ ?_
          exact k
        by_cases hc128 : (55295 : Int32) < p0
        · have pre129 : ∀ t, Steps p.tables e below (T.setTop (mkF m 155 #[.val (.int p0)] [])) t → Steps p.tables e below (s₁.setTop (entryFrame m #[(.int p0)] 1)) t := fun t k => by
            refine pre127 t ?_
            show Steps p.tables e below (T.setTop (mkF m 152 #[.val (.int p0)] [(.int (55295 : Int32)), (.int p0)])) _
            refine XS.icmpNo X.here hx rfl (hb hby d1_152) rfl (tlt hc128).2.2.2 ?_
            exact k
          exact B155 _ _ X eT NT pre129 (hB.trans (by simp [own_n142, own_in, hc125, hc128]))
        · have pre130 : ∀ t, Steps p.tables e below (T.setTop (mkF m 191 #[.val (.int p0)] [])) t → Steps p.tables e below (s₁.setTop (entryFrame m #[(.int p0)] 1)) t := fun t k => by
            refine pre127 t ?_
            show Steps p.tables e below (T.setTop (mkF m 152 #[.val (.int p0)] [(.int (55295 : Int32)), (.int p0)])) _
            refine XS.icmpYes X.here hx rfl (pc0 := 152) (pc' := 191) rfl (hb hby d1_152) rfl (flt hc128).2.2.2 (by decide) (by decide) ?_
            exact k
          exact B191 _ _ X eT NT pre130 (hB.trans (by simp [own_n142, own_in, hc125, hc128]))
    have B128 : ∀ (T : State) (locs : List Loc) (X : Stand p l e ({ frames := 0, cells := 0, slots := 0, locals := 0 } : Room) s m #[(.int p0)] below meth c T locs 0 0) (eT : T.heap = h0) (NT : Fr n0 locs) (pre : ∀ t, Steps p.tables e below (T.setTop (mkF m 128 #[.val (.int p0)] [])) t → Steps p.tables e below (s₁.setTop (entryFrame m #[(.int p0)] 1)) t) (hB : own_n0 p0 = own_n128 p0), G := by
      intro T locs X eT NT pre hB
      have pre131 : ∀ t, Steps p.tables e below (T.setTop (mkF m 132 #[.val (.int p0)] [(.int (11264 : Int32)), (.int p0)])) t → Steps p.tables e below (s₁.setTop (entryFrame m #[(.int p0)] 1)) t := fun t k => by
        refine pre t ?_
        show Steps p.tables e below (T.setTop (mkF m 128 #[.val (.int p0)] [])) _
        refine XS.iloadN X.here hx rfl (hb hby d1_128) rfl ?_
        show Steps p.tables e below (T.setTop (mkF m 129 #[.val (.int p0)] [(.int p0)])) _
        refine XS.sipush X.here hx rfl (hb hby d1_129) ?_
        exact k
      by_cases hc132 : p0 < (11264 : Int32)
      · have pre133 : ∀ t, Steps p.tables e below (T.setTop (mkF m 142 #[.val (.int p0)] [])) t → Steps p.tables e below (s₁.setTop (entryFrame m #[(.int p0)] 1)) t := fun t k => by
          refine pre131 t ?_
          show Steps p.tables e below (T.setTop (mkF m 132 #[.val (.int p0)] [(.int (11264 : Int32)), (.int p0)])) _
          refine XS.icmpYes X.here hx rfl (pc0 := 132) (pc' := 142) rfl (hb hby d1_132) rfl (tlt hc132).1 (by decide) (by decide) ?_
          exact k
        exact B142 _ _ X eT NT pre133 (hB.trans (by simp [own_n128, own_in, hc132]))
      · have pre134 : ∀ t, Steps p.tables e below (T.setTop (mkF m 139 #[.val (.int p0)] [(.int (12271 : Int32)), (.int p0)])) t → Steps p.tables e below (s₁.setTop (entryFrame m #[(.int p0)] 1)) t := fun t k => by
          refine pre131 t ?_
          show Steps p.tables e below (T.setTop (mkF m 132 #[.val (.int p0)] [(.int (11264 : Int32)), (.int p0)])) _
          refine XS.icmpNo X.here hx rfl (hb hby d1_132) rfl (flt hc132).1 ?_
          show Steps p.tables e below (T.setTop (mkF m 135 #[.val (.int p0)] [])) _
          refine XS.iloadN X.here hx rfl (hb hby d1_135) rfl ?_
          show Steps p.tables e below (T.setTop (mkF m 136 #[.val (.int p0)] [(.int p0)])) _
          refine XS.sipush X.here hx rfl (hb hby d1_136) ?_
          exact k
        by_cases hc135 : (12271 : Int32) < p0
        · have pre136 : ∀ t, Steps p.tables e below (T.setTop (mkF m 142 #[.val (.int p0)] [])) t → Steps p.tables e below (s₁.setTop (entryFrame m #[(.int p0)] 1)) t := fun t k => by
            refine pre134 t ?_
            show Steps p.tables e below (T.setTop (mkF m 139 #[.val (.int p0)] [(.int (12271 : Int32)), (.int p0)])) _
            refine XS.icmpNo X.here hx rfl (hb hby d1_139) rfl (tlt hc135).2.2.2 ?_
            exact k
          exact B142 _ _ X eT NT pre136 (hB.trans (by simp [own_n128, own_in, hc132, hc135]))
        · have pre137 : ∀ t, Steps p.tables e below (T.setTop (mkF m 191 #[.val (.int p0)] [])) t → Steps p.tables e below (s₁.setTop (entryFrame m #[(.int p0)] 1)) t := fun t k => by
            refine pre134 t ?_
            show Steps p.tables e below (T.setTop (mkF m 139 #[.val (.int p0)] [(.int (12271 : Int32)), (.int p0)])) _
            refine XS.icmpYes X.here hx rfl (pc0 := 139) (pc' := 191) rfl (hb hby d1_139) rfl (flt hc135).2.2.2 (by decide) (by decide) ?_
            exact k
          exact B191 _ _ X eT NT pre137 (hB.trans (by simp [own_n128, own_in, hc132, hc135]))
    have B114 : ∀ (T : State) (locs : List Loc) (X : Stand p l e ({ frames := 0, cells := 0, slots := 0, locals := 0 } : Room) s m #[(.int p0)] below meth c T locs 0 0) (eT : T.heap = h0) (NT : Fr n0 locs) (pre : ∀ t, Steps p.tables e below (T.setTop (mkF m 114 #[.val (.int p0)] [])) t → Steps p.tables e below (s₁.setTop (entryFrame m #[(.int p0)] 1)) t) (hB : own_n0 p0 = own_n114 p0), G := by
      intro T locs X eT NT pre hB
      have pre138 : ∀ t, Steps p.tables e below (T.setTop (mkF m 118 #[.val (.int p0)] [(.int (8304 : Int32)), (.int p0)])) t → Steps p.tables e below (s₁.setTop (entryFrame m #[(.int p0)] 1)) t := fun t k => by
        refine pre t ?_
        show Steps p.tables e below (T.setTop (mkF m 114 #[.val (.int p0)] [])) _
        refine XS.iloadN X.here hx rfl (hb hby d1_114) rfl ?_
        show Steps p.tables e below (T.setTop (mkF m 115 #[.val (.int p0)] [(.int p0)])) _
        refine XS.sipush X.here hx rfl (hb hby d1_115) ?_
        exact k
      by_cases hc139 : p0 < (8304 : Int32)
      · have pre140 : ∀ t, Steps p.tables e below (T.setTop (mkF m 128 #[.val (.int p0)] [])) t → Steps p.tables e below (s₁.setTop (entryFrame m #[(.int p0)] 1)) t := fun t k => by
          refine pre138 t ?_
          show Steps p.tables e below (T.setTop (mkF m 118 #[.val (.int p0)] [(.int (8304 : Int32)), (.int p0)])) _
          refine XS.icmpYes X.here hx rfl (pc0 := 118) (pc' := 128) rfl (hb hby d1_118) rfl (tlt hc139).1 (by decide) (by decide) ?_
          exact k
        exact B128 _ _ X eT NT pre140 (hB.trans (by simp [own_n114, own_in, hc139]))
      · have pre141 : ∀ t, Steps p.tables e below (T.setTop (mkF m 125 #[.val (.int p0)] [(.int (8591 : Int32)), (.int p0)])) t → Steps p.tables e below (s₁.setTop (entryFrame m #[(.int p0)] 1)) t := fun t k => by
          refine pre138 t ?_
          show Steps p.tables e below (T.setTop (mkF m 118 #[.val (.int p0)] [(.int (8304 : Int32)), (.int p0)])) _
          refine XS.icmpNo X.here hx rfl (hb hby d1_118) rfl (flt hc139).1 ?_
          show Steps p.tables e below (T.setTop (mkF m 121 #[.val (.int p0)] [])) _
          refine XS.iloadN X.here hx rfl (hb hby d1_121) rfl ?_
          show Steps p.tables e below (T.setTop (mkF m 122 #[.val (.int p0)] [(.int p0)])) _
          refine XS.sipush X.here hx rfl (hb hby d1_122) ?_
          exact k
        by_cases hc142 : (8591 : Int32) < p0
        · have pre143 : ∀ t, Steps p.tables e below (T.setTop (mkF m 128 #[.val (.int p0)] [])) t → Steps p.tables e below (s₁.setTop (entryFrame m #[(.int p0)] 1)) t := fun t k => by
            refine pre141 t ?_
            show Steps p.tables e below (T.setTop (mkF m 125 #[.val (.int p0)] [(.int (8591 : Int32)), (.int p0)])) _
            refine XS.icmpNo X.here hx rfl (hb hby d1_125) rfl (tlt hc142).2.2.2 ?_
            exact k
          exact B128 _ _ X eT NT pre143 (hB.trans (by simp [own_n114, own_in, hc139, hc142]))
        · have pre144 : ∀ t, Steps p.tables e below (T.setTop (mkF m 191 #[.val (.int p0)] [])) t → Steps p.tables e below (s₁.setTop (entryFrame m #[(.int p0)] 1)) t := fun t k => by
            refine pre141 t ?_
            show Steps p.tables e below (T.setTop (mkF m 125 #[.val (.int p0)] [(.int (8591 : Int32)), (.int p0)])) _
            refine XS.icmpYes X.here hx rfl (pc0 := 125) (pc' := 191) rfl (hb hby d1_125) rfl (flt hc142).2.2.2 (by decide) (by decide) ?_
            exact k
          exact B191 _ _ X eT NT pre144 (hB.trans (by simp [own_n114, own_in, hc139, hc142]))
    have B100 : ∀ (T : State) (locs : List Loc) (X : Stand p l e ({ frames := 0, cells := 0, slots := 0, locals := 0 } : Room) s m #[(.int p0)] below meth c T locs 0 0) (eT : T.heap = h0) (NT : Fr n0 locs) (pre : ∀ t, Steps p.tables e below (T.setTop (mkF m 100 #[.val (.int p0)] [])) t → Steps p.tables e below (s₁.setTop (entryFrame m #[(.int p0)] 1)) t) (hB : own_n0 p0 = own_n100 p0), G := by
      intro T locs X eT NT pre hB
      have pre145 : ∀ t, Steps p.tables e below (T.setTop (mkF m 104 #[.val (.int p0)] [(.int (8204 : Int32)), (.int p0)])) t → Steps p.tables e below (s₁.setTop (entryFrame m #[(.int p0)] 1)) t := fun t k => by
        refine pre t ?_
        show Steps p.tables e below (T.setTop (mkF m 100 #[.val (.int p0)] [])) _
        refine XS.iloadN X.here hx rfl (hb hby d1_100) rfl ?_
        show Steps p.tables e below (T.setTop (mkF m 101 #[.val (.int p0)] [(.int p0)])) _
        refine XS.sipush X.here hx rfl (hb hby d1_101) ?_
        exact k
      by_cases hc146 : p0 < (8204 : Int32)
      · have pre147 : ∀ t, Steps p.tables e below (T.setTop (mkF m 114 #[.val (.int p0)] [])) t → Steps p.tables e below (s₁.setTop (entryFrame m #[(.int p0)] 1)) t := fun t k => by
          refine pre145 t ?_
          show Steps p.tables e below (T.setTop (mkF m 104 #[.val (.int p0)] [(.int (8204 : Int32)), (.int p0)])) _
          refine XS.icmpYes X.here hx rfl (pc0 := 104) (pc' := 114) rfl (hb hby d1_104) rfl (tlt hc146).1 (by decide) (by decide) ?_
          exact k
        exact B114 _ _ X eT NT pre147 (hB.trans (by simp [own_n100, own_in, hc146]))
      · have pre148 : ∀ t, Steps p.tables e below (T.setTop (mkF m 111 #[.val (.int p0)] [(.int (8205 : Int32)), (.int p0)])) t → Steps p.tables e below (s₁.setTop (entryFrame m #[(.int p0)] 1)) t := fun t k => by
          refine pre145 t ?_
          show Steps p.tables e below (T.setTop (mkF m 104 #[.val (.int p0)] [(.int (8204 : Int32)), (.int p0)])) _
          refine XS.icmpNo X.here hx rfl (hb hby d1_104) rfl (flt hc146).1 ?_
          show Steps p.tables e below (T.setTop (mkF m 107 #[.val (.int p0)] [])) _
          refine XS.iloadN X.here hx rfl (hb hby d1_107) rfl ?_
          show Steps p.tables e below (T.setTop (mkF m 108 #[.val (.int p0)] [(.int p0)])) _
          refine XS.sipush X.here hx rfl (hb hby d1_108) ?_
          exact k
        by_cases hc149 : (8205 : Int32) < p0
        · have pre150 : ∀ t, Steps p.tables e below (T.setTop (mkF m 114 #[.val (.int p0)] [])) t → Steps p.tables e below (s₁.setTop (entryFrame m #[(.int p0)] 1)) t := fun t k => by
            refine pre148 t ?_
            show Steps p.tables e below (T.setTop (mkF m 111 #[.val (.int p0)] [(.int (8205 : Int32)), (.int p0)])) _
            refine XS.icmpNo X.here hx rfl (hb hby d1_111) rfl (tlt hc149).2.2.2 ?_
            exact k
          exact B114 _ _ X eT NT pre150 (hB.trans (by simp [own_n100, own_in, hc146, hc149]))
        · have pre151 : ∀ t, Steps p.tables e below (T.setTop (mkF m 191 #[.val (.int p0)] [])) t → Steps p.tables e below (s₁.setTop (entryFrame m #[(.int p0)] 1)) t := fun t k => by
            refine pre148 t ?_
            show Steps p.tables e below (T.setTop (mkF m 111 #[.val (.int p0)] [(.int (8205 : Int32)), (.int p0)])) _
            refine XS.icmpYes X.here hx rfl (pc0 := 111) (pc' := 191) rfl (hb hby d1_111) rfl (flt hc149).2.2.2 (by decide) (by decide) ?_
            exact k
          exact B191 _ _ X eT NT pre151 (hB.trans (by simp [own_n100, own_in, hc146, hc149]))
    have B86 : ∀ (T : State) (locs : List Loc) (X : Stand p l e ({ frames := 0, cells := 0, slots := 0, locals := 0 } : Room) s m #[(.int p0)] below meth c T locs 0 0) (eT : T.heap = h0) (NT : Fr n0 locs) (pre : ∀ t, Steps p.tables e below (T.setTop (mkF m 86 #[.val (.int p0)] [])) t → Steps p.tables e below (s₁.setTop (entryFrame m #[(.int p0)] 1)) t) (hB : own_n0 p0 = own_n86 p0), G := by
      intro T locs X eT NT pre hB
      have pre152 : ∀ t, Steps p.tables e below (T.setTop (mkF m 90 #[.val (.int p0)] [(.int (895 : Int32)), (.int p0)])) t → Steps p.tables e below (s₁.setTop (entryFrame m #[(.int p0)] 1)) t := fun t k => by
        refine pre t ?_
        show Steps p.tables e below (T.setTop (mkF m 86 #[.val (.int p0)] [])) _
        refine XS.iloadN X.here hx rfl (hb hby d1_86) rfl ?_
        show Steps p.tables e below (T.setTop (mkF m 87 #[.val (.int p0)] [(.int p0)])) _
        refine XS.sipush X.here hx rfl (hb hby d1_87) ?_
        exact k
      by_cases hc153 : p0 < (895 : Int32)
      · have pre154 : ∀ t, Steps p.tables e below (T.setTop (mkF m 100 #[.val (.int p0)] [])) t → Steps p.tables e below (s₁.setTop (entryFrame m #[(.int p0)] 1)) t := fun t k => by
          refine pre152 t ?_
          show Steps p.tables e below (T.setTop (mkF m 90 #[.val (.int p0)] [(.int (895 : Int32)), (.int p0)])) _
          refine XS.icmpYes X.here hx rfl (pc0 := 90) (pc' := 100) rfl (hb hby d1_90) rfl (tlt hc153).1 (by decide) (by decide) ?_
          exact k
        exact B100 _ _ X eT NT pre154 (hB.trans (by simp [own_n86, own_in, hc153]))
      · have pre155 : ∀ t, Steps p.tables e below (T.setTop (mkF m 97 #[.val (.int p0)] [(.int (8191 : Int32)), (.int p0)])) t → Steps p.tables e below (s₁.setTop (entryFrame m #[(.int p0)] 1)) t := fun t k => by
          refine pre152 t ?_
          show Steps p.tables e below (T.setTop (mkF m 90 #[.val (.int p0)] [(.int (895 : Int32)), (.int p0)])) _
          refine XS.icmpNo X.here hx rfl (hb hby d1_90) rfl (flt hc153).1 ?_
          show Steps p.tables e below (T.setTop (mkF m 93 #[.val (.int p0)] [])) _
          refine XS.iloadN X.here hx rfl (hb hby d1_93) rfl ?_
          show Steps p.tables e below (T.setTop (mkF m 94 #[.val (.int p0)] [(.int p0)])) _
          refine XS.sipush X.here hx rfl (hb hby d1_94) ?_
          exact k
        by_cases hc156 : (8191 : Int32) < p0
        · have pre157 : ∀ t, Steps p.tables e below (T.setTop (mkF m 100 #[.val (.int p0)] [])) t → Steps p.tables e below (s₁.setTop (entryFrame m #[(.int p0)] 1)) t := fun t k => by
            refine pre155 t ?_
            show Steps p.tables e below (T.setTop (mkF m 97 #[.val (.int p0)] [(.int (8191 : Int32)), (.int p0)])) _
            refine XS.icmpNo X.here hx rfl (hb hby d1_97) rfl (tlt hc156).2.2.2 ?_
            exact k
          exact B100 _ _ X eT NT pre157 (hB.trans (by simp [own_n86, own_in, hc153, hc156]))
        · have pre158 : ∀ t, Steps p.tables e below (T.setTop (mkF m 191 #[.val (.int p0)] [])) t → Steps p.tables e below (s₁.setTop (entryFrame m #[(.int p0)] 1)) t := fun t k => by
            refine pre155 t ?_
            show Steps p.tables e below (T.setTop (mkF m 97 #[.val (.int p0)] [(.int (8191 : Int32)), (.int p0)])) _
            refine XS.icmpYes X.here hx rfl (pc0 := 97) (pc' := 191) rfl (hb hby d1_97) rfl (flt hc156).2.2.2 (by decide) (by decide) ?_
            exact k
          exact B191 _ _ X eT NT pre158 (hB.trans (by simp [own_n86, own_in, hc153, hc156]))
    have B72 : ∀ (T : State) (locs : List Loc) (X : Stand p l e ({ frames := 0, cells := 0, slots := 0, locals := 0 } : Room) s m #[(.int p0)] below meth c T locs 0 0) (eT : T.heap = h0) (NT : Fr n0 locs) (pre : ∀ t, Steps p.tables e below (T.setTop (mkF m 72 #[.val (.int p0)] [])) t → Steps p.tables e below (s₁.setTop (entryFrame m #[(.int p0)] 1)) t) (hB : own_n0 p0 = own_n72 p0), G := by
      intro T locs X eT NT pre hB
      have pre159 : ∀ t, Steps p.tables e below (T.setTop (mkF m 76 #[.val (.int p0)] [(.int (880 : Int32)), (.int p0)])) t → Steps p.tables e below (s₁.setTop (entryFrame m #[(.int p0)] 1)) t := fun t k => by
        refine pre t ?_
        show Steps p.tables e below (T.setTop (mkF m 72 #[.val (.int p0)] [])) _
        refine XS.iloadN X.here hx rfl (hb hby d1_72) rfl ?_
        show Steps p.tables e below (T.setTop (mkF m 73 #[.val (.int p0)] [(.int p0)])) _
        refine XS.sipush X.here hx rfl (hb hby d1_73) ?_
        exact k
      by_cases hc160 : p0 < (880 : Int32)
      · have pre161 : ∀ t, Steps p.tables e below (T.setTop (mkF m 86 #[.val (.int p0)] [])) t → Steps p.tables e below (s₁.setTop (entryFrame m #[(.int p0)] 1)) t := fun t k => by
          refine pre159 t ?_
          show Steps p.tables e below (T.setTop (mkF m 76 #[.val (.int p0)] [(.int (880 : Int32)), (.int p0)])) _
          refine XS.icmpYes X.here hx rfl (pc0 := 76) (pc' := 86) rfl (hb hby d1_76) rfl (tlt hc160).1 (by decide) (by decide) ?_
          exact k
        exact B86 _ _ X eT NT pre161 (hB.trans (by simp [own_n72, own_in, hc160]))
      · have pre162 : ∀ t, Steps p.tables e below (T.setTop (mkF m 83 #[.val (.int p0)] [(.int (893 : Int32)), (.int p0)])) t → Steps p.tables e below (s₁.setTop (entryFrame m #[(.int p0)] 1)) t := fun t k => by
          refine pre159 t ?_
          show Steps p.tables e below (T.setTop (mkF m 76 #[.val (.int p0)] [(.int (880 : Int32)), (.int p0)])) _
          refine XS.icmpNo X.here hx rfl (hb hby d1_76) rfl (flt hc160).1 ?_
          show Steps p.tables e below (T.setTop (mkF m 79 #[.val (.int p0)] [])) _
          refine XS.iloadN X.here hx rfl (hb hby d1_79) rfl ?_
          show Steps p.tables e below (T.setTop (mkF m 80 #[.val (.int p0)] [(.int p0)])) _
          refine XS.sipush X.here hx rfl (hb hby d1_80) ?_
          exact k
        by_cases hc163 : (893 : Int32) < p0
        · have pre164 : ∀ t, Steps p.tables e below (T.setTop (mkF m 86 #[.val (.int p0)] [])) t → Steps p.tables e below (s₁.setTop (entryFrame m #[(.int p0)] 1)) t := fun t k => by
            refine pre162 t ?_
            show Steps p.tables e below (T.setTop (mkF m 83 #[.val (.int p0)] [(.int (893 : Int32)), (.int p0)])) _
            refine XS.icmpNo X.here hx rfl (hb hby d1_83) rfl (tlt hc163).2.2.2 ?_
            exact k
          exact B86 _ _ X eT NT pre164 (hB.trans (by simp [own_n72, own_in, hc160, hc163]))
        · have pre165 : ∀ t, Steps p.tables e below (T.setTop (mkF m 191 #[.val (.int p0)] [])) t → Steps p.tables e below (s₁.setTop (entryFrame m #[(.int p0)] 1)) t := fun t k => by
            refine pre162 t ?_
            show Steps p.tables e below (T.setTop (mkF m 83 #[.val (.int p0)] [(.int (893 : Int32)), (.int p0)])) _
            refine XS.icmpYes X.here hx rfl (pc0 := 83) (pc' := 191) rfl (hb hby d1_83) rfl (flt hc163).2.2.2 (by decide) (by decide) ?_
            exact k
          exact B191 _ _ X eT NT pre165 (hB.trans (by simp [own_n72, own_in, hc160, hc163]))
    have B58 : ∀ (T : State) (locs : List Loc) (X : Stand p l e ({ frames := 0, cells := 0, slots := 0, locals := 0 } : Room) s m #[(.int p0)] below meth c T locs 0 0) (eT : T.heap = h0) (NT : Fr n0 locs) (pre : ∀ t, Steps p.tables e below (T.setTop (mkF m 58 #[.val (.int p0)] [])) t → Steps p.tables e below (s₁.setTop (entryFrame m #[(.int p0)] 1)) t) (hB : own_n0 p0 = own_n58 p0), G := by
      intro T locs X eT NT pre hB
      have pre166 : ∀ t, Steps p.tables e below (T.setTop (mkF m 62 #[.val (.int p0)] [(.int (248 : Int32)), (.int p0)])) t → Steps p.tables e below (s₁.setTop (entryFrame m #[(.int p0)] 1)) t := fun t k => by
        refine pre t ?_
        show Steps p.tables e below (T.setTop (mkF m 58 #[.val (.int p0)] [])) _
        refine XS.iloadN X.here hx rfl (hb hby d1_58) rfl ?_
        show Steps p.tables e below (T.setTop (mkF m 59 #[.val (.int p0)] [(.int p0)])) _
        refine XS.sipush X.here hx rfl (hb hby d1_59) ?_
        exact k
      by_cases hc167 : p0 < (248 : Int32)
      · have pre168 : ∀ t, Steps p.tables e below (T.setTop (mkF m 72 #[.val (.int p0)] [])) t → Steps p.tables e below (s₁.setTop (entryFrame m #[(.int p0)] 1)) t := fun t k => by
          refine pre166 t ?_
          show Steps p.tables e below (T.setTop (mkF m 62 #[.val (.int p0)] [(.int (248 : Int32)), (.int p0)])) _
          refine XS.icmpYes X.here hx rfl (pc0 := 62) (pc' := 72) rfl (hb hby d1_62) rfl (tlt hc167).1 (by decide) (by decide) ?_
          exact k
        exact B72 _ _ X eT NT pre168 (hB.trans (by simp [own_n58, own_in, hc167]))
      · have pre169 : ∀ t, Steps p.tables e below (T.setTop (mkF m 69 #[.val (.int p0)] [(.int (767 : Int32)), (.int p0)])) t → Steps p.tables e below (s₁.setTop (entryFrame m #[(.int p0)] 1)) t := fun t k => by
          refine pre166 t ?_
          show Steps p.tables e below (T.setTop (mkF m 62 #[.val (.int p0)] [(.int (248 : Int32)), (.int p0)])) _
          refine XS.icmpNo X.here hx rfl (hb hby d1_62) rfl (flt hc167).1 ?_
          show Steps p.tables e below (T.setTop (mkF m 65 #[.val (.int p0)] [])) _
          refine XS.iloadN X.here hx rfl (hb hby d1_65) rfl ?_
          show Steps p.tables e below (T.setTop (mkF m 66 #[.val (.int p0)] [(.int p0)])) _
          refine XS.sipush X.here hx rfl (hb hby d1_66) ?_
          exact k
        by_cases hc170 : (767 : Int32) < p0
        · have pre171 : ∀ t, Steps p.tables e below (T.setTop (mkF m 72 #[.val (.int p0)] [])) t → Steps p.tables e below (s₁.setTop (entryFrame m #[(.int p0)] 1)) t := fun t k => by
            refine pre169 t ?_
            show Steps p.tables e below (T.setTop (mkF m 69 #[.val (.int p0)] [(.int (767 : Int32)), (.int p0)])) _
            refine XS.icmpNo X.here hx rfl (hb hby d1_69) rfl (tlt hc170).2.2.2 ?_
            exact k
          exact B72 _ _ X eT NT pre171 (hB.trans (by simp [own_n58, own_in, hc167, hc170]))
        · have pre172 : ∀ t, Steps p.tables e below (T.setTop (mkF m 191 #[.val (.int p0)] [])) t → Steps p.tables e below (s₁.setTop (entryFrame m #[(.int p0)] 1)) t := fun t k => by
            refine pre169 t ?_
            show Steps p.tables e below (T.setTop (mkF m 69 #[.val (.int p0)] [(.int (767 : Int32)), (.int p0)])) _
            refine XS.icmpYes X.here hx rfl (pc0 := 69) (pc' := 191) rfl (hb hby d1_69) rfl (flt hc170).2.2.2 (by decide) (by decide) ?_
            exact k
          exact B191 _ _ X eT NT pre172 (hB.trans (by simp [own_n58, own_in, hc167, hc170]))
    have B44 : ∀ (T : State) (locs : List Loc) (X : Stand p l e ({ frames := 0, cells := 0, slots := 0, locals := 0 } : Room) s m #[(.int p0)] below meth c T locs 0 0) (eT : T.heap = h0) (NT : Fr n0 locs) (pre : ∀ t, Steps p.tables e below (T.setTop (mkF m 44 #[.val (.int p0)] [])) t → Steps p.tables e below (s₁.setTop (entryFrame m #[(.int p0)] 1)) t) (hB : own_n0 p0 = own_n44 p0), G := by
      intro T locs X eT NT pre hB
      have pre173 : ∀ t, Steps p.tables e below (T.setTop (mkF m 48 #[.val (.int p0)] [(.int (216 : Int32)), (.int p0)])) t → Steps p.tables e below (s₁.setTop (entryFrame m #[(.int p0)] 1)) t := fun t k => by
        refine pre t ?_
        show Steps p.tables e below (T.setTop (mkF m 44 #[.val (.int p0)] [])) _
        refine XS.iloadN X.here hx rfl (hb hby d1_44) rfl ?_
        show Steps p.tables e below (T.setTop (mkF m 45 #[.val (.int p0)] [(.int p0)])) _
        refine XS.sipush X.here hx rfl (hb hby d1_45) ?_
        exact k
      by_cases hc174 : p0 < (216 : Int32)
      · have pre175 : ∀ t, Steps p.tables e below (T.setTop (mkF m 58 #[.val (.int p0)] [])) t → Steps p.tables e below (s₁.setTop (entryFrame m #[(.int p0)] 1)) t := fun t k => by
          refine pre173 t ?_
          show Steps p.tables e below (T.setTop (mkF m 48 #[.val (.int p0)] [(.int (216 : Int32)), (.int p0)])) _
          refine XS.icmpYes X.here hx rfl (pc0 := 48) (pc' := 58) rfl (hb hby d1_48) rfl (tlt hc174).1 (by decide) (by decide) ?_
          exact k
        exact B58 _ _ X eT NT pre175 (hB.trans (by simp [own_n44, own_in, hc174]))
      · have pre176 : ∀ t, Steps p.tables e below (T.setTop (mkF m 55 #[.val (.int p0)] [(.int (246 : Int32)), (.int p0)])) t → Steps p.tables e below (s₁.setTop (entryFrame m #[(.int p0)] 1)) t := fun t k => by
          refine pre173 t ?_
          show Steps p.tables e below (T.setTop (mkF m 48 #[.val (.int p0)] [(.int (216 : Int32)), (.int p0)])) _
          refine XS.icmpNo X.here hx rfl (hb hby d1_48) rfl (flt hc174).1 ?_
          show Steps p.tables e below (T.setTop (mkF m 51 #[.val (.int p0)] [])) _
          refine XS.iloadN X.here hx rfl (hb hby d1_51) rfl ?_
          show Steps p.tables e below (T.setTop (mkF m 52 #[.val (.int p0)] [(.int p0)])) _
          refine XS.sipush X.here hx rfl (hb hby d1_52) ?_
          exact k
        by_cases hc177 : (246 : Int32) < p0
        · have pre178 : ∀ t, Steps p.tables e below (T.setTop (mkF m 58 #[.val (.int p0)] [])) t → Steps p.tables e below (s₁.setTop (entryFrame m #[(.int p0)] 1)) t := fun t k => by
            refine pre176 t ?_
            show Steps p.tables e below (T.setTop (mkF m 55 #[.val (.int p0)] [(.int (246 : Int32)), (.int p0)])) _
            refine XS.icmpNo X.here hx rfl (hb hby d1_55) rfl (tlt hc177).2.2.2 ?_
            exact k
          exact B58 _ _ X eT NT pre178 (hB.trans (by simp [own_n44, own_in, hc174, hc177]))
        · have pre179 : ∀ t, Steps p.tables e below (T.setTop (mkF m 191 #[.val (.int p0)] [])) t → Steps p.tables e below (s₁.setTop (entryFrame m #[(.int p0)] 1)) t := fun t k => by
            refine pre176 t ?_
            show Steps p.tables e below (T.setTop (mkF m 55 #[.val (.int p0)] [(.int (246 : Int32)), (.int p0)])) _
            refine XS.icmpYes X.here hx rfl (pc0 := 55) (pc' := 191) rfl (hb hby d1_55) rfl (flt hc177).2.2.2 (by decide) (by decide) ?_
            exact k
          exact B191 _ _ X eT NT pre179 (hB.trans (by simp [own_n44, own_in, hc174, hc177]))
    have B30 : ∀ (T : State) (locs : List Loc) (X : Stand p l e ({ frames := 0, cells := 0, slots := 0, locals := 0 } : Room) s m #[(.int p0)] below meth c T locs 0 0) (eT : T.heap = h0) (NT : Fr n0 locs) (pre : ∀ t, Steps p.tables e below (T.setTop (mkF m 30 #[.val (.int p0)] [])) t → Steps p.tables e below (s₁.setTop (entryFrame m #[(.int p0)] 1)) t) (hB : own_n0 p0 = own_n30 p0), G := by
      intro T locs X eT NT pre hB
      have pre180 : ∀ t, Steps p.tables e below (T.setTop (mkF m 34 #[.val (.int p0)] [(.int (192 : Int32)), (.int p0)])) t → Steps p.tables e below (s₁.setTop (entryFrame m #[(.int p0)] 1)) t := fun t k => by
        refine pre t ?_
        show Steps p.tables e below (T.setTop (mkF m 30 #[.val (.int p0)] [])) _
        refine XS.iloadN X.here hx rfl (hb hby d1_30) rfl ?_
        show Steps p.tables e below (T.setTop (mkF m 31 #[.val (.int p0)] [(.int p0)])) _
        refine XS.sipush X.here hx rfl (hb hby d1_31) ?_
        exact k
      by_cases hc181 : p0 < (192 : Int32)
      · have pre182 : ∀ t, Steps p.tables e below (T.setTop (mkF m 44 #[.val (.int p0)] [])) t → Steps p.tables e below (s₁.setTop (entryFrame m #[(.int p0)] 1)) t := fun t k => by
          refine pre180 t ?_
          show Steps p.tables e below (T.setTop (mkF m 34 #[.val (.int p0)] [(.int (192 : Int32)), (.int p0)])) _
          refine XS.icmpYes X.here hx rfl (pc0 := 34) (pc' := 44) rfl (hb hby d1_34) rfl (tlt hc181).1 (by decide) (by decide) ?_
          exact k
        exact B44 _ _ X eT NT pre182 (hB.trans (by simp [own_n30, own_in, hc181]))
      · have pre183 : ∀ t, Steps p.tables e below (T.setTop (mkF m 41 #[.val (.int p0)] [(.int (214 : Int32)), (.int p0)])) t → Steps p.tables e below (s₁.setTop (entryFrame m #[(.int p0)] 1)) t := fun t k => by
          refine pre180 t ?_
          show Steps p.tables e below (T.setTop (mkF m 34 #[.val (.int p0)] [(.int (192 : Int32)), (.int p0)])) _
          refine XS.icmpNo X.here hx rfl (hb hby d1_34) rfl (flt hc181).1 ?_
          show Steps p.tables e below (T.setTop (mkF m 37 #[.val (.int p0)] [])) _
          refine XS.iloadN X.here hx rfl (hb hby d1_37) rfl ?_
          show Steps p.tables e below (T.setTop (mkF m 38 #[.val (.int p0)] [(.int p0)])) _
          refine XS.sipush X.here hx rfl (hb hby d1_38) ?_
          exact k
        by_cases hc184 : (214 : Int32) < p0
        · have pre185 : ∀ t, Steps p.tables e below (T.setTop (mkF m 44 #[.val (.int p0)] [])) t → Steps p.tables e below (s₁.setTop (entryFrame m #[(.int p0)] 1)) t := fun t k => by
            refine pre183 t ?_
            show Steps p.tables e below (T.setTop (mkF m 41 #[.val (.int p0)] [(.int (214 : Int32)), (.int p0)])) _
            refine XS.icmpNo X.here hx rfl (hb hby d1_41) rfl (tlt hc184).2.2.2 ?_
            exact k
          exact B44 _ _ X eT NT pre185 (hB.trans (by simp [own_n30, own_in, hc181, hc184]))
        · have pre186 : ∀ t, Steps p.tables e below (T.setTop (mkF m 191 #[.val (.int p0)] [])) t → Steps p.tables e below (s₁.setTop (entryFrame m #[(.int p0)] 1)) t := fun t k => by
            refine pre183 t ?_
            show Steps p.tables e below (T.setTop (mkF m 41 #[.val (.int p0)] [(.int (214 : Int32)), (.int p0)])) _
            refine XS.icmpYes X.here hx rfl (pc0 := 41) (pc' := 191) rfl (hb hby d1_41) rfl (flt hc184).2.2.2 (by decide) (by decide) ?_
            exact k
          exact B191 _ _ X eT NT pre186 (hB.trans (by simp [own_n30, own_in, hc181, hc184]))
    have B24 : ∀ (T : State) (locs : List Loc) (X : Stand p l e ({ frames := 0, cells := 0, slots := 0, locals := 0 } : Room) s m #[(.int p0)] below meth c T locs 0 0) (eT : T.heap = h0) (NT : Fr n0 locs) (pre : ∀ t, Steps p.tables e below (T.setTop (mkF m 24 #[.val (.int p0)] [])) t → Steps p.tables e below (s₁.setTop (entryFrame m #[(.int p0)] 1)) t) (hB : own_n0 p0 = own_n24 p0), G := by
      intro T locs X eT NT pre hB
      have pre187 : ∀ t, Steps p.tables e below (T.setTop (mkF m 27 #[.val (.int p0)] [(.int (95 : Int32)), (.int p0)])) t → Steps p.tables e below (s₁.setTop (entryFrame m #[(.int p0)] 1)) t := fun t k => by
        refine pre t ?_
        show Steps p.tables e below (T.setTop (mkF m 24 #[.val (.int p0)] [])) _
        refine XS.iloadN X.here hx rfl (hb hby d1_24) rfl ?_
        show Steps p.tables e below (T.setTop (mkF m 25 #[.val (.int p0)] [(.int p0)])) _
        refine XS.bipush X.here hx rfl (hb hby d1_25) ?_
        exact k
      by_cases hc188 : p0 = (95 : Int32)
      · have pre189 : ∀ t, Steps p.tables e below (T.setTop (mkF m 191 #[.val (.int p0)] [])) t → Steps p.tables e below (s₁.setTop (entryFrame m #[(.int p0)] 1)) t := fun t k => by
          refine pre187 t ?_
          show Steps p.tables e below (T.setTop (mkF m 27 #[.val (.int p0)] [(.int (95 : Int32)), (.int p0)])) _
          refine XS.icmpYes X.here hx rfl (pc0 := 27) (pc' := 191) rfl (hb hby d1_27) rfl (teq hc188).1 (by decide) (by decide) ?_
          exact k
        exact B191 _ _ X eT NT pre189 (hB.trans (by simp [own_n24, own_in, hc188]))
      · have pre190 : ∀ t, Steps p.tables e below (T.setTop (mkF m 30 #[.val (.int p0)] [])) t → Steps p.tables e below (s₁.setTop (entryFrame m #[(.int p0)] 1)) t := fun t k => by
          refine pre187 t ?_
          show Steps p.tables e below (T.setTop (mkF m 27 #[.val (.int p0)] [(.int (95 : Int32)), (.int p0)])) _
          refine XS.icmpNo X.here hx rfl (hb hby d1_27) rfl (feq hc188).1 ?_
          exact k
        exact B30 _ _ X eT NT pre190 (hB.trans (by simp [own_n24, own_in, hc188]))
    have B12 : ∀ (T : State) (locs : List Loc) (X : Stand p l e ({ frames := 0, cells := 0, slots := 0, locals := 0 } : Room) s m #[(.int p0)] below meth c T locs 0 0) (eT : T.heap = h0) (NT : Fr n0 locs) (pre : ∀ t, Steps p.tables e below (T.setTop (mkF m 12 #[.val (.int p0)] [])) t → Steps p.tables e below (s₁.setTop (entryFrame m #[(.int p0)] 1)) t) (hB : own_n0 p0 = own_n12 p0), G := by
      intro T locs X eT NT pre hB
      have pre191 : ∀ t, Steps p.tables e below (T.setTop (mkF m 15 #[.val (.int p0)] [(.int (65 : Int32)), (.int p0)])) t → Steps p.tables e below (s₁.setTop (entryFrame m #[(.int p0)] 1)) t := fun t k => by
        refine pre t ?_
        show Steps p.tables e below (T.setTop (mkF m 12 #[.val (.int p0)] [])) _
        refine XS.iloadN X.here hx rfl (hb hby d1_12) rfl ?_
        show Steps p.tables e below (T.setTop (mkF m 13 #[.val (.int p0)] [(.int p0)])) _
        refine XS.bipush X.here hx rfl (hb hby d1_13) ?_
        exact k
      by_cases hc192 : p0 < (65 : Int32)
      · have pre193 : ∀ t, Steps p.tables e below (T.setTop (mkF m 24 #[.val (.int p0)] [])) t → Steps p.tables e below (s₁.setTop (entryFrame m #[(.int p0)] 1)) t := fun t k => by
          refine pre191 t ?_
          show Steps p.tables e below (T.setTop (mkF m 15 #[.val (.int p0)] [(.int (65 : Int32)), (.int p0)])) _
          refine XS.icmpYes X.here hx rfl (pc0 := 15) (pc' := 24) rfl (hb hby d1_15) rfl (tlt hc192).1 (by decide) (by decide) ?_
          exact k
        exact B24 _ _ X eT NT pre193 (hB.trans (by simp [own_n12, own_in, hc192]))
      · have pre194 : ∀ t, Steps p.tables e below (T.setTop (mkF m 21 #[.val (.int p0)] [(.int (90 : Int32)), (.int p0)])) t → Steps p.tables e below (s₁.setTop (entryFrame m #[(.int p0)] 1)) t := fun t k => by
          refine pre191 t ?_
          show Steps p.tables e below (T.setTop (mkF m 15 #[.val (.int p0)] [(.int (65 : Int32)), (.int p0)])) _
          refine XS.icmpNo X.here hx rfl (hb hby d1_15) rfl (flt hc192).1 ?_
          show Steps p.tables e below (T.setTop (mkF m 18 #[.val (.int p0)] [])) _
          refine XS.iloadN X.here hx rfl (hb hby d1_18) rfl ?_
          show Steps p.tables e below (T.setTop (mkF m 19 #[.val (.int p0)] [(.int p0)])) _
          refine XS.bipush X.here hx rfl (hb hby d1_19) ?_
          exact k
        by_cases hc195 : (90 : Int32) < p0
        · have pre196 : ∀ t, Steps p.tables e below (T.setTop (mkF m 24 #[.val (.int p0)] [])) t → Steps p.tables e below (s₁.setTop (entryFrame m #[(.int p0)] 1)) t := fun t k => by
            refine pre194 t ?_
            show Steps p.tables e below (T.setTop (mkF m 21 #[.val (.int p0)] [(.int (90 : Int32)), (.int p0)])) _
            refine XS.icmpNo X.here hx rfl (hb hby d1_21) rfl (tlt hc195).2.2.2 ?_
            exact k
          exact B24 _ _ X eT NT pre196 (hB.trans (by simp [own_n12, own_in, hc192, hc195]))
        · have pre197 : ∀ t, Steps p.tables e below (T.setTop (mkF m 191 #[.val (.int p0)] [])) t → Steps p.tables e below (s₁.setTop (entryFrame m #[(.int p0)] 1)) t := fun t k => by
            refine pre194 t ?_
            show Steps p.tables e below (T.setTop (mkF m 21 #[.val (.int p0)] [(.int (90 : Int32)), (.int p0)])) _
            refine XS.icmpYes X.here hx rfl (pc0 := 21) (pc' := 191) rfl (hb hby d1_21) rfl (flt hc195).2.2.2 (by decide) (by decide) ?_
            exact k
          exact B191 _ _ X eT NT pre197 (hB.trans (by simp [own_n12, own_in, hc192, hc195]))
    have B0 : ∀ (T : State) (locs : List Loc) (X : Stand p l e ({ frames := 0, cells := 0, slots := 0, locals := 0 } : Room) s m #[(.int p0)] below meth c T locs 0 0) (eT : T.heap = h0) (NT : Fr n0 locs) (pre : ∀ t, Steps p.tables e below (T.setTop (mkF m 0 #[.val (.int p0)] [])) t → Steps p.tables e below (s₁.setTop (entryFrame m #[(.int p0)] 1)) t) (hB : own_n0 p0 = own_n0 p0), G := by
      intro T locs X eT NT pre hB
      have pre198 : ∀ t, Steps p.tables e below (T.setTop (mkF m 3 #[.val (.int p0)] [(.int (97 : Int32)), (.int p0)])) t → Steps p.tables e below (s₁.setTop (entryFrame m #[(.int p0)] 1)) t := fun t k => by
        refine pre t ?_
        show Steps p.tables e below (T.setTop (mkF m 0 #[.val (.int p0)] [])) _
        refine XS.iloadN X.here hx rfl (hb hby d1_0) rfl ?_
        show Steps p.tables e below (T.setTop (mkF m 1 #[.val (.int p0)] [(.int p0)])) _
        refine XS.bipush X.here hx rfl (hb hby d1_1) ?_
        exact k
      by_cases hc199 : p0 < (97 : Int32)
      · have pre200 : ∀ t, Steps p.tables e below (T.setTop (mkF m 12 #[.val (.int p0)] [])) t → Steps p.tables e below (s₁.setTop (entryFrame m #[(.int p0)] 1)) t := fun t k => by
          refine pre198 t ?_
          show Steps p.tables e below (T.setTop (mkF m 3 #[.val (.int p0)] [(.int (97 : Int32)), (.int p0)])) _
          refine XS.icmpYes X.here hx rfl (pc0 := 3) (pc' := 12) rfl (hb hby d1_3) rfl (tlt hc199).1 (by decide) (by decide) ?_
          exact k
        exact B12 _ _ X eT NT pre200 (hB.trans (by simp [own_n0, own_in, hc199]))
      · have pre201 : ∀ t, Steps p.tables e below (T.setTop (mkF m 9 #[.val (.int p0)] [(.int (122 : Int32)), (.int p0)])) t → Steps p.tables e below (s₁.setTop (entryFrame m #[(.int p0)] 1)) t := fun t k => by
          refine pre198 t ?_
          show Steps p.tables e below (T.setTop (mkF m 3 #[.val (.int p0)] [(.int (97 : Int32)), (.int p0)])) _
          refine XS.icmpNo X.here hx rfl (hb hby d1_3) rfl (flt hc199).1 ?_
          show Steps p.tables e below (T.setTop (mkF m 6 #[.val (.int p0)] [])) _
          refine XS.iloadN X.here hx rfl (hb hby d1_6) rfl ?_
          show Steps p.tables e below (T.setTop (mkF m 7 #[.val (.int p0)] [(.int p0)])) _
          refine XS.bipush X.here hx rfl (hb hby d1_7) ?_
          exact k
        by_cases hc202 : (122 : Int32) < p0
        · have pre203 : ∀ t, Steps p.tables e below (T.setTop (mkF m 12 #[.val (.int p0)] [])) t → Steps p.tables e below (s₁.setTop (entryFrame m #[(.int p0)] 1)) t := fun t k => by
            refine pre201 t ?_
            show Steps p.tables e below (T.setTop (mkF m 9 #[.val (.int p0)] [(.int (122 : Int32)), (.int p0)])) _
            refine XS.icmpNo X.here hx rfl (hb hby d1_9) rfl (tlt hc202).2.2.2 ?_
            exact k
          exact B12 _ _ X eT NT pre203 (hB.trans (by simp [own_n0, own_in, hc199, hc202]))
        · have pre204 : ∀ t, Steps p.tables e below (T.setTop (mkF m 191 #[.val (.int p0)] [])) t → Steps p.tables e below (s₁.setTop (entryFrame m #[(.int p0)] 1)) t := fun t k => by
            refine pre201 t ?_
            show Steps p.tables e below (T.setTop (mkF m 9 #[.val (.int p0)] [(.int (122 : Int32)), (.int p0)])) _
            refine XS.icmpYes X.here hx rfl (pc0 := 9) (pc' := 191) rfl (hb hby d1_9) rfl (flt hc202).2.2.2 (by decide) (by decide) ?_
            exact k
          exact B191 _ _ X eT NT pre204 (hB.trans (by simp [own_n0, own_in, hc199, hc202]))
    exact B0 s₁ [] X0 e0 N0 pre0 rfl
  refine key _ (fun k T locs pc Ls X eT NT hd pre hk => ?_)
  obtain ⟨fs, hr, hrun, hended, hW, hsame⟩ := X.leave (v := some (.int (nar .boolean k))) (fun h => by rw [Bd.returns] at h; cases h)
  refine ⟨_, _, pre _ ?_, hrun, hended, _, _, rfl, ?_, ⟨_, rfl⟩, hW, hsame.mono (by decide) (by decide)⟩
  · exact retN X hx (t := .boolean) Bd.returns (by simp) hd hr
  · show Q1 Z p0 h0 n0 _ T.heap _
    rw [eT]
    exact ⟨by rw [hk], NT, rfl⟩
theorem own_nar {P : Prop} [Decidable P] : nar .boolean (if P then (1 : Int32) else 0) = (if P then (1 : Int32) else 0) := by split <;> rfl
def own_g156 (x : Int32) : Bool := own_in x (65534 : Int32) (65535 : Int32) || false
def own_g145 (x : Int32) : Bool := own_in x (64976 : Int32) (65007 : Int32) || own_g156 x
def own_g134 (x : Int32) : Bool := own_in x (55296 : Int32) (63743 : Int32) || own_g145 x
def own_g121 (x : Int32) : Bool := own_in x (12272 : Int32) (12288 : Int32) || own_g134 x
def own_g108 (x : Int32) : Bool := own_in x (8592 : Int32) (11263 : Int32) || own_g121 x
def own_g95 (x : Int32) : Bool := own_in x (8206 : Int32) (8303 : Int32) || own_g108 x
def own_g82 (x : Int32) : Bool := own_in x (8192 : Int32) (8203 : Int32) || own_g95 x
def own_g75 (x : Int32) : Bool := decide (x = (894 : Int32)) || own_g82 x
def own_g62 (x : Int32) : Bool := own_in x (768 : Int32) (879 : Int32) || own_g75 x
def own_g55 (x : Int32) : Bool := decide (x = (247 : Int32)) || own_g62 x
def own_g48 (x : Int32) : Bool := decide (x = (215 : Int32)) || own_g55 x
def own_low (x : Int32) : Bool := own_in (x ||| (32 : Int32)) (97 : Int32) (122 : Int32) || decide (x = (95 : Int32))
def own_ref (x : Int32) : Bool := if x < (0 : Int32) then false else if x < (192 : Int32) then own_low x else if (65535 : Int32) < x then !decide ((983039 : Int32) < x) else !own_g48 x
theorem d2_171 : decode method_3_code 171 = .ok (.iconst 0, 1) := by decide +kernel
theorem d2_172 : decode method_3_code 172 = .ok (.istore_n 1, 1) := by decide +kernel
theorem d2_173 : decode method_3_code 173 = .ok (.iload_n 1, 1) := by decide +kernel
theorem d2_174 : decode method_3_code 174 = .ok (.ifCond .ne 7, 3) := by decide +kernel
theorem d2_177 : decode method_3_code 177 = .ok (.iconst 1, 1) := by decide +kernel
theorem d2_178 : decode method_3_code 178 = .ok (.goto 4, 3) := by decide +kernel
theorem d2_182 : decode method_3_code 182 = .ok (.ireturn, 1) := by decide +kernel
theorem d2_167 : decode method_3_code 167 = .ok (.iconst 1, 1) := by decide +kernel
theorem d2_168 : decode method_3_code 168 = .ok (.goto 4, 3) := by decide +kernel
theorem d2_181 : decode method_3_code 181 = .ok (.iconst 0, 1) := by decide +kernel
theorem d2_193 : decode method_3_code 193 = .ok (.iconst 0, 1) := by decide +kernel
theorem d2_194 : decode method_3_code 194 = .ok (.ireturn, 1) := by decide +kernel
theorem d2_40 : decode method_3_code 40 = .ok (.iconst 0, 1) := by decide +kernel
theorem d2_41 : decode method_3_code 41 = .ok (.ireturn, 1) := by decide +kernel
theorem d2_36 : decode method_3_code 36 = .ok (.iconst 1, 1) := by decide +kernel
theorem d2_37 : decode method_3_code 37 = .ok (.goto 4, 3) := by decide +kernel
theorem d2_30 : decode method_3_code 30 = .ok (.iload_n 0, 1) := by decide +kernel
theorem d2_31 : decode method_3_code 31 = .ok (.bipush 95, 2) := by decide +kernel
theorem d2_33 : decode method_3_code 33 = .ok (.if_icmp .ne 7, 3) := by decide +kernel
theorem d2_156 : decode method_3_code 156 = .ok (.iload_n 0, 1) := by decide +kernel
theorem d2_157 : decode method_3_code 157 = .ok (.ldc 18, 2) := by decide +kernel
theorem d2_159 : decode method_3_code 159 = .ok (.ldc 7, 2) := by decide +kernel
theorem d2_161 : decode method_3_code 161 = .ok (.invokestatic 8, 3) := by decide +kernel
theorem pd_0 : parseMethodDescriptor "(III)Z" = some ⟨[.int, .int, .int], some .boolean⟩ := by decide +kernel
theorem d2_164 : decode method_3_code 164 = .ok (.ifCond .eq 7, 3) := by decide +kernel
theorem d2_145 : decode method_3_code 145 = .ok (.iload_n 0, 1) := by decide +kernel
theorem d2_146 : decode method_3_code 146 = .ok (.ldc 16, 2) := by decide +kernel
theorem d2_148 : decode method_3_code 148 = .ok (.ldc 17, 2) := by decide +kernel
theorem d2_150 : decode method_3_code 150 = .ok (.invokestatic 8, 3) := by decide +kernel
theorem d2_153 : decode method_3_code 153 = .ok (.ifCond .ne 14, 3) := by decide +kernel
theorem d2_134 : decode method_3_code 134 = .ok (.iload_n 0, 1) := by decide +kernel
theorem d2_135 : decode method_3_code 135 = .ok (.ldc 14, 2) := by decide +kernel
theorem d2_137 : decode method_3_code 137 = .ok (.ldc 15, 2) := by decide +kernel
theorem d2_139 : decode method_3_code 139 = .ok (.invokestatic 8, 3) := by decide +kernel
theorem d2_142 : decode method_3_code 142 = .ok (.ifCond .ne 25, 3) := by decide +kernel
theorem d2_121 : decode method_3_code 121 = .ok (.iload_n 0, 1) := by decide +kernel
theorem d2_122 : decode method_3_code 122 = .ok (.sipush 12272, 3) := by decide +kernel
theorem d2_125 : decode method_3_code 125 = .ok (.sipush 12288, 3) := by decide +kernel
theorem d2_128 : decode method_3_code 128 = .ok (.invokestatic 8, 3) := by decide +kernel
theorem d2_131 : decode method_3_code 131 = .ok (.ifCond .ne 36, 3) := by decide +kernel
theorem d2_108 : decode method_3_code 108 = .ok (.iload_n 0, 1) := by decide +kernel
theorem d2_109 : decode method_3_code 109 = .ok (.sipush 8592, 3) := by decide +kernel
theorem d2_112 : decode method_3_code 112 = .ok (.sipush 11263, 3) := by decide +kernel
theorem d2_115 : decode method_3_code 115 = .ok (.invokestatic 8, 3) := by decide +kernel
theorem d2_118 : decode method_3_code 118 = .ok (.ifCond .ne 49, 3) := by decide +kernel
theorem d2_95 : decode method_3_code 95 = .ok (.iload_n 0, 1) := by decide +kernel
theorem d2_96 : decode method_3_code 96 = .ok (.sipush 8206, 3) := by decide +kernel
theorem d2_99 : decode method_3_code 99 = .ok (.sipush 8303, 3) := by decide +kernel
theorem d2_102 : decode method_3_code 102 = .ok (.invokestatic 8, 3) := by decide +kernel
theorem d2_105 : decode method_3_code 105 = .ok (.ifCond .ne 62, 3) := by decide +kernel
theorem d2_82 : decode method_3_code 82 = .ok (.iload_n 0, 1) := by decide +kernel
theorem d2_83 : decode method_3_code 83 = .ok (.sipush 8192, 3) := by decide +kernel
theorem d2_86 : decode method_3_code 86 = .ok (.sipush 8203, 3) := by decide +kernel
theorem d2_89 : decode method_3_code 89 = .ok (.invokestatic 8, 3) := by decide +kernel
theorem d2_92 : decode method_3_code 92 = .ok (.ifCond .ne 75, 3) := by decide +kernel
theorem d2_75 : decode method_3_code 75 = .ok (.iload_n 0, 1) := by decide +kernel
theorem d2_76 : decode method_3_code 76 = .ok (.sipush 894, 3) := by decide +kernel
theorem d2_79 : decode method_3_code 79 = .ok (.if_icmp .eq 88, 3) := by decide +kernel
theorem d2_62 : decode method_3_code 62 = .ok (.iload_n 0, 1) := by decide +kernel
theorem d2_63 : decode method_3_code 63 = .ok (.sipush 768, 3) := by decide +kernel
theorem d2_66 : decode method_3_code 66 = .ok (.sipush 879, 3) := by decide +kernel
theorem d2_69 : decode method_3_code 69 = .ok (.invokestatic 8, 3) := by decide +kernel
theorem d2_72 : decode method_3_code 72 = .ok (.ifCond .ne 95, 3) := by decide +kernel
theorem d2_55 : decode method_3_code 55 = .ok (.iload_n 0, 1) := by decide +kernel
theorem d2_56 : decode method_3_code 56 = .ok (.sipush 247, 3) := by decide +kernel
theorem d2_59 : decode method_3_code 59 = .ok (.if_icmp .eq 108, 3) := by decide +kernel
theorem d2_48 : decode method_3_code 48 = .ok (.iload_n 0, 1) := by decide +kernel
theorem d2_49 : decode method_3_code 49 = .ok (.sipush 215, 3) := by decide +kernel
theorem d2_52 : decode method_3_code 52 = .ok (.if_icmp .eq 115, 3) := by decide +kernel
theorem d2_0 : decode method_3_code 0 = .ok (.iload_n 0, 1) := by decide +kernel
theorem d2_1 : decode method_3_code 1 = .ok (.ifCond .ge 5, 3) := by decide +kernel
theorem d2_4 : decode method_3_code 4 = .ok (.iconst 0, 1) := by decide +kernel
theorem d2_5 : decode method_3_code 5 = .ok (.ireturn, 1) := by decide +kernel
theorem d2_6 : decode method_3_code 6 = .ok (.iload_n 0, 1) := by decide +kernel
theorem d2_7 : decode method_3_code 7 = .ok (.sipush 192, 3) := by decide +kernel
theorem d2_10 : decode method_3_code 10 = .ok (.if_icmp .ge 32, 3) := by decide +kernel
theorem d2_13 : decode method_3_code 13 = .ok (.iload_n 0, 1) := by decide +kernel
theorem d2_14 : decode method_3_code 14 = .ok (.bipush 32, 2) := by decide +kernel
theorem d2_16 : decode method_3_code 16 = .ok (.ior, 1) := by decide +kernel
theorem d2_17 : decode method_3_code 17 = .ok (.istore_n 1, 1) := by decide +kernel
theorem d2_18 : decode method_3_code 18 = .ok (.iload_n 1, 1) := by decide +kernel
theorem d2_19 : decode method_3_code 19 = .ok (.bipush 97, 2) := by decide +kernel
theorem d2_21 : decode method_3_code 21 = .ok (.if_icmp .lt 9, 3) := by decide +kernel
theorem d2_24 : decode method_3_code 24 = .ok (.iload_n 1, 1) := by decide +kernel
theorem d2_25 : decode method_3_code 25 = .ok (.bipush 122, 2) := by decide +kernel
theorem d2_27 : decode method_3_code 27 = .ok (.if_icmp .le 9, 3) := by decide +kernel
theorem d2_42 : decode method_3_code 42 = .ok (.iload_n 0, 1) := by decide +kernel
theorem d2_43 : decode method_3_code 43 = .ok (.ldc 7, 2) := by decide +kernel
theorem d2_45 : decode method_3_code 45 = .ok (.if_icmp .gt 138, 3) := by decide +kernel
theorem d2_183 : decode method_3_code 183 = .ok (.iload_n 0, 1) := by decide +kernel
theorem d2_184 : decode method_3_code 184 = .ok (.ldc 19, 2) := by decide +kernel
theorem d2_186 : decode method_3_code 186 = .ok (.if_icmp .gt 7, 3) := by decide +kernel
theorem d2_189 : decode method_3_code 189 = .ok (.iconst 1, 1) := by decide +kernel
theorem d2_190 : decode method_3_code 190 = .ok (.goto 4, 3) := by decide +kernel
theorem ef_rm2 (m : MethodId) (x0 : Int32) : entryFrame m #[(.int x0)] 2 = mkF m 0 #[.val (.int x0), .unset] [] := by first | (simp [entryFrame, mkF, argsToLocals, Value.category]; done) | rfl
def Q2 (Z : State) (p0 : Int32) (h0 : Heap) (n0 : Nat) (v : Option Value) (h : Heap) (L : List Loc) : Prop := v = some (.int (nar .boolean (if own_ref p0 = true then (1 : Int32) else 0))) ∧ Fr n0 L ∧ h = h0
set_option maxRecDepth 65536 in
set_option maxHeartbeats 40000000 in
theorem rm2 (l : Launch) (Z : State) (aw : Array Value) (hw : ∀ d ∈ tables_1, d.before aw Z = true) (ws : List Jvm.Cond) (p0 : Int32) (h0 : Heap) (n0 : Nat) (Z0 : n0 ≤ h0.size) :
    MetFree l (⟨"com/example/compact_path/compactpath/reading/XmlNamesIsNameStartPinLaw", "reference", "(I)Z"⟩ : MethodName) (head1 (Jvm.Cond.code (⟨"com/example/compact_path/compactpath/reading/XmlNamesIsNameStartPinLaw", "reference", "(I)Z"⟩ : MethodName) method_3_code 2 (some .boolean) :: ws) ({ frames := 1, cells := 0, slots := 0, locals := 14 } : Room)) (fun a U => a = #[(.int p0)] ∧ Z.Warmed39 U.vm ∧ U.heap = h0) (fun _ _ _ _ _ => True) (fun _ U oc U' => ∃ v L, oc = .returned v ∧ Q2 Z p0 h0 n0 v U'.heap L ∧ FrameEnd U oc U' L ({ frames := 1, cells := 0, slots := 0, locals := 14 } : Room).cells ({ frames := 1, cells := 0, slots := 0, locals := 14 } : Room).slots) := by
  refine MetFree.of_bodySF (plainFor_of_name pn_0) hisR ?_
  intro p e s m args below meth c s₁ Bd hml0 hP hK
  obtain ⟨rfl, hZ, hh⟩ := hP
  have hx := Bd.exec
  have hby := Bd.bytes
  have hml : c.maxLocals = 2 := hml0
  have hown : s.vm.findClass "com/example/compact_path/compactpath/reading/XmlNamesIsNameStartPinLaw" = some m.cls := findClass_of_methodNamed Bd.named
  have hnm := (name_of_methodNamed Bd.named Bd.method).1
  have X0 : Stand p l e ({ frames := 1, cells := 0, slots := 0, locals := 14 } : Room) s m #[(.int p0)] below meth c s₁ [] 0 0 := Stand.of_body Bd
  have e0 : s₁.heap = h0 := by rw [← hh, Bd.state]; rfl
  have N0 := Fr.nil n0
  have pre0 : ∀ t, Steps p.tables e below (s₁.setTop (mkF m 0 #[.val (.int p0), .unset] [])) t → Steps p.tables e below (s₁.setTop (entryFrame m #[(.int p0)] 2)) t := fun t k => castTop (ef_rm2 m p0) k
  have key : ∀ G : Prop, (∀ (k : Int32) (T : State) (locs : List Loc) (pc : Nat) (Ls : Array Slot) (X : Stand p l e ({ frames := 1, cells := 0, slots := 0, locals := 14 } : Room) s m #[(.int p0)] below meth c T locs 0 0) (eT : T.heap = h0) (NT : Fr n0 locs) (hd : decode c.code pc = .ok (.ireturn, 1)) (pre : ∀ t, Steps p.tables e below (T.setTop (mkF m pc Ls [(.int k)])) t → Steps p.tables e below (s₁.setTop (entryFrame m #[(.int p0)] 2)) t) (hk : k = (if own_ref p0 = true then (1 : Int32) else 0)), G) → G := by
    intro G fin
    have B171 : ∀ (T : State) (locs : List Loc) (X : Stand p l e ({ frames := 1, cells := 0, slots := 0, locals := 14 } : Room) s m #[(.int p0)] below meth c T locs 0 0) (eT : T.heap = h0) (NT : Fr n0 locs) (pre : ∀ t, Steps p.tables e below (T.setTop (mkF m 171 #[.val (.int p0), .unset] [])) t → Steps p.tables e below (s₁.setTop (entryFrame m #[(.int p0)] 2)) t) (hB : own_ref p0 = true), G := by
      intro T locs X eT NT pre hB
      have pre101 : ∀ t, Steps p.tables e below (T.setTop (mkF m 182 #[.val (.int p0), .val (.int (0 : Int32))] [(.int (1 : Int32))])) t → Steps p.tables e below (s₁.setTop (entryFrame m #[(.int p0)] 2)) t := fun t k => by
        refine pre t ?_
        show Steps p.tables e below (T.setTop (mkF m 171 #[.val (.int p0), .unset] [])) _
        refine XS.iconst X.here hx rfl (hb hby d2_171) ?_
        show Steps p.tables e below (T.setTop (mkF m 172 #[.val (.int p0), .unset] [(.int (0 : Int32))])) _
        refine XS.istoreN X.here hx rfl (hb hby d2_172) rfl (l' := #[.val (.int p0), .val (.int (0 : Int32))]) rfl ?_
        show Steps p.tables e below (T.setTop (mkF m 173 #[.val (.int p0), .val (.int (0 : Int32))] [])) _
        refine XS.iloadN X.here hx rfl (hb hby d2_173) rfl ?_
        show Steps p.tables e below (T.setTop (mkF m 174 #[.val (.int p0), .val (.int (0 : Int32))] [(.int (0 : Int32))])) _
        refine XS.ifNo X.here hx rfl (hb hby d2_174) rfl ((if0 _ _).trans (teq (by decide : (0 : Int32) = (0 : Int32))).2) ?_
        show Steps p.tables e below (T.setTop (mkF m 177 #[.val (.int p0), .val (.int (0 : Int32))] [])) _
        refine XS.iconst X.here hx rfl (hb hby d2_177) ?_
        show Steps p.tables e below (T.setTop (mkF m 178 #[.val (.int p0), .val (.int (0 : Int32))] [(.int (1 : Int32))])) _
        refine XS.goto X.here hx rfl (pc0 := 178) (pc' := 182) rfl (hb hby d2_178) (by decide) (by decide) ?_
        exact k
      exact fin (1 : Int32) _ _ 182 _ X eT NT (hb hby d2_182) pre101 (by rw [hB]; rfl)
    have B167 : ∀ (T : State) (locs : List Loc) (X : Stand p l e ({ frames := 1, cells := 0, slots := 0, locals := 14 } : Room) s m #[(.int p0)] below meth c T locs 0 0) (eT : T.heap = h0) (NT : Fr n0 locs) (pre : ∀ t, Steps p.tables e below (T.setTop (mkF m 167 #[.val (.int p0), .unset] [])) t → Steps p.tables e below (s₁.setTop (entryFrame m #[(.int p0)] 2)) t) (hB : own_ref p0 = false), G := by
      intro T locs X eT NT pre hB
      have pre102 : ∀ t, Steps p.tables e below (T.setTop (mkF m 182 #[.val (.int p0), .val (.int (1 : Int32))] [(.int (0 : Int32))])) t → Steps p.tables e below (s₁.setTop (entryFrame m #[(.int p0)] 2)) t := fun t k => by
        refine pre t ?_
        show Steps p.tables e below (T.setTop (mkF m 167 #[.val (.int p0), .unset] [])) _
        refine XS.iconst X.here hx rfl (hb hby d2_167) ?_
        show Steps p.tables e below (T.setTop (mkF m 168 #[.val (.int p0), .unset] [(.int (1 : Int32))])) _
        refine XS.goto X.here hx rfl (pc0 := 168) (pc' := 172) rfl (hb hby d2_168) (by decide) (by decide) ?_
        show Steps p.tables e below (T.setTop (mkF m 172 #[.val (.int p0), .unset] [(.int (1 : Int32))])) _
        refine XS.istoreN X.here hx rfl (hb hby d2_172) rfl (l' := #[.val (.int p0), .val (.int (1 : Int32))]) rfl ?_
        show Steps p.tables e below (T.setTop (mkF m 173 #[.val (.int p0), .val (.int (1 : Int32))] [])) _
        refine XS.iloadN X.here hx rfl (hb hby d2_173) rfl ?_
        show Steps p.tables e below (T.setTop (mkF m 174 #[.val (.int p0), .val (.int (1 : Int32))] [(.int (1 : Int32))])) _
        refine XS.ifYes X.here hx rfl (pc0 := 174) (pc' := 181) rfl (hb hby d2_174) rfl ((if0 _ _).trans (feq (by decide : ¬ ((1 : Int32) = (0 : Int32)))).2) (by decide) (by decide) ?_
        show Steps p.tables e below (T.setTop (mkF m 181 #[.val (.int p0), .val (.int (1 : Int32))] [])) _
        refine XS.iconst X.here hx rfl (hb hby d2_181) ?_
        exact k
      exact fin (0 : Int32) _ _ 182 _ X eT NT (hb hby d2_182) pre102 (by rw [hB]; rfl)
    have B193 : ∀ (T : State) (locs : List Loc) (X : Stand p l e ({ frames := 1, cells := 0, slots := 0, locals := 14 } : Room) s m #[(.int p0)] below meth c T locs 0 0) (eT : T.heap = h0) (NT : Fr n0 locs) (pre : ∀ t, Steps p.tables e below (T.setTop (mkF m 193 #[.val (.int p0), .unset] [])) t → Steps p.tables e below (s₁.setTop (entryFrame m #[(.int p0)] 2)) t) (hB : own_ref p0 = false), G := by
      intro T locs X eT NT pre hB
      have pre103 : ∀ t, Steps p.tables e below (T.setTop (mkF m 194 #[.val (.int p0), .unset] [(.int (0 : Int32))])) t → Steps p.tables e below (s₁.setTop (entryFrame m #[(.int p0)] 2)) t := fun t k => by
        refine pre t ?_
        show Steps p.tables e below (T.setTop (mkF m 193 #[.val (.int p0), .unset] [])) _
        refine XS.iconst X.here hx rfl (hb hby d2_193) ?_
        exact k
      exact fin (0 : Int32) _ _ 194 _ X eT NT (hb hby d2_194) pre103 (by rw [hB]; rfl)
    have B40 : ∀ (T : State) (locs : List Loc) (X : Stand p l e ({ frames := 1, cells := 0, slots := 0, locals := 14 } : Room) s m #[(.int p0)] below meth c T locs 0 0) (eT : T.heap = h0) (NT : Fr n0 locs) (pre : ∀ t, Steps p.tables e below (T.setTop (mkF m 40 #[.val (.int p0), .val (.int (p0 ||| (32 : Int32)))] [])) t → Steps p.tables e below (s₁.setTop (entryFrame m #[(.int p0)] 2)) t) (hB : own_ref p0 = false), G := by
      intro T locs X eT NT pre hB
      have pre104 : ∀ t, Steps p.tables e below (T.setTop (mkF m 41 #[.val (.int p0), .val (.int (p0 ||| (32 : Int32)))] [(.int (0 : Int32))])) t → Steps p.tables e below (s₁.setTop (entryFrame m #[(.int p0)] 2)) t := fun t k => by
        refine pre t ?_
        show Steps p.tables e below (T.setTop (mkF m 40 #[.val (.int p0), .val (.int (p0 ||| (32 : Int32)))] [])) _
        refine XS.iconst X.here hx rfl (hb hby d2_40) ?_
        exact k
      exact fin (0 : Int32) _ _ 41 _ X eT NT (hb hby d2_41) pre104 (by rw [hB]; rfl)
    have B36 : ∀ (T : State) (locs : List Loc) (X : Stand p l e ({ frames := 1, cells := 0, slots := 0, locals := 14 } : Room) s m #[(.int p0)] below meth c T locs 0 0) (eT : T.heap = h0) (NT : Fr n0 locs) (pre : ∀ t, Steps p.tables e below (T.setTop (mkF m 36 #[.val (.int p0), .val (.int (p0 ||| (32 : Int32)))] [])) t → Steps p.tables e below (s₁.setTop (entryFrame m #[(.int p0)] 2)) t) (hB : own_ref p0 = true), G := by
      intro T locs X eT NT pre hB
      have pre105 : ∀ t, Steps p.tables e below (T.setTop (mkF m 41 #[.val (.int p0), .val (.int (p0 ||| (32 : Int32)))] [(.int (1 : Int32))])) t → Steps p.tables e below (s₁.setTop (entryFrame m #[(.int p0)] 2)) t := fun t k => by
        refine pre t ?_
        show Steps p.tables e below (T.setTop (mkF m 36 #[.val (.int p0), .val (.int (p0 ||| (32 : Int32)))] [])) _
        refine XS.iconst X.here hx rfl (hb hby d2_36) ?_
        show Steps p.tables e below (T.setTop (mkF m 37 #[.val (.int p0), .val (.int (p0 ||| (32 : Int32)))] [(.int (1 : Int32))])) _
        refine XS.goto X.here hx rfl (pc0 := 37) (pc' := 41) rfl (hb hby d2_37) (by decide) (by decide) ?_
        exact k
      exact fin (1 : Int32) _ _ 41 _ X eT NT (hb hby d2_41) pre105 (by rw [hB]; rfl)
    have B30 : ∀ (T : State) (locs : List Loc) (X : Stand p l e ({ frames := 1, cells := 0, slots := 0, locals := 14 } : Room) s m #[(.int p0)] below meth c T locs 0 0) (eT : T.heap = h0) (NT : Fr n0 locs) (pre : ∀ t, Steps p.tables e below (T.setTop (mkF m 30 #[.val (.int p0), .val (.int (p0 ||| (32 : Int32)))] [])) t → Steps p.tables e below (s₁.setTop (entryFrame m #[(.int p0)] 2)) t) (hB : own_ref p0 = decide (p0 = (95 : Int32))), G := by
      intro T locs X eT NT pre hB
      have pre106 : ∀ t, Steps p.tables e below (T.setTop (mkF m 33 #[.val (.int p0), .val (.int (p0 ||| (32 : Int32)))] [(.int (95 : Int32)), (.int p0)])) t → Steps p.tables e below (s₁.setTop (entryFrame m #[(.int p0)] 2)) t := fun t k => by
        refine pre t ?_
        show Steps p.tables e below (T.setTop (mkF m 30 #[.val (.int p0), .val (.int (p0 ||| (32 : Int32)))] [])) _
        refine XS.iloadN X.here hx rfl (hb hby d2_30) rfl ?_
        show Steps p.tables e below (T.setTop (mkF m 31 #[.val (.int p0), .val (.int (p0 ||| (32 : Int32)))] [(.int p0)])) _
        refine XS.bipush X.here hx rfl (hb hby d2_31) ?_
        exact k
      by_cases hc107 : p0 = (95 : Int32)
      · have pre108 : ∀ t, Steps p.tables e below (T.setTop (mkF m 36 #[.val (.int p0), .val (.int (p0 ||| (32 : Int32)))] [])) t → Steps p.tables e below (s₁.setTop (entryFrame m #[(.int p0)] 2)) t := fun t k => by
          refine pre106 t ?_
          show Steps p.tables e below (T.setTop (mkF m 33 #[.val (.int p0), .val (.int (p0 ||| (32 : Int32)))] [(.int (95 : Int32)), (.int p0)])) _
          refine XS.icmpNo X.here hx rfl (hb hby d2_33) rfl (teq hc107).2 ?_
          exact k
        exact B36 _ _ X eT NT pre108 (hB.trans (by simp [own_low, own_in, hc107]))
      · have pre109 : ∀ t, Steps p.tables e below (T.setTop (mkF m 40 #[.val (.int p0), .val (.int (p0 ||| (32 : Int32)))] [])) t → Steps p.tables e below (s₁.setTop (entryFrame m #[(.int p0)] 2)) t := fun t k => by
          refine pre106 t ?_
          show Steps p.tables e below (T.setTop (mkF m 33 #[.val (.int p0), .val (.int (p0 ||| (32 : Int32)))] [(.int (95 : Int32)), (.int p0)])) _
          refine XS.icmpYes X.here hx rfl (pc0 := 33) (pc' := 40) rfl (hb hby d2_33) rfl (feq hc107).2 (by decide) (by decide) ?_
          exact k
        exact B40 _ _ X eT NT pre109 (hB.trans (by simp [own_low, own_in, hc107]))
    have B156 : ∀ (T : State) (locs : List Loc) (X : Stand p l e ({ frames := 1, cells := 0, slots := 0, locals := 14 } : Room) s m #[(.int p0)] below meth c T locs 0 0) (eT : T.heap = h0) (NT : Fr n0 locs) (pre : ∀ t, Steps p.tables e below (T.setTop (mkF m 156 #[.val (.int p0), .unset] [])) t → Steps p.tables e below (s₁.setTop (entryFrame m #[(.int p0)] 2)) t) (hB : own_ref p0 = !own_g156 p0), G := by
      intro T locs X eT NT pre hB
      obtain ⟨_, _, ⟨T110, L110, k110, n110⟩, -, X110, ⟨Lc110, hQ110, l110, y110, z110⟩, st110⟩ := Jvm.LawKit.callS X hx (y := (⟨"com/example/compact_path/compactpath/reading/XmlNamesIsNameStartPinLaw", "inRange", "(III)Z"⟩ : MethodName)) hown (mvT hZ (hw _ (List.mem_of_getElem? (i := 21) rfl))) (mvT hZ (hw _ (List.mem_of_getElem? (i := 22) rfl))) (mvT hZ (hw _ (List.mem_of_getElem? (i := 18) rfl))) (mvT hZ (hw _ (List.mem_of_getElem? (i := 23) rfl))) (by decide) (backOf (W := 0) (rm3 l Z aw hw [] p0 (65534 : Int32) (65535 : Int32) h0 n0 Z0 ) hZ (hw _ (List.mem_of_getElem? (i := 23) rfl)) (hw _ (List.mem_of_getElem? (i := 18) rfl)) (by decide) (by decide)) (g := (mkF m 161 #[.val (.int p0), .unset] [(.int (65535 : Int32)), (.int (65534 : Int32)), (.int p0)])) rfl (by rw [hml]; rfl) (argsL := [(.int p0), (.int (65534 : Int32)), (.int (65535 : Int32))]) (rest := []) (lenOf pd_0 rfl) rfl (by show 2 * 0 + _ ≤ _; exact Nat.le_of_eq rfl) (hb hby d2_161) (fun _ _ => ⟨rfl, eT, (by decide : 0 + 0 ≤ _), (by decide : 0 + 0 ≤ _)⟩)
      dsimp only [Pt.U, Pt.locs, Pt.cells, Pt.slots] at X110 l110 y110 z110 st110 hQ110
      rw [l110, y110, z110] at X110
      obtain ⟨rfl, N110q, e110⟩ := hQ110
      have N110 := Fr.app NT N110q
      have pre111 : ∀ t, Steps p.tables e below (T110.setTop (mkF m 164 #[.val (.int p0), .unset] [(.int (if own_in p0 (65534 : Int32) (65535 : Int32) = true then (1 : Int32) else 0))])) t → Steps p.tables e below (s₁.setTop (entryFrame m #[(.int p0)] 2)) t := fun t k => by
        refine pre t ?_
        show Steps p.tables e below (T.setTop (mkF m 156 #[.val (.int p0), .unset] [])) _
        refine XS.iloadN X.here hx rfl (hb hby d2_156) rfl ?_
        show Steps p.tables e below (T.setTop (mkF m 157 #[.val (.int p0), .unset] [(.int p0)])) _
        refine X.ldcInt hx hown (mvT hZ (hw _ (List.mem_of_getElem? (i := 28) rfl))) (g := (mkF m 157 #[.val (.int p0), .unset] [(.int p0)])) rfl (hb hby d2_157) _ ?_
        show Steps p.tables e below (T.setTop (mkF m 159 #[.val (.int p0), .unset] [(.int (65534 : Int32)), (.int p0)])) _
        refine X.ldcInt hx hown (mvT hZ (hw _ (List.mem_of_getElem? (i := 20) rfl))) (g := (mkF m 159 #[.val (.int p0), .unset] [(.int (65534 : Int32)), (.int p0)])) rfl (hb hby d2_159) _ ?_
        show Steps p.tables e below (T.setTop (mkF m 161 #[.val (.int p0), .unset] [(.int (65535 : Int32)), (.int (65534 : Int32)), (.int p0)])) _
        refine st110 _ ?_
        exact k
      by_cases hc112 : own_in p0 (65534 : Int32) (65535 : Int32) = true
      · have pre113 : ∀ t, Steps p.tables e below (T110.setTop (mkF m 167 #[.val (.int p0), .unset] [])) t → Steps p.tables e below (s₁.setTop (entryFrame m #[(.int p0)] 2)) t := fun t k => by
          refine pre111 t ?_
          show Steps p.tables e below (T110.setTop (mkF m 164 #[.val (.int p0), .unset] [(.int (if own_in p0 (65534 : Int32) (65535 : Int32) = true then (1 : Int32) else 0))])) _
          refine XS.ifNo X110.here hx rfl (hb hby d2_164) rfl ((if0 _ _).trans (own_ifz_eqT hc112)) ?_
          exact k
        exact B167 _ _ X110 e110 N110 pre113 (hB.trans (by simp [own_g156, hc112]))
      · have pre114 : ∀ t, Steps p.tables e below (T110.setTop (mkF m 171 #[.val (.int p0), .unset] [])) t → Steps p.tables e below (s₁.setTop (entryFrame m #[(.int p0)] 2)) t := fun t k => by
          refine pre111 t ?_
          show Steps p.tables e below (T110.setTop (mkF m 164 #[.val (.int p0), .unset] [(.int (if own_in p0 (65534 : Int32) (65535 : Int32) = true then (1 : Int32) else 0))])) _
          refine XS.ifYes X110.here hx rfl (pc0 := 164) (pc' := 171) rfl (hb hby d2_164) rfl ((if0 _ _).trans (own_ifz_eqF hc112)) (by decide) (by decide) ?_
          exact k
        exact B171 _ _ X110 e110 N110 pre114 (hB.trans (by simp [own_g156, hc112]))
    have B145 : ∀ (T : State) (locs : List Loc) (X : Stand p l e ({ frames := 1, cells := 0, slots := 0, locals := 14 } : Room) s m #[(.int p0)] below meth c T locs 0 0) (eT : T.heap = h0) (NT : Fr n0 locs) (pre : ∀ t, Steps p.tables e below (T.setTop (mkF m 145 #[.val (.int p0), .unset] [])) t → Steps p.tables e below (s₁.setTop (entryFrame m #[(.int p0)] 2)) t) (hB : own_ref p0 = !own_g145 p0), G := by
      intro T locs X eT NT pre hB
      obtain ⟨_, _, ⟨T115, L115, k115, n115⟩, -, X115, ⟨Lc115, hQ115, l115, y115, z115⟩, st115⟩ := Jvm.LawKit.callS X hx (y := (⟨"com/example/compact_path/compactpath/reading/XmlNamesIsNameStartPinLaw", "inRange", "(III)Z"⟩ : MethodName)) hown (mvT hZ (hw _ (List.mem_of_getElem? (i := 21) rfl))) (mvT hZ (hw _ (List.mem_of_getElem? (i := 22) rfl))) (mvT hZ (hw _ (List.mem_of_getElem? (i := 18) rfl))) (mvT hZ (hw _ (List.mem_of_getElem? (i := 23) rfl))) (by decide) (backOf (W := 0) (rm3 l Z aw hw [] p0 (64976 : Int32) (65007 : Int32) h0 n0 Z0 ) hZ (hw _ (List.mem_of_getElem? (i := 23) rfl)) (hw _ (List.mem_of_getElem? (i := 18) rfl)) (by decide) (by decide)) (g := (mkF m 150 #[.val (.int p0), .unset] [(.int (65007 : Int32)), (.int (64976 : Int32)), (.int p0)])) rfl (by rw [hml]; rfl) (argsL := [(.int p0), (.int (64976 : Int32)), (.int (65007 : Int32))]) (rest := []) (lenOf pd_0 rfl) rfl (by show 2 * 0 + _ ≤ _; exact Nat.le_of_eq rfl) (hb hby d2_150) (fun _ _ => ⟨rfl, eT, (by decide : 0 + 0 ≤ _), (by decide : 0 + 0 ≤ _)⟩)
      dsimp only [Pt.U, Pt.locs, Pt.cells, Pt.slots] at X115 l115 y115 z115 st115 hQ115
      rw [l115, y115, z115] at X115
      obtain ⟨rfl, N115q, e115⟩ := hQ115
      have N115 := Fr.app NT N115q
      have pre116 : ∀ t, Steps p.tables e below (T115.setTop (mkF m 153 #[.val (.int p0), .unset] [(.int (if own_in p0 (64976 : Int32) (65007 : Int32) = true then (1 : Int32) else 0))])) t → Steps p.tables e below (s₁.setTop (entryFrame m #[(.int p0)] 2)) t := fun t k => by
        refine pre t ?_
        show Steps p.tables e below (T.setTop (mkF m 145 #[.val (.int p0), .unset] [])) _
        refine XS.iloadN X.here hx rfl (hb hby d2_145) rfl ?_
        show Steps p.tables e below (T.setTop (mkF m 146 #[.val (.int p0), .unset] [(.int p0)])) _
        refine X.ldcInt hx hown (mvT hZ (hw _ (List.mem_of_getElem? (i := 26) rfl))) (g := (mkF m 146 #[.val (.int p0), .unset] [(.int p0)])) rfl (hb hby d2_146) _ ?_
        show Steps p.tables e below (T.setTop (mkF m 148 #[.val (.int p0), .unset] [(.int (64976 : Int32)), (.int p0)])) _
        refine X.ldcInt hx hown (mvT hZ (hw _ (List.mem_of_getElem? (i := 27) rfl))) (g := (mkF m 148 #[.val (.int p0), .unset] [(.int (64976 : Int32)), (.int p0)])) rfl (hb hby d2_148) _ ?_
        show Steps p.tables e below (T.setTop (mkF m 150 #[.val (.int p0), .unset] [(.int (65007 : Int32)), (.int (64976 : Int32)), (.int p0)])) _
        refine st115 _ ?_
        exact k
      by_cases hc117 : own_in p0 (64976 : Int32) (65007 : Int32) = true
      · have pre118 : ∀ t, Steps p.tables e below (T115.setTop (mkF m 167 #[.val (.int p0), .unset] [])) t → Steps p.tables e below (s₁.setTop (entryFrame m #[(.int p0)] 2)) t := fun t k => by
          refine pre116 t ?_
          show Steps p.tables e below (T115.setTop (mkF m 153 #[.val (.int p0), .unset] [(.int (if own_in p0 (64976 : Int32) (65007 : Int32) = true then (1 : Int32) else 0))])) _
          refine XS.ifYes X115.here hx rfl (pc0 := 153) (pc' := 167) rfl (hb hby d2_153) rfl ((if0 _ _).trans (own_ifz_neT hc117)) (by decide) (by decide) ?_
          exact k
        exact B167 _ _ X115 e115 N115 pre118 (hB.trans (by simp [own_g145, hc117]))
      · have pre119 : ∀ t, Steps p.tables e below (T115.setTop (mkF m 156 #[.val (.int p0), .unset] [])) t → Steps p.tables e below (s₁.setTop (entryFrame m #[(.int p0)] 2)) t := fun t k => by
          refine pre116 t ?_
          show Steps p.tables e below (T115.setTop (mkF m 153 #[.val (.int p0), .unset] [(.int (if own_in p0 (64976 : Int32) (65007 : Int32) = true then (1 : Int32) else 0))])) _
          refine XS.ifNo X115.here hx rfl (hb hby d2_153) rfl ((if0 _ _).trans (own_ifz_neF hc117)) ?_
          exact k
        exact B156 _ _ X115 e115 N115 pre119 (hB.trans (by simp [own_g145, hc117]))
    have B134 : ∀ (T : State) (locs : List Loc) (X : Stand p l e ({ frames := 1, cells := 0, slots := 0, locals := 14 } : Room) s m #[(.int p0)] below meth c T locs 0 0) (eT : T.heap = h0) (NT : Fr n0 locs) (pre : ∀ t, Steps p.tables e below (T.setTop (mkF m 134 #[.val (.int p0), .unset] [])) t → Steps p.tables e below (s₁.setTop (entryFrame m #[(.int p0)] 2)) t) (hB : own_ref p0 = !own_g134 p0), G := by
      intro T locs X eT NT pre hB
      obtain ⟨_, _, ⟨T120, L120, k120, n120⟩, -, X120, ⟨Lc120, hQ120, l120, y120, z120⟩, st120⟩ := Jvm.LawKit.callS X hx (y := (⟨"com/example/compact_path/compactpath/reading/XmlNamesIsNameStartPinLaw", "inRange", "(III)Z"⟩ : MethodName)) hown (mvT hZ (hw _ (List.mem_of_getElem? (i := 21) rfl))) (mvT hZ (hw _ (List.mem_of_getElem? (i := 22) rfl))) (mvT hZ (hw _ (List.mem_of_getElem? (i := 18) rfl))) (mvT hZ (hw _ (List.mem_of_getElem? (i := 23) rfl))) (by decide) (backOf (W := 0) (rm3 l Z aw hw [] p0 (55296 : Int32) (63743 : Int32) h0 n0 Z0 ) hZ (hw _ (List.mem_of_getElem? (i := 23) rfl)) (hw _ (List.mem_of_getElem? (i := 18) rfl)) (by decide) (by decide)) (g := (mkF m 139 #[.val (.int p0), .unset] [(.int (63743 : Int32)), (.int (55296 : Int32)), (.int p0)])) rfl (by rw [hml]; rfl) (argsL := [(.int p0), (.int (55296 : Int32)), (.int (63743 : Int32))]) (rest := []) (lenOf pd_0 rfl) rfl (by show 2 * 0 + _ ≤ _; exact Nat.le_of_eq rfl) (hb hby d2_139) (fun _ _ => ⟨rfl, eT, (by decide : 0 + 0 ≤ _), (by decide : 0 + 0 ≤ _)⟩)
      dsimp only [Pt.U, Pt.locs, Pt.cells, Pt.slots] at X120 l120 y120 z120 st120 hQ120
      rw [l120, y120, z120] at X120
      obtain ⟨rfl, N120q, e120⟩ := hQ120
      have N120 := Fr.app NT N120q
      have pre121 : ∀ t, Steps p.tables e below (T120.setTop (mkF m 142 #[.val (.int p0), .unset] [(.int (if own_in p0 (55296 : Int32) (63743 : Int32) = true then (1 : Int32) else 0))])) t → Steps p.tables e below (s₁.setTop (entryFrame m #[(.int p0)] 2)) t := fun t k => by
        refine pre t ?_
        show Steps p.tables e below (T.setTop (mkF m 134 #[.val (.int p0), .unset] [])) _
        refine XS.iloadN X.here hx rfl (hb hby d2_134) rfl ?_
        show Steps p.tables e below (T.setTop (mkF m 135 #[.val (.int p0), .unset] [(.int p0)])) _
        refine X.ldcInt hx hown (mvT hZ (hw _ (List.mem_of_getElem? (i := 24) rfl))) (g := (mkF m 135 #[.val (.int p0), .unset] [(.int p0)])) rfl (hb hby d2_135) _ ?_
        show Steps p.tables e below (T.setTop (mkF m 137 #[.val (.int p0), .unset] [(.int (55296 : Int32)), (.int p0)])) _
        refine X.ldcInt hx hown (mvT hZ (hw _ (List.mem_of_getElem? (i := 25) rfl))) (g := (mkF m 137 #[.val (.int p0), .unset] [(.int (55296 : Int32)), (.int p0)])) rfl (hb hby d2_137) _ ?_
        show Steps p.tables e below (T.setTop (mkF m 139 #[.val (.int p0), .unset] [(.int (63743 : Int32)), (.int (55296 : Int32)), (.int p0)])) _
        refine st120 _ ?_
        exact k
      by_cases hc122 : own_in p0 (55296 : Int32) (63743 : Int32) = true
      · have pre123 : ∀ t, Steps p.tables e below (T120.setTop (mkF m 167 #[.val (.int p0), .unset] [])) t → Steps p.tables e below (s₁.setTop (entryFrame m #[(.int p0)] 2)) t := fun t k => by
          refine pre121 t ?_
          show Steps p.tables e below (T120.setTop (mkF m 142 #[.val (.int p0), .unset] [(.int (if own_in p0 (55296 : Int32) (63743 : Int32) = true then (1 : Int32) else 0))])) _
          refine XS.ifYes X120.here hx rfl (pc0 := 142) (pc' := 167) rfl (hb hby d2_142) rfl ((if0 _ _).trans (own_ifz_neT hc122)) (by decide) (by decide) ?_
          exact k
        exact B167 _ _ X120 e120 N120 pre123 (hB.trans (by simp [own_g134, hc122]))
      · have pre124 : ∀ t, Steps p.tables e below (T120.setTop (mkF m 145 #[.val (.int p0), .unset] [])) t → Steps p.tables e below (s₁.setTop (entryFrame m #[(.int p0)] 2)) t := fun t k => by
          refine pre121 t ?_
          show Steps p.tables e below (T120.setTop (mkF m 142 #[.val (.int p0), .unset] [(.int (if own_in p0 (55296 : Int32) (63743 : Int32) = true then (1 : Int32) else 0))])) _
          refine XS.ifNo X120.here hx rfl (hb hby d2_142) rfl ((if0 _ _).trans (own_ifz_neF hc122)) ?_
          exact k
        exact B145 _ _ X120 e120 N120 pre124 (hB.trans (by simp [own_g134, hc122]))
    have B121 : ∀ (T : State) (locs : List Loc) (X : Stand p l e ({ frames := 1, cells := 0, slots := 0, locals := 14 } : Room) s m #[(.int p0)] below meth c T locs 0 0) (eT : T.heap = h0) (NT : Fr n0 locs) (pre : ∀ t, Steps p.tables e below (T.setTop (mkF m 121 #[.val (.int p0), .unset] [])) t → Steps p.tables e below (s₁.setTop (entryFrame m #[(.int p0)] 2)) t) (hB : own_ref p0 = !own_g121 p0), G := by
      intro T locs X eT NT pre hB
      obtain ⟨_, _, ⟨T125, L125, k125, n125⟩, -, X125, ⟨Lc125, hQ125, l125, y125, z125⟩, st125⟩ := Jvm.LawKit.callS X hx (y := (⟨"com/example/compact_path/compactpath/reading/XmlNamesIsNameStartPinLaw", "inRange", "(III)Z"⟩ : MethodName)) hown (mvT hZ (hw _ (List.mem_of_getElem? (i := 21) rfl))) (mvT hZ (hw _ (List.mem_of_getElem? (i := 22) rfl))) (mvT hZ (hw _ (List.mem_of_getElem? (i := 18) rfl))) (mvT hZ (hw _ (List.mem_of_getElem? (i := 23) rfl))) (by decide) (backOf (W := 0) (rm3 l Z aw hw [] p0 (12272 : Int32) (12288 : Int32) h0 n0 Z0 ) hZ (hw _ (List.mem_of_getElem? (i := 23) rfl)) (hw _ (List.mem_of_getElem? (i := 18) rfl)) (by decide) (by decide)) (g := (mkF m 128 #[.val (.int p0), .unset] [(.int (12288 : Int32)), (.int (12272 : Int32)), (.int p0)])) rfl (by rw [hml]; rfl) (argsL := [(.int p0), (.int (12272 : Int32)), (.int (12288 : Int32))]) (rest := []) (lenOf pd_0 rfl) rfl (by show 2 * 0 + _ ≤ _; exact Nat.le_of_eq rfl) (hb hby d2_128) (fun _ _ => ⟨rfl, eT, (by decide : 0 + 0 ≤ _), (by decide : 0 + 0 ≤ _)⟩)
      dsimp only [Pt.U, Pt.locs, Pt.cells, Pt.slots] at X125 l125 y125 z125 st125 hQ125
      rw [l125, y125, z125] at X125
      obtain ⟨rfl, N125q, e125⟩ := hQ125
      have N125 := Fr.app NT N125q
      have pre126 : ∀ t, Steps p.tables e below (T125.setTop (mkF m 131 #[.val (.int p0), .unset] [(.int (if own_in p0 (12272 : Int32) (12288 : Int32) = true then (1 : Int32) else 0))])) t → Steps p.tables e below (s₁.setTop (entryFrame m #[(.int p0)] 2)) t := fun t k => by
        refine pre t ?_
        show Steps p.tables e below (T.setTop (mkF m 121 #[.val (.int p0), .unset] [])) _
        refine XS.iloadN X.here hx rfl (hb hby d2_121) rfl ?_
        show Steps p.tables e below (T.setTop (mkF m 122 #[.val (.int p0), .unset] [(.int p0)])) _
        refine XS.sipush X.here hx rfl (hb hby d2_122) ?_
        show Steps p.tables e below (T.setTop (mkF m 125 #[.val (.int p0), .unset] [(.int (12272 : Int32)), (.int p0)])) _
        refine XS.sipush X.here hx rfl (hb hby d2_125) ?_
        show Steps p.tables e below (T.setTop (mkF m 128 #[.val (.int p0), .unset] [(.int (12288 : Int32)), (.int (12272 : Int32)), (.int p0)])) _
        refine st125 _ ?_
        exact k
      by_cases hc127 : own_in p0 (12272 : Int32) (12288 : Int32) = true
      · have pre128 : ∀ t, Steps p.tables e below (T125.setTop (mkF m 167 #[.val (.int p0), .unset] [])) t → Steps p.tables e below (s₁.setTop (entryFrame m #[(.int p0)] 2)) t := fun t k => by
          refine pre126 t ?_
          show Steps p.tables e below (T125.setTop (mkF m 131 #[.val (.int p0), .unset] [(.int (if own_in p0 (12272 : Int32) (12288 : Int32) = true then (1 : Int32) else 0))])) _
          refine XS.ifYes X125.here hx rfl (pc0 := 131) (pc' := 167) rfl (hb hby d2_131) rfl ((if0 _ _).trans (own_ifz_neT hc127)) (by decide) (by decide) ?_
          exact k
        exact B167 _ _ X125 e125 N125 pre128 (hB.trans (by simp [own_g121, hc127]))
      · have pre129 : ∀ t, Steps p.tables e below (T125.setTop (mkF m 134 #[.val (.int p0), .unset] [])) t → Steps p.tables e below (s₁.setTop (entryFrame m #[(.int p0)] 2)) t := fun t k => by
          refine pre126 t ?_
          show Steps p.tables e below (T125.setTop (mkF m 131 #[.val (.int p0), .unset] [(.int (if own_in p0 (12272 : Int32) (12288 : Int32) = true then (1 : Int32) else 0))])) _
          refine XS.ifNo X125.here hx rfl (hb hby d2_131) rfl ((if0 _ _).trans (own_ifz_neF hc127)) ?_
          exact k
        exact B134 _ _ X125 e125 N125 pre129 (hB.trans (by simp [own_g121, hc127]))
    have B108 : ∀ (T : State) (locs : List Loc) (X : Stand p l e ({ frames := 1, cells := 0, slots := 0, locals := 14 } : Room) s m #[(.int p0)] below meth c T locs 0 0) (eT : T.heap = h0) (NT : Fr n0 locs) (pre : ∀ t, Steps p.tables e below (T.setTop (mkF m 108 #[.val (.int p0), .unset] [])) t → Steps p.tables e below (s₁.setTop (entryFrame m #[(.int p0)] 2)) t) (hB : own_ref p0 = !own_g108 p0), G := by
      intro T locs X eT NT pre hB
      obtain ⟨_, _, ⟨T130, L130, k130, n130⟩, -, X130, ⟨Lc130, hQ130, l130, y130, z130⟩, st130⟩ := Jvm.LawKit.callS X hx (y := (⟨"com/example/compact_path/compactpath/reading/XmlNamesIsNameStartPinLaw", "inRange", "(III)Z"⟩ : MethodName)) hown (mvT hZ (hw _ (List.mem_of_getElem? (i := 21) rfl))) (mvT hZ (hw _ (List.mem_of_getElem? (i := 22) rfl))) (mvT hZ (hw _ (List.mem_of_getElem? (i := 18) rfl))) (mvT hZ (hw _ (List.mem_of_getElem? (i := 23) rfl))) (by decide) (backOf (W := 0) (rm3 l Z aw hw [] p0 (8592 : Int32) (11263 : Int32) h0 n0 Z0 ) hZ (hw _ (List.mem_of_getElem? (i := 23) rfl)) (hw _ (List.mem_of_getElem? (i := 18) rfl)) (by decide) (by decide)) (g := (mkF m 115 #[.val (.int p0), .unset] [(.int (11263 : Int32)), (.int (8592 : Int32)), (.int p0)])) rfl (by rw [hml]; rfl) (argsL := [(.int p0), (.int (8592 : Int32)), (.int (11263 : Int32))]) (rest := []) (lenOf pd_0 rfl) rfl (by show 2 * 0 + _ ≤ _; exact Nat.le_of_eq rfl) (hb hby d2_115) (fun _ _ => ⟨rfl, eT, (by decide : 0 + 0 ≤ _), (by decide : 0 + 0 ≤ _)⟩)
      dsimp only [Pt.U, Pt.locs, Pt.cells, Pt.slots] at X130 l130 y130 z130 st130 hQ130
      rw [l130, y130, z130] at X130
      obtain ⟨rfl, N130q, e130⟩ := hQ130
      have N130 := Fr.app NT N130q
      have pre131 : ∀ t, Steps p.tables e below (T130.setTop (mkF m 118 #[.val (.int p0), .unset] [(.int (if own_in p0 (8592 : Int32) (11263 : Int32) = true then (1 : Int32) else 0))])) t → Steps p.tables e below (s₁.setTop (entryFrame m #[(.int p0)] 2)) t := fun t k => by
        refine pre t ?_
        show Steps p.tables e below (T.setTop (mkF m 108 #[.val (.int p0), .unset] [])) _
        refine XS.iloadN X.here hx rfl (hb hby d2_108) rfl ?_
        show Steps p.tables e below (T.setTop (mkF m 109 #[.val (.int p0), .unset] [(.int p0)])) _
        refine XS.sipush X.here hx rfl (hb hby d2_109) ?_
        show Steps p.tables e below (T.setTop (mkF m 112 #[.val (.int p0), .unset] [(.int (8592 : Int32)), (.int p0)])) _
        refine XS.sipush X.here hx rfl (hb hby d2_112) ?_
        show Steps p.tables e below (T.setTop (mkF m 115 #[.val (.int p0), .unset] [(.int (11263 : Int32)), (.int (8592 : Int32)), (.int p0)])) _
        refine st130 _ ?_
        exact k
      by_cases hc132 : own_in p0 (8592 : Int32) (11263 : Int32) = true
      · have pre133 : ∀ t, Steps p.tables e below (T130.setTop (mkF m 167 #[.val (.int p0), .unset] [])) t → Steps p.tables e below (s₁.setTop (entryFrame m #[(.int p0)] 2)) t := fun t k => by
          refine pre131 t ?_
          show Steps p.tables e below (T130.setTop (mkF m 118 #[.val (.int p0), .unset] [(.int (if own_in p0 (8592 : Int32) (11263 : Int32) = true then (1 : Int32) else 0))])) _
          refine XS.ifYes X130.here hx rfl (pc0 := 118) (pc' := 167) rfl (hb hby d2_118) rfl ((if0 _ _).trans (own_ifz_neT hc132)) (by decide) (by decide) ?_
          exact k
        exact B167 _ _ X130 e130 N130 pre133 (hB.trans (by simp [own_g108, hc132]))
      · have pre134 : ∀ t, Steps p.tables e below (T130.setTop (mkF m 121 #[.val (.int p0), .unset] [])) t → Steps p.tables e below (s₁.setTop (entryFrame m #[(.int p0)] 2)) t := fun t k => by
          refine pre131 t ?_
          show Steps p.tables e below (T130.setTop (mkF m 118 #[.val (.int p0), .unset] [(.int (if own_in p0 (8592 : Int32) (11263 : Int32) = true then (1 : Int32) else 0))])) _
          refine XS.ifNo X130.here hx rfl (hb hby d2_118) rfl ((if0 _ _).trans (own_ifz_neF hc132)) ?_
          exact k
        exact B121 _ _ X130 e130 N130 pre134 (hB.trans (by simp [own_g108, hc132]))
    have B95 : ∀ (T : State) (locs : List Loc) (X : Stand p l e ({ frames := 1, cells := 0, slots := 0, locals := 14 } : Room) s m #[(.int p0)] below meth c T locs 0 0) (eT : T.heap = h0) (NT : Fr n0 locs) (pre : ∀ t, Steps p.tables e below (T.setTop (mkF m 95 #[.val (.int p0), .unset] [])) t → Steps p.tables e below (s₁.setTop (entryFrame m #[(.int p0)] 2)) t) (hB : own_ref p0 = !own_g95 p0), G := by
      intro T locs X eT NT pre hB
      obtain ⟨_, _, ⟨T135, L135, k135, n135⟩, -, X135, ⟨Lc135, hQ135, l135, y135, z135⟩, st135⟩ := Jvm.LawKit.callS X hx (y := (⟨"com/example/compact_path/compactpath/reading/XmlNamesIsNameStartPinLaw", "inRange", "(III)Z"⟩ : MethodName)) hown (mvT hZ (hw _ (List.mem_of_getElem? (i := 21) rfl))) (mvT hZ (hw _ (List.mem_of_getElem? (i := 22) rfl))) (mvT hZ (hw _ (List.mem_of_getElem? (i := 18) rfl))) (mvT hZ (hw _ (List.mem_of_getElem? (i := 23) rfl))) (by decide) (backOf (W := 0) (rm3 l Z aw hw [] p0 (8206 : Int32) (8303 : Int32) h0 n0 Z0 ) hZ (hw _ (List.mem_of_getElem? (i := 23) rfl)) (hw _ (List.mem_of_getElem? (i := 18) rfl)) (by decide) (by decide)) (g := (mkF m 102 #[.val (.int p0), .unset] [(.int (8303 : Int32)), (.int (8206 : Int32)), (.int p0)])) rfl (by rw [hml]; rfl) (argsL := [(.int p0), (.int (8206 : Int32)), (.int (8303 : Int32))]) (rest := []) (lenOf pd_0 rfl) rfl (by show 2 * 0 + _ ≤ _; exact Nat.le_of_eq rfl) (hb hby d2_102) (fun _ _ => ⟨rfl, eT, (by decide : 0 + 0 ≤ _), (by decide : 0 + 0 ≤ _)⟩)
      dsimp only [Pt.U, Pt.locs, Pt.cells, Pt.slots] at X135 l135 y135 z135 st135 hQ135
      rw [l135, y135, z135] at X135
      obtain ⟨rfl, N135q, e135⟩ := hQ135
      have N135 := Fr.app NT N135q
      have pre136 : ∀ t, Steps p.tables e below (T135.setTop (mkF m 105 #[.val (.int p0), .unset] [(.int (if own_in p0 (8206 : Int32) (8303 : Int32) = true then (1 : Int32) else 0))])) t → Steps p.tables e below (s₁.setTop (entryFrame m #[(.int p0)] 2)) t := fun t k => by
        refine pre t ?_
        show Steps p.tables e below (T.setTop (mkF m 95 #[.val (.int p0), .unset] [])) _
        refine XS.iloadN X.here hx rfl (hb hby d2_95) rfl ?_
        show Steps p.tables e below (T.setTop (mkF m 96 #[.val (.int p0), .unset] [(.int p0)])) _
        refine XS.sipush X.here hx rfl (hb hby d2_96) ?_
        show Steps p.tables e below (T.setTop (mkF m 99 #[.val (.int p0), .unset] [(.int (8206 : Int32)), (.int p0)])) _
        refine XS.sipush X.here hx rfl (hb hby d2_99) ?_
        show Steps p.tables e below (T.setTop (mkF m 102 #[.val (.int p0), .unset] [(.int (8303 : Int32)), (.int (8206 : Int32)), (.int p0)])) _
        refine st135 _ ?_
        exact k
      by_cases hc137 : own_in p0 (8206 : Int32) (8303 : Int32) = true
      · have pre138 : ∀ t, Steps p.tables e below (T135.setTop (mkF m 167 #[.val (.int p0), .unset] [])) t → Steps p.tables e below (s₁.setTop (entryFrame m #[(.int p0)] 2)) t := fun t k => by
          refine pre136 t ?_
          show Steps p.tables e below (T135.setTop (mkF m 105 #[.val (.int p0), .unset] [(.int (if own_in p0 (8206 : Int32) (8303 : Int32) = true then (1 : Int32) else 0))])) _
          refine XS.ifYes X135.here hx rfl (pc0 := 105) (pc' := 167) rfl (hb hby d2_105) rfl ((if0 _ _).trans (own_ifz_neT hc137)) (by decide) (by decide) ?_
          exact k
        exact B167 _ _ X135 e135 N135 pre138 (hB.trans (by simp [own_g95, hc137]))
      · have pre139 : ∀ t, Steps p.tables e below (T135.setTop (mkF m 108 #[.val (.int p0), .unset] [])) t → Steps p.tables e below (s₁.setTop (entryFrame m #[(.int p0)] 2)) t := fun t k => by
          refine pre136 t ?_
          show Steps p.tables e below (T135.setTop (mkF m 105 #[.val (.int p0), .unset] [(.int (if own_in p0 (8206 : Int32) (8303 : Int32) = true then (1 : Int32) else 0))])) _
          refine XS.ifNo X135.here hx rfl (hb hby d2_105) rfl ((if0 _ _).trans (own_ifz_neF hc137)) ?_
          exact k
        exact B108 _ _ X135 e135 N135 pre139 (hB.trans (by simp [own_g95, hc137]))
    have B82 : ∀ (T : State) (locs : List Loc) (X : Stand p l e ({ frames := 1, cells := 0, slots := 0, locals := 14 } : Room) s m #[(.int p0)] below meth c T locs 0 0) (eT : T.heap = h0) (NT : Fr n0 locs) (pre : ∀ t, Steps p.tables e below (T.setTop (mkF m 82 #[.val (.int p0), .unset] [])) t → Steps p.tables e below (s₁.setTop (entryFrame m #[(.int p0)] 2)) t) (hB : own_ref p0 = !own_g82 p0), G := by
      intro T locs X eT NT pre hB
      obtain ⟨_, _, ⟨T140, L140, k140, n140⟩, -, X140, ⟨Lc140, hQ140, l140, y140, z140⟩, st140⟩ := Jvm.LawKit.callS X hx (y := (⟨"com/example/compact_path/compactpath/reading/XmlNamesIsNameStartPinLaw", "inRange", "(III)Z"⟩ : MethodName)) hown (mvT hZ (hw _ (List.mem_of_getElem? (i := 21) rfl))) (mvT hZ (hw _ (List.mem_of_getElem? (i := 22) rfl))) (mvT hZ (hw _ (List.mem_of_getElem? (i := 18) rfl))) (mvT hZ (hw _ (List.mem_of_getElem? (i := 23) rfl))) (by decide) (backOf (W := 0) (rm3 l Z aw hw [] p0 (8192 : Int32) (8203 : Int32) h0 n0 Z0 ) hZ (hw _ (List.mem_of_getElem? (i := 23) rfl)) (hw _ (List.mem_of_getElem? (i := 18) rfl)) (by decide) (by decide)) (g := (mkF m 89 #[.val (.int p0), .unset] [(.int (8203 : Int32)), (.int (8192 : Int32)), (.int p0)])) rfl (by rw [hml]; rfl) (argsL := [(.int p0), (.int (8192 : Int32)), (.int (8203 : Int32))]) (rest := []) (lenOf pd_0 rfl) rfl (by show 2 * 0 + _ ≤ _; exact Nat.le_of_eq rfl) (hb hby d2_89) (fun _ _ => ⟨rfl, eT, (by decide : 0 + 0 ≤ _), (by decide : 0 + 0 ≤ _)⟩)
      dsimp only [Pt.U, Pt.locs, Pt.cells, Pt.slots] at X140 l140 y140 z140 st140 hQ140
      rw [l140, y140, z140] at X140
      obtain ⟨rfl, N140q, e140⟩ := hQ140
      have N140 := Fr.app NT N140q
      have pre141 : ∀ t, Steps p.tables e below (T140.setTop (mkF m 92 #[.val (.int p0), .unset] [(.int (if own_in p0 (8192 : Int32) (8203 : Int32) = true then (1 : Int32) else 0))])) t → Steps p.tables e below (s₁.setTop (entryFrame m #[(.int p0)] 2)) t := fun t k => by
        refine pre t ?_
        show Steps p.tables e below (T.setTop (mkF m 82 #[.val (.int p0), .unset] [])) _
        refine XS.iloadN X.here hx rfl (hb hby d2_82) rfl ?_
        show Steps p.tables e below (T.setTop (mkF m 83 #[.val (.int p0), .unset] [(.int p0)])) _
        refine XS.sipush X.here hx rfl (hb hby d2_83) ?_
        show Steps p.tables e below (T.setTop (mkF m 86 #[.val (.int p0), .unset] [(.int (8192 : Int32)), (.int p0)])) _
        refine XS.sipush X.here hx rfl (hb hby d2_86) ?_
        show Steps p.tables e below (T.setTop (mkF m 89 #[.val (.int p0), .unset] [(.int (8203 : Int32)), (.int (8192 : Int32)), (.int p0)])) _
        refine st140 _ ?_
        exact k
      by_cases hc142 : own_in p0 (8192 : Int32) (8203 : Int32) = true
      · have pre143 : ∀ t, Steps p.tables e below (T140.setTop (mkF m 167 #[.val (.int p0), .unset] [])) t → Steps p.tables e below (s₁.setTop (entryFrame m #[(.int p0)] 2)) t := fun t k => by
          refine pre141 t ?_
          show Steps p.tables e below (T140.setTop (mkF m 92 #[.val (.int p0), .unset] [(.int (if own_in p0 (8192 : Int32) (8203 : Int32) = true then (1 : Int32) else 0))])) _
          refine XS.ifYes X140.here hx rfl (pc0 := 92) (pc' := 167) rfl (hb hby d2_92) rfl ((if0 _ _).trans (own_ifz_neT hc142)) (by decide) (by decide) ?_
          exact k
        exact B167 _ _ X140 e140 N140 pre143 (hB.trans (by simp [own_g82, hc142]))
      · have pre144 : ∀ t, Steps p.tables e below (T140.setTop (mkF m 95 #[.val (.int p0), .unset] [])) t → Steps p.tables e below (s₁.setTop (entryFrame m #[(.int p0)] 2)) t := fun t k => by
          refine pre141 t ?_
          show Steps p.tables e below (T140.setTop (mkF m 92 #[.val (.int p0), .unset] [(.int (if own_in p0 (8192 : Int32) (8203 : Int32) = true then (1 : Int32) else 0))])) _
          refine XS.ifNo X140.here hx rfl (hb hby d2_92) rfl ((if0 _ _).trans (own_ifz_neF hc142)) ?_
          exact k
        exact B95 _ _ X140 e140 N140 pre144 (hB.trans (by simp [own_g82, hc142]))
    have B75 : ∀ (T : State) (locs : List Loc) (X : Stand p l e ({ frames := 1, cells := 0, slots := 0, locals := 14 } : Room) s m #[(.int p0)] below meth c T locs 0 0) (eT : T.heap = h0) (NT : Fr n0 locs) (pre : ∀ t, Steps p.tables e below (T.setTop (mkF m 75 #[.val (.int p0), .unset] [])) t → Steps p.tables e below (s₁.setTop (entryFrame m #[(.int p0)] 2)) t) (hB : own_ref p0 = !own_g75 p0), G := by
      intro T locs X eT NT pre hB
      have pre145 : ∀ t, Steps p.tables e below (T.setTop (mkF m 79 #[.val (.int p0), .unset] [(.int (894 : Int32)), (.int p0)])) t → Steps p.tables e below (s₁.setTop (entryFrame m #[(.int p0)] 2)) t := fun t k => by
        refine pre t ?_
        show Steps p.tables e below (T.setTop (mkF m 75 #[.val (.int p0), .unset] [])) _
        refine XS.iloadN X.here hx rfl (hb hby d2_75) rfl ?_
        show Steps p.tables e below (T.setTop (mkF m 76 #[.val (.int p0), .unset] [(.int p0)])) _
        refine XS.sipush X.here hx rfl (hb hby d2_76) ?_
        exact k
      by_cases hc146 : p0 = (894 : Int32)
      · have pre147 : ∀ t, Steps p.tables e below (T.setTop (mkF m 167 #[.val (.int p0), .unset] [])) t → Steps p.tables e below (s₁.setTop (entryFrame m #[(.int p0)] 2)) t := fun t k => by
          refine pre145 t ?_
          show Steps p.tables e below (T.setTop (mkF m 79 #[.val (.int p0), .unset] [(.int (894 : Int32)), (.int p0)])) _
          refine XS.icmpYes X.here hx rfl (pc0 := 79) (pc' := 167) rfl (hb hby d2_79) rfl (teq hc146).1 (by decide) (by decide) ?_
          exact k
        exact B167 _ _ X eT NT pre147 (hB.trans (by simp [own_g75, own_in, hc146]))
      · have pre148 : ∀ t, Steps p.tables e below (T.setTop (mkF m 82 #[.val (.int p0), .unset] [])) t → Steps p.tables e below (s₁.setTop (entryFrame m #[(.int p0)] 2)) t := fun t k => by
          refine pre145 t ?_
          show Steps p.tables e below (T.setTop (mkF m 79 #[.val (.int p0), .unset] [(.int (894 : Int32)), (.int p0)])) _
          refine XS.icmpNo X.here hx rfl (hb hby d2_79) rfl (feq hc146).1 ?_
          exact k
        exact B82 _ _ X eT NT pre148 (hB.trans (by simp [own_g75, own_in, hc146]))
    have B62 : ∀ (T : State) (locs : List Loc) (X : Stand p l e ({ frames := 1, cells := 0, slots := 0, locals := 14 } : Room) s m #[(.int p0)] below meth c T locs 0 0) (eT : T.heap = h0) (NT : Fr n0 locs) (pre : ∀ t, Steps p.tables e below (T.setTop (mkF m 62 #[.val (.int p0), .unset] [])) t → Steps p.tables e below (s₁.setTop (entryFrame m #[(.int p0)] 2)) t) (hB : own_ref p0 = !own_g62 p0), G := by
      intro T locs X eT NT pre hB
      obtain ⟨_, _, ⟨T149, L149, k149, n149⟩, -, X149, ⟨Lc149, hQ149, l149, y149, z149⟩, st149⟩ := Jvm.LawKit.callS X hx (y := (⟨"com/example/compact_path/compactpath/reading/XmlNamesIsNameStartPinLaw", "inRange", "(III)Z"⟩ : MethodName)) hown (mvT hZ (hw _ (List.mem_of_getElem? (i := 21) rfl))) (mvT hZ (hw _ (List.mem_of_getElem? (i := 22) rfl))) (mvT hZ (hw _ (List.mem_of_getElem? (i := 18) rfl))) (mvT hZ (hw _ (List.mem_of_getElem? (i := 23) rfl))) (by decide) (backOf (W := 0) (rm3 l Z aw hw [] p0 (768 : Int32) (879 : Int32) h0 n0 Z0 ) hZ (hw _ (List.mem_of_getElem? (i := 23) rfl)) (hw _ (List.mem_of_getElem? (i := 18) rfl)) (by decide) (by decide)) (g := (mkF m 69 #[.val (.int p0), .unset] [(.int (879 : Int32)), (.int (768 : Int32)), (.int p0)])) rfl (by rw [hml]; rfl) (argsL := [(.int p0), (.int (768 : Int32)), (.int (879 : Int32))]) (rest := []) (lenOf pd_0 rfl) rfl (by show 2 * 0 + _ ≤ _; exact Nat.le_of_eq rfl) (hb hby d2_69) (fun _ _ => ⟨rfl, eT, (by decide : 0 + 0 ≤ _), (by decide : 0 + 0 ≤ _)⟩)
      dsimp only [Pt.U, Pt.locs, Pt.cells, Pt.slots] at X149 l149 y149 z149 st149 hQ149
      rw [l149, y149, z149] at X149
      obtain ⟨rfl, N149q, e149⟩ := hQ149
      have N149 := Fr.app NT N149q
      have pre150 : ∀ t, Steps p.tables e below (T149.setTop (mkF m 72 #[.val (.int p0), .unset] [(.int (if own_in p0 (768 : Int32) (879 : Int32) = true then (1 : Int32) else 0))])) t → Steps p.tables e below (s₁.setTop (entryFrame m #[(.int p0)] 2)) t := fun t k => by
        refine pre t ?_
        show Steps p.tables e below (T.setTop (mkF m 62 #[.val (.int p0), .unset] [])) _
        refine XS.iloadN X.here hx rfl (hb hby d2_62) rfl ?_
        show Steps p.tables e below (T.setTop (mkF m 63 #[.val (.int p0), .unset] [(.int p0)])) _
        refine XS.sipush X.here hx rfl (hb hby d2_63) ?_
        show Steps p.tables e below (T.setTop (mkF m 66 #[.val (.int p0), .unset] [(.int (768 : Int32)), (.int p0)])) _
        refine XS.sipush X.here hx rfl (hb hby d2_66) ?_
        show Steps p.tables e below (T.setTop (mkF m 69 #[.val (.int p0), .unset] [(.int (879 : Int32)), (.int (768 : Int32)), (.int p0)])) _
        refine st149 _ ?_
        exact k
      by_cases hc151 : own_in p0 (768 : Int32) (879 : Int32) = true
      · have pre152 : ∀ t, Steps p.tables e below (T149.setTop (mkF m 167 #[.val (.int p0), .unset] [])) t → Steps p.tables e below (s₁.setTop (entryFrame m #[(.int p0)] 2)) t := fun t k => by
          refine pre150 t ?_
          show Steps p.tables e below (T149.setTop (mkF m 72 #[.val (.int p0), .unset] [(.int (if own_in p0 (768 : Int32) (879 : Int32) = true then (1 : Int32) else 0))])) _
          refine XS.ifYes X149.here hx rfl (pc0 := 72) (pc' := 167) rfl (hb hby d2_72) rfl ((if0 _ _).trans (own_ifz_neT hc151)) (by decide) (by decide) ?_
          exact k
        exact B167 _ _ X149 e149 N149 pre152 (hB.trans (by simp [own_g62, hc151]))
      · have pre153 : ∀ t, Steps p.tables e below (T149.setTop (mkF m 75 #[.val (.int p0), .unset] [])) t → Steps p.tables e below (s₁.setTop (entryFrame m #[(.int p0)] 2)) t := fun t k => by
          refine pre150 t ?_
          show Steps p.tables e below (T149.setTop (mkF m 72 #[.val (.int p0), .unset] [(.int (if own_in p0 (768 : Int32) (879 : Int32) = true then (1 : Int32) else 0))])) _
          refine XS.ifNo X149.here hx rfl (hb hby d2_72) rfl ((if0 _ _).trans (own_ifz_neF hc151)) ?_
          exact k
        exact B75 _ _ X149 e149 N149 pre153 (hB.trans (by simp [own_g62, hc151]))
    have B55 : ∀ (T : State) (locs : List Loc) (X : Stand p l e ({ frames := 1, cells := 0, slots := 0, locals := 14 } : Room) s m #[(.int p0)] below meth c T locs 0 0) (eT : T.heap = h0) (NT : Fr n0 locs) (pre : ∀ t, Steps p.tables e below (T.setTop (mkF m 55 #[.val (.int p0), .unset] [])) t → Steps p.tables e below (s₁.setTop (entryFrame m #[(.int p0)] 2)) t) (hB : own_ref p0 = !own_g55 p0), G := by
      intro T locs X eT NT pre hB
      have pre154 : ∀ t, Steps p.tables e below (T.setTop (mkF m 59 #[.val (.int p0), .unset] [(.int (247 : Int32)), (.int p0)])) t → Steps p.tables e below (s₁.setTop (entryFrame m #[(.int p0)] 2)) t := fun t k => by
        refine pre t ?_
        show Steps p.tables e below (T.setTop (mkF m 55 #[.val (.int p0), .unset] [])) _
        refine XS.iloadN X.here hx rfl (hb hby d2_55) rfl ?_
        show Steps p.tables e below (T.setTop (mkF m 56 #[.val (.int p0), .unset] [(.int p0)])) _
        refine XS.sipush X.here hx rfl (hb hby d2_56) ?_
        exact k
      by_cases hc155 : p0 = (247 : Int32)
      · have pre156 : ∀ t, Steps p.tables e below (T.setTop (mkF m 167 #[.val (.int p0), .unset] [])) t → Steps p.tables e below (s₁.setTop (entryFrame m #[(.int p0)] 2)) t := fun t k => by
          refine pre154 t ?_
          show Steps p.tables e below (T.setTop (mkF m 59 #[.val (.int p0), .unset] [(.int (247 : Int32)), (.int p0)])) _
          refine XS.icmpYes X.here hx rfl (pc0 := 59) (pc' := 167) rfl (hb hby d2_59) rfl (teq hc155).1 (by decide) (by decide) ?_
          exact k
        exact B167 _ _ X eT NT pre156 (hB.trans (by simp [own_g55, own_in, hc155]))
      · have pre157 : ∀ t, Steps p.tables e below (T.setTop (mkF m 62 #[.val (.int p0), .unset] [])) t → Steps p.tables e below (s₁.setTop (entryFrame m #[(.int p0)] 2)) t := fun t k => by
          refine pre154 t ?_
          show Steps p.tables e below (T.setTop (mkF m 59 #[.val (.int p0), .unset] [(.int (247 : Int32)), (.int p0)])) _
          refine XS.icmpNo X.here hx rfl (hb hby d2_59) rfl (feq hc155).1 ?_
          exact k
        exact B62 _ _ X eT NT pre157 (hB.trans (by simp [own_g55, own_in, hc155]))
    have B48 : ∀ (T : State) (locs : List Loc) (X : Stand p l e ({ frames := 1, cells := 0, slots := 0, locals := 14 } : Room) s m #[(.int p0)] below meth c T locs 0 0) (eT : T.heap = h0) (NT : Fr n0 locs) (pre : ∀ t, Steps p.tables e below (T.setTop (mkF m 48 #[.val (.int p0), .unset] [])) t → Steps p.tables e below (s₁.setTop (entryFrame m #[(.int p0)] 2)) t) (hB : own_ref p0 = !own_g48 p0), G := by
      intro T locs X eT NT pre hB
      have pre158 : ∀ t, Steps p.tables e below (T.setTop (mkF m 52 #[.val (.int p0), .unset] [(.int (215 : Int32)), (.int p0)])) t → Steps p.tables e below (s₁.setTop (entryFrame m #[(.int p0)] 2)) t := fun t k => by
        refine pre t ?_
        show Steps p.tables e below (T.setTop (mkF m 48 #[.val (.int p0), .unset] [])) _
        refine XS.iloadN X.here hx rfl (hb hby d2_48) rfl ?_
        show Steps p.tables e below (T.setTop (mkF m 49 #[.val (.int p0), .unset] [(.int p0)])) _
        refine XS.sipush X.here hx rfl (hb hby d2_49) ?_
        exact k
      by_cases hc159 : p0 = (215 : Int32)
      · have pre160 : ∀ t, Steps p.tables e below (T.setTop (mkF m 167 #[.val (.int p0), .unset] [])) t → Steps p.tables e below (s₁.setTop (entryFrame m #[(.int p0)] 2)) t := fun t k => by
          refine pre158 t ?_
          show Steps p.tables e below (T.setTop (mkF m 52 #[.val (.int p0), .unset] [(.int (215 : Int32)), (.int p0)])) _
          refine XS.icmpYes X.here hx rfl (pc0 := 52) (pc' := 167) rfl (hb hby d2_52) rfl (teq hc159).1 (by decide) (by decide) ?_
          exact k
        exact B167 _ _ X eT NT pre160 (hB.trans (by simp [own_g48, own_in, hc159]))
      · have pre161 : ∀ t, Steps p.tables e below (T.setTop (mkF m 55 #[.val (.int p0), .unset] [])) t → Steps p.tables e below (s₁.setTop (entryFrame m #[(.int p0)] 2)) t := fun t k => by
          refine pre158 t ?_
          show Steps p.tables e below (T.setTop (mkF m 52 #[.val (.int p0), .unset] [(.int (215 : Int32)), (.int p0)])) _
          refine XS.icmpNo X.here hx rfl (hb hby d2_52) rfl (feq hc159).1 ?_
          exact k
        exact B55 _ _ X eT NT pre161 (hB.trans (by simp [own_g48, own_in, hc159]))
    have B0 : ∀ (T : State) (locs : List Loc) (X : Stand p l e ({ frames := 1, cells := 0, slots := 0, locals := 14 } : Room) s m #[(.int p0)] below meth c T locs 0 0) (eT : T.heap = h0) (NT : Fr n0 locs) (pre : ∀ t, Steps p.tables e below (T.setTop (mkF m 0 #[.val (.int p0), .unset] [])) t → Steps p.tables e below (s₁.setTop (entryFrame m #[(.int p0)] 2)) t), G := by
      intro T locs X eT NT pre
      have pre162 : ∀ t, Steps p.tables e below (T.setTop (mkF m 1 #[.val (.int p0), .unset] [(.int p0)])) t → Steps p.tables e below (s₁.setTop (entryFrame m #[(.int p0)] 2)) t := fun t k => by
        refine pre t ?_
        show Steps p.tables e below (T.setTop (mkF m 0 #[.val (.int p0), .unset] [])) _
        refine XS.iloadN X.here hx rfl (hb hby d2_0) rfl ?_
        exact k
      by_cases hc163 : p0 < (0 : Int32)
      · have pre164 : ∀ t, Steps p.tables e below (T.setTop (mkF m 5 #[.val (.int p0), .unset] [(.int (0 : Int32))])) t → Steps p.tables e below (s₁.setTop (entryFrame m #[(.int p0)] 2)) t := fun t k => by
          refine pre162 t ?_
          show Steps p.tables e below (T.setTop (mkF m 1 #[.val (.int p0), .unset] [(.int p0)])) _
          refine XS.ifNo X.here hx rfl (hb hby d2_1) rfl ((if0 _ _).trans (tlt hc163).2.1) ?_
          show Steps p.tables e below (T.setTop (mkF m 4 #[.val (.int p0), .unset] [])) _
          refine XS.iconst X.here hx rfl (hb hby d2_4) ?_
          exact k
        exact fin (0 : Int32) _ _ 5 _ X eT NT (hb hby d2_5) pre164 (by simp [own_ref, hc163])
      · have pre165 : ∀ t, Steps p.tables e below (T.setTop (mkF m 10 #[.val (.int p0), .unset] [(.int (192 : Int32)), (.int p0)])) t → Steps p.tables e below (s₁.setTop (entryFrame m #[(.int p0)] 2)) t := fun t k => by
          refine pre162 t ?_
          show Steps p.tables e below (T.setTop (mkF m 1 #[.val (.int p0), .unset] [(.int p0)])) _
          refine XS.ifYes X.here hx rfl (pc0 := 1) (pc' := 6) rfl (hb hby d2_1) rfl ((if0 _ _).trans (flt hc163).2.1) (by decide) (by decide) ?_
          show Steps p.tables e below (T.setTop (mkF m 6 #[.val (.int p0), .unset] [])) _
          refine XS.iloadN X.here hx rfl (hb hby d2_6) rfl ?_
          show Steps p.tables e below (T.setTop (mkF m 7 #[.val (.int p0), .unset] [(.int p0)])) _
          refine XS.sipush X.here hx rfl (hb hby d2_7) ?_
          exact k
        by_cases hc166 : p0 < (192 : Int32)
        · have pre167 : ∀ t, Steps p.tables e below (T.setTop (mkF m 21 #[.val (.int p0), .val (.int (p0 ||| (32 : Int32)))] [(.int (97 : Int32)), (.int (p0 ||| (32 : Int32)))])) t → Steps p.tables e below (s₁.setTop (entryFrame m #[(.int p0)] 2)) t := fun t k => by
            refine pre165 t ?_
            show Steps p.tables e below (T.setTop (mkF m 10 #[.val (.int p0), .unset] [(.int (192 : Int32)), (.int p0)])) _
            refine XS.icmpNo X.here hx rfl (hb hby d2_10) rfl (tlt hc166).2.1 ?_
            show Steps p.tables e below (T.setTop (mkF m 13 #[.val (.int p0), .unset] [])) _
            refine XS.iloadN X.here hx rfl (hb hby d2_13) rfl ?_
            show Steps p.tables e below (T.setTop (mkF m 14 #[.val (.int p0), .unset] [(.int p0)])) _
            refine XS.bipush X.here hx rfl (hb hby d2_14) ?_
            show Steps p.tables e below (T.setTop (mkF m 16 #[.val (.int p0), .unset] [(.int (32 : Int32)), (.int p0)])) _
            refine XS.ior X.here hx rfl (hb hby d2_16) rfl ?_
            show Steps p.tables e below (T.setTop (mkF m 17 #[.val (.int p0), .unset] [(.int (p0 ||| (32 : Int32)))])) _
            refine XS.istoreN X.here hx rfl (hb hby d2_17) rfl (l' := #[.val (.int p0), .val (.int (p0 ||| (32 : Int32)))]) rfl ?_
            show Steps p.tables e below (T.setTop (mkF m 18 #[.val (.int p0), .val (.int (p0 ||| (32 : Int32)))] [])) _
            refine XS.iloadN X.here hx rfl (hb hby d2_18) rfl ?_
            show Steps p.tables e below (T.setTop (mkF m 19 #[.val (.int p0), .val (.int (p0 ||| (32 : Int32)))] [(.int (p0 ||| (32 : Int32)))])) _
            refine XS.bipush X.here hx rfl (hb hby d2_19) ?_
            exact k
          by_cases hc168 : (p0 ||| (32 : Int32)) < (97 : Int32)
          · have pre169 : ∀ t, Steps p.tables e below (T.setTop (mkF m 30 #[.val (.int p0), .val (.int (p0 ||| (32 : Int32)))] [])) t → Steps p.tables e below (s₁.setTop (entryFrame m #[(.int p0)] 2)) t := fun t k => by
              refine pre167 t ?_
              show Steps p.tables e below (T.setTop (mkF m 21 #[.val (.int p0), .val (.int (p0 ||| (32 : Int32)))] [(.int (97 : Int32)), (.int (p0 ||| (32 : Int32)))])) _
              refine XS.icmpYes X.here hx rfl (pc0 := 21) (pc' := 30) rfl (hb hby d2_21) rfl (tlt hc168).1 (by decide) (by decide) ?_
              exact k
            exact B30 _ _ X eT NT pre169 (by simp [own_ref, own_low, own_in, hc163, hc166, hc168])
          · have pre170 : ∀ t, Steps p.tables e below (T.setTop (mkF m 27 #[.val (.int p0), .val (.int (p0 ||| (32 : Int32)))] [(.int (122 : Int32)), (.int (p0 ||| (32 : Int32)))])) t → Steps p.tables e below (s₁.setTop (entryFrame m #[(.int p0)] 2)) t := fun t k => by
              refine pre167 t ?_
              show Steps p.tables e below (T.setTop (mkF m 21 #[.val (.int p0), .val (.int (p0 ||| (32 : Int32)))] [(.int (97 : Int32)), (.int (p0 ||| (32 : Int32)))])) _
              refine XS.icmpNo X.here hx rfl (hb hby d2_21) rfl (flt hc168).1 ?_
              show Steps p.tables e below (T.setTop (mkF m 24 #[.val (.int p0), .val (.int (p0 ||| (32 : Int32)))] [])) _
              refine XS.iloadN X.here hx rfl (hb hby d2_24) rfl ?_
              show Steps p.tables e below (T.setTop (mkF m 25 #[.val (.int p0), .val (.int (p0 ||| (32 : Int32)))] [(.int (p0 ||| (32 : Int32)))])) _
              refine XS.bipush X.here hx rfl (hb hby d2_25) ?_
              exact k
            by_cases hc171 : (122 : Int32) < (p0 ||| (32 : Int32))
            · have pre172 : ∀ t, Steps p.tables e below (T.setTop (mkF m 30 #[.val (.int p0), .val (.int (p0 ||| (32 : Int32)))] [])) t → Steps p.tables e below (s₁.setTop (entryFrame m #[(.int p0)] 2)) t := fun t k => by
                refine pre170 t ?_
                show Steps p.tables e below (T.setTop (mkF m 27 #[.val (.int p0), .val (.int (p0 ||| (32 : Int32)))] [(.int (122 : Int32)), (.int (p0 ||| (32 : Int32)))])) _
                refine XS.icmpNo X.here hx rfl (hb hby d2_27) rfl (tlt hc171).2.2.2 ?_
                exact k
              exact B30 _ _ X eT NT pre172 (by simp [own_ref, own_low, own_in, hc163, hc166, hc168, hc171])
            · have pre173 : ∀ t, Steps p.tables e below (T.setTop (mkF m 36 #[.val (.int p0), .val (.int (p0 ||| (32 : Int32)))] [])) t → Steps p.tables e below (s₁.setTop (entryFrame m #[(.int p0)] 2)) t := fun t k => by
                refine pre170 t ?_
                show Steps p.tables e below (T.setTop (mkF m 27 #[.val (.int p0), .val (.int (p0 ||| (32 : Int32)))] [(.int (122 : Int32)), (.int (p0 ||| (32 : Int32)))])) _
                refine XS.icmpYes X.here hx rfl (pc0 := 27) (pc' := 36) rfl (hb hby d2_27) rfl (flt hc171).2.2.2 (by decide) (by decide) ?_
                exact k
              exact B36 _ _ X eT NT pre173 (by simp [own_ref, own_low, own_in, hc163, hc166, hc168, hc171])
        · have pre174 : ∀ t, Steps p.tables e below (T.setTop (mkF m 45 #[.val (.int p0), .unset] [(.int (65535 : Int32)), (.int p0)])) t → Steps p.tables e below (s₁.setTop (entryFrame m #[(.int p0)] 2)) t := fun t k => by
            refine pre165 t ?_
            show Steps p.tables e below (T.setTop (mkF m 10 #[.val (.int p0), .unset] [(.int (192 : Int32)), (.int p0)])) _
            refine XS.icmpYes X.here hx rfl (pc0 := 10) (pc' := 42) rfl (hb hby d2_10) rfl (flt hc166).2.1 (by decide) (by decide) ?_
            show Steps p.tables e below (T.setTop (mkF m 42 #[.val (.int p0), .unset] [])) _
            refine XS.iloadN X.here hx rfl (hb hby d2_42) rfl ?_
            show Steps p.tables e below (T.setTop (mkF m 43 #[.val (.int p0), .unset] [(.int p0)])) _
            refine X.ldcInt hx hown (mvT hZ (hw _ (List.mem_of_getElem? (i := 20) rfl))) (g := (mkF m 43 #[.val (.int p0), .unset] [(.int p0)])) rfl (hb hby d2_43) _ ?_
            exact k
          by_cases hc175 : (65535 : Int32) < p0
          · have pre176 : ∀ t, Steps p.tables e below (T.setTop (mkF m 186 #[.val (.int p0), .unset] [(.int (983039 : Int32)), (.int p0)])) t → Steps p.tables e below (s₁.setTop (entryFrame m #[(.int p0)] 2)) t := fun t k => by
              refine pre174 t ?_
              show Steps p.tables e below (T.setTop (mkF m 45 #[.val (.int p0), .unset] [(.int (65535 : Int32)), (.int p0)])) _
              refine XS.icmpYes X.here hx rfl (pc0 := 45) (pc' := 183) rfl (hb hby d2_45) rfl (tlt hc175).2.2.1 (by decide) (by decide) ?_
              show Steps p.tables e below (T.setTop (mkF m 183 #[.val (.int p0), .unset] [])) _
              refine XS.iloadN X.here hx rfl (hb hby d2_183) rfl ?_
              show Steps p.tables e below (T.setTop (mkF m 184 #[.val (.int p0), .unset] [(.int p0)])) _
              refine X.ldcInt hx hown (mvT hZ (hw _ (List.mem_of_getElem? (i := 7) rfl))) (g := (mkF m 184 #[.val (.int p0), .unset] [(.int p0)])) rfl (hb hby d2_184) _ ?_
              exact k
            by_cases hc177 : (983039 : Int32) < p0
            · have pre178 : ∀ t, Steps p.tables e below (T.setTop (mkF m 193 #[.val (.int p0), .unset] [])) t → Steps p.tables e below (s₁.setTop (entryFrame m #[(.int p0)] 2)) t := fun t k => by
                refine pre176 t ?_
                show Steps p.tables e below (T.setTop (mkF m 186 #[.val (.int p0), .unset] [(.int (983039 : Int32)), (.int p0)])) _
                refine XS.icmpYes X.here hx rfl (pc0 := 186) (pc' := 193) rfl (hb hby d2_186) rfl (tlt hc177).2.2.1 (by decide) (by decide) ?_
                exact k
              exact B193 _ _ X eT NT pre178 (by simp [own_ref, hc163, hc166, hc175, hc177])
            · have pre179 : ∀ t, Steps p.tables e below (T.setTop (mkF m 194 #[.val (.int p0), .unset] [(.int (1 : Int32))])) t → Steps p.tables e below (s₁.setTop (entryFrame m #[(.int p0)] 2)) t := fun t k => by
                refine pre176 t ?_
                show Steps p.tables e below (T.setTop (mkF m 186 #[.val (.int p0), .unset] [(.int (983039 : Int32)), (.int p0)])) _
                refine XS.icmpNo X.here hx rfl (hb hby d2_186) rfl (flt hc177).2.2.1 ?_
                show Steps p.tables e below (T.setTop (mkF m 189 #[.val (.int p0), .unset] [])) _
                refine XS.iconst X.here hx rfl (hb hby d2_189) ?_
                show Steps p.tables e below (T.setTop (mkF m 190 #[.val (.int p0), .unset] [(.int (1 : Int32))])) _
                refine XS.goto X.here hx rfl (pc0 := 190) (pc' := 194) rfl (hb hby d2_190) (by decide) (by decide) ?_
                exact k
              exact fin (1 : Int32) _ _ 194 _ X eT NT (hb hby d2_194) pre179 (by simp [own_ref, hc163, hc166, hc175, hc177])
          · have pre180 : ∀ t, Steps p.tables e below (T.setTop (mkF m 48 #[.val (.int p0), .unset] [])) t → Steps p.tables e below (s₁.setTop (entryFrame m #[(.int p0)] 2)) t := fun t k => by
              refine pre174 t ?_
              show Steps p.tables e below (T.setTop (mkF m 45 #[.val (.int p0), .unset] [(.int (65535 : Int32)), (.int p0)])) _
              refine XS.icmpNo X.here hx rfl (hb hby d2_45) rfl (flt hc175).2.2.1 ?_
              exact k
            exact B48 _ _ X eT NT pre180 (by simp [own_ref, hc163, hc166, hc175])
    exact B0 s₁ [] X0 e0 N0 pre0
  refine key _ (fun k T locs pc Ls X eT NT hd pre hk => ?_)
  obtain ⟨fs, hr, hrun, hended, hW, hsame⟩ := X.leave (v := some (.int (nar .boolean k))) (fun h => by rw [Bd.returns] at h; cases h)
  refine ⟨_, _, pre _ ?_, hrun, hended, _, _, rfl, ?_, ⟨_, rfl⟩, hW, hsame.mono (by decide) (by decide)⟩
  · exact retN X hx (t := .boolean) Bd.returns (by simp) hd hr
  · show Q2 Z p0 h0 n0 _ T.heap _
    rw [eT]
    exact ⟨by rw [hk], NT, rfl⟩
theorem own_ix (s : Int32) : ¬ (((s.toUInt32 >>> ((1 : Int32) &&& 31).toUInt32).toInt32) % (37 : Int32)) < (0 : Int32) ∧ (((s.toUInt32 >>> ((1 : Int32) &&& 31).toUInt32).toInt32) % (37 : Int32)) < (37 : Int32) := by
  have h1 := c_iushr s 1 1 (by decide) (by decide)
  have h0 : 0 ≤ ((s.toUInt32 >>> ((1 : Int32) &&& 31).toUInt32).toInt32).toInt := by rw [h1]; exact Int.ediv_nonneg (Int.emod_nonneg _ (by decide)) (by decide)
  have h2 := (c_irem ((s.toUInt32 >>> ((1 : Int32) &&& 31).toUInt32).toInt32) 37 37 (by decide)).1 h0
  rw [Int32.lt_iff_toInt_lt, Int32.lt_iff_toInt_lt, h2, show (0 : Int32).toInt = 0 by decide, show (37 : Int32).toInt = 37 by decide]
  omega
theorem own_ints (zs : List Int32) (n : Nat) : ∃ z : Int32, (zs.map Value.int).getD n (.int (0 : Int32)) = .int z := by
  induction zs generalizing n with
  | nil => exact ⟨0, rfl⟩
  | cons z zs ih =>
    cases n with
    | zero => exact ⟨z, rfl⟩
    | succ n => exact ih n
theorem own_in_iff (x a b : Int32) : own_in x a b = true ↔ (a.toInt ≤ x.toInt ∧ x.toInt ≤ b.toInt) := by
  simp only [own_in, Bool.and_eq_true, Bool.not_eq_true', decide_eq_false_iff_not, Int32.lt_iff_toInt_lt]
  omega
theorem own_n_iff (x : Int32) (n : Int) (hn : x.toInt = n) : own_n0 x = true ↔ ((97 ≤ n ∧ n ≤ 122) ∨ (65 ≤ n ∧ n ≤ 90) ∨ n = 95 ∨ (192 ≤ n ∧ n ≤ 214) ∨ (216 ≤ n ∧ n ≤ 246) ∨ (248 ≤ n ∧ n ≤ 767) ∨ (880 ≤ n ∧ n ≤ 893) ∨ (895 ≤ n ∧ n ≤ 8191) ∨ (8204 ≤ n ∧ n ≤ 8205) ∨ (8304 ≤ n ∧ n ≤ 8591) ∨ (11264 ≤ n ∧ n ≤ 12271) ∨ (12289 ≤ n ∧ n ≤ 55295) ∨ (63744 ≤ n ∧ n ≤ 64975) ∨ (65008 ≤ n ∧ n ≤ 65533) ∨ (65536 ≤ n ∧ n ≤ 983039)) := by
  simp only [own_n0, own_n12, own_n24, own_n30, own_n44, own_n58, own_n72, own_n86, own_n100, own_n114, own_n128, own_n142, own_n155, own_n167, own_n179, Bool.or_eq_true, own_in_iff, decide_eq_true_eq, ← Int32.toInt_inj, hn, show (0 : Int32).toInt = 0 by decide, show (65 : Int32).toInt = 65 by decide, show (90 : Int32).toInt = 90 by decide, show (95 : Int32).toInt = 95 by decide, show (97 : Int32).toInt = 97 by decide, show (122 : Int32).toInt = 122 by decide, show (192 : Int32).toInt = 192 by decide, show (214 : Int32).toInt = 214 by decide, show (215 : Int32).toInt = 215 by decide, show (216 : Int32).toInt = 216 by decide, show (246 : Int32).toInt = 246 by decide, show (247 : Int32).toInt = 247 by decide, show (248 : Int32).toInt = 248 by decide, show (767 : Int32).toInt = 767 by decide, show (768 : Int32).toInt = 768 by decide, show (879 : Int32).toInt = 879 by decide, show (880 : Int32).toInt = 880 by decide, show (893 : Int32).toInt = 893 by decide, show (894 : Int32).toInt = 894 by decide, show (895 : Int32).toInt = 895 by decide, show (8191 : Int32).toInt = 8191 by decide, show (8192 : Int32).toInt = 8192 by decide, show (8203 : Int32).toInt = 8203 by decide, show (8204 : Int32).toInt = 8204 by decide, show (8205 : Int32).toInt = 8205 by decide, show (8206 : Int32).toInt = 8206 by decide, show (8303 : Int32).toInt = 8303 by decide, show (8304 : Int32).toInt = 8304 by decide, show (8591 : Int32).toInt = 8591 by decide, show (8592 : Int32).toInt = 8592 by decide, show (11263 : Int32).toInt = 11263 by decide, show (11264 : Int32).toInt = 11264 by decide, show (12271 : Int32).toInt = 12271 by decide, show (12272 : Int32).toInt = 12272 by decide, show (12288 : Int32).toInt = 12288 by decide, show (12289 : Int32).toInt = 12289 by decide, show (55295 : Int32).toInt = 55295 by decide, show (55296 : Int32).toInt = 55296 by decide, show (63743 : Int32).toInt = 63743 by decide, show (63744 : Int32).toInt = 63744 by decide, show (64975 : Int32).toInt = 64975 by decide, show (64976 : Int32).toInt = 64976 by decide, show (65007 : Int32).toInt = 65007 by decide, show (65008 : Int32).toInt = 65008 by decide, show (65533 : Int32).toInt = 65533 by decide, show (65534 : Int32).toInt = 65534 by decide, show (65535 : Int32).toInt = 65535 by decide, show (65536 : Int32).toInt = 65536 by decide, show (983039 : Int32).toInt = 983039 by decide, Bool.false_eq_true, or_false]
theorem own_g_iff (x : Int32) (n : Int) (hn : x.toInt = n) : own_g48 x = true ↔ (n = 215 ∨ n = 247 ∨ (768 ≤ n ∧ n ≤ 879) ∨ n = 894 ∨ (8192 ≤ n ∧ n ≤ 8203) ∨ (8206 ≤ n ∧ n ≤ 8303) ∨ (8592 ≤ n ∧ n ≤ 11263) ∨ (12272 ≤ n ∧ n ≤ 12288) ∨ (55296 ≤ n ∧ n ≤ 63743) ∨ (64976 ≤ n ∧ n ≤ 65007) ∨ (65534 ≤ n ∧ n ≤ 65535)) := by
  simp only [own_g48, own_g55, own_g62, own_g75, own_g82, own_g95, own_g108, own_g121, own_g134, own_g145, own_g156, Bool.or_eq_true, own_in_iff, decide_eq_true_eq, ← Int32.toInt_inj, hn, show (0 : Int32).toInt = 0 by decide, show (65 : Int32).toInt = 65 by decide, show (90 : Int32).toInt = 90 by decide, show (95 : Int32).toInt = 95 by decide, show (97 : Int32).toInt = 97 by decide, show (122 : Int32).toInt = 122 by decide, show (192 : Int32).toInt = 192 by decide, show (214 : Int32).toInt = 214 by decide, show (215 : Int32).toInt = 215 by decide, show (216 : Int32).toInt = 216 by decide, show (246 : Int32).toInt = 246 by decide, show (247 : Int32).toInt = 247 by decide, show (248 : Int32).toInt = 248 by decide, show (767 : Int32).toInt = 767 by decide, show (768 : Int32).toInt = 768 by decide, show (879 : Int32).toInt = 879 by decide, show (880 : Int32).toInt = 880 by decide, show (893 : Int32).toInt = 893 by decide, show (894 : Int32).toInt = 894 by decide, show (895 : Int32).toInt = 895 by decide, show (8191 : Int32).toInt = 8191 by decide, show (8192 : Int32).toInt = 8192 by decide, show (8203 : Int32).toInt = 8203 by decide, show (8204 : Int32).toInt = 8204 by decide, show (8205 : Int32).toInt = 8205 by decide, show (8206 : Int32).toInt = 8206 by decide, show (8303 : Int32).toInt = 8303 by decide, show (8304 : Int32).toInt = 8304 by decide, show (8591 : Int32).toInt = 8591 by decide, show (8592 : Int32).toInt = 8592 by decide, show (11263 : Int32).toInt = 11263 by decide, show (11264 : Int32).toInt = 11264 by decide, show (12271 : Int32).toInt = 12271 by decide, show (12272 : Int32).toInt = 12272 by decide, show (12288 : Int32).toInt = 12288 by decide, show (12289 : Int32).toInt = 12289 by decide, show (55295 : Int32).toInt = 55295 by decide, show (55296 : Int32).toInt = 55296 by decide, show (63743 : Int32).toInt = 63743 by decide, show (63744 : Int32).toInt = 63744 by decide, show (64975 : Int32).toInt = 64975 by decide, show (64976 : Int32).toInt = 64976 by decide, show (65007 : Int32).toInt = 65007 by decide, show (65008 : Int32).toInt = 65008 by decide, show (65533 : Int32).toInt = 65533 by decide, show (65534 : Int32).toInt = 65534 by decide, show (65535 : Int32).toInt = 65535 by decide, show (65536 : Int32).toInt = 65536 by decide, show (983039 : Int32).toInt = 983039 by decide, Bool.false_eq_true, or_false]
theorem own_mid (n : Int) (h1 : 192 ≤ n) (h2 : n ≤ 65535) : ((97 ≤ n ∧ n ≤ 122) ∨ (65 ≤ n ∧ n ≤ 90) ∨ n = 95 ∨ (192 ≤ n ∧ n ≤ 214) ∨ (216 ≤ n ∧ n ≤ 246) ∨ (248 ≤ n ∧ n ≤ 767) ∨ (880 ≤ n ∧ n ≤ 893) ∨ (895 ≤ n ∧ n ≤ 8191) ∨ (8204 ≤ n ∧ n ≤ 8205) ∨ (8304 ≤ n ∧ n ≤ 8591) ∨ (11264 ≤ n ∧ n ≤ 12271) ∨ (12289 ≤ n ∧ n ≤ 55295) ∨ (63744 ≤ n ∧ n ≤ 64975) ∨ (65008 ≤ n ∧ n ≤ 65533) ∨ (65536 ≤ n ∧ n ≤ 983039)) ↔ ¬ (n = 215 ∨ n = 247 ∨ (768 ≤ n ∧ n ≤ 879) ∨ n = 894 ∨ (8192 ≤ n ∧ n ≤ 8203) ∨ (8206 ≤ n ∧ n ≤ 8303) ∨ (8592 ≤ n ∧ n ≤ 11263) ∨ (12272 ≤ n ∧ n ≤ 12288) ∨ (55296 ≤ n ∧ n ≤ 63743) ∨ (64976 ≤ n ∧ n ≤ 65007) ∨ (65534 ≤ n ∧ n ≤ 65535)) := by
  by_cases h214 : n ≤ 214
  · exact ⟨fun _ => by omega, fun _ => (Or.inr (Or.inr (Or.inr (Or.inl ⟨by omega, by omega⟩))))⟩
  by_cases h215 : n ≤ 215
  · exact ⟨fun _ => by omega, fun q => absurd (Or.inl (by omega)) q⟩
  by_cases h246 : n ≤ 246
  · exact ⟨fun _ => by omega, fun _ => (Or.inr (Or.inr (Or.inr (Or.inr (Or.inl ⟨by omega, by omega⟩)))))⟩
  by_cases h247 : n ≤ 247
  · exact ⟨fun _ => by omega, fun q => absurd (Or.inr (Or.inl (by omega))) q⟩
  by_cases h767 : n ≤ 767
  · exact ⟨fun _ => by omega, fun _ => (Or.inr (Or.inr (Or.inr (Or.inr (Or.inr (Or.inl ⟨by omega, by omega⟩))))))⟩
  by_cases h879 : n ≤ 879
  · exact ⟨fun _ => by omega, fun q => absurd (Or.inr (Or.inr (Or.inl ⟨by omega, by omega⟩))) q⟩
  by_cases h893 : n ≤ 893
  · exact ⟨fun _ => by omega, fun _ => (Or.inr (Or.inr (Or.inr (Or.inr (Or.inr (Or.inr (Or.inl ⟨by omega, by omega⟩)))))))⟩
  by_cases h894 : n ≤ 894
  · exact ⟨fun _ => by omega, fun q => absurd (Or.inr (Or.inr (Or.inr (Or.inl (by omega))))) q⟩
  by_cases h8191 : n ≤ 8191
  · exact ⟨fun _ => by omega, fun _ => (Or.inr (Or.inr (Or.inr (Or.inr (Or.inr (Or.inr (Or.inr (Or.inl ⟨by omega, by omega⟩))))))))⟩
  by_cases h8203 : n ≤ 8203
  · exact ⟨fun _ => by omega, fun q => absurd (Or.inr (Or.inr (Or.inr (Or.inr (Or.inl ⟨by omega, by omega⟩))))) q⟩
  by_cases h8205 : n ≤ 8205
  · exact ⟨fun _ => by omega, fun _ => (Or.inr (Or.inr (Or.inr (Or.inr (Or.inr (Or.inr (Or.inr (Or.inr (Or.inl ⟨by omega, by omega⟩)))))))))⟩
  by_cases h8303 : n ≤ 8303
  · exact ⟨fun _ => by omega, fun q => absurd (Or.inr (Or.inr (Or.inr (Or.inr (Or.inr (Or.inl ⟨by omega, by omega⟩)))))) q⟩
  by_cases h8591 : n ≤ 8591
  · exact ⟨fun _ => by omega, fun _ => (Or.inr (Or.inr (Or.inr (Or.inr (Or.inr (Or.inr (Or.inr (Or.inr (Or.inr (Or.inl ⟨by omega, by omega⟩))))))))))⟩
  by_cases h11263 : n ≤ 11263
  · exact ⟨fun _ => by omega, fun q => absurd (Or.inr (Or.inr (Or.inr (Or.inr (Or.inr (Or.inr (Or.inl ⟨by omega, by omega⟩))))))) q⟩
  by_cases h12271 : n ≤ 12271
  · exact ⟨fun _ => by omega, fun _ => (Or.inr (Or.inr (Or.inr (Or.inr (Or.inr (Or.inr (Or.inr (Or.inr (Or.inr (Or.inr (Or.inl ⟨by omega, by omega⟩)))))))))))⟩
  by_cases h12288 : n ≤ 12288
  · exact ⟨fun _ => by omega, fun q => absurd (Or.inr (Or.inr (Or.inr (Or.inr (Or.inr (Or.inr (Or.inr (Or.inl ⟨by omega, by omega⟩)))))))) q⟩
  by_cases h55295 : n ≤ 55295
  · exact ⟨fun _ => by omega, fun _ => (Or.inr (Or.inr (Or.inr (Or.inr (Or.inr (Or.inr (Or.inr (Or.inr (Or.inr (Or.inr (Or.inr (Or.inl ⟨by omega, by omega⟩))))))))))))⟩
  by_cases h63743 : n ≤ 63743
  · exact ⟨fun _ => by omega, fun q => absurd (Or.inr (Or.inr (Or.inr (Or.inr (Or.inr (Or.inr (Or.inr (Or.inr (Or.inl ⟨by omega, by omega⟩))))))))) q⟩
  by_cases h64975 : n ≤ 64975
  · exact ⟨fun _ => by omega, fun _ => (Or.inr (Or.inr (Or.inr (Or.inr (Or.inr (Or.inr (Or.inr (Or.inr (Or.inr (Or.inr (Or.inr (Or.inr (Or.inl ⟨by omega, by omega⟩)))))))))))))⟩
  by_cases h65007 : n ≤ 65007
  · exact ⟨fun _ => by omega, fun q => absurd (Or.inr (Or.inr (Or.inr (Or.inr (Or.inr (Or.inr (Or.inr (Or.inr (Or.inr (Or.inl ⟨by omega, by omega⟩)))))))))) q⟩
  by_cases h65533 : n ≤ 65533
  · exact ⟨fun _ => by omega, fun _ => (Or.inr (Or.inr (Or.inr (Or.inr (Or.inr (Or.inr (Or.inr (Or.inr (Or.inr (Or.inr (Or.inr (Or.inr (Or.inr (Or.inl ⟨by omega, by omega⟩))))))))))))))⟩
  by_cases h65535 : n ≤ 65535
  · exact ⟨fun _ => by omega, fun q => absurd (Or.inr (Or.inr (Or.inr (Or.inr (Or.inr (Or.inr (Or.inr (Or.inr (Or.inr (Or.inr ⟨by omega, by omega⟩)))))))))) q⟩
  exact absurd h2 (by omega)
theorem own_small : ∀ i : Fin 192, own_n0 (Int32.ofNat i.1) = own_low (Int32.ofNat i.1) := by decide +kernel
theorem own_same (x : Int32) : own_n0 x = own_ref x := by
  unfold own_ref
  by_cases h0 : x < (0 : Int32)
  · rw [if_pos h0]
    rw [Int32.lt_iff_toInt_lt, show (0 : Int32).toInt = 0 by decide] at h0
    rw [Bool.eq_false_iff, Ne, own_n_iff x _ rfl]
    omega
  rw [if_neg h0]
  rw [Int32.lt_iff_toInt_lt, show (0 : Int32).toInt = 0 by decide] at h0
  by_cases h1 : x < (192 : Int32)
  · rw [if_pos h1]
    rw [Int32.lt_iff_toInt_lt, show (192 : Int32).toInt = 192 by decide] at h1
    have e : x = Int32.ofNat x.toInt.toNat := by
      apply Int32.toInt_inj.mp
      rw [Int32.toInt_ofNat_small (by omega)]
      omega
    rw [e]
    exact own_small ⟨x.toInt.toNat, by omega⟩
  rw [if_neg h1]
  rw [Int32.lt_iff_toInt_lt, show (192 : Int32).toInt = 192 by decide] at h1
  by_cases h2 : (65535 : Int32) < x
  · rw [if_pos h2]
    rw [Int32.lt_iff_toInt_lt, show (65535 : Int32).toInt = 65535 by decide] at h2
    rw [Bool.eq_iff_iff, own_n_iff x _ rfl, Bool.not_eq_true', decide_eq_false_iff_not, Int32.lt_iff_toInt_lt, show (983039 : Int32).toInt = 983039 by decide]
    omega
  rw [if_neg h2]
  rw [Int32.lt_iff_toInt_lt, show (65535 : Int32).toInt = 65535 by decide] at h2
  rw [Bool.eq_iff_iff, own_n_iff x _ rfl, Bool.not_eq_true', ← Bool.not_eq_true, own_g_iff x _ rfl]
  exact own_mid _ (by omega) (by omega)

theorem pd_1 : parseMethodDescriptor "(I)Z" = some ⟨[.int], some .boolean⟩ := by decide +kernel
theorem ef_rm0 (m : MethodId) (x0 : Int32) (x1 : Int32) (x2 : Int32) : entryFrame m #[(.int x0), (.int x1), (.int x2)] maxLocals = mkF m 0 #[.val (.int x0), .val (.int x1), .val (.int x2), .unset, .unset] [] := by first | (simp [entryFrame, mkF, argsToLocals, Value.category, maxLocals]; done) | rfl
def Q0 (Z : State) (p0 : Int32) (p1 : Int32) (p2 : Int32) (h0 : Heap) (n0 : Nat) (v : Option Value) (h : Heap) (L : List Loc) : Prop := v = some (.int 1) ∧ Fr n0 L
set_option maxRecDepth 65536 in
set_option maxHeartbeats 40000000 in
theorem rm0 (l : Launch) (Z : State) (aw : Array Value) (hw : ∀ d ∈ tables_1, d.before aw Z = true) (ws : List Jvm.Cond) (p0 : Int32) (p1 : Int32) (p2 : Int32) (h0 : Heap) (n0 : Nat) (Z0 : n0 ≤ h0.size) :
    MetFree l x (head1 (Jvm.Cond.code x code maxLocals ret :: ws) room_1) (fun a U => a = #[(.int p0), (.int p1), (.int p2)] ∧ Z.Warmed39 U.vm ∧ U.heap = h0) (fun _ _ _ _ _ => True) (fun _ U oc U' => ∃ v L, oc = .returned v ∧ Q0 Z p0 p1 p2 h0 n0 v U'.heap L ∧ FrameEnd U oc U' L room_1.cells room_1.slots) := by
  refine MetFree.of_bodySF (plainFor_of_name pn_0) hisR ?_
  intro p e s m args below meth c s₁ Bd hml0 hP hK
  obtain ⟨rfl, hZ, hh⟩ := hP
  have hx := Bd.exec
  have hby := Bd.bytes
  have hml : c.maxLocals = 5 := hml0
  have hown : s.vm.findClass "com/example/compact_path/compactpath/reading/XmlNamesIsNameStartPinLaw" = some m.cls := findClass_of_methodNamed Bd.named
  have hnm := (name_of_methodNamed Bd.named Bd.method).1
  have X0 : Stand p l e room_1 s m #[(.int p0), (.int p1), (.int p2)] below meth c s₁ [] 0 0 := Stand.of_body Bd
  have e0 : s₁.heap = h0 := by rw [← hh, Bd.state]; rfl
  have N0 := Fr.nil n0
  have pre0 : ∀ t, Steps p.tables e below (s₁.setTop (mkF m 0 #[.val (.int p0), .val (.int p1), .val (.int p2), .unset, .unset] [])) t → Steps p.tables e below (s₁.setTop (entryFrame m #[(.int p0), (.int p1), (.int p2)] maxLocals)) t := fun t k => castTop (ef_rm0 m p0 p1 p2) k
  obtain ⟨T101, h101, k101, X101, e101, E101, A101, st101⟩ := newP X0 hx hZ (hw _ (List.mem_of_getElem? (i := 0) rfl)) e0 (g := (mkF m 2 #[.val (.int p0), .val (.int p1), .val (.int p2), .unset, .unset] [(.int (37 : Int32))])) rfl (hb hby at_2) rfl (by decide) (cap := 37) (by decide) (by decide) (by decide) (by decide)
  obtain ⟨b101, g101⟩ : ∃ z, z = h0.size := ⟨_, rfl⟩
  rw [← g101] at A101 st101
  have ge101 : n0 ≤ b101 := Nat.le_trans Z0 (Nat.le_of_eq g101.symm)
  have sz101 : h0.size ≤ b101 := Nat.le_of_eq g101.symm
  have Z101 : n0 ≤ h101.size := Nat.le_trans Z0 E101.1
  have K101 : Keep h0 h101 [] := (Keep.refl h0 []).ext E101
  have V101 : Arv Z h101 b101 k101 .int (37 : Int32) [(.int (0 : Int32)), (.int (0 : Int32)), (.int (0 : Int32)), (.int (0 : Int32)), (.int (0 : Int32)), (.int (0 : Int32)), (.int (0 : Int32)), (.int (0 : Int32)), (.int (0 : Int32)), (.int (0 : Int32)), (.int (0 : Int32)), (.int (0 : Int32)), (.int (0 : Int32)), (.int (0 : Int32)), (.int (0 : Int32)), (.int (0 : Int32)), (.int (0 : Int32)), (.int (0 : Int32)), (.int (0 : Int32)), (.int (0 : Int32)), (.int (0 : Int32)), (.int (0 : Int32)), (.int (0 : Int32)), (.int (0 : Int32)), (.int (0 : Int32)), (.int (0 : Int32)), (.int (0 : Int32)), (.int (0 : Int32)), (.int (0 : Int32)), (.int (0 : Int32)), (.int (0 : Int32)), (.int (0 : Int32)), (.int (0 : Int32)), (.int (0 : Int32)), (.int (0 : Int32)), (.int (0 : Int32)), (.int (0 : Int32))] (.int (0 : Int32)) := (Arv.new A101 (by decide)).pad (pad_rep [] (.int (0 : Int32)) 37)
  obtain ⟨cl102, Ar102, q102, S102, M102, H102, G102⟩ := id V101
  obtain ⟨T103, h103, X103, e103, W103, st103⟩ := stI X101 hx hZ e101 Ar102 (j := (0 : Int32)) (inb_of S102 ⟨by decide, by decide⟩) (g := (mkF m 7 #[.val (.int p0), .val (.int p1), .val (.int p2), .unset, .unset] [(.int (0 : Int32)), (.int (0 : Int32)), (.ref b101), (.ref b101)])) rfl rfl (hb hby at_7)
  have V103 := Arv.set Ar102 q102 S102 M102 H102 G102 rfl W103 0 rfl (Nat.le_of_ble_eq_true rfl)
  have K103 : Keep h0 h103 [] := K101.wr W103 (Or.inr sz101)
  have N103 := Fr.snoc X103 N0 ge101
  have Z103 : n0 ≤ h103.size := Nat.le_trans Z101 (Keep.of_wr W103).1
  have V103b : Arv Z h103 b101 k101 .int (37 : Int32) [(.int (0 : Int32)), (.int (0 : Int32)), (.int (0 : Int32)), (.int (0 : Int32)), (.int (0 : Int32)), (.int (0 : Int32)), (.int (0 : Int32)), (.int (0 : Int32)), (.int (0 : Int32)), (.int (0 : Int32)), (.int (0 : Int32)), (.int (0 : Int32)), (.int (0 : Int32)), (.int (0 : Int32)), (.int (0 : Int32)), (.int (0 : Int32)), (.int (0 : Int32)), (.int (0 : Int32)), (.int (0 : Int32)), (.int (0 : Int32)), (.int (0 : Int32)), (.int (0 : Int32)), (.int (0 : Int32)), (.int (0 : Int32)), (.int (0 : Int32)), (.int (0 : Int32)), (.int (0 : Int32)), (.int (0 : Int32)), (.int (0 : Int32)), (.int (0 : Int32)), (.int (0 : Int32)), (.int (0 : Int32)), (.int (0 : Int32)), (.int (0 : Int32)), (.int (0 : Int32)), (.int (0 : Int32)), (.int (0 : Int32))] (.int (0 : Int32)) := V103
  obtain ⟨cl104, Ar104, q104, S104, M104, H104, G104⟩ := id V103b
  obtain ⟨T105, h105, X105, e105, W105, st105⟩ := stI X103 hx hZ e103 Ar104 (j := (1 : Int32)) (inb_of S104 ⟨by decide, by decide⟩) (g := (mkF m 12 #[.val (.int p0), .val (.int p1), .val (.int p2), .unset, .unset] [(.int (58 : Int32)), (.int (1 : Int32)), (.ref b101), (.ref b101)])) rfl rfl (hb hby at_12)
  have V105 := Arv.set Ar104 q104 S104 M104 H104 G104 rfl W105 1 rfl (Nat.le_of_ble_eq_true rfl)
  have K105 : Keep h0 h105 [] := K103.wr W105 (Or.inr sz101)
  have N105 := Fr.snoc X105 N103 ge101
  have Z105 : n0 ≤ h105.size := Nat.le_trans Z103 (Keep.of_wr W105).1
  have V105b : Arv Z h105 b101 k101 .int (37 : Int32) [(.int (0 : Int32)), (.int (58 : Int32)), (.int (0 : Int32)), (.int (0 : Int32)), (.int (0 : Int32)), (.int (0 : Int32)), (.int (0 : Int32)), (.int (0 : Int32)), (.int (0 : Int32)), (.int (0 : Int32)), (.int (0 : Int32)), (.int (0 : Int32)), (.int (0 : Int32)), (.int (0 : Int32)), (.int (0 : Int32)), (.int (0 : Int32)), (.int (0 : Int32)), (.int (0 : Int32)), (.int (0 : Int32)), (.int (0 : Int32)), (.int (0 : Int32)), (.int (0 : Int32)), (.int (0 : Int32)), (.int (0 : Int32)), (.int (0 : Int32)), (.int (0 : Int32)), (.int (0 : Int32)), (.int (0 : Int32)), (.int (0 : Int32)), (.int (0 : Int32)), (.int (0 : Int32)), (.int (0 : Int32)), (.int (0 : Int32)), (.int (0 : Int32)), (.int (0 : Int32)), (.int (0 : Int32)), (.int (0 : Int32))] (.int (0 : Int32)) := V105
  obtain ⟨cl106, Ar106, q106, S106, M106, H106, G106⟩ := id V105b
  obtain ⟨T107, h107, X107, e107, W107, st107⟩ := stI X105 hx hZ e105 Ar106 (j := (2 : Int32)) (inb_of S106 ⟨by decide, by decide⟩) (g := (mkF m 17 #[.val (.int p0), .val (.int p1), .val (.int p2), .unset, .unset] [(.int (64 : Int32)), (.int (2 : Int32)), (.ref b101), (.ref b101)])) rfl rfl (hb hby at_17)
  have V107 := Arv.set Ar106 q106 S106 M106 H106 G106 rfl W107 2 rfl (Nat.le_of_ble_eq_true rfl)
  have K107 : Keep h0 h107 [] := K105.wr W107 (Or.inr sz101)
  have N107 := Fr.snoc X107 N105 ge101
  have Z107 : n0 ≤ h107.size := Nat.le_trans Z105 (Keep.of_wr W107).1
  have V107b : Arv Z h107 b101 k101 .int (37 : Int32) [(.int (0 : Int32)), (.int (58 : Int32)), (.int (64 : Int32)), (.int (0 : Int32)), (.int (0 : Int32)), (.int (0 : Int32)), (.int (0 : Int32)), (.int (0 : Int32)), (.int (0 : Int32)), (.int (0 : Int32)), (.int (0 : Int32)), (.int (0 : Int32)), (.int (0 : Int32)), (.int (0 : Int32)), (.int (0 : Int32)), (.int (0 : Int32)), (.int (0 : Int32)), (.int (0 : Int32)), (.int (0 : Int32)), (.int (0 : Int32)), (.int (0 : Int32)), (.int (0 : Int32)), (.int (0 : Int32)), (.int (0 : Int32)), (.int (0 : Int32)), (.int (0 : Int32)), (.int (0 : Int32)), (.int (0 : Int32)), (.int (0 : Int32)), (.int (0 : Int32)), (.int (0 : Int32)), (.int (0 : Int32)), (.int (0 : Int32)), (.int (0 : Int32)), (.int (0 : Int32)), (.int (0 : Int32)), (.int (0 : Int32))] (.int (0 : Int32)) := V107
  obtain ⟨cl108, Ar108, q108, S108, M108, H108, G108⟩ := id V107b
  obtain ⟨T109, h109, X109, e109, W109, st109⟩ := stI X107 hx hZ e107 Ar108 (j := (3 : Int32)) (inb_of S108 ⟨by decide, by decide⟩) (g := (mkF m 22 #[.val (.int p0), .val (.int p1), .val (.int p2), .unset, .unset] [(.int (65 : Int32)), (.int (3 : Int32)), (.ref b101), (.ref b101)])) rfl rfl (hb hby at_22)
  have V109 := Arv.set Ar108 q108 S108 M108 H108 G108 rfl W109 3 rfl (Nat.le_of_ble_eq_true rfl)
  have K109 : Keep h0 h109 [] := K107.wr W109 (Or.inr sz101)
  have N109 := Fr.snoc X109 N107 ge101
  have Z109 : n0 ≤ h109.size := Nat.le_trans Z107 (Keep.of_wr W109).1
  have V109b : Arv Z h109 b101 k101 .int (37 : Int32) [(.int (0 : Int32)), (.int (58 : Int32)), (.int (64 : Int32)), (.int (65 : Int32)), (.int (0 : Int32)), (.int (0 : Int32)), (.int (0 : Int32)), (.int (0 : Int32)), (.int (0 : Int32)), (.int (0 : Int32)), (.int (0 : Int32)), (.int (0 : Int32)), (.int (0 : Int32)), (.int (0 : Int32)), (.int (0 : Int32)), (.int (0 : Int32)), (.int (0 : Int32)), (.int (0 : Int32)), (.int (0 : Int32)), (.int (0 : Int32)), (.int (0 : Int32)), (.int (0 : Int32)), (.int (0 : Int32)), (.int (0 : Int32)), (.int (0 : Int32)), (.int (0 : Int32)), (.int (0 : Int32)), (.int (0 : Int32)), (.int (0 : Int32)), (.int (0 : Int32)), (.int (0 : Int32)), (.int (0 : Int32)), (.int (0 : Int32)), (.int (0 : Int32)), (.int (0 : Int32)), (.int (0 : Int32)), (.int (0 : Int32))] (.int (0 : Int32)) := V109
  obtain ⟨cl110, Ar110, q110, S110, M110, H110, G110⟩ := id V109b
  obtain ⟨T111, h111, X111, e111, W111, st111⟩ := stI X109 hx hZ e109 Ar110 (j := (4 : Int32)) (inb_of S110 ⟨by decide, by decide⟩) (g := (mkF m 27 #[.val (.int p0), .val (.int p1), .val (.int p2), .unset, .unset] [(.int (90 : Int32)), (.int (4 : Int32)), (.ref b101), (.ref b101)])) rfl rfl (hb hby at_27)
  have V111 := Arv.set Ar110 q110 S110 M110 H110 G110 rfl W111 4 rfl (Nat.le_of_ble_eq_true rfl)
  have K111 : Keep h0 h111 [] := K109.wr W111 (Or.inr sz101)
  have N111 := Fr.snoc X111 N109 ge101
  have Z111 : n0 ≤ h111.size := Nat.le_trans Z109 (Keep.of_wr W111).1
  have V111b : Arv Z h111 b101 k101 .int (37 : Int32) [(.int (0 : Int32)), (.int (58 : Int32)), (.int (64 : Int32)), (.int (65 : Int32)), (.int (90 : Int32)), (.int (0 : Int32)), (.int (0 : Int32)), (.int (0 : Int32)), (.int (0 : Int32)), (.int (0 : Int32)), (.int (0 : Int32)), (.int (0 : Int32)), (.int (0 : Int32)), (.int (0 : Int32)), (.int (0 : Int32)), (.int (0 : Int32)), (.int (0 : Int32)), (.int (0 : Int32)), (.int (0 : Int32)), (.int (0 : Int32)), (.int (0 : Int32)), (.int (0 : Int32)), (.int (0 : Int32)), (.int (0 : Int32)), (.int (0 : Int32)), (.int (0 : Int32)), (.int (0 : Int32)), (.int (0 : Int32)), (.int (0 : Int32)), (.int (0 : Int32)), (.int (0 : Int32)), (.int (0 : Int32)), (.int (0 : Int32)), (.int (0 : Int32)), (.int (0 : Int32)), (.int (0 : Int32)), (.int (0 : Int32))] (.int (0 : Int32)) := V111
  obtain ⟨cl112, Ar112, q112, S112, M112, H112, G112⟩ := id V111b
  obtain ⟨T113, h113, X113, e113, W113, st113⟩ := stI X111 hx hZ e111 Ar112 (j := (5 : Int32)) (inb_of S112 ⟨by decide, by decide⟩) (g := (mkF m 32 #[.val (.int p0), .val (.int p1), .val (.int p2), .unset, .unset] [(.int (91 : Int32)), (.int (5 : Int32)), (.ref b101), (.ref b101)])) rfl rfl (hb hby at_32)
  have V113 := Arv.set Ar112 q112 S112 M112 H112 G112 rfl W113 5 rfl (Nat.le_of_ble_eq_true rfl)
  have K113 : Keep h0 h113 [] := K111.wr W113 (Or.inr sz101)
  have N113 := Fr.snoc X113 N111 ge101
  have Z113 : n0 ≤ h113.size := Nat.le_trans Z111 (Keep.of_wr W113).1
  have V113b : Arv Z h113 b101 k101 .int (37 : Int32) [(.int (0 : Int32)), (.int (58 : Int32)), (.int (64 : Int32)), (.int (65 : Int32)), (.int (90 : Int32)), (.int (91 : Int32)), (.int (0 : Int32)), (.int (0 : Int32)), (.int (0 : Int32)), (.int (0 : Int32)), (.int (0 : Int32)), (.int (0 : Int32)), (.int (0 : Int32)), (.int (0 : Int32)), (.int (0 : Int32)), (.int (0 : Int32)), (.int (0 : Int32)), (.int (0 : Int32)), (.int (0 : Int32)), (.int (0 : Int32)), (.int (0 : Int32)), (.int (0 : Int32)), (.int (0 : Int32)), (.int (0 : Int32)), (.int (0 : Int32)), (.int (0 : Int32)), (.int (0 : Int32)), (.int (0 : Int32)), (.int (0 : Int32)), (.int (0 : Int32)), (.int (0 : Int32)), (.int (0 : Int32)), (.int (0 : Int32)), (.int (0 : Int32)), (.int (0 : Int32)), (.int (0 : Int32)), (.int (0 : Int32))] (.int (0 : Int32)) := V113
  obtain ⟨cl114, Ar114, q114, S114, M114, H114, G114⟩ := id V113b
  obtain ⟨T115, h115, X115, e115, W115, st115⟩ := stI X113 hx hZ e113 Ar114 (j := (6 : Int32)) (inb_of S114 ⟨by decide, by decide⟩) (g := (mkF m 38 #[.val (.int p0), .val (.int p1), .val (.int p2), .unset, .unset] [(.int (95 : Int32)), (.int (6 : Int32)), (.ref b101), (.ref b101)])) rfl rfl (hb hby at_38)
  have V115 := Arv.set Ar114 q114 S114 M114 H114 G114 rfl W115 6 rfl (Nat.le_of_ble_eq_true rfl)
  have K115 : Keep h0 h115 [] := K113.wr W115 (Or.inr sz101)
  have N115 := Fr.snoc X115 N113 ge101
  have Z115 : n0 ≤ h115.size := Nat.le_trans Z113 (Keep.of_wr W115).1
  have V115b : Arv Z h115 b101 k101 .int (37 : Int32) [(.int (0 : Int32)), (.int (58 : Int32)), (.int (64 : Int32)), (.int (65 : Int32)), (.int (90 : Int32)), (.int (91 : Int32)), (.int (95 : Int32)), (.int (0 : Int32)), (.int (0 : Int32)), (.int (0 : Int32)), (.int (0 : Int32)), (.int (0 : Int32)), (.int (0 : Int32)), (.int (0 : Int32)), (.int (0 : Int32)), (.int (0 : Int32)), (.int (0 : Int32)), (.int (0 : Int32)), (.int (0 : Int32)), (.int (0 : Int32)), (.int (0 : Int32)), (.int (0 : Int32)), (.int (0 : Int32)), (.int (0 : Int32)), (.int (0 : Int32)), (.int (0 : Int32)), (.int (0 : Int32)), (.int (0 : Int32)), (.int (0 : Int32)), (.int (0 : Int32)), (.int (0 : Int32)), (.int (0 : Int32)), (.int (0 : Int32)), (.int (0 : Int32)), (.int (0 : Int32)), (.int (0 : Int32)), (.int (0 : Int32))] (.int (0 : Int32)) := V115
  obtain ⟨cl116, Ar116, q116, S116, M116, H116, G116⟩ := id V115b
  obtain ⟨T117, h117, X117, e117, W117, st117⟩ := stI X115 hx hZ e115 Ar116 (j := (7 : Int32)) (inb_of S116 ⟨by decide, by decide⟩) (g := (mkF m 44 #[.val (.int p0), .val (.int p1), .val (.int p2), .unset, .unset] [(.int (96 : Int32)), (.int (7 : Int32)), (.ref b101), (.ref b101)])) rfl rfl (hb hby at_44)
  have V117 := Arv.set Ar116 q116 S116 M116 H116 G116 rfl W117 7 rfl (Nat.le_of_ble_eq_true rfl)
  have K117 : Keep h0 h117 [] := K115.wr W117 (Or.inr sz101)
  have N117 := Fr.snoc X117 N115 ge101
  have Z117 : n0 ≤ h117.size := Nat.le_trans Z115 (Keep.of_wr W117).1
  have V117b : Arv Z h117 b101 k101 .int (37 : Int32) [(.int (0 : Int32)), (.int (58 : Int32)), (.int (64 : Int32)), (.int (65 : Int32)), (.int (90 : Int32)), (.int (91 : Int32)), (.int (95 : Int32)), (.int (96 : Int32)), (.int (0 : Int32)), (.int (0 : Int32)), (.int (0 : Int32)), (.int (0 : Int32)), (.int (0 : Int32)), (.int (0 : Int32)), (.int (0 : Int32)), (.int (0 : Int32)), (.int (0 : Int32)), (.int (0 : Int32)), (.int (0 : Int32)), (.int (0 : Int32)), (.int (0 : Int32)), (.int (0 : Int32)), (.int (0 : Int32)), (.int (0 : Int32)), (.int (0 : Int32)), (.int (0 : Int32)), (.int (0 : Int32)), (.int (0 : Int32)), (.int (0 : Int32)), (.int (0 : Int32)), (.int (0 : Int32)), (.int (0 : Int32)), (.int (0 : Int32)), (.int (0 : Int32)), (.int (0 : Int32)), (.int (0 : Int32)), (.int (0 : Int32))] (.int (0 : Int32)) := V117
  obtain ⟨cl118, Ar118, q118, S118, M118, H118, G118⟩ := id V117b
  obtain ⟨T119, h119, X119, e119, W119, st119⟩ := stI X117 hx hZ e117 Ar118 (j := (8 : Int32)) (inb_of S118 ⟨by decide, by decide⟩) (g := (mkF m 50 #[.val (.int p0), .val (.int p1), .val (.int p2), .unset, .unset] [(.int (97 : Int32)), (.int (8 : Int32)), (.ref b101), (.ref b101)])) rfl rfl (hb hby at_50)
  have V119 := Arv.set Ar118 q118 S118 M118 H118 G118 rfl W119 8 rfl (Nat.le_of_ble_eq_true rfl)
  have K119 : Keep h0 h119 [] := K117.wr W119 (Or.inr sz101)
  have N119 := Fr.snoc X119 N117 ge101
  have Z119 : n0 ≤ h119.size := Nat.le_trans Z117 (Keep.of_wr W119).1
  have V119b : Arv Z h119 b101 k101 .int (37 : Int32) [(.int (0 : Int32)), (.int (58 : Int32)), (.int (64 : Int32)), (.int (65 : Int32)), (.int (90 : Int32)), (.int (91 : Int32)), (.int (95 : Int32)), (.int (96 : Int32)), (.int (97 : Int32)), (.int (0 : Int32)), (.int (0 : Int32)), (.int (0 : Int32)), (.int (0 : Int32)), (.int (0 : Int32)), (.int (0 : Int32)), (.int (0 : Int32)), (.int (0 : Int32)), (.int (0 : Int32)), (.int (0 : Int32)), (.int (0 : Int32)), (.int (0 : Int32)), (.int (0 : Int32)), (.int (0 : Int32)), (.int (0 : Int32)), (.int (0 : Int32)), (.int (0 : Int32)), (.int (0 : Int32)), (.int (0 : Int32)), (.int (0 : Int32)), (.int (0 : Int32)), (.int (0 : Int32)), (.int (0 : Int32)), (.int (0 : Int32)), (.int (0 : Int32)), (.int (0 : Int32)), (.int (0 : Int32)), (.int (0 : Int32))] (.int (0 : Int32)) := V119
  obtain ⟨cl120, Ar120, q120, S120, M120, H120, G120⟩ := id V119b
  obtain ⟨T121, h121, X121, e121, W121, st121⟩ := stI X119 hx hZ e119 Ar120 (j := (9 : Int32)) (inb_of S120 ⟨by decide, by decide⟩) (g := (mkF m 56 #[.val (.int p0), .val (.int p1), .val (.int p2), .unset, .unset] [(.int (122 : Int32)), (.int (9 : Int32)), (.ref b101), (.ref b101)])) rfl rfl (hb hby at_56)
  have V121 := Arv.set Ar120 q120 S120 M120 H120 G120 rfl W121 9 rfl (Nat.le_of_ble_eq_true rfl)
  have K121 : Keep h0 h121 [] := K119.wr W121 (Or.inr sz101)
  have N121 := Fr.snoc X121 N119 ge101
  have Z121 : n0 ≤ h121.size := Nat.le_trans Z119 (Keep.of_wr W121).1
  have V121b : Arv Z h121 b101 k101 .int (37 : Int32) [(.int (0 : Int32)), (.int (58 : Int32)), (.int (64 : Int32)), (.int (65 : Int32)), (.int (90 : Int32)), (.int (91 : Int32)), (.int (95 : Int32)), (.int (96 : Int32)), (.int (97 : Int32)), (.int (122 : Int32)), (.int (0 : Int32)), (.int (0 : Int32)), (.int (0 : Int32)), (.int (0 : Int32)), (.int (0 : Int32)), (.int (0 : Int32)), (.int (0 : Int32)), (.int (0 : Int32)), (.int (0 : Int32)), (.int (0 : Int32)), (.int (0 : Int32)), (.int (0 : Int32)), (.int (0 : Int32)), (.int (0 : Int32)), (.int (0 : Int32)), (.int (0 : Int32)), (.int (0 : Int32)), (.int (0 : Int32)), (.int (0 : Int32)), (.int (0 : Int32)), (.int (0 : Int32)), (.int (0 : Int32)), (.int (0 : Int32)), (.int (0 : Int32)), (.int (0 : Int32)), (.int (0 : Int32)), (.int (0 : Int32))] (.int (0 : Int32)) := V121
  obtain ⟨cl122, Ar122, q122, S122, M122, H122, G122⟩ := id V121b
  obtain ⟨T123, h123, X123, e123, W123, st123⟩ := stI X121 hx hZ e121 Ar122 (j := (10 : Int32)) (inb_of S122 ⟨by decide, by decide⟩) (g := (mkF m 62 #[.val (.int p0), .val (.int p1), .val (.int p2), .unset, .unset] [(.int (123 : Int32)), (.int (10 : Int32)), (.ref b101), (.ref b101)])) rfl rfl (hb hby at_62)
  have V123 := Arv.set Ar122 q122 S122 M122 H122 G122 rfl W123 10 rfl (Nat.le_of_ble_eq_true rfl)
  have K123 : Keep h0 h123 [] := K121.wr W123 (Or.inr sz101)
  have N123 := Fr.snoc X123 N121 ge101
  have Z123 : n0 ≤ h123.size := Nat.le_trans Z121 (Keep.of_wr W123).1
  have V123b : Arv Z h123 b101 k101 .int (37 : Int32) [(.int (0 : Int32)), (.int (58 : Int32)), (.int (64 : Int32)), (.int (65 : Int32)), (.int (90 : Int32)), (.int (91 : Int32)), (.int (95 : Int32)), (.int (96 : Int32)), (.int (97 : Int32)), (.int (122 : Int32)), (.int (123 : Int32)), (.int (0 : Int32)), (.int (0 : Int32)), (.int (0 : Int32)), (.int (0 : Int32)), (.int (0 : Int32)), (.int (0 : Int32)), (.int (0 : Int32)), (.int (0 : Int32)), (.int (0 : Int32)), (.int (0 : Int32)), (.int (0 : Int32)), (.int (0 : Int32)), (.int (0 : Int32)), (.int (0 : Int32)), (.int (0 : Int32)), (.int (0 : Int32)), (.int (0 : Int32)), (.int (0 : Int32)), (.int (0 : Int32)), (.int (0 : Int32)), (.int (0 : Int32)), (.int (0 : Int32)), (.int (0 : Int32)), (.int (0 : Int32)), (.int (0 : Int32)), (.int (0 : Int32))] (.int (0 : Int32)) := V123
  obtain ⟨cl124, Ar124, q124, S124, M124, H124, G124⟩ := id V123b
  obtain ⟨T125, h125, X125, e125, W125, st125⟩ := stI X123 hx hZ e123 Ar124 (j := (11 : Int32)) (inb_of S124 ⟨by decide, by decide⟩) (g := (mkF m 69 #[.val (.int p0), .val (.int p1), .val (.int p2), .unset, .unset] [(.int (183 : Int32)), (.int (11 : Int32)), (.ref b101), (.ref b101)])) rfl rfl (hb hby at_69)
  have V125 := Arv.set Ar124 q124 S124 M124 H124 G124 rfl W125 11 rfl (Nat.le_of_ble_eq_true rfl)
  have K125 : Keep h0 h125 [] := K123.wr W125 (Or.inr sz101)
  have N125 := Fr.snoc X125 N123 ge101
  have Z125 : n0 ≤ h125.size := Nat.le_trans Z123 (Keep.of_wr W125).1
  have V125b : Arv Z h125 b101 k101 .int (37 : Int32) [(.int (0 : Int32)), (.int (58 : Int32)), (.int (64 : Int32)), (.int (65 : Int32)), (.int (90 : Int32)), (.int (91 : Int32)), (.int (95 : Int32)), (.int (96 : Int32)), (.int (97 : Int32)), (.int (122 : Int32)), (.int (123 : Int32)), (.int (183 : Int32)), (.int (0 : Int32)), (.int (0 : Int32)), (.int (0 : Int32)), (.int (0 : Int32)), (.int (0 : Int32)), (.int (0 : Int32)), (.int (0 : Int32)), (.int (0 : Int32)), (.int (0 : Int32)), (.int (0 : Int32)), (.int (0 : Int32)), (.int (0 : Int32)), (.int (0 : Int32)), (.int (0 : Int32)), (.int (0 : Int32)), (.int (0 : Int32)), (.int (0 : Int32)), (.int (0 : Int32)), (.int (0 : Int32)), (.int (0 : Int32)), (.int (0 : Int32)), (.int (0 : Int32)), (.int (0 : Int32)), (.int (0 : Int32)), (.int (0 : Int32))] (.int (0 : Int32)) := V125
  obtain ⟨cl126, Ar126, q126, S126, M126, H126, G126⟩ := id V125b
  obtain ⟨T127, h127, X127, e127, W127, st127⟩ := stI X125 hx hZ e125 Ar126 (j := (12 : Int32)) (inb_of S126 ⟨by decide, by decide⟩) (g := (mkF m 76 #[.val (.int p0), .val (.int p1), .val (.int p2), .unset, .unset] [(.int (192 : Int32)), (.int (12 : Int32)), (.ref b101), (.ref b101)])) rfl rfl (hb hby at_76)
  have V127 := Arv.set Ar126 q126 S126 M126 H126 G126 rfl W127 12 rfl (Nat.le_of_ble_eq_true rfl)
  have K127 : Keep h0 h127 [] := K125.wr W127 (Or.inr sz101)
  have N127 := Fr.snoc X127 N125 ge101
  have Z127 : n0 ≤ h127.size := Nat.le_trans Z125 (Keep.of_wr W127).1
  have V127b : Arv Z h127 b101 k101 .int (37 : Int32) [(.int (0 : Int32)), (.int (58 : Int32)), (.int (64 : Int32)), (.int (65 : Int32)), (.int (90 : Int32)), (.int (91 : Int32)), (.int (95 : Int32)), (.int (96 : Int32)), (.int (97 : Int32)), (.int (122 : Int32)), (.int (123 : Int32)), (.int (183 : Int32)), (.int (192 : Int32)), (.int (0 : Int32)), (.int (0 : Int32)), (.int (0 : Int32)), (.int (0 : Int32)), (.int (0 : Int32)), (.int (0 : Int32)), (.int (0 : Int32)), (.int (0 : Int32)), (.int (0 : Int32)), (.int (0 : Int32)), (.int (0 : Int32)), (.int (0 : Int32)), (.int (0 : Int32)), (.int (0 : Int32)), (.int (0 : Int32)), (.int (0 : Int32)), (.int (0 : Int32)), (.int (0 : Int32)), (.int (0 : Int32)), (.int (0 : Int32)), (.int (0 : Int32)), (.int (0 : Int32)), (.int (0 : Int32)), (.int (0 : Int32))] (.int (0 : Int32)) := V127
  obtain ⟨cl128, Ar128, q128, S128, M128, H128, G128⟩ := id V127b
  obtain ⟨T129, h129, X129, e129, W129, st129⟩ := stI X127 hx hZ e127 Ar128 (j := (13 : Int32)) (inb_of S128 ⟨by decide, by decide⟩) (g := (mkF m 83 #[.val (.int p0), .val (.int p1), .val (.int p2), .unset, .unset] [(.int (214 : Int32)), (.int (13 : Int32)), (.ref b101), (.ref b101)])) rfl rfl (hb hby at_83)
  have V129 := Arv.set Ar128 q128 S128 M128 H128 G128 rfl W129 13 rfl (Nat.le_of_ble_eq_true rfl)
  have K129 : Keep h0 h129 [] := K127.wr W129 (Or.inr sz101)
  have N129 := Fr.snoc X129 N127 ge101
  have Z129 : n0 ≤ h129.size := Nat.le_trans Z127 (Keep.of_wr W129).1
  have V129b : Arv Z h129 b101 k101 .int (37 : Int32) [(.int (0 : Int32)), (.int (58 : Int32)), (.int (64 : Int32)), (.int (65 : Int32)), (.int (90 : Int32)), (.int (91 : Int32)), (.int (95 : Int32)), (.int (96 : Int32)), (.int (97 : Int32)), (.int (122 : Int32)), (.int (123 : Int32)), (.int (183 : Int32)), (.int (192 : Int32)), (.int (214 : Int32)), (.int (0 : Int32)), (.int (0 : Int32)), (.int (0 : Int32)), (.int (0 : Int32)), (.int (0 : Int32)), (.int (0 : Int32)), (.int (0 : Int32)), (.int (0 : Int32)), (.int (0 : Int32)), (.int (0 : Int32)), (.int (0 : Int32)), (.int (0 : Int32)), (.int (0 : Int32)), (.int (0 : Int32)), (.int (0 : Int32)), (.int (0 : Int32)), (.int (0 : Int32)), (.int (0 : Int32)), (.int (0 : Int32)), (.int (0 : Int32)), (.int (0 : Int32)), (.int (0 : Int32)), (.int (0 : Int32))] (.int (0 : Int32)) := V129
  obtain ⟨cl130, Ar130, q130, S130, M130, H130, G130⟩ := id V129b
  obtain ⟨T131, h131, X131, e131, W131, st131⟩ := stI X129 hx hZ e129 Ar130 (j := (14 : Int32)) (inb_of S130 ⟨by decide, by decide⟩) (g := (mkF m 90 #[.val (.int p0), .val (.int p1), .val (.int p2), .unset, .unset] [(.int (216 : Int32)), (.int (14 : Int32)), (.ref b101), (.ref b101)])) rfl rfl (hb hby at_90)
  have V131 := Arv.set Ar130 q130 S130 M130 H130 G130 rfl W131 14 rfl (Nat.le_of_ble_eq_true rfl)
  have K131 : Keep h0 h131 [] := K129.wr W131 (Or.inr sz101)
  have N131 := Fr.snoc X131 N129 ge101
  have Z131 : n0 ≤ h131.size := Nat.le_trans Z129 (Keep.of_wr W131).1
  have V131b : Arv Z h131 b101 k101 .int (37 : Int32) [(.int (0 : Int32)), (.int (58 : Int32)), (.int (64 : Int32)), (.int (65 : Int32)), (.int (90 : Int32)), (.int (91 : Int32)), (.int (95 : Int32)), (.int (96 : Int32)), (.int (97 : Int32)), (.int (122 : Int32)), (.int (123 : Int32)), (.int (183 : Int32)), (.int (192 : Int32)), (.int (214 : Int32)), (.int (216 : Int32)), (.int (0 : Int32)), (.int (0 : Int32)), (.int (0 : Int32)), (.int (0 : Int32)), (.int (0 : Int32)), (.int (0 : Int32)), (.int (0 : Int32)), (.int (0 : Int32)), (.int (0 : Int32)), (.int (0 : Int32)), (.int (0 : Int32)), (.int (0 : Int32)), (.int (0 : Int32)), (.int (0 : Int32)), (.int (0 : Int32)), (.int (0 : Int32)), (.int (0 : Int32)), (.int (0 : Int32)), (.int (0 : Int32)), (.int (0 : Int32)), (.int (0 : Int32)), (.int (0 : Int32))] (.int (0 : Int32)) := V131
  obtain ⟨cl132, Ar132, q132, S132, M132, H132, G132⟩ := id V131b
  obtain ⟨T133, h133, X133, e133, W133, st133⟩ := stI X131 hx hZ e131 Ar132 (j := (15 : Int32)) (inb_of S132 ⟨by decide, by decide⟩) (g := (mkF m 97 #[.val (.int p0), .val (.int p1), .val (.int p2), .unset, .unset] [(.int (246 : Int32)), (.int (15 : Int32)), (.ref b101), (.ref b101)])) rfl rfl (hb hby at_97)
  have V133 := Arv.set Ar132 q132 S132 M132 H132 G132 rfl W133 15 rfl (Nat.le_of_ble_eq_true rfl)
  have K133 : Keep h0 h133 [] := K131.wr W133 (Or.inr sz101)
  have N133 := Fr.snoc X133 N131 ge101
  have Z133 : n0 ≤ h133.size := Nat.le_trans Z131 (Keep.of_wr W133).1
  have V133b : Arv Z h133 b101 k101 .int (37 : Int32) [(.int (0 : Int32)), (.int (58 : Int32)), (.int (64 : Int32)), (.int (65 : Int32)), (.int (90 : Int32)), (.int (91 : Int32)), (.int (95 : Int32)), (.int (96 : Int32)), (.int (97 : Int32)), (.int (122 : Int32)), (.int (123 : Int32)), (.int (183 : Int32)), (.int (192 : Int32)), (.int (214 : Int32)), (.int (216 : Int32)), (.int (246 : Int32)), (.int (0 : Int32)), (.int (0 : Int32)), (.int (0 : Int32)), (.int (0 : Int32)), (.int (0 : Int32)), (.int (0 : Int32)), (.int (0 : Int32)), (.int (0 : Int32)), (.int (0 : Int32)), (.int (0 : Int32)), (.int (0 : Int32)), (.int (0 : Int32)), (.int (0 : Int32)), (.int (0 : Int32)), (.int (0 : Int32)), (.int (0 : Int32)), (.int (0 : Int32)), (.int (0 : Int32)), (.int (0 : Int32)), (.int (0 : Int32)), (.int (0 : Int32))] (.int (0 : Int32)) := V133
  obtain ⟨cl134, Ar134, q134, S134, M134, H134, G134⟩ := id V133b
  obtain ⟨T135, h135, X135, e135, W135, st135⟩ := stI X133 hx hZ e133 Ar134 (j := (16 : Int32)) (inb_of S134 ⟨by decide, by decide⟩) (g := (mkF m 104 #[.val (.int p0), .val (.int p1), .val (.int p2), .unset, .unset] [(.int (248 : Int32)), (.int (16 : Int32)), (.ref b101), (.ref b101)])) rfl rfl (hb hby at_104)
  have V135 := Arv.set Ar134 q134 S134 M134 H134 G134 rfl W135 16 rfl (Nat.le_of_ble_eq_true rfl)
  have K135 : Keep h0 h135 [] := K133.wr W135 (Or.inr sz101)
  have N135 := Fr.snoc X135 N133 ge101
  have Z135 : n0 ≤ h135.size := Nat.le_trans Z133 (Keep.of_wr W135).1
  have V135b : Arv Z h135 b101 k101 .int (37 : Int32) [(.int (0 : Int32)), (.int (58 : Int32)), (.int (64 : Int32)), (.int (65 : Int32)), (.int (90 : Int32)), (.int (91 : Int32)), (.int (95 : Int32)), (.int (96 : Int32)), (.int (97 : Int32)), (.int (122 : Int32)), (.int (123 : Int32)), (.int (183 : Int32)), (.int (192 : Int32)), (.int (214 : Int32)), (.int (216 : Int32)), (.int (246 : Int32)), (.int (248 : Int32)), (.int (0 : Int32)), (.int (0 : Int32)), (.int (0 : Int32)), (.int (0 : Int32)), (.int (0 : Int32)), (.int (0 : Int32)), (.int (0 : Int32)), (.int (0 : Int32)), (.int (0 : Int32)), (.int (0 : Int32)), (.int (0 : Int32)), (.int (0 : Int32)), (.int (0 : Int32)), (.int (0 : Int32)), (.int (0 : Int32)), (.int (0 : Int32)), (.int (0 : Int32)), (.int (0 : Int32)), (.int (0 : Int32)), (.int (0 : Int32))] (.int (0 : Int32)) := V135
  obtain ⟨cl136, Ar136, q136, S136, M136, H136, G136⟩ := id V135b
  obtain ⟨T137, h137, X137, e137, W137, st137⟩ := stI X135 hx hZ e135 Ar136 (j := (17 : Int32)) (inb_of S136 ⟨by decide, by decide⟩) (g := (mkF m 111 #[.val (.int p0), .val (.int p1), .val (.int p2), .unset, .unset] [(.int (767 : Int32)), (.int (17 : Int32)), (.ref b101), (.ref b101)])) rfl rfl (hb hby at_111)
  have V137 := Arv.set Ar136 q136 S136 M136 H136 G136 rfl W137 17 rfl (Nat.le_of_ble_eq_true rfl)
  have K137 : Keep h0 h137 [] := K135.wr W137 (Or.inr sz101)
  have N137 := Fr.snoc X137 N135 ge101
  have Z137 : n0 ≤ h137.size := Nat.le_trans Z135 (Keep.of_wr W137).1
  have V137b : Arv Z h137 b101 k101 .int (37 : Int32) [(.int (0 : Int32)), (.int (58 : Int32)), (.int (64 : Int32)), (.int (65 : Int32)), (.int (90 : Int32)), (.int (91 : Int32)), (.int (95 : Int32)), (.int (96 : Int32)), (.int (97 : Int32)), (.int (122 : Int32)), (.int (123 : Int32)), (.int (183 : Int32)), (.int (192 : Int32)), (.int (214 : Int32)), (.int (216 : Int32)), (.int (246 : Int32)), (.int (248 : Int32)), (.int (767 : Int32)), (.int (0 : Int32)), (.int (0 : Int32)), (.int (0 : Int32)), (.int (0 : Int32)), (.int (0 : Int32)), (.int (0 : Int32)), (.int (0 : Int32)), (.int (0 : Int32)), (.int (0 : Int32)), (.int (0 : Int32)), (.int (0 : Int32)), (.int (0 : Int32)), (.int (0 : Int32)), (.int (0 : Int32)), (.int (0 : Int32)), (.int (0 : Int32)), (.int (0 : Int32)), (.int (0 : Int32)), (.int (0 : Int32))] (.int (0 : Int32)) := V137
  obtain ⟨cl138, Ar138, q138, S138, M138, H138, G138⟩ := id V137b
  obtain ⟨T139, h139, X139, e139, W139, st139⟩ := stI X137 hx hZ e137 Ar138 (j := (18 : Int32)) (inb_of S138 ⟨by decide, by decide⟩) (g := (mkF m 118 #[.val (.int p0), .val (.int p1), .val (.int p2), .unset, .unset] [(.int (880 : Int32)), (.int (18 : Int32)), (.ref b101), (.ref b101)])) rfl rfl (hb hby at_118)
  have V139 := Arv.set Ar138 q138 S138 M138 H138 G138 rfl W139 18 rfl (Nat.le_of_ble_eq_true rfl)
  have K139 : Keep h0 h139 [] := K137.wr W139 (Or.inr sz101)
  have N139 := Fr.snoc X139 N137 ge101
  have Z139 : n0 ≤ h139.size := Nat.le_trans Z137 (Keep.of_wr W139).1
  have V139b : Arv Z h139 b101 k101 .int (37 : Int32) [(.int (0 : Int32)), (.int (58 : Int32)), (.int (64 : Int32)), (.int (65 : Int32)), (.int (90 : Int32)), (.int (91 : Int32)), (.int (95 : Int32)), (.int (96 : Int32)), (.int (97 : Int32)), (.int (122 : Int32)), (.int (123 : Int32)), (.int (183 : Int32)), (.int (192 : Int32)), (.int (214 : Int32)), (.int (216 : Int32)), (.int (246 : Int32)), (.int (248 : Int32)), (.int (767 : Int32)), (.int (880 : Int32)), (.int (0 : Int32)), (.int (0 : Int32)), (.int (0 : Int32)), (.int (0 : Int32)), (.int (0 : Int32)), (.int (0 : Int32)), (.int (0 : Int32)), (.int (0 : Int32)), (.int (0 : Int32)), (.int (0 : Int32)), (.int (0 : Int32)), (.int (0 : Int32)), (.int (0 : Int32)), (.int (0 : Int32)), (.int (0 : Int32)), (.int (0 : Int32)), (.int (0 : Int32)), (.int (0 : Int32))] (.int (0 : Int32)) := V139
  obtain ⟨cl140, Ar140, q140, S140, M140, H140, G140⟩ := id V139b
  obtain ⟨T141, h141, X141, e141, W141, st141⟩ := stI X139 hx hZ e139 Ar140 (j := (19 : Int32)) (inb_of S140 ⟨by decide, by decide⟩) (g := (mkF m 125 #[.val (.int p0), .val (.int p1), .val (.int p2), .unset, .unset] [(.int (893 : Int32)), (.int (19 : Int32)), (.ref b101), (.ref b101)])) rfl rfl (hb hby at_125)
  have V141 := Arv.set Ar140 q140 S140 M140 H140 G140 rfl W141 19 rfl (Nat.le_of_ble_eq_true rfl)
  have K141 : Keep h0 h141 [] := K139.wr W141 (Or.inr sz101)
  have N141 := Fr.snoc X141 N139 ge101
  have Z141 : n0 ≤ h141.size := Nat.le_trans Z139 (Keep.of_wr W141).1
  have V141b : Arv Z h141 b101 k101 .int (37 : Int32) [(.int (0 : Int32)), (.int (58 : Int32)), (.int (64 : Int32)), (.int (65 : Int32)), (.int (90 : Int32)), (.int (91 : Int32)), (.int (95 : Int32)), (.int (96 : Int32)), (.int (97 : Int32)), (.int (122 : Int32)), (.int (123 : Int32)), (.int (183 : Int32)), (.int (192 : Int32)), (.int (214 : Int32)), (.int (216 : Int32)), (.int (246 : Int32)), (.int (248 : Int32)), (.int (767 : Int32)), (.int (880 : Int32)), (.int (893 : Int32)), (.int (0 : Int32)), (.int (0 : Int32)), (.int (0 : Int32)), (.int (0 : Int32)), (.int (0 : Int32)), (.int (0 : Int32)), (.int (0 : Int32)), (.int (0 : Int32)), (.int (0 : Int32)), (.int (0 : Int32)), (.int (0 : Int32)), (.int (0 : Int32)), (.int (0 : Int32)), (.int (0 : Int32)), (.int (0 : Int32)), (.int (0 : Int32)), (.int (0 : Int32))] (.int (0 : Int32)) := V141
  obtain ⟨cl142, Ar142, q142, S142, M142, H142, G142⟩ := id V141b
  obtain ⟨T143, h143, X143, e143, W143, st143⟩ := stI X141 hx hZ e141 Ar142 (j := (20 : Int32)) (inb_of S142 ⟨by decide, by decide⟩) (g := (mkF m 132 #[.val (.int p0), .val (.int p1), .val (.int p2), .unset, .unset] [(.int (895 : Int32)), (.int (20 : Int32)), (.ref b101), (.ref b101)])) rfl rfl (hb hby at_132)
  have V143 := Arv.set Ar142 q142 S142 M142 H142 G142 rfl W143 20 rfl (Nat.le_of_ble_eq_true rfl)
  have K143 : Keep h0 h143 [] := K141.wr W143 (Or.inr sz101)
  have N143 := Fr.snoc X143 N141 ge101
  have Z143 : n0 ≤ h143.size := Nat.le_trans Z141 (Keep.of_wr W143).1
  have V143b : Arv Z h143 b101 k101 .int (37 : Int32) [(.int (0 : Int32)), (.int (58 : Int32)), (.int (64 : Int32)), (.int (65 : Int32)), (.int (90 : Int32)), (.int (91 : Int32)), (.int (95 : Int32)), (.int (96 : Int32)), (.int (97 : Int32)), (.int (122 : Int32)), (.int (123 : Int32)), (.int (183 : Int32)), (.int (192 : Int32)), (.int (214 : Int32)), (.int (216 : Int32)), (.int (246 : Int32)), (.int (248 : Int32)), (.int (767 : Int32)), (.int (880 : Int32)), (.int (893 : Int32)), (.int (895 : Int32)), (.int (0 : Int32)), (.int (0 : Int32)), (.int (0 : Int32)), (.int (0 : Int32)), (.int (0 : Int32)), (.int (0 : Int32)), (.int (0 : Int32)), (.int (0 : Int32)), (.int (0 : Int32)), (.int (0 : Int32)), (.int (0 : Int32)), (.int (0 : Int32)), (.int (0 : Int32)), (.int (0 : Int32)), (.int (0 : Int32)), (.int (0 : Int32))] (.int (0 : Int32)) := V143
  obtain ⟨cl144, Ar144, q144, S144, M144, H144, G144⟩ := id V143b
  obtain ⟨T145, h145, X145, e145, W145, st145⟩ := stI X143 hx hZ e143 Ar144 (j := (21 : Int32)) (inb_of S144 ⟨by decide, by decide⟩) (g := (mkF m 139 #[.val (.int p0), .val (.int p1), .val (.int p2), .unset, .unset] [(.int (8191 : Int32)), (.int (21 : Int32)), (.ref b101), (.ref b101)])) rfl rfl (hb hby at_139)
  have V145 := Arv.set Ar144 q144 S144 M144 H144 G144 rfl W145 21 rfl (Nat.le_of_ble_eq_true rfl)
  have K145 : Keep h0 h145 [] := K143.wr W145 (Or.inr sz101)
  have N145 := Fr.snoc X145 N143 ge101
  have Z145 : n0 ≤ h145.size := Nat.le_trans Z143 (Keep.of_wr W145).1
  have V145b : Arv Z h145 b101 k101 .int (37 : Int32) [(.int (0 : Int32)), (.int (58 : Int32)), (.int (64 : Int32)), (.int (65 : Int32)), (.int (90 : Int32)), (.int (91 : Int32)), (.int (95 : Int32)), (.int (96 : Int32)), (.int (97 : Int32)), (.int (122 : Int32)), (.int (123 : Int32)), (.int (183 : Int32)), (.int (192 : Int32)), (.int (214 : Int32)), (.int (216 : Int32)), (.int (246 : Int32)), (.int (248 : Int32)), (.int (767 : Int32)), (.int (880 : Int32)), (.int (893 : Int32)), (.int (895 : Int32)), (.int (8191 : Int32)), (.int (0 : Int32)), (.int (0 : Int32)), (.int (0 : Int32)), (.int (0 : Int32)), (.int (0 : Int32)), (.int (0 : Int32)), (.int (0 : Int32)), (.int (0 : Int32)), (.int (0 : Int32)), (.int (0 : Int32)), (.int (0 : Int32)), (.int (0 : Int32)), (.int (0 : Int32)), (.int (0 : Int32)), (.int (0 : Int32))] (.int (0 : Int32)) := V145
  obtain ⟨cl146, Ar146, q146, S146, M146, H146, G146⟩ := id V145b
  obtain ⟨T147, h147, X147, e147, W147, st147⟩ := stI X145 hx hZ e145 Ar146 (j := (22 : Int32)) (inb_of S146 ⟨by decide, by decide⟩) (g := (mkF m 146 #[.val (.int p0), .val (.int p1), .val (.int p2), .unset, .unset] [(.int (8204 : Int32)), (.int (22 : Int32)), (.ref b101), (.ref b101)])) rfl rfl (hb hby at_146)
  have V147 := Arv.set Ar146 q146 S146 M146 H146 G146 rfl W147 22 rfl (Nat.le_of_ble_eq_true rfl)
  have K147 : Keep h0 h147 [] := K145.wr W147 (Or.inr sz101)
  have N147 := Fr.snoc X147 N145 ge101
  have Z147 : n0 ≤ h147.size := Nat.le_trans Z145 (Keep.of_wr W147).1
  have V147b : Arv Z h147 b101 k101 .int (37 : Int32) [(.int (0 : Int32)), (.int (58 : Int32)), (.int (64 : Int32)), (.int (65 : Int32)), (.int (90 : Int32)), (.int (91 : Int32)), (.int (95 : Int32)), (.int (96 : Int32)), (.int (97 : Int32)), (.int (122 : Int32)), (.int (123 : Int32)), (.int (183 : Int32)), (.int (192 : Int32)), (.int (214 : Int32)), (.int (216 : Int32)), (.int (246 : Int32)), (.int (248 : Int32)), (.int (767 : Int32)), (.int (880 : Int32)), (.int (893 : Int32)), (.int (895 : Int32)), (.int (8191 : Int32)), (.int (8204 : Int32)), (.int (0 : Int32)), (.int (0 : Int32)), (.int (0 : Int32)), (.int (0 : Int32)), (.int (0 : Int32)), (.int (0 : Int32)), (.int (0 : Int32)), (.int (0 : Int32)), (.int (0 : Int32)), (.int (0 : Int32)), (.int (0 : Int32)), (.int (0 : Int32)), (.int (0 : Int32)), (.int (0 : Int32))] (.int (0 : Int32)) := V147
  obtain ⟨cl148, Ar148, q148, S148, M148, H148, G148⟩ := id V147b
  obtain ⟨T149, h149, X149, e149, W149, st149⟩ := stI X147 hx hZ e147 Ar148 (j := (23 : Int32)) (inb_of S148 ⟨by decide, by decide⟩) (g := (mkF m 153 #[.val (.int p0), .val (.int p1), .val (.int p2), .unset, .unset] [(.int (8205 : Int32)), (.int (23 : Int32)), (.ref b101), (.ref b101)])) rfl rfl (hb hby at_153)
  have V149 := Arv.set Ar148 q148 S148 M148 H148 G148 rfl W149 23 rfl (Nat.le_of_ble_eq_true rfl)
  have K149 : Keep h0 h149 [] := K147.wr W149 (Or.inr sz101)
  have N149 := Fr.snoc X149 N147 ge101
  have Z149 : n0 ≤ h149.size := Nat.le_trans Z147 (Keep.of_wr W149).1
  have V149b : Arv Z h149 b101 k101 .int (37 : Int32) [(.int (0 : Int32)), (.int (58 : Int32)), (.int (64 : Int32)), (.int (65 : Int32)), (.int (90 : Int32)), (.int (91 : Int32)), (.int (95 : Int32)), (.int (96 : Int32)), (.int (97 : Int32)), (.int (122 : Int32)), (.int (123 : Int32)), (.int (183 : Int32)), (.int (192 : Int32)), (.int (214 : Int32)), (.int (216 : Int32)), (.int (246 : Int32)), (.int (248 : Int32)), (.int (767 : Int32)), (.int (880 : Int32)), (.int (893 : Int32)), (.int (895 : Int32)), (.int (8191 : Int32)), (.int (8204 : Int32)), (.int (8205 : Int32)), (.int (0 : Int32)), (.int (0 : Int32)), (.int (0 : Int32)), (.int (0 : Int32)), (.int (0 : Int32)), (.int (0 : Int32)), (.int (0 : Int32)), (.int (0 : Int32)), (.int (0 : Int32)), (.int (0 : Int32)), (.int (0 : Int32)), (.int (0 : Int32)), (.int (0 : Int32))] (.int (0 : Int32)) := V149
  obtain ⟨cl150, Ar150, q150, S150, M150, H150, G150⟩ := id V149b
  obtain ⟨T151, h151, X151, e151, W151, st151⟩ := stI X149 hx hZ e149 Ar150 (j := (24 : Int32)) (inb_of S150 ⟨by decide, by decide⟩) (g := (mkF m 160 #[.val (.int p0), .val (.int p1), .val (.int p2), .unset, .unset] [(.int (8304 : Int32)), (.int (24 : Int32)), (.ref b101), (.ref b101)])) rfl rfl (hb hby at_160)
  have V151 := Arv.set Ar150 q150 S150 M150 H150 G150 rfl W151 24 rfl (Nat.le_of_ble_eq_true rfl)
  have K151 : Keep h0 h151 [] := K149.wr W151 (Or.inr sz101)
  have N151 := Fr.snoc X151 N149 ge101
  have Z151 : n0 ≤ h151.size := Nat.le_trans Z149 (Keep.of_wr W151).1
  have V151b : Arv Z h151 b101 k101 .int (37 : Int32) [(.int (0 : Int32)), (.int (58 : Int32)), (.int (64 : Int32)), (.int (65 : Int32)), (.int (90 : Int32)), (.int (91 : Int32)), (.int (95 : Int32)), (.int (96 : Int32)), (.int (97 : Int32)), (.int (122 : Int32)), (.int (123 : Int32)), (.int (183 : Int32)), (.int (192 : Int32)), (.int (214 : Int32)), (.int (216 : Int32)), (.int (246 : Int32)), (.int (248 : Int32)), (.int (767 : Int32)), (.int (880 : Int32)), (.int (893 : Int32)), (.int (895 : Int32)), (.int (8191 : Int32)), (.int (8204 : Int32)), (.int (8205 : Int32)), (.int (8304 : Int32)), (.int (0 : Int32)), (.int (0 : Int32)), (.int (0 : Int32)), (.int (0 : Int32)), (.int (0 : Int32)), (.int (0 : Int32)), (.int (0 : Int32)), (.int (0 : Int32)), (.int (0 : Int32)), (.int (0 : Int32)), (.int (0 : Int32)), (.int (0 : Int32))] (.int (0 : Int32)) := V151
  obtain ⟨cl152, Ar152, q152, S152, M152, H152, G152⟩ := id V151b
  obtain ⟨T153, h153, X153, e153, W153, st153⟩ := stI X151 hx hZ e151 Ar152 (j := (25 : Int32)) (inb_of S152 ⟨by decide, by decide⟩) (g := (mkF m 167 #[.val (.int p0), .val (.int p1), .val (.int p2), .unset, .unset] [(.int (8591 : Int32)), (.int (25 : Int32)), (.ref b101), (.ref b101)])) rfl rfl (hb hby at_167)
  have V153 := Arv.set Ar152 q152 S152 M152 H152 G152 rfl W153 25 rfl (Nat.le_of_ble_eq_true rfl)
  have K153 : Keep h0 h153 [] := K151.wr W153 (Or.inr sz101)
  have N153 := Fr.snoc X153 N151 ge101
  have Z153 : n0 ≤ h153.size := Nat.le_trans Z151 (Keep.of_wr W153).1
  have V153b : Arv Z h153 b101 k101 .int (37 : Int32) [(.int (0 : Int32)), (.int (58 : Int32)), (.int (64 : Int32)), (.int (65 : Int32)), (.int (90 : Int32)), (.int (91 : Int32)), (.int (95 : Int32)), (.int (96 : Int32)), (.int (97 : Int32)), (.int (122 : Int32)), (.int (123 : Int32)), (.int (183 : Int32)), (.int (192 : Int32)), (.int (214 : Int32)), (.int (216 : Int32)), (.int (246 : Int32)), (.int (248 : Int32)), (.int (767 : Int32)), (.int (880 : Int32)), (.int (893 : Int32)), (.int (895 : Int32)), (.int (8191 : Int32)), (.int (8204 : Int32)), (.int (8205 : Int32)), (.int (8304 : Int32)), (.int (8591 : Int32)), (.int (0 : Int32)), (.int (0 : Int32)), (.int (0 : Int32)), (.int (0 : Int32)), (.int (0 : Int32)), (.int (0 : Int32)), (.int (0 : Int32)), (.int (0 : Int32)), (.int (0 : Int32)), (.int (0 : Int32)), (.int (0 : Int32))] (.int (0 : Int32)) := V153
  obtain ⟨cl154, Ar154, q154, S154, M154, H154, G154⟩ := id V153b
  obtain ⟨T155, h155, X155, e155, W155, st155⟩ := stI X153 hx hZ e153 Ar154 (j := (26 : Int32)) (inb_of S154 ⟨by decide, by decide⟩) (g := (mkF m 174 #[.val (.int p0), .val (.int p1), .val (.int p2), .unset, .unset] [(.int (11264 : Int32)), (.int (26 : Int32)), (.ref b101), (.ref b101)])) rfl rfl (hb hby at_174)
  have V155 := Arv.set Ar154 q154 S154 M154 H154 G154 rfl W155 26 rfl (Nat.le_of_ble_eq_true rfl)
  have K155 : Keep h0 h155 [] := K153.wr W155 (Or.inr sz101)
  have N155 := Fr.snoc X155 N153 ge101
  have Z155 : n0 ≤ h155.size := Nat.le_trans Z153 (Keep.of_wr W155).1
  have V155b : Arv Z h155 b101 k101 .int (37 : Int32) [(.int (0 : Int32)), (.int (58 : Int32)), (.int (64 : Int32)), (.int (65 : Int32)), (.int (90 : Int32)), (.int (91 : Int32)), (.int (95 : Int32)), (.int (96 : Int32)), (.int (97 : Int32)), (.int (122 : Int32)), (.int (123 : Int32)), (.int (183 : Int32)), (.int (192 : Int32)), (.int (214 : Int32)), (.int (216 : Int32)), (.int (246 : Int32)), (.int (248 : Int32)), (.int (767 : Int32)), (.int (880 : Int32)), (.int (893 : Int32)), (.int (895 : Int32)), (.int (8191 : Int32)), (.int (8204 : Int32)), (.int (8205 : Int32)), (.int (8304 : Int32)), (.int (8591 : Int32)), (.int (11264 : Int32)), (.int (0 : Int32)), (.int (0 : Int32)), (.int (0 : Int32)), (.int (0 : Int32)), (.int (0 : Int32)), (.int (0 : Int32)), (.int (0 : Int32)), (.int (0 : Int32)), (.int (0 : Int32)), (.int (0 : Int32))] (.int (0 : Int32)) := V155
  obtain ⟨cl156, Ar156, q156, S156, M156, H156, G156⟩ := id V155b
  obtain ⟨T157, h157, X157, e157, W157, st157⟩ := stI X155 hx hZ e155 Ar156 (j := (27 : Int32)) (inb_of S156 ⟨by decide, by decide⟩) (g := (mkF m 181 #[.val (.int p0), .val (.int p1), .val (.int p2), .unset, .unset] [(.int (12271 : Int32)), (.int (27 : Int32)), (.ref b101), (.ref b101)])) rfl rfl (hb hby at_181)
  have V157 := Arv.set Ar156 q156 S156 M156 H156 G156 rfl W157 27 rfl (Nat.le_of_ble_eq_true rfl)
  have K157 : Keep h0 h157 [] := K155.wr W157 (Or.inr sz101)
  have N157 := Fr.snoc X157 N155 ge101
  have Z157 : n0 ≤ h157.size := Nat.le_trans Z155 (Keep.of_wr W157).1
  have V157b : Arv Z h157 b101 k101 .int (37 : Int32) [(.int (0 : Int32)), (.int (58 : Int32)), (.int (64 : Int32)), (.int (65 : Int32)), (.int (90 : Int32)), (.int (91 : Int32)), (.int (95 : Int32)), (.int (96 : Int32)), (.int (97 : Int32)), (.int (122 : Int32)), (.int (123 : Int32)), (.int (183 : Int32)), (.int (192 : Int32)), (.int (214 : Int32)), (.int (216 : Int32)), (.int (246 : Int32)), (.int (248 : Int32)), (.int (767 : Int32)), (.int (880 : Int32)), (.int (893 : Int32)), (.int (895 : Int32)), (.int (8191 : Int32)), (.int (8204 : Int32)), (.int (8205 : Int32)), (.int (8304 : Int32)), (.int (8591 : Int32)), (.int (11264 : Int32)), (.int (12271 : Int32)), (.int (0 : Int32)), (.int (0 : Int32)), (.int (0 : Int32)), (.int (0 : Int32)), (.int (0 : Int32)), (.int (0 : Int32)), (.int (0 : Int32)), (.int (0 : Int32)), (.int (0 : Int32))] (.int (0 : Int32)) := V157
  obtain ⟨cl158, Ar158, q158, S158, M158, H158, G158⟩ := id V157b
  obtain ⟨T159, h159, X159, e159, W159, st159⟩ := stI X157 hx hZ e157 Ar158 (j := (28 : Int32)) (inb_of S158 ⟨by decide, by decide⟩) (g := (mkF m 188 #[.val (.int p0), .val (.int p1), .val (.int p2), .unset, .unset] [(.int (12289 : Int32)), (.int (28 : Int32)), (.ref b101), (.ref b101)])) rfl rfl (hb hby at_188)
  have V159 := Arv.set Ar158 q158 S158 M158 H158 G158 rfl W159 28 rfl (Nat.le_of_ble_eq_true rfl)
  have K159 : Keep h0 h159 [] := K157.wr W159 (Or.inr sz101)
  have N159 := Fr.snoc X159 N157 ge101
  have Z159 : n0 ≤ h159.size := Nat.le_trans Z157 (Keep.of_wr W159).1
  have V159b : Arv Z h159 b101 k101 .int (37 : Int32) [(.int (0 : Int32)), (.int (58 : Int32)), (.int (64 : Int32)), (.int (65 : Int32)), (.int (90 : Int32)), (.int (91 : Int32)), (.int (95 : Int32)), (.int (96 : Int32)), (.int (97 : Int32)), (.int (122 : Int32)), (.int (123 : Int32)), (.int (183 : Int32)), (.int (192 : Int32)), (.int (214 : Int32)), (.int (216 : Int32)), (.int (246 : Int32)), (.int (248 : Int32)), (.int (767 : Int32)), (.int (880 : Int32)), (.int (893 : Int32)), (.int (895 : Int32)), (.int (8191 : Int32)), (.int (8204 : Int32)), (.int (8205 : Int32)), (.int (8304 : Int32)), (.int (8591 : Int32)), (.int (11264 : Int32)), (.int (12271 : Int32)), (.int (12289 : Int32)), (.int (0 : Int32)), (.int (0 : Int32)), (.int (0 : Int32)), (.int (0 : Int32)), (.int (0 : Int32)), (.int (0 : Int32)), (.int (0 : Int32)), (.int (0 : Int32))] (.int (0 : Int32)) := V159
  obtain ⟨cl160, Ar160, q160, S160, M160, H160, G160⟩ := id V159b
  obtain ⟨T161, h161, X161, e161, W161, st161⟩ := stI X159 hx hZ e159 Ar160 (j := (29 : Int32)) (inb_of S160 ⟨by decide, by decide⟩) (g := (mkF m 194 #[.val (.int p0), .val (.int p1), .val (.int p2), .unset, .unset] [(.int (55295 : Int32)), (.int (29 : Int32)), (.ref b101), (.ref b101)])) rfl rfl (hb hby at_194)
  have V161 := Arv.set Ar160 q160 S160 M160 H160 G160 rfl W161 29 rfl (Nat.le_of_ble_eq_true rfl)
  have K161 : Keep h0 h161 [] := K159.wr W161 (Or.inr sz101)
  have N161 := Fr.snoc X161 N159 ge101
  have Z161 : n0 ≤ h161.size := Nat.le_trans Z159 (Keep.of_wr W161).1
  have V161b : Arv Z h161 b101 k101 .int (37 : Int32) [(.int (0 : Int32)), (.int (58 : Int32)), (.int (64 : Int32)), (.int (65 : Int32)), (.int (90 : Int32)), (.int (91 : Int32)), (.int (95 : Int32)), (.int (96 : Int32)), (.int (97 : Int32)), (.int (122 : Int32)), (.int (123 : Int32)), (.int (183 : Int32)), (.int (192 : Int32)), (.int (214 : Int32)), (.int (216 : Int32)), (.int (246 : Int32)), (.int (248 : Int32)), (.int (767 : Int32)), (.int (880 : Int32)), (.int (893 : Int32)), (.int (895 : Int32)), (.int (8191 : Int32)), (.int (8204 : Int32)), (.int (8205 : Int32)), (.int (8304 : Int32)), (.int (8591 : Int32)), (.int (11264 : Int32)), (.int (12271 : Int32)), (.int (12289 : Int32)), (.int (55295 : Int32)), (.int (0 : Int32)), (.int (0 : Int32)), (.int (0 : Int32)), (.int (0 : Int32)), (.int (0 : Int32)), (.int (0 : Int32)), (.int (0 : Int32))] (.int (0 : Int32)) := V161
  obtain ⟨cl162, Ar162, q162, S162, M162, H162, G162⟩ := id V161b
  obtain ⟨T163, h163, X163, e163, W163, st163⟩ := stI X161 hx hZ e161 Ar162 (j := (30 : Int32)) (inb_of S162 ⟨by decide, by decide⟩) (g := (mkF m 200 #[.val (.int p0), .val (.int p1), .val (.int p2), .unset, .unset] [(.int (63744 : Int32)), (.int (30 : Int32)), (.ref b101), (.ref b101)])) rfl rfl (hb hby at_200)
  have V163 := Arv.set Ar162 q162 S162 M162 H162 G162 rfl W163 30 rfl (Nat.le_of_ble_eq_true rfl)
  have K163 : Keep h0 h163 [] := K161.wr W163 (Or.inr sz101)
  have N163 := Fr.snoc X163 N161 ge101
  have Z163 : n0 ≤ h163.size := Nat.le_trans Z161 (Keep.of_wr W163).1
  have V163b : Arv Z h163 b101 k101 .int (37 : Int32) [(.int (0 : Int32)), (.int (58 : Int32)), (.int (64 : Int32)), (.int (65 : Int32)), (.int (90 : Int32)), (.int (91 : Int32)), (.int (95 : Int32)), (.int (96 : Int32)), (.int (97 : Int32)), (.int (122 : Int32)), (.int (123 : Int32)), (.int (183 : Int32)), (.int (192 : Int32)), (.int (214 : Int32)), (.int (216 : Int32)), (.int (246 : Int32)), (.int (248 : Int32)), (.int (767 : Int32)), (.int (880 : Int32)), (.int (893 : Int32)), (.int (895 : Int32)), (.int (8191 : Int32)), (.int (8204 : Int32)), (.int (8205 : Int32)), (.int (8304 : Int32)), (.int (8591 : Int32)), (.int (11264 : Int32)), (.int (12271 : Int32)), (.int (12289 : Int32)), (.int (55295 : Int32)), (.int (63744 : Int32)), (.int (0 : Int32)), (.int (0 : Int32)), (.int (0 : Int32)), (.int (0 : Int32)), (.int (0 : Int32)), (.int (0 : Int32))] (.int (0 : Int32)) := V163
  obtain ⟨cl164, Ar164, q164, S164, M164, H164, G164⟩ := id V163b
  obtain ⟨T165, h165, X165, e165, W165, st165⟩ := stI X163 hx hZ e163 Ar164 (j := (31 : Int32)) (inb_of S164 ⟨by decide, by decide⟩) (g := (mkF m 206 #[.val (.int p0), .val (.int p1), .val (.int p2), .unset, .unset] [(.int (64975 : Int32)), (.int (31 : Int32)), (.ref b101), (.ref b101)])) rfl rfl (hb hby at_206)
  have V165 := Arv.set Ar164 q164 S164 M164 H164 G164 rfl W165 31 rfl (Nat.le_of_ble_eq_true rfl)
  have K165 : Keep h0 h165 [] := K163.wr W165 (Or.inr sz101)
  have N165 := Fr.snoc X165 N163 ge101
  have Z165 : n0 ≤ h165.size := Nat.le_trans Z163 (Keep.of_wr W165).1
  have V165b : Arv Z h165 b101 k101 .int (37 : Int32) [(.int (0 : Int32)), (.int (58 : Int32)), (.int (64 : Int32)), (.int (65 : Int32)), (.int (90 : Int32)), (.int (91 : Int32)), (.int (95 : Int32)), (.int (96 : Int32)), (.int (97 : Int32)), (.int (122 : Int32)), (.int (123 : Int32)), (.int (183 : Int32)), (.int (192 : Int32)), (.int (214 : Int32)), (.int (216 : Int32)), (.int (246 : Int32)), (.int (248 : Int32)), (.int (767 : Int32)), (.int (880 : Int32)), (.int (893 : Int32)), (.int (895 : Int32)), (.int (8191 : Int32)), (.int (8204 : Int32)), (.int (8205 : Int32)), (.int (8304 : Int32)), (.int (8591 : Int32)), (.int (11264 : Int32)), (.int (12271 : Int32)), (.int (12289 : Int32)), (.int (55295 : Int32)), (.int (63744 : Int32)), (.int (64975 : Int32)), (.int (0 : Int32)), (.int (0 : Int32)), (.int (0 : Int32)), (.int (0 : Int32)), (.int (0 : Int32))] (.int (0 : Int32)) := V165
  obtain ⟨cl166, Ar166, q166, S166, M166, H166, G166⟩ := id V165b
  obtain ⟨T167, h167, X167, e167, W167, st167⟩ := stI X165 hx hZ e165 Ar166 (j := (32 : Int32)) (inb_of S166 ⟨by decide, by decide⟩) (g := (mkF m 212 #[.val (.int p0), .val (.int p1), .val (.int p2), .unset, .unset] [(.int (65008 : Int32)), (.int (32 : Int32)), (.ref b101), (.ref b101)])) rfl rfl (hb hby at_212)
  have V167 := Arv.set Ar166 q166 S166 M166 H166 G166 rfl W167 32 rfl (Nat.le_of_ble_eq_true rfl)
  have K167 : Keep h0 h167 [] := K165.wr W167 (Or.inr sz101)
  have N167 := Fr.snoc X167 N165 ge101
  have Z167 : n0 ≤ h167.size := Nat.le_trans Z165 (Keep.of_wr W167).1
  have V167b : Arv Z h167 b101 k101 .int (37 : Int32) [(.int (0 : Int32)), (.int (58 : Int32)), (.int (64 : Int32)), (.int (65 : Int32)), (.int (90 : Int32)), (.int (91 : Int32)), (.int (95 : Int32)), (.int (96 : Int32)), (.int (97 : Int32)), (.int (122 : Int32)), (.int (123 : Int32)), (.int (183 : Int32)), (.int (192 : Int32)), (.int (214 : Int32)), (.int (216 : Int32)), (.int (246 : Int32)), (.int (248 : Int32)), (.int (767 : Int32)), (.int (880 : Int32)), (.int (893 : Int32)), (.int (895 : Int32)), (.int (8191 : Int32)), (.int (8204 : Int32)), (.int (8205 : Int32)), (.int (8304 : Int32)), (.int (8591 : Int32)), (.int (11264 : Int32)), (.int (12271 : Int32)), (.int (12289 : Int32)), (.int (55295 : Int32)), (.int (63744 : Int32)), (.int (64975 : Int32)), (.int (65008 : Int32)), (.int (0 : Int32)), (.int (0 : Int32)), (.int (0 : Int32)), (.int (0 : Int32))] (.int (0 : Int32)) := V167
  obtain ⟨cl168, Ar168, q168, S168, M168, H168, G168⟩ := id V167b
  obtain ⟨T169, h169, X169, e169, W169, st169⟩ := stI X167 hx hZ e167 Ar168 (j := (33 : Int32)) (inb_of S168 ⟨by decide, by decide⟩) (g := (mkF m 218 #[.val (.int p0), .val (.int p1), .val (.int p2), .unset, .unset] [(.int (65533 : Int32)), (.int (33 : Int32)), (.ref b101), (.ref b101)])) rfl rfl (hb hby at_218)
  have V169 := Arv.set Ar168 q168 S168 M168 H168 G168 rfl W169 33 rfl (Nat.le_of_ble_eq_true rfl)
  have K169 : Keep h0 h169 [] := K167.wr W169 (Or.inr sz101)
  have N169 := Fr.snoc X169 N167 ge101
  have Z169 : n0 ≤ h169.size := Nat.le_trans Z167 (Keep.of_wr W169).1
  have V169b : Arv Z h169 b101 k101 .int (37 : Int32) [(.int (0 : Int32)), (.int (58 : Int32)), (.int (64 : Int32)), (.int (65 : Int32)), (.int (90 : Int32)), (.int (91 : Int32)), (.int (95 : Int32)), (.int (96 : Int32)), (.int (97 : Int32)), (.int (122 : Int32)), (.int (123 : Int32)), (.int (183 : Int32)), (.int (192 : Int32)), (.int (214 : Int32)), (.int (216 : Int32)), (.int (246 : Int32)), (.int (248 : Int32)), (.int (767 : Int32)), (.int (880 : Int32)), (.int (893 : Int32)), (.int (895 : Int32)), (.int (8191 : Int32)), (.int (8204 : Int32)), (.int (8205 : Int32)), (.int (8304 : Int32)), (.int (8591 : Int32)), (.int (11264 : Int32)), (.int (12271 : Int32)), (.int (12289 : Int32)), (.int (55295 : Int32)), (.int (63744 : Int32)), (.int (64975 : Int32)), (.int (65008 : Int32)), (.int (65533 : Int32)), (.int (0 : Int32)), (.int (0 : Int32)), (.int (0 : Int32))] (.int (0 : Int32)) := V169
  obtain ⟨cl170, Ar170, q170, S170, M170, H170, G170⟩ := id V169b
  obtain ⟨T171, h171, X171, e171, W171, st171⟩ := stI X169 hx hZ e169 Ar170 (j := (34 : Int32)) (inb_of S170 ⟨by decide, by decide⟩) (g := (mkF m 224 #[.val (.int p0), .val (.int p1), .val (.int p2), .unset, .unset] [(.int (65536 : Int32)), (.int (34 : Int32)), (.ref b101), (.ref b101)])) rfl rfl (hb hby at_224)
  have V171 := Arv.set Ar170 q170 S170 M170 H170 G170 rfl W171 34 rfl (Nat.le_of_ble_eq_true rfl)
  have K171 : Keep h0 h171 [] := K169.wr W171 (Or.inr sz101)
  have N171 := Fr.snoc X171 N169 ge101
  have Z171 : n0 ≤ h171.size := Nat.le_trans Z169 (Keep.of_wr W171).1
  have V171b : Arv Z h171 b101 k101 .int (37 : Int32) [(.int (0 : Int32)), (.int (58 : Int32)), (.int (64 : Int32)), (.int (65 : Int32)), (.int (90 : Int32)), (.int (91 : Int32)), (.int (95 : Int32)), (.int (96 : Int32)), (.int (97 : Int32)), (.int (122 : Int32)), (.int (123 : Int32)), (.int (183 : Int32)), (.int (192 : Int32)), (.int (214 : Int32)), (.int (216 : Int32)), (.int (246 : Int32)), (.int (248 : Int32)), (.int (767 : Int32)), (.int (880 : Int32)), (.int (893 : Int32)), (.int (895 : Int32)), (.int (8191 : Int32)), (.int (8204 : Int32)), (.int (8205 : Int32)), (.int (8304 : Int32)), (.int (8591 : Int32)), (.int (11264 : Int32)), (.int (12271 : Int32)), (.int (12289 : Int32)), (.int (55295 : Int32)), (.int (63744 : Int32)), (.int (64975 : Int32)), (.int (65008 : Int32)), (.int (65533 : Int32)), (.int (65536 : Int32)), (.int (0 : Int32)), (.int (0 : Int32))] (.int (0 : Int32)) := V171
  obtain ⟨cl172, Ar172, q172, S172, M172, H172, G172⟩ := id V171b
  obtain ⟨T173, h173, X173, e173, W173, st173⟩ := stI X171 hx hZ e171 Ar172 (j := (35 : Int32)) (inb_of S172 ⟨by decide, by decide⟩) (g := (mkF m 230 #[.val (.int p0), .val (.int p1), .val (.int p2), .unset, .unset] [(.int (983039 : Int32)), (.int (35 : Int32)), (.ref b101), (.ref b101)])) rfl rfl (hb hby at_230)
  have V173 := Arv.set Ar172 q172 S172 M172 H172 G172 rfl W173 35 rfl (Nat.le_of_ble_eq_true rfl)
  have K173 : Keep h0 h173 [] := K171.wr W173 (Or.inr sz101)
  have N173 := Fr.snoc X173 N171 ge101
  have Z173 : n0 ≤ h173.size := Nat.le_trans Z171 (Keep.of_wr W173).1
  have V173b : Arv Z h173 b101 k101 .int (37 : Int32) [(.int (0 : Int32)), (.int (58 : Int32)), (.int (64 : Int32)), (.int (65 : Int32)), (.int (90 : Int32)), (.int (91 : Int32)), (.int (95 : Int32)), (.int (96 : Int32)), (.int (97 : Int32)), (.int (122 : Int32)), (.int (123 : Int32)), (.int (183 : Int32)), (.int (192 : Int32)), (.int (214 : Int32)), (.int (216 : Int32)), (.int (246 : Int32)), (.int (248 : Int32)), (.int (767 : Int32)), (.int (880 : Int32)), (.int (893 : Int32)), (.int (895 : Int32)), (.int (8191 : Int32)), (.int (8204 : Int32)), (.int (8205 : Int32)), (.int (8304 : Int32)), (.int (8591 : Int32)), (.int (11264 : Int32)), (.int (12271 : Int32)), (.int (12289 : Int32)), (.int (55295 : Int32)), (.int (63744 : Int32)), (.int (64975 : Int32)), (.int (65008 : Int32)), (.int (65533 : Int32)), (.int (65536 : Int32)), (.int (983039 : Int32)), (.int (0 : Int32))] (.int (0 : Int32)) := V173
  obtain ⟨cl174, Ar174, q174, S174, M174, H174, G174⟩ := id V173b
  obtain ⟨T175, h175, X175, e175, W175, st175⟩ := stI X173 hx hZ e173 Ar174 (j := (36 : Int32)) (inb_of S174 ⟨by decide, by decide⟩) (g := (mkF m 236 #[.val (.int p0), .val (.int p1), .val (.int p2), .unset, .unset] [(.int (1114111 : Int32)), (.int (36 : Int32)), (.ref b101), (.ref b101)])) rfl rfl (hb hby at_236)
  have V175 := Arv.set Ar174 q174 S174 M174 H174 G174 rfl W175 36 rfl (Nat.le_of_ble_eq_true rfl)
  have K175 : Keep h0 h175 [] := K173.wr W175 (Or.inr sz101)
  have N175 := Fr.snoc X175 N173 ge101
  have Z175 : n0 ≤ h175.size := Nat.le_trans Z173 (Keep.of_wr W175).1
  have V175b : Arv Z h175 b101 k101 .int (37 : Int32) [(.int (0 : Int32)), (.int (58 : Int32)), (.int (64 : Int32)), (.int (65 : Int32)), (.int (90 : Int32)), (.int (91 : Int32)), (.int (95 : Int32)), (.int (96 : Int32)), (.int (97 : Int32)), (.int (122 : Int32)), (.int (123 : Int32)), (.int (183 : Int32)), (.int (192 : Int32)), (.int (214 : Int32)), (.int (216 : Int32)), (.int (246 : Int32)), (.int (248 : Int32)), (.int (767 : Int32)), (.int (880 : Int32)), (.int (893 : Int32)), (.int (895 : Int32)), (.int (8191 : Int32)), (.int (8204 : Int32)), (.int (8205 : Int32)), (.int (8304 : Int32)), (.int (8591 : Int32)), (.int (11264 : Int32)), (.int (12271 : Int32)), (.int (12289 : Int32)), (.int (55295 : Int32)), (.int (63744 : Int32)), (.int (64975 : Int32)), (.int (65008 : Int32)), (.int (65533 : Int32)), (.int (65536 : Int32)), (.int (983039 : Int32)), (.int (1114111 : Int32))] (.int (0 : Int32)) := V175
  have pre176 : ∀ t, Steps p.tables e below (T175.setTop (mkF m 241 #[.val (.int p0), .val (.int p1), .val (.int p2), .val (.ref b101), .unset] [(.int (p1 &&& (1 : Int32)))])) t → Steps p.tables e below (s₁.setTop (entryFrame m #[(.int p0), (.int p1), (.int p2)] maxLocals)) t := fun t k => by
    refine pre0 t ?_
    show Steps p.tables e below (s₁.setTop (mkF m 0 #[.val (.int p0), .val (.int p1), .val (.int p2), .unset, .unset] [])) _
    refine XS.bipush X0.here hx rfl (hb hby at_0) ?_
    show Steps p.tables e below (s₁.setTop (mkF m 2 #[.val (.int p0), .val (.int p1), .val (.int p2), .unset, .unset] [(.int (37 : Int32))])) _
    refine st101 _ ?_
    show Steps p.tables e below (T101.setTop (mkF m 4 #[.val (.int p0), .val (.int p1), .val (.int p2), .unset, .unset] [(.ref b101)])) _
    refine XS.dup X101.here hx rfl (hb hby at_4) rfl rfl ?_
    show Steps p.tables e below (T101.setTop (mkF m 5 #[.val (.int p0), .val (.int p1), .val (.int p2), .unset, .unset] [(.ref b101), (.ref b101)])) _
    refine XS.iconst X101.here hx rfl (hb hby at_5) ?_
    show Steps p.tables e below (T101.setTop (mkF m 6 #[.val (.int p0), .val (.int p1), .val (.int p2), .unset, .unset] [(.int (0 : Int32)), (.ref b101), (.ref b101)])) _
    refine XS.iconst X101.here hx rfl (hb hby at_6) ?_
    show Steps p.tables e below (T101.setTop (mkF m 7 #[.val (.int p0), .val (.int p1), .val (.int p2), .unset, .unset] [(.int (0 : Int32)), (.int (0 : Int32)), (.ref b101), (.ref b101)])) _
    refine st103 _ ?_
    show Steps p.tables e below (T103.setTop (mkF m 8 #[.val (.int p0), .val (.int p1), .val (.int p2), .unset, .unset] [(.ref b101)])) _
    refine XS.dup X103.here hx rfl (hb hby at_8) rfl rfl ?_
    show Steps p.tables e below (T103.setTop (mkF m 9 #[.val (.int p0), .val (.int p1), .val (.int p2), .unset, .unset] [(.ref b101), (.ref b101)])) _
    refine XS.iconst X103.here hx rfl (hb hby at_9) ?_
    show Steps p.tables e below (T103.setTop (mkF m 10 #[.val (.int p0), .val (.int p1), .val (.int p2), .unset, .unset] [(.int (1 : Int32)), (.ref b101), (.ref b101)])) _
    refine XS.bipush X103.here hx rfl (hb hby at_10) ?_
    show Steps p.tables e below (T103.setTop (mkF m 12 #[.val (.int p0), .val (.int p1), .val (.int p2), .unset, .unset] [(.int (58 : Int32)), (.int (1 : Int32)), (.ref b101), (.ref b101)])) _
    refine st105 _ ?_
    show Steps p.tables e below (T105.setTop (mkF m 13 #[.val (.int p0), .val (.int p1), .val (.int p2), .unset, .unset] [(.ref b101)])) _
    refine XS.dup X105.here hx rfl (hb hby at_13) rfl rfl ?_
    show Steps p.tables e below (T105.setTop (mkF m 14 #[.val (.int p0), .val (.int p1), .val (.int p2), .unset, .unset] [(.ref b101), (.ref b101)])) _
    refine XS.iconst X105.here hx rfl (hb hby at_14) ?_
    show Steps p.tables e below (T105.setTop (mkF m 15 #[.val (.int p0), .val (.int p1), .val (.int p2), .unset, .unset] [(.int (2 : Int32)), (.ref b101), (.ref b101)])) _
    refine XS.bipush X105.here hx rfl (hb hby at_15) ?_
    show Steps p.tables e below (T105.setTop (mkF m 17 #[.val (.int p0), .val (.int p1), .val (.int p2), .unset, .unset] [(.int (64 : Int32)), (.int (2 : Int32)), (.ref b101), (.ref b101)])) _
    refine st107 _ ?_
    show Steps p.tables e below (T107.setTop (mkF m 18 #[.val (.int p0), .val (.int p1), .val (.int p2), .unset, .unset] [(.ref b101)])) _
    refine XS.dup X107.here hx rfl (hb hby at_18) rfl rfl ?_
    show Steps p.tables e below (T107.setTop (mkF m 19 #[.val (.int p0), .val (.int p1), .val (.int p2), .unset, .unset] [(.ref b101), (.ref b101)])) _
    refine XS.iconst X107.here hx rfl (hb hby at_19) ?_
    show Steps p.tables e below (T107.setTop (mkF m 20 #[.val (.int p0), .val (.int p1), .val (.int p2), .unset, .unset] [(.int (3 : Int32)), (.ref b101), (.ref b101)])) _
    refine XS.bipush X107.here hx rfl (hb hby at_20) ?_
    show Steps p.tables e below (T107.setTop (mkF m 22 #[.val (.int p0), .val (.int p1), .val (.int p2), .unset, .unset] [(.int (65 : Int32)), (.int (3 : Int32)), (.ref b101), (.ref b101)])) _
    refine st109 _ ?_
    show Steps p.tables e below (T109.setTop (mkF m 23 #[.val (.int p0), .val (.int p1), .val (.int p2), .unset, .unset] [(.ref b101)])) _
    refine XS.dup X109.here hx rfl (hb hby at_23) rfl rfl ?_
    show Steps p.tables e below (T109.setTop (mkF m 24 #[.val (.int p0), .val (.int p1), .val (.int p2), .unset, .unset] [(.ref b101), (.ref b101)])) _
    refine XS.iconst X109.here hx rfl (hb hby at_24) ?_
    show Steps p.tables e below (T109.setTop (mkF m 25 #[.val (.int p0), .val (.int p1), .val (.int p2), .unset, .unset] [(.int (4 : Int32)), (.ref b101), (.ref b101)])) _
    refine XS.bipush X109.here hx rfl (hb hby at_25) ?_
    show Steps p.tables e below (T109.setTop (mkF m 27 #[.val (.int p0), .val (.int p1), .val (.int p2), .unset, .unset] [(.int (90 : Int32)), (.int (4 : Int32)), (.ref b101), (.ref b101)])) _
    refine st111 _ ?_
    show Steps p.tables e below (T111.setTop (mkF m 28 #[.val (.int p0), .val (.int p1), .val (.int p2), .unset, .unset] [(.ref b101)])) _
    refine XS.dup X111.here hx rfl (hb hby at_28) rfl rfl ?_
    show Steps p.tables e below (T111.setTop (mkF m 29 #[.val (.int p0), .val (.int p1), .val (.int p2), .unset, .unset] [(.ref b101), (.ref b101)])) _
    refine XS.iconst X111.here hx rfl (hb hby at_29) ?_
    show Steps p.tables e below (T111.setTop (mkF m 30 #[.val (.int p0), .val (.int p1), .val (.int p2), .unset, .unset] [(.int (5 : Int32)), (.ref b101), (.ref b101)])) _
    refine XS.bipush X111.here hx rfl (hb hby at_30) ?_
    show Steps p.tables e below (T111.setTop (mkF m 32 #[.val (.int p0), .val (.int p1), .val (.int p2), .unset, .unset] [(.int (91 : Int32)), (.int (5 : Int32)), (.ref b101), (.ref b101)])) _
    refine st113 _ ?_
    show Steps p.tables e below (T113.setTop (mkF m 33 #[.val (.int p0), .val (.int p1), .val (.int p2), .unset, .unset] [(.ref b101)])) _
    refine XS.dup X113.here hx rfl (hb hby at_33) rfl rfl ?_
    show Steps p.tables e below (T113.setTop (mkF m 34 #[.val (.int p0), .val (.int p1), .val (.int p2), .unset, .unset] [(.ref b101), (.ref b101)])) _
    refine XS.bipush X113.here hx rfl (hb hby at_34) ?_
    show Steps p.tables e below (T113.setTop (mkF m 36 #[.val (.int p0), .val (.int p1), .val (.int p2), .unset, .unset] [(.int (6 : Int32)), (.ref b101), (.ref b101)])) _
    refine XS.bipush X113.here hx rfl (hb hby at_36) ?_
    show Steps p.tables e below (T113.setTop (mkF m 38 #[.val (.int p0), .val (.int p1), .val (.int p2), .unset, .unset] [(.int (95 : Int32)), (.int (6 : Int32)), (.ref b101), (.ref b101)])) _
    refine st115 _ ?_
    show Steps p.tables e below (T115.setTop (mkF m 39 #[.val (.int p0), .val (.int p1), .val (.int p2), .unset, .unset] [(.ref b101)])) _
    refine XS.dup X115.here hx rfl (hb hby at_39) rfl rfl ?_
    show Steps p.tables e below (T115.setTop (mkF m 40 #[.val (.int p0), .val (.int p1), .val (.int p2), .unset, .unset] [(.ref b101), (.ref b101)])) _
    refine XS.bipush X115.here hx rfl (hb hby at_40) ?_
    show Steps p.tables e below (T115.setTop (mkF m 42 #[.val (.int p0), .val (.int p1), .val (.int p2), .unset, .unset] [(.int (7 : Int32)), (.ref b101), (.ref b101)])) _
    refine XS.bipush X115.here hx rfl (hb hby at_42) ?_
    show Steps p.tables e below (T115.setTop (mkF m 44 #[.val (.int p0), .val (.int p1), .val (.int p2), .unset, .unset] [(.int (96 : Int32)), (.int (7 : Int32)), (.ref b101), (.ref b101)])) _
    refine st117 _ ?_
    show Steps p.tables e below (T117.setTop (mkF m 45 #[.val (.int p0), .val (.int p1), .val (.int p2), .unset, .unset] [(.ref b101)])) _
    refine XS.dup X117.here hx rfl (hb hby at_45) rfl rfl ?_
    show Steps p.tables e below (T117.setTop (mkF m 46 #[.val (.int p0), .val (.int p1), .val (.int p2), .unset, .unset] [(.ref b101), (.ref b101)])) _
    refine XS.bipush X117.here hx rfl (hb hby at_46) ?_
    show Steps p.tables e below (T117.setTop (mkF m 48 #[.val (.int p0), .val (.int p1), .val (.int p2), .unset, .unset] [(.int (8 : Int32)), (.ref b101), (.ref b101)])) _
    refine XS.bipush X117.here hx rfl (hb hby at_48) ?_
    show Steps p.tables e below (T117.setTop (mkF m 50 #[.val (.int p0), .val (.int p1), .val (.int p2), .unset, .unset] [(.int (97 : Int32)), (.int (8 : Int32)), (.ref b101), (.ref b101)])) _
    refine st119 _ ?_
    show Steps p.tables e below (T119.setTop (mkF m 51 #[.val (.int p0), .val (.int p1), .val (.int p2), .unset, .unset] [(.ref b101)])) _
    refine XS.dup X119.here hx rfl (hb hby at_51) rfl rfl ?_
    show Steps p.tables e below (T119.setTop (mkF m 52 #[.val (.int p0), .val (.int p1), .val (.int p2), .unset, .unset] [(.ref b101), (.ref b101)])) _
    refine XS.bipush X119.here hx rfl (hb hby at_52) ?_
    show Steps p.tables e below (T119.setTop (mkF m 54 #[.val (.int p0), .val (.int p1), .val (.int p2), .unset, .unset] [(.int (9 : Int32)), (.ref b101), (.ref b101)])) _
    refine XS.bipush X119.here hx rfl (hb hby at_54) ?_
    show Steps p.tables e below (T119.setTop (mkF m 56 #[.val (.int p0), .val (.int p1), .val (.int p2), .unset, .unset] [(.int (122 : Int32)), (.int (9 : Int32)), (.ref b101), (.ref b101)])) _
    refine st121 _ ?_
    show Steps p.tables e below (T121.setTop (mkF m 57 #[.val (.int p0), .val (.int p1), .val (.int p2), .unset, .unset] [(.ref b101)])) _
    refine XS.dup X121.here hx rfl (hb hby at_57) rfl rfl ?_
    show Steps p.tables e below (T121.setTop (mkF m 58 #[.val (.int p0), .val (.int p1), .val (.int p2), .unset, .unset] [(.ref b101), (.ref b101)])) _
    refine XS.bipush X121.here hx rfl (hb hby at_58) ?_
    show Steps p.tables e below (T121.setTop (mkF m 60 #[.val (.int p0), .val (.int p1), .val (.int p2), .unset, .unset] [(.int (10 : Int32)), (.ref b101), (.ref b101)])) _
    refine XS.bipush X121.here hx rfl (hb hby at_60) ?_
    show Steps p.tables e below (T121.setTop (mkF m 62 #[.val (.int p0), .val (.int p1), .val (.int p2), .unset, .unset] [(.int (123 : Int32)), (.int (10 : Int32)), (.ref b101), (.ref b101)])) _
    refine st123 _ ?_
    show Steps p.tables e below (T123.setTop (mkF m 63 #[.val (.int p0), .val (.int p1), .val (.int p2), .unset, .unset] [(.ref b101)])) _
    refine XS.dup X123.here hx rfl (hb hby at_63) rfl rfl ?_
    show Steps p.tables e below (T123.setTop (mkF m 64 #[.val (.int p0), .val (.int p1), .val (.int p2), .unset, .unset] [(.ref b101), (.ref b101)])) _
    refine XS.bipush X123.here hx rfl (hb hby at_64) ?_
    show Steps p.tables e below (T123.setTop (mkF m 66 #[.val (.int p0), .val (.int p1), .val (.int p2), .unset, .unset] [(.int (11 : Int32)), (.ref b101), (.ref b101)])) _
    refine XS.sipush X123.here hx rfl (hb hby at_66) ?_
    show Steps p.tables e below (T123.setTop (mkF m 69 #[.val (.int p0), .val (.int p1), .val (.int p2), .unset, .unset] [(.int (183 : Int32)), (.int (11 : Int32)), (.ref b101), (.ref b101)])) _
    refine st125 _ ?_
    show Steps p.tables e below (T125.setTop (mkF m 70 #[.val (.int p0), .val (.int p1), .val (.int p2), .unset, .unset] [(.ref b101)])) _
    refine XS.dup X125.here hx rfl (hb hby at_70) rfl rfl ?_
    show Steps p.tables e below (T125.setTop (mkF m 71 #[.val (.int p0), .val (.int p1), .val (.int p2), .unset, .unset] [(.ref b101), (.ref b101)])) _
    refine XS.bipush X125.here hx rfl (hb hby at_71) ?_
    show Steps p.tables e below (T125.setTop (mkF m 73 #[.val (.int p0), .val (.int p1), .val (.int p2), .unset, .unset] [(.int (12 : Int32)), (.ref b101), (.ref b101)])) _
    refine XS.sipush X125.here hx rfl (hb hby at_73) ?_
    show Steps p.tables e below (T125.setTop (mkF m 76 #[.val (.int p0), .val (.int p1), .val (.int p2), .unset, .unset] [(.int (192 : Int32)), (.int (12 : Int32)), (.ref b101), (.ref b101)])) _
    refine st127 _ ?_
    show Steps p.tables e below (T127.setTop (mkF m 77 #[.val (.int p0), .val (.int p1), .val (.int p2), .unset, .unset] [(.ref b101)])) _
    refine XS.dup X127.here hx rfl (hb hby at_77) rfl rfl ?_
    show Steps p.tables e below (T127.setTop (mkF m 78 #[.val (.int p0), .val (.int p1), .val (.int p2), .unset, .unset] [(.ref b101), (.ref b101)])) _
    refine XS.bipush X127.here hx rfl (hb hby at_78) ?_
    show Steps p.tables e below (T127.setTop (mkF m 80 #[.val (.int p0), .val (.int p1), .val (.int p2), .unset, .unset] [(.int (13 : Int32)), (.ref b101), (.ref b101)])) _
    refine XS.sipush X127.here hx rfl (hb hby at_80) ?_
    show Steps p.tables e below (T127.setTop (mkF m 83 #[.val (.int p0), .val (.int p1), .val (.int p2), .unset, .unset] [(.int (214 : Int32)), (.int (13 : Int32)), (.ref b101), (.ref b101)])) _
    refine st129 _ ?_
    show Steps p.tables e below (T129.setTop (mkF m 84 #[.val (.int p0), .val (.int p1), .val (.int p2), .unset, .unset] [(.ref b101)])) _
    refine XS.dup X129.here hx rfl (hb hby at_84) rfl rfl ?_
    show Steps p.tables e below (T129.setTop (mkF m 85 #[.val (.int p0), .val (.int p1), .val (.int p2), .unset, .unset] [(.ref b101), (.ref b101)])) _
    refine XS.bipush X129.here hx rfl (hb hby at_85) ?_
    show Steps p.tables e below (T129.setTop (mkF m 87 #[.val (.int p0), .val (.int p1), .val (.int p2), .unset, .unset] [(.int (14 : Int32)), (.ref b101), (.ref b101)])) _
    refine XS.sipush X129.here hx rfl (hb hby at_87) ?_
    show Steps p.tables e below (T129.setTop (mkF m 90 #[.val (.int p0), .val (.int p1), .val (.int p2), .unset, .unset] [(.int (216 : Int32)), (.int (14 : Int32)), (.ref b101), (.ref b101)])) _
    refine st131 _ ?_
    show Steps p.tables e below (T131.setTop (mkF m 91 #[.val (.int p0), .val (.int p1), .val (.int p2), .unset, .unset] [(.ref b101)])) _
    refine XS.dup X131.here hx rfl (hb hby at_91) rfl rfl ?_
    show Steps p.tables e below (T131.setTop (mkF m 92 #[.val (.int p0), .val (.int p1), .val (.int p2), .unset, .unset] [(.ref b101), (.ref b101)])) _
    refine XS.bipush X131.here hx rfl (hb hby at_92) ?_
    show Steps p.tables e below (T131.setTop (mkF m 94 #[.val (.int p0), .val (.int p1), .val (.int p2), .unset, .unset] [(.int (15 : Int32)), (.ref b101), (.ref b101)])) _
    refine XS.sipush X131.here hx rfl (hb hby at_94) ?_
    show Steps p.tables e below (T131.setTop (mkF m 97 #[.val (.int p0), .val (.int p1), .val (.int p2), .unset, .unset] [(.int (246 : Int32)), (.int (15 : Int32)), (.ref b101), (.ref b101)])) _
    refine st133 _ ?_
    show Steps p.tables e below (T133.setTop (mkF m 98 #[.val (.int p0), .val (.int p1), .val (.int p2), .unset, .unset] [(.ref b101)])) _
    refine XS.dup X133.here hx rfl (hb hby at_98) rfl rfl ?_
    show Steps p.tables e below (T133.setTop (mkF m 99 #[.val (.int p0), .val (.int p1), .val (.int p2), .unset, .unset] [(.ref b101), (.ref b101)])) _
    refine XS.bipush X133.here hx rfl (hb hby at_99) ?_
    show Steps p.tables e below (T133.setTop (mkF m 101 #[.val (.int p0), .val (.int p1), .val (.int p2), .unset, .unset] [(.int (16 : Int32)), (.ref b101), (.ref b101)])) _
    refine XS.sipush X133.here hx rfl (hb hby at_101) ?_
    show Steps p.tables e below (T133.setTop (mkF m 104 #[.val (.int p0), .val (.int p1), .val (.int p2), .unset, .unset] [(.int (248 : Int32)), (.int (16 : Int32)), (.ref b101), (.ref b101)])) _
    refine st135 _ ?_
    show Steps p.tables e below (T135.setTop (mkF m 105 #[.val (.int p0), .val (.int p1), .val (.int p2), .unset, .unset] [(.ref b101)])) _
    refine XS.dup X135.here hx rfl (hb hby at_105) rfl rfl ?_
    show Steps p.tables e below (T135.setTop (mkF m 106 #[.val (.int p0), .val (.int p1), .val (.int p2), .unset, .unset] [(.ref b101), (.ref b101)])) _
    refine XS.bipush X135.here hx rfl (hb hby at_106) ?_
    show Steps p.tables e below (T135.setTop (mkF m 108 #[.val (.int p0), .val (.int p1), .val (.int p2), .unset, .unset] [(.int (17 : Int32)), (.ref b101), (.ref b101)])) _
    refine XS.sipush X135.here hx rfl (hb hby at_108) ?_
    show Steps p.tables e below (T135.setTop (mkF m 111 #[.val (.int p0), .val (.int p1), .val (.int p2), .unset, .unset] [(.int (767 : Int32)), (.int (17 : Int32)), (.ref b101), (.ref b101)])) _
    refine st137 _ ?_
    show Steps p.tables e below (T137.setTop (mkF m 112 #[.val (.int p0), .val (.int p1), .val (.int p2), .unset, .unset] [(.ref b101)])) _
    refine XS.dup X137.here hx rfl (hb hby at_112) rfl rfl ?_
    show Steps p.tables e below (T137.setTop (mkF m 113 #[.val (.int p0), .val (.int p1), .val (.int p2), .unset, .unset] [(.ref b101), (.ref b101)])) _
    refine XS.bipush X137.here hx rfl (hb hby at_113) ?_
    show Steps p.tables e below (T137.setTop (mkF m 115 #[.val (.int p0), .val (.int p1), .val (.int p2), .unset, .unset] [(.int (18 : Int32)), (.ref b101), (.ref b101)])) _
    refine XS.sipush X137.here hx rfl (hb hby at_115) ?_
    show Steps p.tables e below (T137.setTop (mkF m 118 #[.val (.int p0), .val (.int p1), .val (.int p2), .unset, .unset] [(.int (880 : Int32)), (.int (18 : Int32)), (.ref b101), (.ref b101)])) _
    refine st139 _ ?_
    show Steps p.tables e below (T139.setTop (mkF m 119 #[.val (.int p0), .val (.int p1), .val (.int p2), .unset, .unset] [(.ref b101)])) _
    refine XS.dup X139.here hx rfl (hb hby at_119) rfl rfl ?_
    show Steps p.tables e below (T139.setTop (mkF m 120 #[.val (.int p0), .val (.int p1), .val (.int p2), .unset, .unset] [(.ref b101), (.ref b101)])) _
    refine XS.bipush X139.here hx rfl (hb hby at_120) ?_
    show Steps p.tables e below (T139.setTop (mkF m 122 #[.val (.int p0), .val (.int p1), .val (.int p2), .unset, .unset] [(.int (19 : Int32)), (.ref b101), (.ref b101)])) _
    refine XS.sipush X139.here hx rfl (hb hby at_122) ?_
    show Steps p.tables e below (T139.setTop (mkF m 125 #[.val (.int p0), .val (.int p1), .val (.int p2), .unset, .unset] [(.int (893 : Int32)), (.int (19 : Int32)), (.ref b101), (.ref b101)])) _
    refine st141 _ ?_
    show Steps p.tables e below (T141.setTop (mkF m 126 #[.val (.int p0), .val (.int p1), .val (.int p2), .unset, .unset] [(.ref b101)])) _
    refine XS.dup X141.here hx rfl (hb hby at_126) rfl rfl ?_
    show Steps p.tables e below (T141.setTop (mkF m 127 #[.val (.int p0), .val (.int p1), .val (.int p2), .unset, .unset] [(.ref b101), (.ref b101)])) _
    refine XS.bipush X141.here hx rfl (hb hby at_127) ?_
    show Steps p.tables e below (T141.setTop (mkF m 129 #[.val (.int p0), .val (.int p1), .val (.int p2), .unset, .unset] [(.int (20 : Int32)), (.ref b101), (.ref b101)])) _
    refine XS.sipush X141.here hx rfl (hb hby at_129) ?_
    show Steps p.tables e below (T141.setTop (mkF m 132 #[.val (.int p0), .val (.int p1), .val (.int p2), .unset, .unset] [(.int (895 : Int32)), (.int (20 : Int32)), (.ref b101), (.ref b101)])) _
    refine st143 _ ?_
    show Steps p.tables e below (T143.setTop (mkF m 133 #[.val (.int p0), .val (.int p1), .val (.int p2), .unset, .unset] [(.ref b101)])) _
    refine XS.dup X143.here hx rfl (hb hby at_133) rfl rfl ?_
    show Steps p.tables e below (T143.setTop (mkF m 134 #[.val (.int p0), .val (.int p1), .val (.int p2), .unset, .unset] [(.ref b101), (.ref b101)])) _
    refine XS.bipush X143.here hx rfl (hb hby at_134) ?_
    show Steps p.tables e below (T143.setTop (mkF m 136 #[.val (.int p0), .val (.int p1), .val (.int p2), .unset, .unset] [(.int (21 : Int32)), (.ref b101), (.ref b101)])) _
    refine XS.sipush X143.here hx rfl (hb hby at_136) ?_
    show Steps p.tables e below (T143.setTop (mkF m 139 #[.val (.int p0), .val (.int p1), .val (.int p2), .unset, .unset] [(.int (8191 : Int32)), (.int (21 : Int32)), (.ref b101), (.ref b101)])) _
    refine st145 _ ?_
    show Steps p.tables e below (T145.setTop (mkF m 140 #[.val (.int p0), .val (.int p1), .val (.int p2), .unset, .unset] [(.ref b101)])) _
    refine XS.dup X145.here hx rfl (hb hby at_140) rfl rfl ?_
    show Steps p.tables e below (T145.setTop (mkF m 141 #[.val (.int p0), .val (.int p1), .val (.int p2), .unset, .unset] [(.ref b101), (.ref b101)])) _
    refine XS.bipush X145.here hx rfl (hb hby at_141) ?_
    show Steps p.tables e below (T145.setTop (mkF m 143 #[.val (.int p0), .val (.int p1), .val (.int p2), .unset, .unset] [(.int (22 : Int32)), (.ref b101), (.ref b101)])) _
    refine XS.sipush X145.here hx rfl (hb hby at_143) ?_
    show Steps p.tables e below (T145.setTop (mkF m 146 #[.val (.int p0), .val (.int p1), .val (.int p2), .unset, .unset] [(.int (8204 : Int32)), (.int (22 : Int32)), (.ref b101), (.ref b101)])) _
    refine st147 _ ?_
    show Steps p.tables e below (T147.setTop (mkF m 147 #[.val (.int p0), .val (.int p1), .val (.int p2), .unset, .unset] [(.ref b101)])) _
    refine XS.dup X147.here hx rfl (hb hby at_147) rfl rfl ?_
    show Steps p.tables e below (T147.setTop (mkF m 148 #[.val (.int p0), .val (.int p1), .val (.int p2), .unset, .unset] [(.ref b101), (.ref b101)])) _
    refine XS.bipush X147.here hx rfl (hb hby at_148) ?_
    show Steps p.tables e below (T147.setTop (mkF m 150 #[.val (.int p0), .val (.int p1), .val (.int p2), .unset, .unset] [(.int (23 : Int32)), (.ref b101), (.ref b101)])) _
    refine XS.sipush X147.here hx rfl (hb hby at_150) ?_
    show Steps p.tables e below (T147.setTop (mkF m 153 #[.val (.int p0), .val (.int p1), .val (.int p2), .unset, .unset] [(.int (8205 : Int32)), (.int (23 : Int32)), (.ref b101), (.ref b101)])) _
    refine st149 _ ?_
    show Steps p.tables e below (T149.setTop (mkF m 154 #[.val (.int p0), .val (.int p1), .val (.int p2), .unset, .unset] [(.ref b101)])) _
    refine XS.dup X149.here hx rfl (hb hby at_154) rfl rfl ?_
    show Steps p.tables e below (T149.setTop (mkF m 155 #[.val (.int p0), .val (.int p1), .val (.int p2), .unset, .unset] [(.ref b101), (.ref b101)])) _
    refine XS.bipush X149.here hx rfl (hb hby at_155) ?_
    show Steps p.tables e below (T149.setTop (mkF m 157 #[.val (.int p0), .val (.int p1), .val (.int p2), .unset, .unset] [(.int (24 : Int32)), (.ref b101), (.ref b101)])) _
    refine XS.sipush X149.here hx rfl (hb hby at_157) ?_
    show Steps p.tables e below (T149.setTop (mkF m 160 #[.val (.int p0), .val (.int p1), .val (.int p2), .unset, .unset] [(.int (8304 : Int32)), (.int (24 : Int32)), (.ref b101), (.ref b101)])) _
    refine st151 _ ?_
    show Steps p.tables e below (T151.setTop (mkF m 161 #[.val (.int p0), .val (.int p1), .val (.int p2), .unset, .unset] [(.ref b101)])) _
    refine XS.dup X151.here hx rfl (hb hby at_161) rfl rfl ?_
    show Steps p.tables e below (T151.setTop (mkF m 162 #[.val (.int p0), .val (.int p1), .val (.int p2), .unset, .unset] [(.ref b101), (.ref b101)])) _
    refine XS.bipush X151.here hx rfl (hb hby at_162) ?_
    show Steps p.tables e below (T151.setTop (mkF m 164 #[.val (.int p0), .val (.int p1), .val (.int p2), .unset, .unset] [(.int (25 : Int32)), (.ref b101), (.ref b101)])) _
    refine XS.sipush X151.here hx rfl (hb hby at_164) ?_
    show Steps p.tables e below (T151.setTop (mkF m 167 #[.val (.int p0), .val (.int p1), .val (.int p2), .unset, .unset] [(.int (8591 : Int32)), (.int (25 : Int32)), (.ref b101), (.ref b101)])) _
    refine st153 _ ?_
    show Steps p.tables e below (T153.setTop (mkF m 168 #[.val (.int p0), .val (.int p1), .val (.int p2), .unset, .unset] [(.ref b101)])) _
    refine XS.dup X153.here hx rfl (hb hby at_168) rfl rfl ?_
    show Steps p.tables e below (T153.setTop (mkF m 169 #[.val (.int p0), .val (.int p1), .val (.int p2), .unset, .unset] [(.ref b101), (.ref b101)])) _
    refine XS.bipush X153.here hx rfl (hb hby at_169) ?_
    show Steps p.tables e below (T153.setTop (mkF m 171 #[.val (.int p0), .val (.int p1), .val (.int p2), .unset, .unset] [(.int (26 : Int32)), (.ref b101), (.ref b101)])) _
    refine XS.sipush X153.here hx rfl (hb hby at_171) ?_
    show Steps p.tables e below (T153.setTop (mkF m 174 #[.val (.int p0), .val (.int p1), .val (.int p2), .unset, .unset] [(.int (11264 : Int32)), (.int (26 : Int32)), (.ref b101), (.ref b101)])) _
    refine st155 _ ?_
    show Steps p.tables e below (T155.setTop (mkF m 175 #[.val (.int p0), .val (.int p1), .val (.int p2), .unset, .unset] [(.ref b101)])) _
    refine XS.dup X155.here hx rfl (hb hby at_175) rfl rfl ?_
    show Steps p.tables e below (T155.setTop (mkF m 176 #[.val (.int p0), .val (.int p1), .val (.int p2), .unset, .unset] [(.ref b101), (.ref b101)])) _
    refine XS.bipush X155.here hx rfl (hb hby at_176) ?_
    show Steps p.tables e below (T155.setTop (mkF m 178 #[.val (.int p0), .val (.int p1), .val (.int p2), .unset, .unset] [(.int (27 : Int32)), (.ref b101), (.ref b101)])) _
    refine XS.sipush X155.here hx rfl (hb hby at_178) ?_
    show Steps p.tables e below (T155.setTop (mkF m 181 #[.val (.int p0), .val (.int p1), .val (.int p2), .unset, .unset] [(.int (12271 : Int32)), (.int (27 : Int32)), (.ref b101), (.ref b101)])) _
    refine st157 _ ?_
    show Steps p.tables e below (T157.setTop (mkF m 182 #[.val (.int p0), .val (.int p1), .val (.int p2), .unset, .unset] [(.ref b101)])) _
    refine XS.dup X157.here hx rfl (hb hby at_182) rfl rfl ?_
    show Steps p.tables e below (T157.setTop (mkF m 183 #[.val (.int p0), .val (.int p1), .val (.int p2), .unset, .unset] [(.ref b101), (.ref b101)])) _
    refine XS.bipush X157.here hx rfl (hb hby at_183) ?_
    show Steps p.tables e below (T157.setTop (mkF m 185 #[.val (.int p0), .val (.int p1), .val (.int p2), .unset, .unset] [(.int (28 : Int32)), (.ref b101), (.ref b101)])) _
    refine XS.sipush X157.here hx rfl (hb hby at_185) ?_
    show Steps p.tables e below (T157.setTop (mkF m 188 #[.val (.int p0), .val (.int p1), .val (.int p2), .unset, .unset] [(.int (12289 : Int32)), (.int (28 : Int32)), (.ref b101), (.ref b101)])) _
    refine st159 _ ?_
    show Steps p.tables e below (T159.setTop (mkF m 189 #[.val (.int p0), .val (.int p1), .val (.int p2), .unset, .unset] [(.ref b101)])) _
    refine XS.dup X159.here hx rfl (hb hby at_189) rfl rfl ?_
    show Steps p.tables e below (T159.setTop (mkF m 190 #[.val (.int p0), .val (.int p1), .val (.int p2), .unset, .unset] [(.ref b101), (.ref b101)])) _
    refine XS.bipush X159.here hx rfl (hb hby at_190) ?_
    show Steps p.tables e below (T159.setTop (mkF m 192 #[.val (.int p0), .val (.int p1), .val (.int p2), .unset, .unset] [(.int (29 : Int32)), (.ref b101), (.ref b101)])) _
    refine X159.ldcInt hx hown (mvT hZ (hw _ (List.mem_of_getElem? (i := 1) rfl))) (g := (mkF m 192 #[.val (.int p0), .val (.int p1), .val (.int p2), .unset, .unset] [(.int (29 : Int32)), (.ref b101), (.ref b101)])) rfl (hb hby at_192) _ ?_
    show Steps p.tables e below (T159.setTop (mkF m 194 #[.val (.int p0), .val (.int p1), .val (.int p2), .unset, .unset] [(.int (55295 : Int32)), (.int (29 : Int32)), (.ref b101), (.ref b101)])) _
    refine st161 _ ?_
    show Steps p.tables e below (T161.setTop (mkF m 195 #[.val (.int p0), .val (.int p1), .val (.int p2), .unset, .unset] [(.ref b101)])) _
    refine XS.dup X161.here hx rfl (hb hby at_195) rfl rfl ?_
    show Steps p.tables e below (T161.setTop (mkF m 196 #[.val (.int p0), .val (.int p1), .val (.int p2), .unset, .unset] [(.ref b101), (.ref b101)])) _
    refine XS.bipush X161.here hx rfl (hb hby at_196) ?_
    show Steps p.tables e below (T161.setTop (mkF m 198 #[.val (.int p0), .val (.int p1), .val (.int p2), .unset, .unset] [(.int (30 : Int32)), (.ref b101), (.ref b101)])) _
    refine X161.ldcInt hx hown (mvT hZ (hw _ (List.mem_of_getElem? (i := 2) rfl))) (g := (mkF m 198 #[.val (.int p0), .val (.int p1), .val (.int p2), .unset, .unset] [(.int (30 : Int32)), (.ref b101), (.ref b101)])) rfl (hb hby at_198) _ ?_
    show Steps p.tables e below (T161.setTop (mkF m 200 #[.val (.int p0), .val (.int p1), .val (.int p2), .unset, .unset] [(.int (63744 : Int32)), (.int (30 : Int32)), (.ref b101), (.ref b101)])) _
    refine st163 _ ?_
    show Steps p.tables e below (T163.setTop (mkF m 201 #[.val (.int p0), .val (.int p1), .val (.int p2), .unset, .unset] [(.ref b101)])) _
    refine XS.dup X163.here hx rfl (hb hby at_201) rfl rfl ?_
    show Steps p.tables e below (T163.setTop (mkF m 202 #[.val (.int p0), .val (.int p1), .val (.int p2), .unset, .unset] [(.ref b101), (.ref b101)])) _
    refine XS.bipush X163.here hx rfl (hb hby at_202) ?_
    show Steps p.tables e below (T163.setTop (mkF m 204 #[.val (.int p0), .val (.int p1), .val (.int p2), .unset, .unset] [(.int (31 : Int32)), (.ref b101), (.ref b101)])) _
    refine X163.ldcInt hx hown (mvT hZ (hw _ (List.mem_of_getElem? (i := 3) rfl))) (g := (mkF m 204 #[.val (.int p0), .val (.int p1), .val (.int p2), .unset, .unset] [(.int (31 : Int32)), (.ref b101), (.ref b101)])) rfl (hb hby at_204) _ ?_
    show Steps p.tables e below (T163.setTop (mkF m 206 #[.val (.int p0), .val (.int p1), .val (.int p2), .unset, .unset] [(.int (64975 : Int32)), (.int (31 : Int32)), (.ref b101), (.ref b101)])) _
    refine st165 _ ?_
    show Steps p.tables e below (T165.setTop (mkF m 207 #[.val (.int p0), .val (.int p1), .val (.int p2), .unset, .unset] [(.ref b101)])) _
    refine XS.dup X165.here hx rfl (hb hby at_207) rfl rfl ?_
    show Steps p.tables e below (T165.setTop (mkF m 208 #[.val (.int p0), .val (.int p1), .val (.int p2), .unset, .unset] [(.ref b101), (.ref b101)])) _
    refine XS.bipush X165.here hx rfl (hb hby at_208) ?_
    show Steps p.tables e below (T165.setTop (mkF m 210 #[.val (.int p0), .val (.int p1), .val (.int p2), .unset, .unset] [(.int (32 : Int32)), (.ref b101), (.ref b101)])) _
    refine X165.ldcInt hx hown (mvT hZ (hw _ (List.mem_of_getElem? (i := 4) rfl))) (g := (mkF m 210 #[.val (.int p0), .val (.int p1), .val (.int p2), .unset, .unset] [(.int (32 : Int32)), (.ref b101), (.ref b101)])) rfl (hb hby at_210) _ ?_
    show Steps p.tables e below (T165.setTop (mkF m 212 #[.val (.int p0), .val (.int p1), .val (.int p2), .unset, .unset] [(.int (65008 : Int32)), (.int (32 : Int32)), (.ref b101), (.ref b101)])) _
    refine st167 _ ?_
    show Steps p.tables e below (T167.setTop (mkF m 213 #[.val (.int p0), .val (.int p1), .val (.int p2), .unset, .unset] [(.ref b101)])) _
    refine XS.dup X167.here hx rfl (hb hby at_213) rfl rfl ?_
    show Steps p.tables e below (T167.setTop (mkF m 214 #[.val (.int p0), .val (.int p1), .val (.int p2), .unset, .unset] [(.ref b101), (.ref b101)])) _
    refine XS.bipush X167.here hx rfl (hb hby at_214) ?_
    show Steps p.tables e below (T167.setTop (mkF m 216 #[.val (.int p0), .val (.int p1), .val (.int p2), .unset, .unset] [(.int (33 : Int32)), (.ref b101), (.ref b101)])) _
    refine X167.ldcInt hx hown (mvT hZ (hw _ (List.mem_of_getElem? (i := 5) rfl))) (g := (mkF m 216 #[.val (.int p0), .val (.int p1), .val (.int p2), .unset, .unset] [(.int (33 : Int32)), (.ref b101), (.ref b101)])) rfl (hb hby at_216) _ ?_
    show Steps p.tables e below (T167.setTop (mkF m 218 #[.val (.int p0), .val (.int p1), .val (.int p2), .unset, .unset] [(.int (65533 : Int32)), (.int (33 : Int32)), (.ref b101), (.ref b101)])) _
    refine st169 _ ?_
    show Steps p.tables e below (T169.setTop (mkF m 219 #[.val (.int p0), .val (.int p1), .val (.int p2), .unset, .unset] [(.ref b101)])) _
    refine XS.dup X169.here hx rfl (hb hby at_219) rfl rfl ?_
    show Steps p.tables e below (T169.setTop (mkF m 220 #[.val (.int p0), .val (.int p1), .val (.int p2), .unset, .unset] [(.ref b101), (.ref b101)])) _
    refine XS.bipush X169.here hx rfl (hb hby at_220) ?_
    show Steps p.tables e below (T169.setTop (mkF m 222 #[.val (.int p0), .val (.int p1), .val (.int p2), .unset, .unset] [(.int (34 : Int32)), (.ref b101), (.ref b101)])) _
    refine X169.ldcInt hx hown (mvT hZ (hw _ (List.mem_of_getElem? (i := 6) rfl))) (g := (mkF m 222 #[.val (.int p0), .val (.int p1), .val (.int p2), .unset, .unset] [(.int (34 : Int32)), (.ref b101), (.ref b101)])) rfl (hb hby at_222) _ ?_
    show Steps p.tables e below (T169.setTop (mkF m 224 #[.val (.int p0), .val (.int p1), .val (.int p2), .unset, .unset] [(.int (65536 : Int32)), (.int (34 : Int32)), (.ref b101), (.ref b101)])) _
    refine st171 _ ?_
    show Steps p.tables e below (T171.setTop (mkF m 225 #[.val (.int p0), .val (.int p1), .val (.int p2), .unset, .unset] [(.ref b101)])) _
    refine XS.dup X171.here hx rfl (hb hby at_225) rfl rfl ?_
    show Steps p.tables e below (T171.setTop (mkF m 226 #[.val (.int p0), .val (.int p1), .val (.int p2), .unset, .unset] [(.ref b101), (.ref b101)])) _
    refine XS.bipush X171.here hx rfl (hb hby at_226) ?_
    show Steps p.tables e below (T171.setTop (mkF m 228 #[.val (.int p0), .val (.int p1), .val (.int p2), .unset, .unset] [(.int (35 : Int32)), (.ref b101), (.ref b101)])) _
    refine X171.ldcInt hx hown (mvT hZ (hw _ (List.mem_of_getElem? (i := 7) rfl))) (g := (mkF m 228 #[.val (.int p0), .val (.int p1), .val (.int p2), .unset, .unset] [(.int (35 : Int32)), (.ref b101), (.ref b101)])) rfl (hb hby at_228) _ ?_
    show Steps p.tables e below (T171.setTop (mkF m 230 #[.val (.int p0), .val (.int p1), .val (.int p2), .unset, .unset] [(.int (983039 : Int32)), (.int (35 : Int32)), (.ref b101), (.ref b101)])) _
    refine st173 _ ?_
    show Steps p.tables e below (T173.setTop (mkF m 231 #[.val (.int p0), .val (.int p1), .val (.int p2), .unset, .unset] [(.ref b101)])) _
    refine XS.dup X173.here hx rfl (hb hby at_231) rfl rfl ?_
    show Steps p.tables e below (T173.setTop (mkF m 232 #[.val (.int p0), .val (.int p1), .val (.int p2), .unset, .unset] [(.ref b101), (.ref b101)])) _
    refine XS.bipush X173.here hx rfl (hb hby at_232) ?_
    show Steps p.tables e below (T173.setTop (mkF m 234 #[.val (.int p0), .val (.int p1), .val (.int p2), .unset, .unset] [(.int (36 : Int32)), (.ref b101), (.ref b101)])) _
    refine X173.ldcInt hx hown (mvT hZ (hw _ (List.mem_of_getElem? (i := 8) rfl))) (g := (mkF m 234 #[.val (.int p0), .val (.int p1), .val (.int p2), .unset, .unset] [(.int (36 : Int32)), (.ref b101), (.ref b101)])) rfl (hb hby at_234) _ ?_
    show Steps p.tables e below (T173.setTop (mkF m 236 #[.val (.int p0), .val (.int p1), .val (.int p2), .unset, .unset] [(.int (1114111 : Int32)), (.int (36 : Int32)), (.ref b101), (.ref b101)])) _
    refine st175 _ ?_
    show Steps p.tables e below (T175.setTop (mkF m 237 #[.val (.int p0), .val (.int p1), .val (.int p2), .unset, .unset] [(.ref b101)])) _
    refine XS.astoreN X175.here hx rfl (hb hby at_237) rfl rfl (l' := #[.val (.int p0), .val (.int p1), .val (.int p2), .val (.ref b101), .unset]) rfl ?_
    show Steps p.tables e below (T175.setTop (mkF m 238 #[.val (.int p0), .val (.int p1), .val (.int p2), .val (.ref b101), .unset] [])) _
    refine XS.iloadN X175.here hx rfl (hb hby at_238) rfl ?_
    show Steps p.tables e below (T175.setTop (mkF m 239 #[.val (.int p0), .val (.int p1), .val (.int p2), .val (.ref b101), .unset] [(.int p1)])) _
    refine XS.iconst X175.here hx rfl (hb hby at_239) ?_
    show Steps p.tables e below (T175.setTop (mkF m 240 #[.val (.int p0), .val (.int p1), .val (.int p2), .val (.ref b101), .unset] [(.int (1 : Int32)), (.int p1)])) _
    refine XS.iand X175.here hx rfl (hb hby at_240) rfl ?_
    exact k
  by_cases hc177 : (p1 &&& (1 : Int32)) = (0 : Int32)
  · obtain ⟨cl178, Ar178, q178, S178, M178, H178, G178⟩ := id V175b
    obtain ⟨z257, hz257⟩ := own_ints [(0 : Int32), (58 : Int32), (64 : Int32), (65 : Int32), (90 : Int32), (91 : Int32), (95 : Int32), (96 : Int32), (97 : Int32), (122 : Int32), (123 : Int32), (183 : Int32), (192 : Int32), (214 : Int32), (216 : Int32), (246 : Int32), (248 : Int32), (767 : Int32), (880 : Int32), (893 : Int32), (895 : Int32), (8191 : Int32), (8204 : Int32), (8205 : Int32), (8304 : Int32), (8591 : Int32), (11264 : Int32), (12271 : Int32), (12289 : Int32), (55295 : Int32), (63744 : Int32), (64975 : Int32), (65008 : Int32), (65533 : Int32), (65536 : Int32), (983039 : Int32), (1114111 : Int32)] ((((p1.toUInt32 >>> ((1 : Int32) &&& 31).toUInt32).toInt32) % (37 : Int32))).toNatClampNeg
    obtain ⟨cl179, Ar179, q179, S179, M179, H179, G179⟩ := id V175b
    obtain ⟨_, _, ⟨T180, L180, k180, n180⟩, -, X180, ⟨Lc180, hQ180, l180, y180, z180⟩, st180⟩ := Jvm.LawKit.callS X175 hx (y := (⟨"com/example/compact_path/compactpath/reading/XmlNames", "isNameStart", "(I)Z"⟩ : MethodName)) hown (mvT hZ (hw _ (List.mem_of_getElem? (i := 9) rfl))) (mvT hZ (hw _ (List.mem_of_getElem? (i := 10) rfl))) (mvT hZ (hw _ (List.mem_of_getElem? (i := 11) rfl))) (mvT hZ (hw _ (List.mem_of_getElem? (i := 12) rfl))) (by decide) (backOf (W := 0) (rm1 l Z aw hw [] (z257 + (p2 % (3 : Int32))) h175 n0 Z175 ) hZ (hw _ (List.mem_of_getElem? (i := 12) rfl)) (hw _ (List.mem_of_getElem? (i := 11) rfl)) (by decide) (by decide)) (g := (mkF m 266 #[.val (.int p0), .val (.int p1), .val (.int p2), .val (.ref b101), .val (.int (z257 + (p2 % (3 : Int32))))] [(.int (z257 + (p2 % (3 : Int32))))])) rfl (by rw [hml]; rfl) (argsL := [(.int (z257 + (p2 % (3 : Int32))))]) (rest := []) (lenOf pd_1 rfl) rfl (by show 2 * 0 + _ ≤ _; exact Nat.le_of_eq rfl) (hb hby at_266) (fun _ _ => ⟨rfl, e175, (by decide : 1 + 0 ≤ _), (by decide : 37 + 0 ≤ _)⟩)
    dsimp only [Pt.U, Pt.locs, Pt.cells, Pt.slots] at X180 l180 y180 z180 st180 hQ180
    rw [l180, y180, z180] at X180
    obtain ⟨hv180, N180q, e180⟩ := hQ180
    rw [own_nar] at hv180
    subst hv180
    have N180 := Fr.app N175 N180q
    obtain ⟨_, _, ⟨T181, L181, k181, n181⟩, -, X181, ⟨Lc181, hQ181, l181, y181, z181⟩, st181⟩ := Jvm.LawKit.callS X180 hx (y := (⟨"com/example/compact_path/compactpath/reading/XmlNamesIsNameStartPinLaw", "reference", "(I)Z"⟩ : MethodName)) hown (mvT hZ (hw _ (List.mem_of_getElem? (i := 16) rfl))) (mvT hZ (hw _ (List.mem_of_getElem? (i := 17) rfl))) (mvT hZ (hw _ (List.mem_of_getElem? (i := 18) rfl))) (mvT hZ (hw _ (List.mem_of_getElem? (i := 19) rfl))) (by decide) (backOf (W := 1) (rm2 l Z aw hw [] (z257 + (p2 % (3 : Int32))) h175 n0 Z175 ) hZ (hw _ (List.mem_of_getElem? (i := 19) rfl)) (hw _ (List.mem_of_getElem? (i := 18) rfl)) (by decide) (by decide)) (g := (mkF m 271 #[.val (.int p0), .val (.int p1), .val (.int p2), .val (.ref b101), .val (.int (z257 + (p2 % (3 : Int32))))] [(.int (z257 + (p2 % (3 : Int32)))), (.int (if own_n0 (z257 + (p2 % (3 : Int32))) = true then (1 : Int32) else 0))])) rfl (by rw [hml]; rfl) (argsL := [(.int (z257 + (p2 % (3 : Int32))))]) (rest := [(.int (if own_n0 (z257 + (p2 % (3 : Int32))) = true then (1 : Int32) else 0))]) (lenOf pd_1 rfl) rfl (by show 2 * 0 + _ ≤ _; exact Nat.le_of_eq rfl) (hb hby at_271) (fun _ _ => ⟨rfl, e180, (by decide : 1 + 0 ≤ _), (by decide : 37 + 0 ≤ _)⟩)
    dsimp only [Pt.U, Pt.locs, Pt.cells, Pt.slots] at X181 l181 y181 z181 st181 hQ181
    rw [l181, y181, z181] at X181
    obtain ⟨hv181, N181q, e181⟩ := hQ181
    rw [own_nar] at hv181
    subst hv181
    have N181 := Fr.app N180 N181q
    obtain ⟨fs, hr, hrun, hended, hW, hsame⟩ := X181.leave (v := some (.int (1 : Int32))) (fun h => by rw [Bd.returns] at h; cases h)
    refine ⟨_, _, pre176 _ ?_, hrun, hended, _, _, rfl, ?_, ⟨_, rfl⟩, hW, hsame.mono (by decide) (by decide)⟩
    · show Steps p.tables e below (T175.setTop (mkF m 241 #[.val (.int p0), .val (.int p1), .val (.int p2), .val (.ref b101), .unset] [(.int (p1 &&& (1 : Int32)))])) _
      refine XS.ifYes X175.here hx rfl (pc0 := 241) (pc' := 250) rfl (hb hby at_241) rfl ((if0 _ _).trans (teq hc177).1) (by decide) (by decide) ?_
      show Steps p.tables e below (T175.setTop (mkF m 250 #[.val (.int p0), .val (.int p1), .val (.int p2), .val (.ref b101), .unset] [])) _
      refine XS.aloadN X175.here hx rfl (hb hby at_250) rfl rfl ?_
      show Steps p.tables e below (T175.setTop (mkF m 251 #[.val (.int p0), .val (.int p1), .val (.int p2), .val (.ref b101), .unset] [(.ref b101)])) _
      refine XS.iloadN X175.here hx rfl (hb hby at_251) rfl ?_
      show Steps p.tables e below (T175.setTop (mkF m 252 #[.val (.int p0), .val (.int p1), .val (.int p2), .val (.ref b101), .unset] [(.int p1), (.ref b101)])) _
      refine XS.iconst X175.here hx rfl (hb hby at_252) ?_
      show Steps p.tables e below (T175.setTop (mkF m 253 #[.val (.int p0), .val (.int p1), .val (.int p2), .val (.ref b101), .unset] [(.int (1 : Int32)), (.int p1), (.ref b101)])) _
      refine XS.iushr X175.here hx rfl (hb hby at_253) rfl ?_
      show Steps p.tables e below (T175.setTop (mkF m 254 #[.val (.int p0), .val (.int p1), .val (.int p2), .val (.ref b101), .unset] [(.int ((p1.toUInt32 >>> ((1 : Int32) &&& 31).toUInt32).toInt32)), (.ref b101)])) _
      refine XS.aloadN X175.here hx rfl (hb hby at_254) rfl rfl ?_
      show Steps p.tables e below (T175.setTop (mkF m 255 #[.val (.int p0), .val (.int p1), .val (.int p2), .val (.ref b101), .unset] [(.ref b101), (.int ((p1.toUInt32 >>> ((1 : Int32) &&& 31).toUInt32).toInt32)), (.ref b101)])) _
      refine X175.arraylength hx (by rw [e175]; exact Ar178.1) (State.isArrayOf_alike hZ.alike Ar178.2.1) (g := (mkF m 255 #[.val (.int p0), .val (.int p1), .val (.int p2), .val (.ref b101), .unset] [(.ref b101), (.int ((p1.toUInt32 >>> ((1 : Int32) &&& 31).toUInt32).toInt32)), (.ref b101)])) rfl rfl (hb hby at_255) _ ?_
      rw [len_of S178 M178]
      show Steps p.tables e below (T175.setTop (mkF m 256 #[.val (.int p0), .val (.int p1), .val (.int p2), .val (.ref b101), .unset] [(.int (37 : Int32)), (.int ((p1.toUInt32 >>> ((1 : Int32) &&& 31).toUInt32).toInt32)), (.ref b101)])) _
      refine iremM X175 hx rfl (hb hby at_256) rfl (by decide) ?_
      show Steps p.tables e below (T175.setTop (mkF m 257 #[.val (.int p0), .val (.int p1), .val (.int p2), .val (.ref b101), .unset] [(.int (((p1.toUInt32 >>> ((1 : Int32) &&& 31).toUInt32).toInt32) % (37 : Int32))), (.ref b101)])) _
      have hin179 : ¬ ((((p1.toUInt32 >>> ((1 : Int32) &&& 31).toUInt32).toInt32) % (37 : Int32)) < 0 ∨ cl179.slots.size ≤ ((((p1.toUInt32 >>> ((1 : Int32) &&& 31).toUInt32).toInt32) % (37 : Int32))).toNatClampNeg) := (inb_of S179 ⟨(own_ix p1).1, (own_ix p1).2⟩)
      refine X175.iaload hx (j := (((p1.toUInt32 >>> ((1 : Int32) &&& 31).toUInt32).toInt32) % (37 : Int32))) (v := (.int z257)) (by rw [e175]; exact Ar179.1) (State.isArrayOf_alike hZ.alike Ar179.2.1) Ar179.2.2 hin179 (H179.at hin179 hz257) (g := (mkF m 257 #[.val (.int p0), .val (.int p1), .val (.int p2), .val (.ref b101), .unset] [(.int (((p1.toUInt32 >>> ((1 : Int32) &&& 31).toUInt32).toInt32) % (37 : Int32))), (.ref b101)])) rfl rfl (hb hby at_257) _ ?_
      show Steps p.tables e below (T175.setTop (mkF m 258 #[.val (.int p0), .val (.int p1), .val (.int p2), .val (.ref b101), .unset] [(.int z257)])) _
      refine XS.iloadN X175.here hx rfl (hb hby at_258) rfl ?_
      show Steps p.tables e below (T175.setTop (mkF m 259 #[.val (.int p0), .val (.int p1), .val (.int p2), .val (.ref b101), .unset] [(.int p2), (.int z257)])) _
      refine XS.iconst X175.here hx rfl (hb hby at_259) ?_
      show Steps p.tables e below (T175.setTop (mkF m 260 #[.val (.int p0), .val (.int p1), .val (.int p2), .val (.ref b101), .unset] [(.int (3 : Int32)), (.int p2), (.int z257)])) _
      refine iremM X175 hx rfl (hb hby at_260) rfl (by decide) ?_
      show Steps p.tables e below (T175.setTop (mkF m 261 #[.val (.int p0), .val (.int p1), .val (.int p2), .val (.ref b101), .unset] [(.int (p2 % (3 : Int32))), (.int z257)])) _
      refine XS.iadd X175.here hx rfl (hb hby at_261) rfl ?_
      show Steps p.tables e below (T175.setTop (mkF m 262 #[.val (.int p0), .val (.int p1), .val (.int p2), .val (.ref b101), .unset] [(.int (z257 + (p2 % (3 : Int32))))])) _
      refine XS.istore X175.here hx rfl (hb hby at_262) rfl (l' := #[.val (.int p0), .val (.int p1), .val (.int p2), .val (.ref b101), .val (.int (z257 + (p2 % (3 : Int32))))]) rfl ?_
      show Steps p.tables e below (T175.setTop (mkF m 264 #[.val (.int p0), .val (.int p1), .val (.int p2), .val (.ref b101), .val (.int (z257 + (p2 % (3 : Int32))))] [])) _
      refine XS.iload X175.here hx rfl (hb hby at_264) rfl ?_
      show Steps p.tables e below (T175.setTop (mkF m 266 #[.val (.int p0), .val (.int p1), .val (.int p2), .val (.ref b101), .val (.int (z257 + (p2 % (3 : Int32))))] [(.int (z257 + (p2 % (3 : Int32))))])) _
      refine st180 _ ?_
      show Steps p.tables e below (T180.setTop (mkF m 269 #[.val (.int p0), .val (.int p1), .val (.int p2), .val (.ref b101), .val (.int (z257 + (p2 % (3 : Int32))))] [(.int (if own_n0 (z257 + (p2 % (3 : Int32))) = true then (1 : Int32) else 0))])) _
      refine XS.iload X180.here hx rfl (hb hby at_269) rfl ?_
      show Steps p.tables e below (T180.setTop (mkF m 271 #[.val (.int p0), .val (.int p1), .val (.int p2), .val (.ref b101), .val (.int (z257 + (p2 % (3 : Int32))))] [(.int (z257 + (p2 % (3 : Int32)))), (.int (if own_n0 (z257 + (p2 % (3 : Int32))) = true then (1 : Int32) else 0))])) _
      refine st181 _ ?_
      show Steps p.tables e below (T181.setTop (mkF m 274 #[.val (.int p0), .val (.int p1), .val (.int p2), .val (.ref b101), .val (.int (z257 + (p2 % (3 : Int32))))] [(.int (if own_ref (z257 + (p2 % (3 : Int32))) = true then (1 : Int32) else 0)), (.int (if own_n0 (z257 + (p2 % (3 : Int32))) = true then (1 : Int32) else 0))])) _
      refine XS.icmpNo X181.here hx rfl (hb hby at_274) rfl (teq (by rw [own_same])).2 ?_
      show Steps p.tables e below (T181.setTop (mkF m 277 #[.val (.int p0), .val (.int p1), .val (.int p2), .val (.ref b101), .val (.int (z257 + (p2 % (3 : Int32))))] [])) _
      refine XS.iconst X181.here hx rfl (hb hby at_277) ?_
      show Steps p.tables e below (T181.setTop (mkF m 278 #[.val (.int p0), .val (.int p1), .val (.int p2), .val (.ref b101), .val (.int (z257 + (p2 % (3 : Int32))))] [(.int (1 : Int32))])) _
      refine XS.goto X181.here hx rfl (pc0 := 278) (pc' := 282) rfl (hb hby at_278) (by decide) (by decide) ?_
      show Steps p.tables e below (T181.setTop (mkF m 282 #[.val (.int p0), .val (.int p1), .val (.int p2), .val (.ref b101), .val (.int (z257 + (p2 % (3 : Int32))))] [(.int (1 : Int32))])) _
      exact retN X181 hx (t := .boolean) Bd.returns (by simp) (hb hby at_282) hr
    · show Q0 Z p0 p1 p2 h0 n0 _ T181.heap _
      rw [e181]
      exact ⟨rfl, N181⟩
  · obtain ⟨_, _, ⟨T182, L182, k182, n182⟩, -, X182, ⟨Lc182, hQ182, l182, y182, z182⟩, st182⟩ := Jvm.LawKit.callS X175 hx (y := (⟨"com/example/compact_path/compactpath/reading/XmlNames", "isNameStart", "(I)Z"⟩ : MethodName)) hown (mvT hZ (hw _ (List.mem_of_getElem? (i := 9) rfl))) (mvT hZ (hw _ (List.mem_of_getElem? (i := 10) rfl))) (mvT hZ (hw _ (List.mem_of_getElem? (i := 11) rfl))) (mvT hZ (hw _ (List.mem_of_getElem? (i := 12) rfl))) (by decide) (backOf (W := 0) (rm1 l Z aw hw [] p0 h175 n0 Z175 ) hZ (hw _ (List.mem_of_getElem? (i := 12) rfl)) (hw _ (List.mem_of_getElem? (i := 11) rfl)) (by decide) (by decide)) (g := (mkF m 266 #[.val (.int p0), .val (.int p1), .val (.int p2), .val (.ref b101), .val (.int p0)] [(.int p0)])) rfl (by rw [hml]; rfl) (argsL := [(.int p0)]) (rest := []) (lenOf pd_1 rfl) rfl (by show 2 * 0 + _ ≤ _; exact Nat.le_of_eq rfl) (hb hby at_266) (fun _ _ => ⟨rfl, e175, (by decide : 1 + 0 ≤ _), (by decide : 37 + 0 ≤ _)⟩)
    dsimp only [Pt.U, Pt.locs, Pt.cells, Pt.slots] at X182 l182 y182 z182 st182 hQ182
    rw [l182, y182, z182] at X182
    obtain ⟨hv182, N182q, e182⟩ := hQ182
    rw [own_nar] at hv182
    subst hv182
    have N182 := Fr.app N175 N182q
    obtain ⟨_, _, ⟨T183, L183, k183, n183⟩, -, X183, ⟨Lc183, hQ183, l183, y183, z183⟩, st183⟩ := Jvm.LawKit.callS X182 hx (y := (⟨"com/example/compact_path/compactpath/reading/XmlNamesIsNameStartPinLaw", "reference", "(I)Z"⟩ : MethodName)) hown (mvT hZ (hw _ (List.mem_of_getElem? (i := 16) rfl))) (mvT hZ (hw _ (List.mem_of_getElem? (i := 17) rfl))) (mvT hZ (hw _ (List.mem_of_getElem? (i := 18) rfl))) (mvT hZ (hw _ (List.mem_of_getElem? (i := 19) rfl))) (by decide) (backOf (W := 1) (rm2 l Z aw hw [] p0 h175 n0 Z175 ) hZ (hw _ (List.mem_of_getElem? (i := 19) rfl)) (hw _ (List.mem_of_getElem? (i := 18) rfl)) (by decide) (by decide)) (g := (mkF m 271 #[.val (.int p0), .val (.int p1), .val (.int p2), .val (.ref b101), .val (.int p0)] [(.int p0), (.int (if own_n0 p0 = true then (1 : Int32) else 0))])) rfl (by rw [hml]; rfl) (argsL := [(.int p0)]) (rest := [(.int (if own_n0 p0 = true then (1 : Int32) else 0))]) (lenOf pd_1 rfl) rfl (by show 2 * 0 + _ ≤ _; exact Nat.le_of_eq rfl) (hb hby at_271) (fun _ _ => ⟨rfl, e182, (by decide : 1 + 0 ≤ _), (by decide : 37 + 0 ≤ _)⟩)
    dsimp only [Pt.U, Pt.locs, Pt.cells, Pt.slots] at X183 l183 y183 z183 st183 hQ183
    rw [l183, y183, z183] at X183
    obtain ⟨hv183, N183q, e183⟩ := hQ183
    rw [own_nar] at hv183
    subst hv183
    have N183 := Fr.app N182 N183q
    obtain ⟨fs, hr, hrun, hended, hW, hsame⟩ := X183.leave (v := some (.int (1 : Int32))) (fun h => by rw [Bd.returns] at h; cases h)
    refine ⟨_, _, pre176 _ ?_, hrun, hended, _, _, rfl, ?_, ⟨_, rfl⟩, hW, hsame.mono (by decide) (by decide)⟩
    · show Steps p.tables e below (T175.setTop (mkF m 241 #[.val (.int p0), .val (.int p1), .val (.int p2), .val (.ref b101), .unset] [(.int (p1 &&& (1 : Int32)))])) _
      refine XS.ifNo X175.here hx rfl (hb hby at_241) rfl ((if0 _ _).trans (feq hc177).1) ?_
      show Steps p.tables e below (T175.setTop (mkF m 244 #[.val (.int p0), .val (.int p1), .val (.int p2), .val (.ref b101), .unset] [])) _
      refine XS.iloadN X175.here hx rfl (hb hby at_244) rfl ?_
      show Steps p.tables e below (T175.setTop (mkF m 245 #[.val (.int p0), .val (.int p1), .val (.int p2), .val (.ref b101), .unset] [(.int p0)])) _
      refine XS.istore X175.here hx rfl (hb hby at_245) rfl (l' := #[.val (.int p0), .val (.int p1), .val (.int p2), .val (.ref b101), .val (.int p0)]) rfl ?_
      show Steps p.tables e below (T175.setTop (mkF m 247 #[.val (.int p0), .val (.int p1), .val (.int p2), .val (.ref b101), .val (.int p0)] [])) _
      refine XS.goto X175.here hx rfl (pc0 := 247) (pc' := 264) rfl (hb hby at_247) (by decide) (by decide) ?_
      show Steps p.tables e below (T175.setTop (mkF m 264 #[.val (.int p0), .val (.int p1), .val (.int p2), .val (.ref b101), .val (.int p0)] [])) _
      refine XS.iload X175.here hx rfl (hb hby at_264) rfl ?_
      show Steps p.tables e below (T175.setTop (mkF m 266 #[.val (.int p0), .val (.int p1), .val (.int p2), .val (.ref b101), .val (.int p0)] [(.int p0)])) _
      refine st182 _ ?_
      show Steps p.tables e below (T182.setTop (mkF m 269 #[.val (.int p0), .val (.int p1), .val (.int p2), .val (.ref b101), .val (.int p0)] [(.int (if own_n0 p0 = true then (1 : Int32) else 0))])) _
      refine XS.iload X182.here hx rfl (hb hby at_269) rfl ?_
      show Steps p.tables e below (T182.setTop (mkF m 271 #[.val (.int p0), .val (.int p1), .val (.int p2), .val (.ref b101), .val (.int p0)] [(.int p0), (.int (if own_n0 p0 = true then (1 : Int32) else 0))])) _
      refine st183 _ ?_
      show Steps p.tables e below (T183.setTop (mkF m 274 #[.val (.int p0), .val (.int p1), .val (.int p2), .val (.ref b101), .val (.int p0)] [(.int (if own_ref p0 = true then (1 : Int32) else 0)), (.int (if own_n0 p0 = true then (1 : Int32) else 0))])) _
      refine XS.icmpNo X183.here hx rfl (hb hby at_274) rfl (teq (by rw [own_same])).2 ?_
      show Steps p.tables e below (T183.setTop (mkF m 277 #[.val (.int p0), .val (.int p1), .val (.int p2), .val (.ref b101), .val (.int p0)] [])) _
      refine XS.iconst X183.here hx rfl (hb hby at_277) ?_
      show Steps p.tables e below (T183.setTop (mkF m 278 #[.val (.int p0), .val (.int p1), .val (.int p2), .val (.ref b101), .val (.int p0)] [(.int (1 : Int32))])) _
      refine XS.goto X183.here hx rfl (pc0 := 278) (pc' := 282) rfl (hb hby at_278) (by decide) (by decide) ?_
      show Steps p.tables e below (T183.setTop (mkF m 282 #[.val (.int p0), .val (.int p1), .val (.int p2), .val (.ref b101), .val (.int p0)] [(.int (1 : Int32))])) _
      exact retN X183 hx (t := .boolean) Bd.returns (by simp) (hb hby at_282) hr
    · show Q0 Z p0 p1 p2 h0 n0 _ T183.heap _
      rw [e183]
      exact ⟨rfl, N183⟩
set_option maxRecDepth 65536 in
set_option maxHeartbeats 40000000 in
theorem comes_1 {Post : Tables → Env → Array Value → State → Outcome → State → Prop} (hpost : ∀ tb e args s v u, (limb_1_1.after args s (.returned v) u = true ∧ limb_1_2.after args s (.returned v) u = true ∧ True) → FrameEnd s (.returned v) u (Jvm.fieldLocs frame_1_writes args s ++ Jvm.arrayLocs frame_1_arrays args s ++ Jvm.staticLocs frame_1_statics s) 16 192 → Post tb e args s (.returned v) u) :
    ArmFor flags0 classFile x code maxLocals ret World_1 tables_1 room_1 Calls_1 rest_1 Pre_1 Post := by
  intro l hfl _ _ p e ha hc hk s m args below hf hA hF happ hP
  obtain ⟨hcalls, hrest, hpre⟩ := hP
  obtain ⟨-, -, -, hnamed, -, -, -, hat⟩ := (Spec.applies_iff hf).mp happ
  obtain ⟨hg, hn⟩ := and_e (Cond.before_iff.mp (show (Jvm.Cond.and given_1 narrow_1).before args s = true from hpre))
  obtain ⟨hga, hgb⟩ := and_e hg
  obtain ⟨hgba, hgbb⟩ := and_e hgb
  obtain ⟨hgbba, hgbbb⟩ := and_e hgbb
  obtain ⟨w0, w1, w2, rfl⟩ : ∃ w0 w1 w2 : Value, args = #[w0, w1, w2] := by
    have hs : args.size = 3 := by simpa [Cond.value, given_1] using hga
    obtain ⟨L⟩ := args
    match L, hs with
    | [w0, w1, w2], _ => exact ⟨w0, w1, w2, rfl⟩
  have hw := fun d (hd : d ∈ tables_1) => atoms_spec (ws := Jvm.Cond.code x code maxLocals ret :: tables_1) hat d (List.mem_cons_of_mem _ hd)
  have hfit : Fit s := fun {y c} hc i hi => by
    obtain ⟨ha, rfl⟩ := Array.getElem?_eq_some_iff.mp hc
    have q := List.all_eq_true.mp ((Array.all_eq_true_iff_forall_mem.mp hF) _ (Array.getElem_mem ha)) i (List.mem_range.mpr hi)
    simpa [Array.getElem?_eq_getElem hi] using q
  obtain ⟨i0, ei0⟩ := is_v hgba
  obtain rfl : w0 = (.int i0) := Option.some.inj ei0
  obtain ⟨i1, ei1⟩ := is_v hgbba
  obtain rfl : w1 = (.int i1) := Option.some.inj ei1
  obtain ⟨i2, ei2⟩ := is_v hgbbb
  obtain rfl : w2 = (.int i2) := Option.some.inj ei2
  obtain ⟨n, o, h1, h2, h3, _, L, rfl, ⟨rfl, N⟩, hq⟩ := rm0 l s _ hw tables_1 i0 i1 i2  s.heap s.heap.size (Nat.le_refl _)  p e ha hc hk s m _ below hf ((Spec.applies_iff_loose hf).mp happ).1 ⟨rfl, State.Warmed39.refl s, rfl⟩ trivial
  refine ⟨n, _, h1, h2, h3, hpost _ _ _ _ _ _ ⟨Cond.after_iff.mpr rfl, Cond.after_iff.mpr (eq_i res_at (Term.int_eval (1)) rfl), trivial⟩ ⟨hq.1, hq.2.1, (hq.2.2.sift fun y hy => Or.inr (N y hy)).mono (by decide) (by decide)⟩⟩
theorem main_1_1 : Claimed_1_1 := comes_1 fun _ _ _ _ _ _ h hF => ⟨h.1, hF⟩
theorem main_1_2 : Claimed_1_2 := comes_1 fun _ _ _ _ _ _ h hF => ⟨h.2.1, hF⟩
end Jvm.Pilot.@@N@@
namespace Jvm.Pilot.@@N@@
open Jvm Jvm.ClassFile Sem Op Lib Jvm.Free Jvm.Stand Jvm.Pilot.@@N@@.Jvm.D
/-! MADE BY PROGRAM (witnessworld.py) out of the Statement's table words and the real class files: 9 classes; the members and pool entries that the words name. The judged class is class 1, her method 3. -/
namespace start1
open Jvm.ClassFile
def u (s : String) : CpInfo := .utf8 (stringToUtf16 s)
/-- a pool by its gaps: so many unusable entries, then the entry; so many at the end -/
def gap : Nat → List CpInfo → List CpInfo
  | 0, r => r
  | n + 1, r => .unusable :: gap n r
def poolList (es : List (Nat × CpInfo)) (last : Nat) : List CpInfo := es.foldr (fun e r => gap e.1 (e.2 :: r)) (gap last [])
def pool (es : List (Nat × CpInfo)) (last : Nat) : Array CpInfo := ⟨poolList es last⟩
def fileOf (pool : Array CpInfo) (this : Nat) (attrs : Array Attribute := #[]) (ms : Array MethodInfo := #[]) (fl : Nat := 33) (sup : Nat := 0) (ifs : Array Nat := #[]) (fds : Array FieldInfo := #[]) : ClassFile where
  minorVersion := 0
  majorVersion := 65
  constantPool := pool
  accessFlags := fl
  thisClass := this
  superClass := sup
  interfaces := ifs
  fields := fds
  methods := ms
  attributes := attrs
def plain (name : String) (sup : Option ClassId) : Class where
  name := name
  kind := .ordinary
  loader := none
  accessFlags := 33
  super := sup
  interfaces := #[]
  cf := none
  fields := #[]
  methods := #[]
  instanceTypes := #[]
  staticTypes := #[]
  resolved := #[]
  callSites := []
  init := .initialized
  statics := none
  mirror := none

def pool0 : Array CpInfo := pool [(5, u "<init>"), (0, u "()V"), (1, .class_ 10), (1, u "java/lang/Object")] 113

def k0m0 : Method := { name := "<init>", desc := "()V", sig := { parameters := [], returnType := none }, accessFlags := 1, code := none }
/-- java/lang/Object -/
def k0 : Class := { plain "java/lang/Object" none with
  accessFlags := 33
  interfaces := #[]
  cf := some (fileOf pool0 8 #[] #[{ accessFlags := 1, nameIndex := 5, descriptorIndex := 6, attributes := #[] }] 33 0 #[] #[])
  fields := #[]
  methods := #[k0m0]
  instanceTypes := #[]
  staticTypes := #[]
  resolved := Array.replicate 124 none
  statics := none }

def pool1 : Array CpInfo := pool [(2, .class_ 4), (1, u "java/lang/Object"), (0, u "<init>"), (0, u "()V"), (0, .integer 65535), (0, .methodref 9 10), (0, .class_ 11), (0, .nameAndType 12 13), (0, u "com/example/compact_path/compactpath/reading/XmlNamesIsNameStartPinLaw"), (0, u "inRange"), (0, u "(III)Z"), (0, .integer 55296), (0, .integer 63743), (0, .integer 64976), (0, .integer 65007), (0, .integer 65534), (0, .integer 983039), (0, .integer 55295), (0, .integer 63744), (0, .integer 64975), (0, .integer 65008), (0, .integer 65533), (0, .integer 65536), (0, .integer 1114111), (0, .methodref 28 29), (0, .class_ 30), (0, .nameAndType 31 32), (0, u "com/example/compact_path/compactpath/reading/XmlNames"), (0, u "isNameStart"), (0, u "(I)Z"), (0, .methodref 9 34), (0, .nameAndType 35 32), (0, u "reference"), (3, u "law")] 4

def k1m0 : Method := { name := "<init>", desc := "()V", sig := { parameters := [], returnType := none }, accessFlags := 2, code := none }
def k1c1 : Code := { maxStack := 2, maxLocals := 3, code := method_2_code, exceptionTable := #[], attributes := #[] }
def k1m1 : Method := { name := "inRange", desc := "(III)Z", sig := { parameters := [.int, .int, .int], returnType := some .boolean }, accessFlags := 10, code := some k1c1 }
def k1c2 : Code := { maxStack := 3, maxLocals := 2, code := method_3_code, exceptionTable := #[], attributes := #[] }
def k1m2 : Method := { name := "reference", desc := "(I)Z", sig := { parameters := [.int], returnType := some .boolean }, accessFlags := 10, code := some k1c2 }
def k1c3 : Code := { maxStack := 4, maxLocals := 5, code := code, exceptionTable := #[], attributes := #[] }
def k1m3 : Method := { name := "law", desc := "(III)Z", sig := { parameters := [.int, .int, .int], returnType := some .boolean }, accessFlags := 9, code := some k1c3 }
/-- com/example/compact_path/compactpath/reading/XmlNamesIsNameStartPinLaw -/
def k1 : Class := { plain "com/example/compact_path/compactpath/reading/XmlNamesIsNameStartPinLaw" (some 0) with
  accessFlags := 49
  interfaces := #[]
  cf := some (fileOf pool1 9 #[] #[{ accessFlags := 2, nameIndex := 5, descriptorIndex := 6, attributes := #[] }, { accessFlags := 10, nameIndex := 12, descriptorIndex := 13, attributes := #[] }, { accessFlags := 10, nameIndex := 35, descriptorIndex := 32, attributes := #[] }, { accessFlags := 9, nameIndex := 39, descriptorIndex := 13, attributes := #[] }] 49 2 #[] #[])
  fields := #[]
  methods := #[k1m0, k1m1, k1m2, k1m3]
  instanceTypes := #[]
  staticTypes := #[]
  resolved := Array.replicate 44 none
  statics := none }

def pool2 : Array CpInfo := pool [(2, .class_ 4), (1, u "java/lang/Object"), (0, u "<init>"), (0, u "()V"), (7, .class_ 16), (1, u "com/example/compact_path/compactpath/reading/XmlNames"), (11, u "isNameStart"), (0, u "(I)Z"), (8, .integer 55295), (0, .integer 63744), (0, .integer 64975), (0, .integer 65008), (0, .integer 65533), (0, .integer 65536), (0, .integer 983039)] 7

def k2m0 : Method := { name := "<init>", desc := "()V", sig := { parameters := [], returnType := none }, accessFlags := 2, code := none }
def k2c1 : Code := { maxStack := 2, maxLocals := 1, code := prog_109_method_5_code, exceptionTable := #[], attributes := #[] }
def k2m1 : Method := { name := "isNameStart", desc := "(I)Z", sig := { parameters := [.int], returnType := some .boolean }, accessFlags := 9, code := some k2c1 }
/-- com/example/compact_path/compactpath/reading/XmlNames -/
def k2 : Class := { plain "com/example/compact_path/compactpath/reading/XmlNames" (some 0) with
  accessFlags := 49
  interfaces := #[]
  cf := some (fileOf pool2 14 #[] #[{ accessFlags := 2, nameIndex := 5, descriptorIndex := 6, attributes := #[] }, { accessFlags := 9, nameIndex := 28, descriptorIndex := 29, attributes := #[] }] 49 2 #[] #[])
  fields := #[]
  methods := #[k2m0, k2m1]
  instanceTypes := #[]
  staticTypes := #[]
  resolved := Array.replicate 52 none
  statics := none }

def pool3 : Array CpInfo := pool [(1, u "java/lang/Cloneable"), (0, .class_ 1), (0, u "java/lang/Object"), (0, .class_ 3)] 3

/-- java/lang/Cloneable -/
def k3 : Class := { plain "java/lang/Cloneable" (some 0) with
  accessFlags := 1537
  interfaces := #[]
  cf := some (fileOf pool3 2 #[] #[] 1537 4 #[] #[])
  fields := #[]
  methods := #[]
  instanceTypes := #[]
  staticTypes := #[]
  resolved := Array.replicate 8 none
  statics := none }

def pool4 : Array CpInfo := pool [(1, u "java/io/Serializable"), (0, .class_ 1), (0, u "java/lang/Object"), (0, .class_ 3)] 3

/-- java/io/Serializable -/
def k4 : Class := { plain "java/io/Serializable" (some 0) with
  accessFlags := 1537
  interfaces := #[]
  cf := some (fileOf pool4 2 #[] #[] 1537 4 #[] #[])
  fields := #[]
  methods := #[]
  instanceTypes := #[]
  staticTypes := #[]
  resolved := Array.replicate 8 none
  statics := none }

/-- the primitive byte -/
def k5 : Class := { plain "byte" none with kind := .primitive 'B', accessFlags := 0x411 }
/-- [B -/
def k6 : Class := { plain "[B" (some 0) with kind := .array 5 .byte, interfaces := #[3, 4], accessFlags := 1041 }

/-- the primitive int -/
def k7 : Class := { plain "int" none with kind := .primitive 'I', accessFlags := 0x411 }
/-- [I -/
def k8 : Class := { plain "[I" (some 0) with kind := .array 7 .int, interfaces := #[3, 4], accessFlags := 1041 }

def heap : Heap := #[]
def classes : Array Class := #[k0, k1, k2, k3, k4, k5, k6, k7, k8]
def interned : List (Array UInt16 × Addr) := []
def slotsUsed : Nat := 0
def theMethod : MethodId := ⟨1, 3⟩
def args0 : Array Value := #[.int 5, .int 7, .int 3]
def aboutOver (below : List Frame) : State where
  vm := { classes := classes, interned := interned.toArray }
  heap := heap
  slotsUsed := slotsUsed
  threads := #[{ frames := .invoking theMethod args0 :: below }]
def below0 : List Frame := [.native { method := ⟨0, 0⟩, args := #[] }]
def about1 : State := aboutOver below0
def p0 : Program := .bare "" "" ""
def e0 : Env := launch0.env 0 0 0
theorem w_frames : about1.frames = Frame.invoking theMethod args0 :: below0 := rfl
set_option maxRecDepth 65536 in
theorem w_args : argsFit about1.vm theMethod args0 = true := by decide +kernel
set_option maxRecDepth 65536 in
theorem w_heap : heapFits about1 = true := by decide +kernel
set_option maxRecDepth 65536 in
theorem w_runnable : about1.curStatus? = some .runnable := by decide +kernel
set_option maxRecDepth 65536 in
theorem w_alone : about1.alone = true := by decide +kernel
set_option maxRecDepth 65536 in
theorem w_named : about1.methodNamed? x = some theMethod := by decide +kernel
set_option maxRecDepth 65536 in
theorem w_hears : about1.hears theMethod below0 = true := by decide +kernel
set_option maxRecDepth 65536 in
theorem w_ripe : about1.ripe theMethod args0 below0 = true := by decide +kernel
theorem w_running : about1.status = .running := rfl
set_option maxRecDepth 65536 in
theorem w_room : about1.hasRoom e0.platform room_1 = true :=
  launch0.hasRoom_least _ room_1 (by decide +kernel) (by decide +kernel) (by decide +kernel) (by decide +kernel) (by decide +kernel) (by decide +kernel)
theorem allAtoms_all (ts : List Jvm.Cond) (a : Array Jvm.Value) (st : Jvm.State) : (allAtoms ts).before a st = ts.all (fun c => c.before a st) := by
  induction ts with
  | nil => rfl
  | cons c t ih =>
    show (Jvm.Cond.and c (allAtoms t)).before a st = _
    rw [Jvm.Cond.before_and, ih, List.all_cons]
def words1 : List Jvm.Cond := Jvm.Cond.code x code maxLocals ret :: tables_1
/-- a 'code' word, met by the world's own term for the bytes: nothing is compared byte by byte -/
theorem code_word {y : MethodName} {bytes : ByteArray} {mx : Nat} {rt : Option FieldType} {a : Array Value} {s : State} {m : MethodId} {meth : Method} {c : Code} (h1 : s.methodNamed? y = some m) (h2 : s.vm.method? m = some meth) (h3 : meth.code = some c) (h4 : c.code = bytes)
    (h5 : (c.maxLocals == mx && c.exceptionTable.isEmpty && decide (c.maxStack ≤ mostOperands) && decide (meth.sig.returnType = rt) && !meth.locks && decide (parseMethodDescriptor y.desc = some meth.sig)) = true) : (Jvm.Cond.code y bytes mx rt).before a s = true := by
  simp only [Bool.and_eq_true, beq_iff_eq, Bool.not_eq_true', decide_eq_true_eq] at h5
  obtain ⟨⟨⟨⟨⟨g1, g2⟩, g3⟩, g4⟩, g5⟩, g6⟩ := h5
  simp [Cond.before, Cond.holds, Cond.value, h1, h2, h3, h4, g1, g2, g3, g4, g5, g6]
def isCode : Jvm.Cond → Bool
  | .code _ _ _ _ => true
  | _ => false
theorem all_split {L : List Jvm.Cond} {P : Jvm.Cond → Bool} (h1 : L.all (fun c => isCode c || P c) = true) (h2 : ∀ c ∈ L.filter isCode, P c = true) : L.all P = true := by
  refine List.all_eq_true.mpr fun c hc => ?_
  have h := List.all_eq_true.mp h1 c hc
  rcases Bool.eq_false_or_eq_true (isCode c) with hi | hi
  · exact h2 c (List.mem_filter.mpr ⟨hc, hi⟩)
  · simpa [hi] using h
set_option maxRecDepth 65536 in
theorem w_c0 : (Jvm.Cond.code x code maxLocals ret).before args0 about1 = true := code_word (m := ⟨1, 3⟩) (meth := k1m3) (c := k1c3) (by decide +kernel) rfl rfl rfl (by decide +kernel)
set_option maxRecDepth 65536 in
theorem w_c1 : (Jvm.Cond.code ({ cls := "com/example/compact_path/compactpath/reading/XmlNames", name := "isNameStart", desc := "(I)Z" } : Jvm.MethodName) prog_109_method_5_code (1 : Nat) (Option.some Jvm.ClassFile.FieldType.boolean)).before args0 about1 = true := code_word (m := ⟨2, 1⟩) (meth := k2m1) (c := k2c1) (by decide +kernel) rfl rfl rfl (by decide +kernel)
set_option maxRecDepth 65536 in
theorem w_c2 : (Jvm.Cond.code ({ cls := "com/example/compact_path/compactpath/reading/XmlNamesIsNameStartPinLaw", name := "reference", desc := "(I)Z" } : Jvm.MethodName) method_3_code (2 : Nat) (Option.some Jvm.ClassFile.FieldType.boolean)).before args0 about1 = true := code_word (m := ⟨1, 2⟩) (meth := k1m2) (c := k1c2) (by decide +kernel) rfl rfl rfl (by decide +kernel)
set_option maxRecDepth 65536 in
theorem w_c3 : (Jvm.Cond.code ({ cls := "com/example/compact_path/compactpath/reading/XmlNamesIsNameStartPinLaw", name := "inRange", desc := "(III)Z" } : Jvm.MethodName) method_2_code (3 : Nat) (Option.some Jvm.ClassFile.FieldType.boolean)).before args0 about1 = true := code_word (m := ⟨1, 1⟩) (meth := k1m1) (c := k1c1) (by decide +kernel) rfl rfl rfl (by decide +kernel)
def codes1 : List Jvm.Cond := [Jvm.Cond.code x code maxLocals ret, Jvm.Cond.code ({ cls := "com/example/compact_path/compactpath/reading/XmlNames", name := "isNameStart", desc := "(I)Z" } : Jvm.MethodName) prog_109_method_5_code (1 : Nat) (Option.some Jvm.ClassFile.FieldType.boolean), Jvm.Cond.code ({ cls := "com/example/compact_path/compactpath/reading/XmlNamesIsNameStartPinLaw", name := "reference", desc := "(I)Z" } : Jvm.MethodName) method_3_code (2 : Nat) (Option.some Jvm.ClassFile.FieldType.boolean), Jvm.Cond.code ({ cls := "com/example/compact_path/compactpath/reading/XmlNamesIsNameStartPinLaw", name := "inRange", desc := "(III)Z" } : Jvm.MethodName) method_2_code (3 : Nat) (Option.some Jvm.ClassFile.FieldType.boolean)]
set_option maxRecDepth 65536 in
theorem codes_eq : words1.filter isCode = codes1 := rfl
theorem w_codes : ∀ c ∈ words1.filter isCode, c.before args0 about1 = true := by
  rw [codes_eq]
  intro c hc
  simp only [codes1, List.mem_cons, List.not_mem_nil, or_false] at hc
  rcases hc with rfl | rfl | rfl | rfl
  · exact w_c0
  · exact w_c1
  · exact w_c2
  · exact w_c3
set_option maxRecDepth 65536 in
theorem w_t1 : (words1.take 24).all (fun c => isCode c || c.before args0 about1) = true := by decide +kernel
set_option maxRecDepth 65536 in
theorem w_t2 : (words1.drop 24).all (fun c => isCode c || c.before args0 about1) = true := by decide +kernel
theorem w_tables : (allAtoms (Jvm.Cond.code x code maxLocals ret :: tables_1)).before args0 about1 = true := by
  rw [allAtoms_all]
  show words1.all (fun c => c.before args0 about1) = true
  refine all_split ?_ w_codes
  rw [← List.take_append_drop 24 words1, List.all_append, w_t1, w_t2]
  rfl
set_option maxRecDepth 65536 in
theorem w_case : (Jvm.Cond.and given_1 narrow_1).before args0 about1 = true := by decide +kernel
theorem w_applies : (headSpec (Jvm.Cond.code x code maxLocals ret :: tables_1) room_1).applies x e0.platform about1 = true :=
  (Spec.applies_iff w_frames).mpr ⟨w_running, w_runnable, w_alone, w_named, w_hears, w_ripe, w_room, w_tables⟩
theorem atStart : AtStart classFile x code maxLocals ret World_1 tables_1 room_1 Calls_1 rest_1 Pre_1 launch0 p0 e0 about1 theMethod args0 below0 :=
  ⟨lists_1, trivial, launch0.admits_env _ _ _, launch0.least_env, fairChoices_fair.cas, fairChoices_fair.clock, w_frames, w_args, w_heap, w_applies, trivial, trivial, w_case⟩
end start1
theorem witness_1 : WitnessClaimed_1 := ⟨start1.p0, start1.e0, start1.about1, start1.theMethod, start1.args0, start1.below0, start1.atStart⟩
end Jvm.Pilot.@@N@@
