import JvmDerived
import JvmDerived.Pilot.@@N@@Statement
import JvmDerived.Pilot.@@N@@Code
set_option linter.unusedVariables false
set_option linter.unusedSimpArgs false
namespace Jvm.RoadKit
open Sem ClassFile Op Lib Jvm.Stand Jvm.Free Jvm.LawKit
section New
variable {p : Program} {l : Launch} {e : Env} {R : Room} {s : State} {m : MethodId} {args : Array Value} {below : List Frame} {meth : Method} {c : Code} {T : State} {locs : List Loc} {cells slots : Nat}
theorem retI (X : Stand p l e R s m args below meth c T locs cells slots) (hx : p.tables.exec = Jvm.exec) {pc : Nat} {Ls : Array Slot} {z : Int32} {rest : List Value} (hret : meth.sig.returnType = some .int) (hd : decode c.code pc = .ok (.ireturn, 1)) {fs : List Frame}
    (hl : ∀ (f : JFrame) (acts : List Action), f.method = m → f.locked = none → f.entered = [] → (doReturn e (T.setTop f) acts (some (.int z))).1 = T.setFrames fs) : Steps p.tables e below (T.setTop (mkF m pc Ls (.int z :: rest))) (T.setFrames fs) := by
  have hm' : T.vm.method? m = some meth := X.method'
  have hn : narrow .int (.int z) = .int z := rfl
  show Steps p.tables e below (T.setTop { method := m, pc := pc, locals := Ls, stack := _ :: rest, locked := none }) _
  jvm_step X.here [X.here.top, hx, hd, hm', hret, hn]
  first | (intro acts; rw [hl _ acts rfl rfl rfl]) | rw [hl _ _ rfl rfl rfl]
  exact Steps.refl _
end New
end Jvm.RoadKit
namespace Jvm.Pilot.@@N@@
open Jvm Jvm.ClassFile Sem Op Lib Jvm.Free Jvm.Stand Jvm.LawKit Jvm.RoadKit Bundle Jvm.Pilot.@@N@@.Jvm.D

theorem own_exa {args a0 : Array Value} {s : State} {C n d K : String} (wi : (Jvm.Cond.initialized C).before args s = true) (wl : (Jvm.Cond.laysStatic C n d).before args s = true) (h : (Jvm.Cond.exactly (Jvm.Term.static C n d) K).value args s none s [] = some true) : ∃ a, Sta s s.heap C n d (.ref a) ∧ Exa s s.heap a K ∧ (Jvm.Term.static C n d).eval args s none [] s = some (.ref a) := by
  obtain ⟨a, ev⟩ := exa_v h
  exact ⟨a, Sta.start ev (Or.inr ⟨wi, wl⟩), Exa.start ev h, ev⟩
theorem own_fldI {args : Array Value} {s : State} {a : Addr} {t : Jvm.Term} {C n d : String} {k : Int32} (ev : t.eval args s none [] s = some (.ref a)) (h : (Jvm.Cond.eq (Jvm.Term.field t C n d) (Jvm.Term.int k)).value args s none s [] = some true) : Fld s s.heap a C n d (.int k) := by
  obtain ⟨x, y, ex, ey, -, ky⟩ := cmp_v (Or.inl h)
  obtain rfl : Value.int k = y := Option.some.inj ey
  obtain ⟨z, rfl⟩ := ky
  have hz : z = k := by simpa [Cond.value, ex, ey] using h
  subst hz
  exact Fld.start ((fld_at ev).symm.trans ex)

theorem own_sta_keep {Z : State} {h h' : Heap} {C n d : String} {v : Value} {ws : List Addr} (F : Sta Z h C n d v) (K : Keep h h' ws) (nos : ∀ x ∈ ws, ∀ cell : Cell, h[x]? = some cell → cell.vm.isStatics = false) : Sta Z h' C n d v := by
  obtain ⟨cf, i, k, f, st, cell, h1, h2, h3, h4, h5, h6, h7⟩ := F
  exact ⟨cf, i, k, f, st, cell, h1, h2, h3, h4, K.2.1 _ _ h5 (fun q => by rw [nos _ q _ h5] at h6; cases h6), h6, h7⟩
theorem own_ext {h h' : Heap} (K : Keep h h' []) : Ext h h' := ⟨K.1, fun a c q => K.2.1 a c q nin0⟩
theorem own_arrAt {args : Array Value} {s : State} {a : Addr} {cl : Cell} {t : Jvm.Term} {v : Value} (ev : t.eval args s none [] s = some (.ref a)) (hc : s.heap[a]? = some cl) (h : (Jvm.Term.length t).eval args s none [] s = some v) : cl.slots.size < 2 ^ 31 ∧ v = .int cl.slots.size.toInt32 := by
  obtain ⟨a', c', e1, e2, e3⟩ := Term.length_spec h
  cases ev.symm.trans e1
  have e4 := e2
  simp only [State.arrayAt?, hc, Option.bind_eq_bind, Option.bind_some] at e4
  obtain rfl : c' = cl := by
    cases hk : s.vm.classes[cl.cls]? with
    | none => simp [hk] at e4
    | some k => simp only [hk, Option.bind_some] at e4; split at e4 <;> first | (split at e4 <;> first | (cases e4; rfl; done) | (cases e4; done)) | (cases e4; rfl; done) | (cases e4; done)
  refine ⟨?_, e3⟩
  simp only [Term.eval, ev, e2, Option.bind_eq_bind, Option.bind_some] at h
  split at h
  · assumption
  · cases h
theorem own_len {args : Array Value} {s : State} {a : Addr} {cl : Cell} {t : Jvm.Term} {k : Int32} (ev : t.eval args s none [] s = some (.ref a)) (hc : s.heap[a]? = some cl) (h : (Jvm.Cond.eq (Jvm.Term.length t) (Jvm.Term.int k)).value args s none s [] = some true) : cl.slots.size < 2 ^ 31 ∧ cl.slots.size.toInt32 = k := by
  obtain ⟨x, y, ex, ey, -, ky⟩ := cmp_v (Or.inl h)
  obtain rfl : Value.int k = y := Option.some.inj ey
  obtain ⟨h1, rfl⟩ := own_arrAt ev hc ex
  refine ⟨h1, ?_⟩
  simpa [Cond.value, ex, ey] using h
theorem own_elemI {args : Array Value} {s : State} {a : Addr} {cl : Cell} {t : Jvm.Term} {j k : Int32} (ev : t.eval args s none [] s = some (.ref a)) (hc : s.heap[a]? = some cl) (h : (Jvm.Cond.eq (Jvm.Term.elem t (Jvm.Term.int j)) (Jvm.Term.int k)).value args s none s [] = some true) : cl.slots[j.toNatClampNeg]? = some (.int k) := by
  obtain ⟨x, y, ex, ey, -, ky⟩ := cmp_v (Or.inl h)
  obtain rfl : Value.int k = y := Option.some.inj ey
  obtain ⟨z, rfl⟩ := ky
  have hz : z = k := by simpa [Cond.value, ex, ey] using h
  subst hz
  exact (elem_in ex ev rfl hc).2
theorem own_elemJ {args : Array Value} {s : State} {a : Addr} {cl : Cell} {t : Jvm.Term} {j : Int32} {k : Int64} (ev : t.eval args s none [] s = some (.ref a)) (hc : s.heap[a]? = some cl) (h : (Jvm.Cond.eq (Jvm.Term.elem t (Jvm.Term.int j)) (Jvm.Term.long k)).value args s none s [] = some true) : cl.slots[j.toNatClampNeg]? = some (.long k) := by
  obtain ⟨x, y, ex, ey, -, ky⟩ := cmp_v (Or.inl h)
  obtain rfl : Value.long k = y := Option.some.inj ey
  obtain ⟨z, rfl⟩ := ky
  have hz : z = k := by simpa [Cond.value, ex, ey] using h
  subst hz
  exact (elem_in ex ev rfl hc).2
theorem own_elemR {args : Array Value} {s : State} {a b : Addr} {cl : Cell} {t u : Jvm.Term} {j : Int32} (ev : t.eval args s none [] s = some (.ref a)) (eu : u.eval args s none [] s = some (.ref b)) (hc : s.heap[a]? = some cl) (h : (Jvm.Cond.eq (Jvm.Term.elem t (Jvm.Term.int j)) u).value args s none s [] = some true) : cl.slots[j.toNatClampNeg]? = some (.ref b) := by
  obtain ⟨x, y, ex, ey, -, ky⟩ := cmp_v (Or.inl h)
  cases eu.symm.trans ey
  have hr : x.isRef = true := ky.2
  rw [eq_R ex ey hr rfl] at h
  have hz : x = .ref b := by simpa using h
  subst hz
  exact (elem_in ex ev rfl hc).2

def own_z32 : List Value := List.replicate 32 (.int (0 : Int32))
def own_b56 (v : Int64) : Int32 := ((((v.toUInt64 >>> ((56 : Int32) &&& 0x3f).toInt64.toUInt64).toInt64).toInt32).toInt8.toInt32)
def own_b48 (v : Int64) : Int32 := ((((v.toUInt64 >>> ((48 : Int32) &&& 0x3f).toInt64.toUInt64).toInt64).toInt32).toInt8.toInt32)
def own_b40 (v : Int64) : Int32 := ((((v.toUInt64 >>> ((40 : Int32) &&& 0x3f).toInt64.toUInt64).toInt64).toInt32).toInt8.toInt32)
def own_b32 (v : Int64) : Int32 := ((((v.toUInt64 >>> ((32 : Int32) &&& 0x3f).toInt64.toUInt64).toInt64).toInt32).toInt8.toInt32)
def own_b24 (v : Int64) : Int32 := ((((v.toUInt64 >>> ((24 : Int32) &&& 0x3f).toInt64.toUInt64).toInt64).toInt32).toInt8.toInt32)
def own_b16 (v : Int64) : Int32 := ((((v.toUInt64 >>> ((16 : Int32) &&& 0x3f).toInt64.toUInt64).toInt64).toInt32).toInt8.toInt32)
def own_b8 (v : Int64) : Int32 := ((((v.toUInt64 >>> ((8 : Int32) &&& 0x3f).toInt64.toUInt64).toInt64).toInt32).toInt8.toInt32)
def own_b0 (v : Int64) : Int32 := ((v.toInt32).toInt8.toInt32)
def own_put (vs : List Value) (o : Nat) (v : Int64) : List Value := ((((((((vs.set (o + 0) (.int (nar .byte (own_b56 v)))).set (o + 1) (.int (nar .byte (own_b48 v)))).set (o + 2) (.int (nar .byte (own_b40 v)))).set (o + 3) (.int (nar .byte (own_b32 v)))).set (o + 4) (.int (nar .byte (own_b24 v)))).set (o + 5) (.int (nar .byte (own_b16 v)))).set (o + 6) (.int (nar .byte (own_b8 v)))).set (o + 7) (.int (nar .byte (own_b0 v))))
theorem own_put_len (vs : List Value) (o : Nat) (v : Int64) : (own_put vs o v).length = vs.length := by simp [own_put]
theorem d1_0 : decode method_3_code 0 = .ok (.aload_n 0, 1) := by decide +kernel
theorem d1_1 : decode method_3_code 1 = .ok (.iload_n 1, 1) := by decide +kernel
theorem d1_2 : decode method_3_code 2 = .ok (.lload_n 2, 1) := by decide +kernel
theorem d1_3 : decode method_3_code 3 = .ok (.bipush 56, 2) := by decide +kernel
theorem d1_5 : decode method_3_code 5 = .ok (.lushr, 1) := by decide +kernel
theorem d1_6 : decode method_3_code 6 = .ok (.l2i, 1) := by decide +kernel
theorem d1_7 : decode method_3_code 7 = .ok (.i2b, 1) := by decide +kernel
theorem d1_8 : decode method_3_code 8 = .ok (.bastore, 1) := by decide +kernel
theorem d1_9 : decode method_3_code 9 = .ok (.aload_n 0, 1) := by decide +kernel
theorem d1_10 : decode method_3_code 10 = .ok (.iload_n 1, 1) := by decide +kernel
theorem d1_11 : decode method_3_code 11 = .ok (.iconst 1, 1) := by decide +kernel
theorem d1_12 : decode method_3_code 12 = .ok (.iadd, 1) := by decide +kernel
theorem d1_13 : decode method_3_code 13 = .ok (.lload_n 2, 1) := by decide +kernel
theorem d1_14 : decode method_3_code 14 = .ok (.bipush 48, 2) := by decide +kernel
theorem d1_16 : decode method_3_code 16 = .ok (.lushr, 1) := by decide +kernel
theorem d1_17 : decode method_3_code 17 = .ok (.l2i, 1) := by decide +kernel
theorem d1_18 : decode method_3_code 18 = .ok (.i2b, 1) := by decide +kernel
theorem d1_19 : decode method_3_code 19 = .ok (.bastore, 1) := by decide +kernel
theorem d1_20 : decode method_3_code 20 = .ok (.aload_n 0, 1) := by decide +kernel
theorem d1_21 : decode method_3_code 21 = .ok (.iload_n 1, 1) := by decide +kernel
theorem d1_22 : decode method_3_code 22 = .ok (.iconst 2, 1) := by decide +kernel
theorem d1_23 : decode method_3_code 23 = .ok (.iadd, 1) := by decide +kernel
theorem d1_24 : decode method_3_code 24 = .ok (.lload_n 2, 1) := by decide +kernel
theorem d1_25 : decode method_3_code 25 = .ok (.bipush 40, 2) := by decide +kernel
theorem d1_27 : decode method_3_code 27 = .ok (.lushr, 1) := by decide +kernel
theorem d1_28 : decode method_3_code 28 = .ok (.l2i, 1) := by decide +kernel
theorem d1_29 : decode method_3_code 29 = .ok (.i2b, 1) := by decide +kernel
theorem d1_30 : decode method_3_code 30 = .ok (.bastore, 1) := by decide +kernel
theorem d1_31 : decode method_3_code 31 = .ok (.aload_n 0, 1) := by decide +kernel
theorem d1_32 : decode method_3_code 32 = .ok (.iload_n 1, 1) := by decide +kernel
theorem d1_33 : decode method_3_code 33 = .ok (.iconst 3, 1) := by decide +kernel
theorem d1_34 : decode method_3_code 34 = .ok (.iadd, 1) := by decide +kernel
theorem d1_35 : decode method_3_code 35 = .ok (.lload_n 2, 1) := by decide +kernel
theorem d1_36 : decode method_3_code 36 = .ok (.bipush 32, 2) := by decide +kernel
theorem d1_38 : decode method_3_code 38 = .ok (.lushr, 1) := by decide +kernel
theorem d1_39 : decode method_3_code 39 = .ok (.l2i, 1) := by decide +kernel
theorem d1_40 : decode method_3_code 40 = .ok (.i2b, 1) := by decide +kernel
theorem d1_41 : decode method_3_code 41 = .ok (.bastore, 1) := by decide +kernel
theorem d1_42 : decode method_3_code 42 = .ok (.aload_n 0, 1) := by decide +kernel
theorem d1_43 : decode method_3_code 43 = .ok (.iload_n 1, 1) := by decide +kernel
theorem d1_44 : decode method_3_code 44 = .ok (.iconst 4, 1) := by decide +kernel
theorem d1_45 : decode method_3_code 45 = .ok (.iadd, 1) := by decide +kernel
theorem d1_46 : decode method_3_code 46 = .ok (.lload_n 2, 1) := by decide +kernel
theorem d1_47 : decode method_3_code 47 = .ok (.bipush 24, 2) := by decide +kernel
theorem d1_49 : decode method_3_code 49 = .ok (.lushr, 1) := by decide +kernel
theorem d1_50 : decode method_3_code 50 = .ok (.l2i, 1) := by decide +kernel
theorem d1_51 : decode method_3_code 51 = .ok (.i2b, 1) := by decide +kernel
theorem d1_52 : decode method_3_code 52 = .ok (.bastore, 1) := by decide +kernel
theorem d1_53 : decode method_3_code 53 = .ok (.aload_n 0, 1) := by decide +kernel
theorem d1_54 : decode method_3_code 54 = .ok (.iload_n 1, 1) := by decide +kernel
theorem d1_55 : decode method_3_code 55 = .ok (.iconst 5, 1) := by decide +kernel
theorem d1_56 : decode method_3_code 56 = .ok (.iadd, 1) := by decide +kernel
theorem d1_57 : decode method_3_code 57 = .ok (.lload_n 2, 1) := by decide +kernel
theorem d1_58 : decode method_3_code 58 = .ok (.bipush 16, 2) := by decide +kernel
theorem d1_60 : decode method_3_code 60 = .ok (.lushr, 1) := by decide +kernel
theorem d1_61 : decode method_3_code 61 = .ok (.l2i, 1) := by decide +kernel
theorem d1_62 : decode method_3_code 62 = .ok (.i2b, 1) := by decide +kernel
theorem d1_63 : decode method_3_code 63 = .ok (.bastore, 1) := by decide +kernel
theorem d1_64 : decode method_3_code 64 = .ok (.aload_n 0, 1) := by decide +kernel
theorem d1_65 : decode method_3_code 65 = .ok (.iload_n 1, 1) := by decide +kernel
theorem d1_66 : decode method_3_code 66 = .ok (.bipush 6, 2) := by decide +kernel
theorem d1_68 : decode method_3_code 68 = .ok (.iadd, 1) := by decide +kernel
theorem d1_69 : decode method_3_code 69 = .ok (.lload_n 2, 1) := by decide +kernel
theorem d1_70 : decode method_3_code 70 = .ok (.bipush 8, 2) := by decide +kernel
theorem d1_72 : decode method_3_code 72 = .ok (.lushr, 1) := by decide +kernel
theorem d1_73 : decode method_3_code 73 = .ok (.l2i, 1) := by decide +kernel
theorem d1_74 : decode method_3_code 74 = .ok (.i2b, 1) := by decide +kernel
theorem d1_75 : decode method_3_code 75 = .ok (.bastore, 1) := by decide +kernel
theorem d1_76 : decode method_3_code 76 = .ok (.aload_n 0, 1) := by decide +kernel
theorem d1_77 : decode method_3_code 77 = .ok (.iload_n 1, 1) := by decide +kernel
theorem d1_78 : decode method_3_code 78 = .ok (.bipush 7, 2) := by decide +kernel
theorem d1_80 : decode method_3_code 80 = .ok (.iadd, 1) := by decide +kernel
theorem d1_81 : decode method_3_code 81 = .ok (.lload_n 2, 1) := by decide +kernel
theorem d1_82 : decode method_3_code 82 = .ok (.l2i, 1) := by decide +kernel
theorem d1_83 : decode method_3_code 83 = .ok (.i2b, 1) := by decide +kernel
theorem d1_84 : decode method_3_code 84 = .ok (.bastore, 1) := by decide +kernel
theorem d1_85 : decode method_3_code 85 = .ok (.return_, 1) := by decide +kernel
theorem ef_rmp0 (m : MethodId) (x0 : Addr) (x1 : Int32) (x2 : Int64) : entryFrame m #[(.ref x0), (.int x1), (.long x2)] 4 = mkF m 0 #[.val (.ref x0), .val (.int x1), .val (.long x2), .second] [] := by first | (simp [entryFrame, mkF, argsToLocals, Value.category]; done) | rfl
theorem pn_0 : plainName "com/example/countersign/countersign/protocol/PrimitivesFoldPinLaw" = true := by first | (simp [plainName, overriddenIn]; done) | decide +kernel
def Q_rmp0 (Z : State) (a0 : Addr) (q2 : Int64) (kk : ClassId) (vs : List Value) (h0 : Heap) (n0 : Nat) (v : Option Value) (h : Heap) (L : List Loc) : Prop := v = none ∧ Fr n0 L ∧ Keep h0 h [a0] ∧ Arv Z h a0 kk .byte (32 : Int32) (own_put vs 0 q2) (.int (0 : Int32))
set_option maxRecDepth 65536 in
set_option maxHeartbeats 40000000 in
theorem rmp0 (l : Launch) (Z : State) (aw : Array Value) (hw : ∀ d ∈ tables_1, d.before aw Z = true) (ws : List Jvm.Cond) (a0 : Addr) (q2 : Int64) (kk : ClassId) (vs : List Value) (h0 : Heap) (n0 : Nat) (Z0 : n0 ≤ h0.size) (V0 : Arv Z h0 a0 kk .byte (32 : Int32) vs (.int (0 : Int32))) (hl : vs.length = 32) (g0 : n0 ≤ a0) :
    MetFree l (⟨"com/example/countersign/countersign/protocol/PrimitivesFoldPinLaw", "put", "([BIJ)V"⟩ : MethodName) (head1 (Jvm.Cond.code (⟨"com/example/countersign/countersign/protocol/PrimitivesFoldPinLaw", "put", "([BIJ)V"⟩ : MethodName) method_3_code 4 none :: ws) ({ frames := 0, cells := 0, slots := 0, locals := 0 } : Room)) (fun a U => a = #[(.ref a0), (.int (0 : Int32)), (.long q2)] ∧ Z.Warmed39 U.vm ∧ U.heap = h0) (fun _ _ _ _ _ => True) (fun _ U oc U' => ∃ v L, oc = .returned v ∧ Q_rmp0 Z a0 q2 kk vs h0 n0 v U'.heap L ∧ FrameEnd U oc U' L ({ frames := 0, cells := 0, slots := 0, locals := 0 } : Room).cells ({ frames := 0, cells := 0, slots := 0, locals := 0 } : Room).slots) := by
  refine MetFree.of_bodySF (plainFor_of_name pn_0) hisR ?_
  intro p e s m args below meth c s₁ Bd hml0 hP hK
  obtain ⟨rfl, hZ, hh⟩ := hP
  have hx := Bd.exec
  have hby := Bd.bytes
  have hml : c.maxLocals = 4 := hml0
  have hown : s.vm.findClass "com/example/countersign/countersign/protocol/PrimitivesFoldPinLaw" = some m.cls := findClass_of_methodNamed Bd.named
  have hnm := (name_of_methodNamed Bd.named Bd.method).1
  have X0 : Stand p l e ({ frames := 0, cells := 0, slots := 0, locals := 0 } : Room) s m #[(.ref a0), (.int (0 : Int32)), (.long q2)] below meth c s₁ [] 0 0 := Stand.of_body Bd
  have e0 : s₁.heap = h0 := by rw [← hh, Bd.state]; rfl
  have N0 := Fr.nil n0
  have pre0 : ∀ t, Steps p.tables e below (s₁.setTop (mkF m 0 #[.val (.ref a0), .val (.int (0 : Int32)), .val (.long q2), .second] [])) t → Steps p.tables e below (s₁.setTop (entryFrame m #[(.ref a0), (.int (0 : Int32)), (.long q2)] 4)) t := fun t k => castTop (ef_rmp0 m a0 (0 : Int32) q2) k
  obtain ⟨cl101, Ar101, q101, S101, M101, H101, G101⟩ := id V0
  obtain ⟨T102, h102, X102, e102, W102, st102⟩ := stB X0 hx hZ e0 Ar101 (j := (0 : Int32)) (inb_of S101 ⟨by decide, by decide⟩) (g := (mkF m 8 #[.val (.ref a0), .val (.int (0 : Int32)), .val (.long q2), .second] [(.int (own_b56 q2)), (.int (0 : Int32)), (.ref a0)])) rfl rfl (hb hby d1_8)
  have V102 := Arv.set Ar101 q101 S101 M101 H101 G101 (fits_nar_byte _) W102 0 rfl (by simp [hl])
  have K102 : Keep h0 h102 [a0] := (Keep.refl h0 [a0]).wr W102 (Or.inl (List.mem_of_getElem? (i := 0) rfl))
  have N102 := Fr.snoc X102 N0 g0
  have Z102 : n0 ≤ h102.size := Nat.le_trans Z0 (Keep.of_wr W102).1
  obtain ⟨cl103, Ar103, q103, S103, M103, H103, G103⟩ := id V102
  obtain ⟨T104, h104, X104, e104, W104, st104⟩ := stB X102 hx hZ e102 Ar103 (j := (1 : Int32)) (inb_of S103 ⟨by decide, by decide⟩) (g := (mkF m 19 #[.val (.ref a0), .val (.int (0 : Int32)), .val (.long q2), .second] [(.int (own_b48 q2)), (.int (1 : Int32)), (.ref a0)])) rfl rfl (hb hby d1_19)
  have V104 := Arv.set Ar103 q103 S103 M103 H103 G103 (fits_nar_byte _) W104 1 rfl (by simp [hl])
  have K104 : Keep h0 h104 [a0] := K102.wr W104 (Or.inl (List.mem_of_getElem? (i := 0) rfl))
  have N104 := Fr.snoc X104 N102 g0
  have Z104 : n0 ≤ h104.size := Nat.le_trans Z102 (Keep.of_wr W104).1
  obtain ⟨cl105, Ar105, q105, S105, M105, H105, G105⟩ := id V104
  obtain ⟨T106, h106, X106, e106, W106, st106⟩ := stB X104 hx hZ e104 Ar105 (j := (2 : Int32)) (inb_of S105 ⟨by decide, by decide⟩) (g := (mkF m 30 #[.val (.ref a0), .val (.int (0 : Int32)), .val (.long q2), .second] [(.int (own_b40 q2)), (.int (2 : Int32)), (.ref a0)])) rfl rfl (hb hby d1_30)
  have V106 := Arv.set Ar105 q105 S105 M105 H105 G105 (fits_nar_byte _) W106 2 rfl (by simp [hl])
  have K106 : Keep h0 h106 [a0] := K104.wr W106 (Or.inl (List.mem_of_getElem? (i := 0) rfl))
  have N106 := Fr.snoc X106 N104 g0
  have Z106 : n0 ≤ h106.size := Nat.le_trans Z104 (Keep.of_wr W106).1
  obtain ⟨cl107, Ar107, q107, S107, M107, H107, G107⟩ := id V106
  obtain ⟨T108, h108, X108, e108, W108, st108⟩ := stB X106 hx hZ e106 Ar107 (j := (3 : Int32)) (inb_of S107 ⟨by decide, by decide⟩) (g := (mkF m 41 #[.val (.ref a0), .val (.int (0 : Int32)), .val (.long q2), .second] [(.int (own_b32 q2)), (.int (3 : Int32)), (.ref a0)])) rfl rfl (hb hby d1_41)
  have V108 := Arv.set Ar107 q107 S107 M107 H107 G107 (fits_nar_byte _) W108 3 rfl (by simp [hl])
  have K108 : Keep h0 h108 [a0] := K106.wr W108 (Or.inl (List.mem_of_getElem? (i := 0) rfl))
  have N108 := Fr.snoc X108 N106 g0
  have Z108 : n0 ≤ h108.size := Nat.le_trans Z106 (Keep.of_wr W108).1
  obtain ⟨cl109, Ar109, q109, S109, M109, H109, G109⟩ := id V108
  obtain ⟨T110, h110, X110, e110, W110, st110⟩ := stB X108 hx hZ e108 Ar109 (j := (4 : Int32)) (inb_of S109 ⟨by decide, by decide⟩) (g := (mkF m 52 #[.val (.ref a0), .val (.int (0 : Int32)), .val (.long q2), .second] [(.int (own_b24 q2)), (.int (4 : Int32)), (.ref a0)])) rfl rfl (hb hby d1_52)
  have V110 := Arv.set Ar109 q109 S109 M109 H109 G109 (fits_nar_byte _) W110 4 rfl (by simp [hl])
  have K110 : Keep h0 h110 [a0] := K108.wr W110 (Or.inl (List.mem_of_getElem? (i := 0) rfl))
  have N110 := Fr.snoc X110 N108 g0
  have Z110 : n0 ≤ h110.size := Nat.le_trans Z108 (Keep.of_wr W110).1
  obtain ⟨cl111, Ar111, q111, S111, M111, H111, G111⟩ := id V110
  obtain ⟨T112, h112, X112, e112, W112, st112⟩ := stB X110 hx hZ e110 Ar111 (j := (5 : Int32)) (inb_of S111 ⟨by decide, by decide⟩) (g := (mkF m 63 #[.val (.ref a0), .val (.int (0 : Int32)), .val (.long q2), .second] [(.int (own_b16 q2)), (.int (5 : Int32)), (.ref a0)])) rfl rfl (hb hby d1_63)
  have V112 := Arv.set Ar111 q111 S111 M111 H111 G111 (fits_nar_byte _) W112 5 rfl (by simp [hl])
  have K112 : Keep h0 h112 [a0] := K110.wr W112 (Or.inl (List.mem_of_getElem? (i := 0) rfl))
  have N112 := Fr.snoc X112 N110 g0
  have Z112 : n0 ≤ h112.size := Nat.le_trans Z110 (Keep.of_wr W112).1
  obtain ⟨cl113, Ar113, q113, S113, M113, H113, G113⟩ := id V112
  obtain ⟨T114, h114, X114, e114, W114, st114⟩ := stB X112 hx hZ e112 Ar113 (j := (6 : Int32)) (inb_of S113 ⟨by decide, by decide⟩) (g := (mkF m 75 #[.val (.ref a0), .val (.int (0 : Int32)), .val (.long q2), .second] [(.int (own_b8 q2)), (.int (6 : Int32)), (.ref a0)])) rfl rfl (hb hby d1_75)
  have V114 := Arv.set Ar113 q113 S113 M113 H113 G113 (fits_nar_byte _) W114 6 rfl (by simp [hl])
  have K114 : Keep h0 h114 [a0] := K112.wr W114 (Or.inl (List.mem_of_getElem? (i := 0) rfl))
  have N114 := Fr.snoc X114 N112 g0
  have Z114 : n0 ≤ h114.size := Nat.le_trans Z112 (Keep.of_wr W114).1
  obtain ⟨cl115, Ar115, q115, S115, M115, H115, G115⟩ := id V114
  obtain ⟨T116, h116, X116, e116, W116, st116⟩ := stB X114 hx hZ e114 Ar115 (j := (7 : Int32)) (inb_of S115 ⟨by decide, by decide⟩) (g := (mkF m 84 #[.val (.ref a0), .val (.int (0 : Int32)), .val (.long q2), .second] [(.int (own_b0 q2)), (.int (7 : Int32)), (.ref a0)])) rfl rfl (hb hby d1_84)
  have V116 := Arv.set Ar115 q115 S115 M115 H115 G115 (fits_nar_byte _) W116 7 rfl (by simp [hl])
  have K116 : Keep h0 h116 [a0] := K114.wr W116 (Or.inl (List.mem_of_getElem? (i := 0) rfl))
  have N116 := Fr.snoc X116 N114 g0
  have Z116 : n0 ≤ h116.size := Nat.le_trans Z114 (Keep.of_wr W116).1
  obtain ⟨fs, hr, hrun, hended, hW, hsame⟩ := X116.leave (v := none) (fun _ => rfl)
  refine ⟨_, _, pre0 _ ?_, hrun, hended, _, _, rfl, ?_, ⟨_, rfl⟩, hW, hsame.mono (by decide) (by decide)⟩
  · show Steps p.tables e below (s₁.setTop (mkF m 0 #[.val (.ref a0), .val (.int (0 : Int32)), .val (.long q2), .second] [])) _
    refine XS.aloadN X0.here hx rfl (hb hby d1_0) rfl rfl ?_
    show Steps p.tables e below (s₁.setTop (mkF m 1 #[.val (.ref a0), .val (.int (0 : Int32)), .val (.long q2), .second] [(.ref a0)])) _
    refine XS.iloadN X0.here hx rfl (hb hby d1_1) rfl ?_
    show Steps p.tables e below (s₁.setTop (mkF m 2 #[.val (.ref a0), .val (.int (0 : Int32)), .val (.long q2), .second] [(.int (0 : Int32)), (.ref a0)])) _
    refine XS.lloadN X0.here hx rfl (hb hby d1_2) rfl ?_
    show Steps p.tables e below (s₁.setTop (mkF m 3 #[.val (.ref a0), .val (.int (0 : Int32)), .val (.long q2), .second] [(.long q2), (.int (0 : Int32)), (.ref a0)])) _
    refine XS.bipush X0.here hx rfl (hb hby d1_3) ?_
    show Steps p.tables e below (s₁.setTop (mkF m 5 #[.val (.ref a0), .val (.int (0 : Int32)), .val (.long q2), .second] [(.int (56 : Int32)), (.long q2), (.int (0 : Int32)), (.ref a0)])) _
    refine XS.lushr X0.here hx rfl (hb hby d1_5) rfl ?_
    show Steps p.tables e below (s₁.setTop (mkF m 6 #[.val (.ref a0), .val (.int (0 : Int32)), .val (.long q2), .second] [(.long ((q2.toUInt64 >>> ((56 : Int32) &&& 0x3f).toInt64.toUInt64).toInt64)), (.int (0 : Int32)), (.ref a0)])) _
    refine XS.l2i X0.here hx rfl (hb hby d1_6) rfl ?_
    show Steps p.tables e below (s₁.setTop (mkF m 7 #[.val (.ref a0), .val (.int (0 : Int32)), .val (.long q2), .second] [(.int (((q2.toUInt64 >>> ((56 : Int32) &&& 0x3f).toInt64.toUInt64).toInt64).toInt32)), (.int (0 : Int32)), (.ref a0)])) _
    refine XS.i2b X0.here hx rfl (hb hby d1_7) rfl ?_
    show Steps p.tables e below (s₁.setTop (mkF m 8 #[.val (.ref a0), .val (.int (0 : Int32)), .val (.long q2), .second] [(.int (own_b56 q2)), (.int (0 : Int32)), (.ref a0)])) _
    refine st102 _ ?_
    show Steps p.tables e below (T102.setTop (mkF m 9 #[.val (.ref a0), .val (.int (0 : Int32)), .val (.long q2), .second] [])) _
    refine XS.aloadN X102.here hx rfl (hb hby d1_9) rfl rfl ?_
    show Steps p.tables e below (T102.setTop (mkF m 10 #[.val (.ref a0), .val (.int (0 : Int32)), .val (.long q2), .second] [(.ref a0)])) _
    refine XS.iloadN X102.here hx rfl (hb hby d1_10) rfl ?_
    show Steps p.tables e below (T102.setTop (mkF m 11 #[.val (.ref a0), .val (.int (0 : Int32)), .val (.long q2), .second] [(.int (0 : Int32)), (.ref a0)])) _
    refine XS.iconst X102.here hx rfl (hb hby d1_11) ?_
    show Steps p.tables e below (T102.setTop (mkF m 12 #[.val (.ref a0), .val (.int (0 : Int32)), .val (.long q2), .second] [(.int (1 : Int32)), (.int (0 : Int32)), (.ref a0)])) _
    refine XS.iadd X102.here hx rfl (hb hby d1_12) rfl ?_
    show Steps p.tables e below (T102.setTop (mkF m 13 #[.val (.ref a0), .val (.int (0 : Int32)), .val (.long q2), .second] [(.int (1 : Int32)), (.ref a0)])) _
    refine XS.lloadN X102.here hx rfl (hb hby d1_13) rfl ?_
    show Steps p.tables e below (T102.setTop (mkF m 14 #[.val (.ref a0), .val (.int (0 : Int32)), .val (.long q2), .second] [(.long q2), (.int (1 : Int32)), (.ref a0)])) _
    refine XS.bipush X102.here hx rfl (hb hby d1_14) ?_
    show Steps p.tables e below (T102.setTop (mkF m 16 #[.val (.ref a0), .val (.int (0 : Int32)), .val (.long q2), .second] [(.int (48 : Int32)), (.long q2), (.int (1 : Int32)), (.ref a0)])) _
    refine XS.lushr X102.here hx rfl (hb hby d1_16) rfl ?_
    show Steps p.tables e below (T102.setTop (mkF m 17 #[.val (.ref a0), .val (.int (0 : Int32)), .val (.long q2), .second] [(.long ((q2.toUInt64 >>> ((48 : Int32) &&& 0x3f).toInt64.toUInt64).toInt64)), (.int (1 : Int32)), (.ref a0)])) _
    refine XS.l2i X102.here hx rfl (hb hby d1_17) rfl ?_
    show Steps p.tables e below (T102.setTop (mkF m 18 #[.val (.ref a0), .val (.int (0 : Int32)), .val (.long q2), .second] [(.int (((q2.toUInt64 >>> ((48 : Int32) &&& 0x3f).toInt64.toUInt64).toInt64).toInt32)), (.int (1 : Int32)), (.ref a0)])) _
    refine XS.i2b X102.here hx rfl (hb hby d1_18) rfl ?_
    show Steps p.tables e below (T102.setTop (mkF m 19 #[.val (.ref a0), .val (.int (0 : Int32)), .val (.long q2), .second] [(.int (own_b48 q2)), (.int (1 : Int32)), (.ref a0)])) _
    refine st104 _ ?_
    show Steps p.tables e below (T104.setTop (mkF m 20 #[.val (.ref a0), .val (.int (0 : Int32)), .val (.long q2), .second] [])) _
    refine XS.aloadN X104.here hx rfl (hb hby d1_20) rfl rfl ?_
    show Steps p.tables e below (T104.setTop (mkF m 21 #[.val (.ref a0), .val (.int (0 : Int32)), .val (.long q2), .second] [(.ref a0)])) _
    refine XS.iloadN X104.here hx rfl (hb hby d1_21) rfl ?_
    show Steps p.tables e below (T104.setTop (mkF m 22 #[.val (.ref a0), .val (.int (0 : Int32)), .val (.long q2), .second] [(.int (0 : Int32)), (.ref a0)])) _
    refine XS.iconst X104.here hx rfl (hb hby d1_22) ?_
    show Steps p.tables e below (T104.setTop (mkF m 23 #[.val (.ref a0), .val (.int (0 : Int32)), .val (.long q2), .second] [(.int (2 : Int32)), (.int (0 : Int32)), (.ref a0)])) _
    refine XS.iadd X104.here hx rfl (hb hby d1_23) rfl ?_
    show Steps p.tables e below (T104.setTop (mkF m 24 #[.val (.ref a0), .val (.int (0 : Int32)), .val (.long q2), .second] [(.int (2 : Int32)), (.ref a0)])) _
    refine XS.lloadN X104.here hx rfl (hb hby d1_24) rfl ?_
    show Steps p.tables e below (T104.setTop (mkF m 25 #[.val (.ref a0), .val (.int (0 : Int32)), .val (.long q2), .second] [(.long q2), (.int (2 : Int32)), (.ref a0)])) _
    refine XS.bipush X104.here hx rfl (hb hby d1_25) ?_
    show Steps p.tables e below (T104.setTop (mkF m 27 #[.val (.ref a0), .val (.int (0 : Int32)), .val (.long q2), .second] [(.int (40 : Int32)), (.long q2), (.int (2 : Int32)), (.ref a0)])) _
    refine XS.lushr X104.here hx rfl (hb hby d1_27) rfl ?_
    show Steps p.tables e below (T104.setTop (mkF m 28 #[.val (.ref a0), .val (.int (0 : Int32)), .val (.long q2), .second] [(.long ((q2.toUInt64 >>> ((40 : Int32) &&& 0x3f).toInt64.toUInt64).toInt64)), (.int (2 : Int32)), (.ref a0)])) _
    refine XS.l2i X104.here hx rfl (hb hby d1_28) rfl ?_
    show Steps p.tables e below (T104.setTop (mkF m 29 #[.val (.ref a0), .val (.int (0 : Int32)), .val (.long q2), .second] [(.int (((q2.toUInt64 >>> ((40 : Int32) &&& 0x3f).toInt64.toUInt64).toInt64).toInt32)), (.int (2 : Int32)), (.ref a0)])) _
    refine XS.i2b X104.here hx rfl (hb hby d1_29) rfl ?_
    show Steps p.tables e below (T104.setTop (mkF m 30 #[.val (.ref a0), .val (.int (0 : Int32)), .val (.long q2), .second] [(.int (own_b40 q2)), (.int (2 : Int32)), (.ref a0)])) _
    refine st106 _ ?_
    show Steps p.tables e below (T106.setTop (mkF m 31 #[.val (.ref a0), .val (.int (0 : Int32)), .val (.long q2), .second] [])) _
    refine XS.aloadN X106.here hx rfl (hb hby d1_31) rfl rfl ?_
    show Steps p.tables e below (T106.setTop (mkF m 32 #[.val (.ref a0), .val (.int (0 : Int32)), .val (.long q2), .second] [(.ref a0)])) _
    refine XS.iloadN X106.here hx rfl (hb hby d1_32) rfl ?_
    show Steps p.tables e below (T106.setTop (mkF m 33 #[.val (.ref a0), .val (.int (0 : Int32)), .val (.long q2), .second] [(.int (0 : Int32)), (.ref a0)])) _
    refine XS.iconst X106.here hx rfl (hb hby d1_33) ?_
    show Steps p.tables e below (T106.setTop (mkF m 34 #[.val (.ref a0), .val (.int (0 : Int32)), .val (.long q2), .second] [(.int (3 : Int32)), (.int (0 : Int32)), (.ref a0)])) _
    refine XS.iadd X106.here hx rfl (hb hby d1_34) rfl ?_
    show Steps p.tables e below (T106.setTop (mkF m 35 #[.val (.ref a0), .val (.int (0 : Int32)), .val (.long q2), .second] [(.int (3 : Int32)), (.ref a0)])) _
    refine XS.lloadN X106.here hx rfl (hb hby d1_35) rfl ?_
    show Steps p.tables e below (T106.setTop (mkF m 36 #[.val (.ref a0), .val (.int (0 : Int32)), .val (.long q2), .second] [(.long q2), (.int (3 : Int32)), (.ref a0)])) _
    refine XS.bipush X106.here hx rfl (hb hby d1_36) ?_
    show Steps p.tables e below (T106.setTop (mkF m 38 #[.val (.ref a0), .val (.int (0 : Int32)), .val (.long q2), .second] [(.int (32 : Int32)), (.long q2), (.int (3 : Int32)), (.ref a0)])) _
    refine XS.lushr X106.here hx rfl (hb hby d1_38) rfl ?_
    show Steps p.tables e below (T106.setTop (mkF m 39 #[.val (.ref a0), .val (.int (0 : Int32)), .val (.long q2), .second] [(.long ((q2.toUInt64 >>> ((32 : Int32) &&& 0x3f).toInt64.toUInt64).toInt64)), (.int (3 : Int32)), (.ref a0)])) _
    refine XS.l2i X106.here hx rfl (hb hby d1_39) rfl ?_
    show Steps p.tables e below (T106.setTop (mkF m 40 #[.val (.ref a0), .val (.int (0 : Int32)), .val (.long q2), .second] [(.int (((q2.toUInt64 >>> ((32 : Int32) &&& 0x3f).toInt64.toUInt64).toInt64).toInt32)), (.int (3 : Int32)), (.ref a0)])) _
    refine XS.i2b X106.here hx rfl (hb hby d1_40) rfl ?_
    show Steps p.tables e below (T106.setTop (mkF m 41 #[.val (.ref a0), .val (.int (0 : Int32)), .val (.long q2), .second] [(.int (own_b32 q2)), (.int (3 : Int32)), (.ref a0)])) _
    refine st108 _ ?_
    show Steps p.tables e below (T108.setTop (mkF m 42 #[.val (.ref a0), .val (.int (0 : Int32)), .val (.long q2), .second] [])) _
    refine XS.aloadN X108.here hx rfl (hb hby d1_42) rfl rfl ?_
    show Steps p.tables e below (T108.setTop (mkF m 43 #[.val (.ref a0), .val (.int (0 : Int32)), .val (.long q2), .second] [(.ref a0)])) _
    refine XS.iloadN X108.here hx rfl (hb hby d1_43) rfl ?_
    show Steps p.tables e below (T108.setTop (mkF m 44 #[.val (.ref a0), .val (.int (0 : Int32)), .val (.long q2), .second] [(.int (0 : Int32)), (.ref a0)])) _
    refine XS.iconst X108.here hx rfl (hb hby d1_44) ?_
    show Steps p.tables e below (T108.setTop (mkF m 45 #[.val (.ref a0), .val (.int (0 : Int32)), .val (.long q2), .second] [(.int (4 : Int32)), (.int (0 : Int32)), (.ref a0)])) _
    refine XS.iadd X108.here hx rfl (hb hby d1_45) rfl ?_
    show Steps p.tables e below (T108.setTop (mkF m 46 #[.val (.ref a0), .val (.int (0 : Int32)), .val (.long q2), .second] [(.int (4 : Int32)), (.ref a0)])) _
    refine XS.lloadN X108.here hx rfl (hb hby d1_46) rfl ?_
    show Steps p.tables e below (T108.setTop (mkF m 47 #[.val (.ref a0), .val (.int (0 : Int32)), .val (.long q2), .second] [(.long q2), (.int (4 : Int32)), (.ref a0)])) _
    refine XS.bipush X108.here hx rfl (hb hby d1_47) ?_
    show Steps p.tables e below (T108.setTop (mkF m 49 #[.val (.ref a0), .val (.int (0 : Int32)), .val (.long q2), .second] [(.int (24 : Int32)), (.long q2), (.int (4 : Int32)), (.ref a0)])) _
    refine XS.lushr X108.here hx rfl (hb hby d1_49) rfl ?_
    show Steps p.tables e below (T108.setTop (mkF m 50 #[.val (.ref a0), .val (.int (0 : Int32)), .val (.long q2), .second] [(.long ((q2.toUInt64 >>> ((24 : Int32) &&& 0x3f).toInt64.toUInt64).toInt64)), (.int (4 : Int32)), (.ref a0)])) _
    refine XS.l2i X108.here hx rfl (hb hby d1_50) rfl ?_
    show Steps p.tables e below (T108.setTop (mkF m 51 #[.val (.ref a0), .val (.int (0 : Int32)), .val (.long q2), .second] [(.int (((q2.toUInt64 >>> ((24 : Int32) &&& 0x3f).toInt64.toUInt64).toInt64).toInt32)), (.int (4 : Int32)), (.ref a0)])) _
    refine XS.i2b X108.here hx rfl (hb hby d1_51) rfl ?_
    show Steps p.tables e below (T108.setTop (mkF m 52 #[.val (.ref a0), .val (.int (0 : Int32)), .val (.long q2), .second] [(.int (own_b24 q2)), (.int (4 : Int32)), (.ref a0)])) _
    refine st110 _ ?_
    show Steps p.tables e below (T110.setTop (mkF m 53 #[.val (.ref a0), .val (.int (0 : Int32)), .val (.long q2), .second] [])) _
    refine XS.aloadN X110.here hx rfl (hb hby d1_53) rfl rfl ?_
    show Steps p.tables e below (T110.setTop (mkF m 54 #[.val (.ref a0), .val (.int (0 : Int32)), .val (.long q2), .second] [(.ref a0)])) _
    refine XS.iloadN X110.here hx rfl (hb hby d1_54) rfl ?_
    show Steps p.tables e below (T110.setTop (mkF m 55 #[.val (.ref a0), .val (.int (0 : Int32)), .val (.long q2), .second] [(.int (0 : Int32)), (.ref a0)])) _
    refine XS.iconst X110.here hx rfl (hb hby d1_55) ?_
    show Steps p.tables e below (T110.setTop (mkF m 56 #[.val (.ref a0), .val (.int (0 : Int32)), .val (.long q2), .second] [(.int (5 : Int32)), (.int (0 : Int32)), (.ref a0)])) _
    refine XS.iadd X110.here hx rfl (hb hby d1_56) rfl ?_
    show Steps p.tables e below (T110.setTop (mkF m 57 #[.val (.ref a0), .val (.int (0 : Int32)), .val (.long q2), .second] [(.int (5 : Int32)), (.ref a0)])) _
    refine XS.lloadN X110.here hx rfl (hb hby d1_57) rfl ?_
    show Steps p.tables e below (T110.setTop (mkF m 58 #[.val (.ref a0), .val (.int (0 : Int32)), .val (.long q2), .second] [(.long q2), (.int (5 : Int32)), (.ref a0)])) _
    refine XS.bipush X110.here hx rfl (hb hby d1_58) ?_
    show Steps p.tables e below (T110.setTop (mkF m 60 #[.val (.ref a0), .val (.int (0 : Int32)), .val (.long q2), .second] [(.int (16 : Int32)), (.long q2), (.int (5 : Int32)), (.ref a0)])) _
    refine XS.lushr X110.here hx rfl (hb hby d1_60) rfl ?_
    show Steps p.tables e below (T110.setTop (mkF m 61 #[.val (.ref a0), .val (.int (0 : Int32)), .val (.long q2), .second] [(.long ((q2.toUInt64 >>> ((16 : Int32) &&& 0x3f).toInt64.toUInt64).toInt64)), (.int (5 : Int32)), (.ref a0)])) _
    refine XS.l2i X110.here hx rfl (hb hby d1_61) rfl ?_
    show Steps p.tables e below (T110.setTop (mkF m 62 #[.val (.ref a0), .val (.int (0 : Int32)), .val (.long q2), .second] [(.int (((q2.toUInt64 >>> ((16 : Int32) &&& 0x3f).toInt64.toUInt64).toInt64).toInt32)), (.int (5 : Int32)), (.ref a0)])) _
    refine XS.i2b X110.here hx rfl (hb hby d1_62) rfl ?_
    show Steps p.tables e below (T110.setTop (mkF m 63 #[.val (.ref a0), .val (.int (0 : Int32)), .val (.long q2), .second] [(.int (own_b16 q2)), (.int (5 : Int32)), (.ref a0)])) _
    refine st112 _ ?_
    show Steps p.tables e below (T112.setTop (mkF m 64 #[.val (.ref a0), .val (.int (0 : Int32)), .val (.long q2), .second] [])) _
    refine XS.aloadN X112.here hx rfl (hb hby d1_64) rfl rfl ?_
    show Steps p.tables e below (T112.setTop (mkF m 65 #[.val (.ref a0), .val (.int (0 : Int32)), .val (.long q2), .second] [(.ref a0)])) _
    refine XS.iloadN X112.here hx rfl (hb hby d1_65) rfl ?_
    show Steps p.tables e below (T112.setTop (mkF m 66 #[.val (.ref a0), .val (.int (0 : Int32)), .val (.long q2), .second] [(.int (0 : Int32)), (.ref a0)])) _
    refine XS.bipush X112.here hx rfl (hb hby d1_66) ?_
    show Steps p.tables e below (T112.setTop (mkF m 68 #[.val (.ref a0), .val (.int (0 : Int32)), .val (.long q2), .second] [(.int (6 : Int32)), (.int (0 : Int32)), (.ref a0)])) _
    refine XS.iadd X112.here hx rfl (hb hby d1_68) rfl ?_
    show Steps p.tables e below (T112.setTop (mkF m 69 #[.val (.ref a0), .val (.int (0 : Int32)), .val (.long q2), .second] [(.int (6 : Int32)), (.ref a0)])) _
    refine XS.lloadN X112.here hx rfl (hb hby d1_69) rfl ?_
    show Steps p.tables e below (T112.setTop (mkF m 70 #[.val (.ref a0), .val (.int (0 : Int32)), .val (.long q2), .second] [(.long q2), (.int (6 : Int32)), (.ref a0)])) _
    refine XS.bipush X112.here hx rfl (hb hby d1_70) ?_
    show Steps p.tables e below (T112.setTop (mkF m 72 #[.val (.ref a0), .val (.int (0 : Int32)), .val (.long q2), .second] [(.int (8 : Int32)), (.long q2), (.int (6 : Int32)), (.ref a0)])) _
    refine XS.lushr X112.here hx rfl (hb hby d1_72) rfl ?_
    show Steps p.tables e below (T112.setTop (mkF m 73 #[.val (.ref a0), .val (.int (0 : Int32)), .val (.long q2), .second] [(.long ((q2.toUInt64 >>> ((8 : Int32) &&& 0x3f).toInt64.toUInt64).toInt64)), (.int (6 : Int32)), (.ref a0)])) _
    refine XS.l2i X112.here hx rfl (hb hby d1_73) rfl ?_
    show Steps p.tables e below (T112.setTop (mkF m 74 #[.val (.ref a0), .val (.int (0 : Int32)), .val (.long q2), .second] [(.int (((q2.toUInt64 >>> ((8 : Int32) &&& 0x3f).toInt64.toUInt64).toInt64).toInt32)), (.int (6 : Int32)), (.ref a0)])) _
    refine XS.i2b X112.here hx rfl (hb hby d1_74) rfl ?_
    show Steps p.tables e below (T112.setTop (mkF m 75 #[.val (.ref a0), .val (.int (0 : Int32)), .val (.long q2), .second] [(.int (own_b8 q2)), (.int (6 : Int32)), (.ref a0)])) _
    refine st114 _ ?_
    show Steps p.tables e below (T114.setTop (mkF m 76 #[.val (.ref a0), .val (.int (0 : Int32)), .val (.long q2), .second] [])) _
    refine XS.aloadN X114.here hx rfl (hb hby d1_76) rfl rfl ?_
    show Steps p.tables e below (T114.setTop (mkF m 77 #[.val (.ref a0), .val (.int (0 : Int32)), .val (.long q2), .second] [(.ref a0)])) _
    refine XS.iloadN X114.here hx rfl (hb hby d1_77) rfl ?_
    show Steps p.tables e below (T114.setTop (mkF m 78 #[.val (.ref a0), .val (.int (0 : Int32)), .val (.long q2), .second] [(.int (0 : Int32)), (.ref a0)])) _
    refine XS.bipush X114.here hx rfl (hb hby d1_78) ?_
    show Steps p.tables e below (T114.setTop (mkF m 80 #[.val (.ref a0), .val (.int (0 : Int32)), .val (.long q2), .second] [(.int (7 : Int32)), (.int (0 : Int32)), (.ref a0)])) _
    refine XS.iadd X114.here hx rfl (hb hby d1_80) rfl ?_
    show Steps p.tables e below (T114.setTop (mkF m 81 #[.val (.ref a0), .val (.int (0 : Int32)), .val (.long q2), .second] [(.int (7 : Int32)), (.ref a0)])) _
    refine XS.lloadN X114.here hx rfl (hb hby d1_81) rfl ?_
    show Steps p.tables e below (T114.setTop (mkF m 82 #[.val (.ref a0), .val (.int (0 : Int32)), .val (.long q2), .second] [(.long q2), (.int (7 : Int32)), (.ref a0)])) _
    refine XS.l2i X114.here hx rfl (hb hby d1_82) rfl ?_
    show Steps p.tables e below (T114.setTop (mkF m 83 #[.val (.ref a0), .val (.int (0 : Int32)), .val (.long q2), .second] [(.int (q2.toInt32)), (.int (7 : Int32)), (.ref a0)])) _
    refine XS.i2b X114.here hx rfl (hb hby d1_83) rfl ?_
    show Steps p.tables e below (T114.setTop (mkF m 84 #[.val (.ref a0), .val (.int (0 : Int32)), .val (.long q2), .second] [(.int (own_b0 q2)), (.int (7 : Int32)), (.ref a0)])) _
    refine st116 _ ?_
    show Steps p.tables e below (T116.setTop (mkF m 85 #[.val (.ref a0), .val (.int (0 : Int32)), .val (.long q2), .second] [])) _
    exact X116.returnOut hx Bd.returns (hb hby d1_85) hr
  · show Q_rmp0 Z a0 q2 kk vs h0 n0 _ T116.heap _
    rw [e116]
    exact ⟨rfl, N116, K116, V116⟩
theorem ef_rmp8 (m : MethodId) (x0 : Addr) (x1 : Int32) (x2 : Int64) : entryFrame m #[(.ref x0), (.int x1), (.long x2)] 4 = mkF m 0 #[.val (.ref x0), .val (.int x1), .val (.long x2), .second] [] := by first | (simp [entryFrame, mkF, argsToLocals, Value.category]; done) | rfl
def Q_rmp8 (Z : State) (a0 : Addr) (q2 : Int64) (kk : ClassId) (vs : List Value) (h0 : Heap) (n0 : Nat) (v : Option Value) (h : Heap) (L : List Loc) : Prop := v = none ∧ Fr n0 L ∧ Keep h0 h [a0] ∧ Arv Z h a0 kk .byte (32 : Int32) (own_put vs 8 q2) (.int (0 : Int32))
set_option maxRecDepth 65536 in
set_option maxHeartbeats 40000000 in
theorem rmp8 (l : Launch) (Z : State) (aw : Array Value) (hw : ∀ d ∈ tables_1, d.before aw Z = true) (ws : List Jvm.Cond) (a0 : Addr) (q2 : Int64) (kk : ClassId) (vs : List Value) (h0 : Heap) (n0 : Nat) (Z0 : n0 ≤ h0.size) (V0 : Arv Z h0 a0 kk .byte (32 : Int32) vs (.int (0 : Int32))) (hl : vs.length = 32) (g0 : n0 ≤ a0) :
    MetFree l (⟨"com/example/countersign/countersign/protocol/PrimitivesFoldPinLaw", "put", "([BIJ)V"⟩ : MethodName) (head1 (Jvm.Cond.code (⟨"com/example/countersign/countersign/protocol/PrimitivesFoldPinLaw", "put", "([BIJ)V"⟩ : MethodName) method_3_code 4 none :: ws) ({ frames := 0, cells := 0, slots := 0, locals := 0 } : Room)) (fun a U => a = #[(.ref a0), (.int (8 : Int32)), (.long q2)] ∧ Z.Warmed39 U.vm ∧ U.heap = h0) (fun _ _ _ _ _ => True) (fun _ U oc U' => ∃ v L, oc = .returned v ∧ Q_rmp8 Z a0 q2 kk vs h0 n0 v U'.heap L ∧ FrameEnd U oc U' L ({ frames := 0, cells := 0, slots := 0, locals := 0 } : Room).cells ({ frames := 0, cells := 0, slots := 0, locals := 0 } : Room).slots) := by
  refine MetFree.of_bodySF (plainFor_of_name pn_0) hisR ?_
  intro p e s m args below meth c s₁ Bd hml0 hP hK
  obtain ⟨rfl, hZ, hh⟩ := hP
  have hx := Bd.exec
  have hby := Bd.bytes
  have hml : c.maxLocals = 4 := hml0
  have hown : s.vm.findClass "com/example/countersign/countersign/protocol/PrimitivesFoldPinLaw" = some m.cls := findClass_of_methodNamed Bd.named
  have hnm := (name_of_methodNamed Bd.named Bd.method).1
  have X0 : Stand p l e ({ frames := 0, cells := 0, slots := 0, locals := 0 } : Room) s m #[(.ref a0), (.int (8 : Int32)), (.long q2)] below meth c s₁ [] 0 0 := Stand.of_body Bd
  have e0 : s₁.heap = h0 := by rw [← hh, Bd.state]; rfl
  have N0 := Fr.nil n0
  have pre0 : ∀ t, Steps p.tables e below (s₁.setTop (mkF m 0 #[.val (.ref a0), .val (.int (8 : Int32)), .val (.long q2), .second] [])) t → Steps p.tables e below (s₁.setTop (entryFrame m #[(.ref a0), (.int (8 : Int32)), (.long q2)] 4)) t := fun t k => castTop (ef_rmp8 m a0 (8 : Int32) q2) k
  obtain ⟨cl101, Ar101, q101, S101, M101, H101, G101⟩ := id V0
  obtain ⟨T102, h102, X102, e102, W102, st102⟩ := stB X0 hx hZ e0 Ar101 (j := (8 : Int32)) (inb_of S101 ⟨by decide, by decide⟩) (g := (mkF m 8 #[.val (.ref a0), .val (.int (8 : Int32)), .val (.long q2), .second] [(.int (own_b56 q2)), (.int (8 : Int32)), (.ref a0)])) rfl rfl (hb hby d1_8)
  have V102 := Arv.set Ar101 q101 S101 M101 H101 G101 (fits_nar_byte _) W102 8 rfl (by simp [hl])
  have K102 : Keep h0 h102 [a0] := (Keep.refl h0 [a0]).wr W102 (Or.inl (List.mem_of_getElem? (i := 0) rfl))
  have N102 := Fr.snoc X102 N0 g0
  have Z102 : n0 ≤ h102.size := Nat.le_trans Z0 (Keep.of_wr W102).1
  obtain ⟨cl103, Ar103, q103, S103, M103, H103, G103⟩ := id V102
  obtain ⟨T104, h104, X104, e104, W104, st104⟩ := stB X102 hx hZ e102 Ar103 (j := (9 : Int32)) (inb_of S103 ⟨by decide, by decide⟩) (g := (mkF m 19 #[.val (.ref a0), .val (.int (8 : Int32)), .val (.long q2), .second] [(.int (own_b48 q2)), (.int (9 : Int32)), (.ref a0)])) rfl rfl (hb hby d1_19)
  have V104 := Arv.set Ar103 q103 S103 M103 H103 G103 (fits_nar_byte _) W104 9 rfl (by simp [hl])
  have K104 : Keep h0 h104 [a0] := K102.wr W104 (Or.inl (List.mem_of_getElem? (i := 0) rfl))
  have N104 := Fr.snoc X104 N102 g0
  have Z104 : n0 ≤ h104.size := Nat.le_trans Z102 (Keep.of_wr W104).1
  obtain ⟨cl105, Ar105, q105, S105, M105, H105, G105⟩ := id V104
  obtain ⟨T106, h106, X106, e106, W106, st106⟩ := stB X104 hx hZ e104 Ar105 (j := (10 : Int32)) (inb_of S105 ⟨by decide, by decide⟩) (g := (mkF m 30 #[.val (.ref a0), .val (.int (8 : Int32)), .val (.long q2), .second] [(.int (own_b40 q2)), (.int (10 : Int32)), (.ref a0)])) rfl rfl (hb hby d1_30)
  have V106 := Arv.set Ar105 q105 S105 M105 H105 G105 (fits_nar_byte _) W106 10 rfl (by simp [hl])
  have K106 : Keep h0 h106 [a0] := K104.wr W106 (Or.inl (List.mem_of_getElem? (i := 0) rfl))
  have N106 := Fr.snoc X106 N104 g0
  have Z106 : n0 ≤ h106.size := Nat.le_trans Z104 (Keep.of_wr W106).1
  obtain ⟨cl107, Ar107, q107, S107, M107, H107, G107⟩ := id V106
  obtain ⟨T108, h108, X108, e108, W108, st108⟩ := stB X106 hx hZ e106 Ar107 (j := (11 : Int32)) (inb_of S107 ⟨by decide, by decide⟩) (g := (mkF m 41 #[.val (.ref a0), .val (.int (8 : Int32)), .val (.long q2), .second] [(.int (own_b32 q2)), (.int (11 : Int32)), (.ref a0)])) rfl rfl (hb hby d1_41)
  have V108 := Arv.set Ar107 q107 S107 M107 H107 G107 (fits_nar_byte _) W108 11 rfl (by simp [hl])
  have K108 : Keep h0 h108 [a0] := K106.wr W108 (Or.inl (List.mem_of_getElem? (i := 0) rfl))
  have N108 := Fr.snoc X108 N106 g0
  have Z108 : n0 ≤ h108.size := Nat.le_trans Z106 (Keep.of_wr W108).1
  obtain ⟨cl109, Ar109, q109, S109, M109, H109, G109⟩ := id V108
  obtain ⟨T110, h110, X110, e110, W110, st110⟩ := stB X108 hx hZ e108 Ar109 (j := (12 : Int32)) (inb_of S109 ⟨by decide, by decide⟩) (g := (mkF m 52 #[.val (.ref a0), .val (.int (8 : Int32)), .val (.long q2), .second] [(.int (own_b24 q2)), (.int (12 : Int32)), (.ref a0)])) rfl rfl (hb hby d1_52)
  have V110 := Arv.set Ar109 q109 S109 M109 H109 G109 (fits_nar_byte _) W110 12 rfl (by simp [hl])
  have K110 : Keep h0 h110 [a0] := K108.wr W110 (Or.inl (List.mem_of_getElem? (i := 0) rfl))
  have N110 := Fr.snoc X110 N108 g0
  have Z110 : n0 ≤ h110.size := Nat.le_trans Z108 (Keep.of_wr W110).1
  obtain ⟨cl111, Ar111, q111, S111, M111, H111, G111⟩ := id V110
  obtain ⟨T112, h112, X112, e112, W112, st112⟩ := stB X110 hx hZ e110 Ar111 (j := (13 : Int32)) (inb_of S111 ⟨by decide, by decide⟩) (g := (mkF m 63 #[.val (.ref a0), .val (.int (8 : Int32)), .val (.long q2), .second] [(.int (own_b16 q2)), (.int (13 : Int32)), (.ref a0)])) rfl rfl (hb hby d1_63)
  have V112 := Arv.set Ar111 q111 S111 M111 H111 G111 (fits_nar_byte _) W112 13 rfl (by simp [hl])
  have K112 : Keep h0 h112 [a0] := K110.wr W112 (Or.inl (List.mem_of_getElem? (i := 0) rfl))
  have N112 := Fr.snoc X112 N110 g0
  have Z112 : n0 ≤ h112.size := Nat.le_trans Z110 (Keep.of_wr W112).1
  obtain ⟨cl113, Ar113, q113, S113, M113, H113, G113⟩ := id V112
  obtain ⟨T114, h114, X114, e114, W114, st114⟩ := stB X112 hx hZ e112 Ar113 (j := (14 : Int32)) (inb_of S113 ⟨by decide, by decide⟩) (g := (mkF m 75 #[.val (.ref a0), .val (.int (8 : Int32)), .val (.long q2), .second] [(.int (own_b8 q2)), (.int (14 : Int32)), (.ref a0)])) rfl rfl (hb hby d1_75)
  have V114 := Arv.set Ar113 q113 S113 M113 H113 G113 (fits_nar_byte _) W114 14 rfl (by simp [hl])
  have K114 : Keep h0 h114 [a0] := K112.wr W114 (Or.inl (List.mem_of_getElem? (i := 0) rfl))
  have N114 := Fr.snoc X114 N112 g0
  have Z114 : n0 ≤ h114.size := Nat.le_trans Z112 (Keep.of_wr W114).1
  obtain ⟨cl115, Ar115, q115, S115, M115, H115, G115⟩ := id V114
  obtain ⟨T116, h116, X116, e116, W116, st116⟩ := stB X114 hx hZ e114 Ar115 (j := (15 : Int32)) (inb_of S115 ⟨by decide, by decide⟩) (g := (mkF m 84 #[.val (.ref a0), .val (.int (8 : Int32)), .val (.long q2), .second] [(.int (own_b0 q2)), (.int (15 : Int32)), (.ref a0)])) rfl rfl (hb hby d1_84)
  have V116 := Arv.set Ar115 q115 S115 M115 H115 G115 (fits_nar_byte _) W116 15 rfl (by simp [hl])
  have K116 : Keep h0 h116 [a0] := K114.wr W116 (Or.inl (List.mem_of_getElem? (i := 0) rfl))
  have N116 := Fr.snoc X116 N114 g0
  have Z116 : n0 ≤ h116.size := Nat.le_trans Z114 (Keep.of_wr W116).1
  obtain ⟨fs, hr, hrun, hended, hW, hsame⟩ := X116.leave (v := none) (fun _ => rfl)
  refine ⟨_, _, pre0 _ ?_, hrun, hended, _, _, rfl, ?_, ⟨_, rfl⟩, hW, hsame.mono (by decide) (by decide)⟩
  · show Steps p.tables e below (s₁.setTop (mkF m 0 #[.val (.ref a0), .val (.int (8 : Int32)), .val (.long q2), .second] [])) _
    refine XS.aloadN X0.here hx rfl (hb hby d1_0) rfl rfl ?_
    show Steps p.tables e below (s₁.setTop (mkF m 1 #[.val (.ref a0), .val (.int (8 : Int32)), .val (.long q2), .second] [(.ref a0)])) _
    refine XS.iloadN X0.here hx rfl (hb hby d1_1) rfl ?_
    show Steps p.tables e below (s₁.setTop (mkF m 2 #[.val (.ref a0), .val (.int (8 : Int32)), .val (.long q2), .second] [(.int (8 : Int32)), (.ref a0)])) _
    refine XS.lloadN X0.here hx rfl (hb hby d1_2) rfl ?_
    show Steps p.tables e below (s₁.setTop (mkF m 3 #[.val (.ref a0), .val (.int (8 : Int32)), .val (.long q2), .second] [(.long q2), (.int (8 : Int32)), (.ref a0)])) _
    refine XS.bipush X0.here hx rfl (hb hby d1_3) ?_
    show Steps p.tables e below (s₁.setTop (mkF m 5 #[.val (.ref a0), .val (.int (8 : Int32)), .val (.long q2), .second] [(.int (56 : Int32)), (.long q2), (.int (8 : Int32)), (.ref a0)])) _
    refine XS.lushr X0.here hx rfl (hb hby d1_5) rfl ?_
    show Steps p.tables e below (s₁.setTop (mkF m 6 #[.val (.ref a0), .val (.int (8 : Int32)), .val (.long q2), .second] [(.long ((q2.toUInt64 >>> ((56 : Int32) &&& 0x3f).toInt64.toUInt64).toInt64)), (.int (8 : Int32)), (.ref a0)])) _
    refine XS.l2i X0.here hx rfl (hb hby d1_6) rfl ?_
    show Steps p.tables e below (s₁.setTop (mkF m 7 #[.val (.ref a0), .val (.int (8 : Int32)), .val (.long q2), .second] [(.int (((q2.toUInt64 >>> ((56 : Int32) &&& 0x3f).toInt64.toUInt64).toInt64).toInt32)), (.int (8 : Int32)), (.ref a0)])) _
    refine XS.i2b X0.here hx rfl (hb hby d1_7) rfl ?_
    show Steps p.tables e below (s₁.setTop (mkF m 8 #[.val (.ref a0), .val (.int (8 : Int32)), .val (.long q2), .second] [(.int (own_b56 q2)), (.int (8 : Int32)), (.ref a0)])) _
    refine st102 _ ?_
    show Steps p.tables e below (T102.setTop (mkF m 9 #[.val (.ref a0), .val (.int (8 : Int32)), .val (.long q2), .second] [])) _
    refine XS.aloadN X102.here hx rfl (hb hby d1_9) rfl rfl ?_
    show Steps p.tables e below (T102.setTop (mkF m 10 #[.val (.ref a0), .val (.int (8 : Int32)), .val (.long q2), .second] [(.ref a0)])) _
    refine XS.iloadN X102.here hx rfl (hb hby d1_10) rfl ?_
    show Steps p.tables e below (T102.setTop (mkF m 11 #[.val (.ref a0), .val (.int (8 : Int32)), .val (.long q2), .second] [(.int (8 : Int32)), (.ref a0)])) _
    refine XS.iconst X102.here hx rfl (hb hby d1_11) ?_
    show Steps p.tables e below (T102.setTop (mkF m 12 #[.val (.ref a0), .val (.int (8 : Int32)), .val (.long q2), .second] [(.int (1 : Int32)), (.int (8 : Int32)), (.ref a0)])) _
    refine XS.iadd X102.here hx rfl (hb hby d1_12) rfl ?_
    show Steps p.tables e below (T102.setTop (mkF m 13 #[.val (.ref a0), .val (.int (8 : Int32)), .val (.long q2), .second] [(.int (9 : Int32)), (.ref a0)])) _
    refine XS.lloadN X102.here hx rfl (hb hby d1_13) rfl ?_
    show Steps p.tables e below (T102.setTop (mkF m 14 #[.val (.ref a0), .val (.int (8 : Int32)), .val (.long q2), .second] [(.long q2), (.int (9 : Int32)), (.ref a0)])) _
    refine XS.bipush X102.here hx rfl (hb hby d1_14) ?_
    show Steps p.tables e below (T102.setTop (mkF m 16 #[.val (.ref a0), .val (.int (8 : Int32)), .val (.long q2), .second] [(.int (48 : Int32)), (.long q2), (.int (9 : Int32)), (.ref a0)])) _
    refine XS.lushr X102.here hx rfl (hb hby d1_16) rfl ?_
    show Steps p.tables e below (T102.setTop (mkF m 17 #[.val (.ref a0), .val (.int (8 : Int32)), .val (.long q2), .second] [(.long ((q2.toUInt64 >>> ((48 : Int32) &&& 0x3f).toInt64.toUInt64).toInt64)), (.int (9 : Int32)), (.ref a0)])) _
    refine XS.l2i X102.here hx rfl (hb hby d1_17) rfl ?_
    show Steps p.tables e below (T102.setTop (mkF m 18 #[.val (.ref a0), .val (.int (8 : Int32)), .val (.long q2), .second] [(.int (((q2.toUInt64 >>> ((48 : Int32) &&& 0x3f).toInt64.toUInt64).toInt64).toInt32)), (.int (9 : Int32)), (.ref a0)])) _
    refine XS.i2b X102.here hx rfl (hb hby d1_18) rfl ?_
    show Steps p.tables e below (T102.setTop (mkF m 19 #[.val (.ref a0), .val (.int (8 : Int32)), .val (.long q2), .second] [(.int (own_b48 q2)), (.int (9 : Int32)), (.ref a0)])) _
    refine st104 _ ?_
    show Steps p.tables e below (T104.setTop (mkF m 20 #[.val (.ref a0), .val (.int (8 : Int32)), .val (.long q2), .second] [])) _
    refine XS.aloadN X104.here hx rfl (hb hby d1_20) rfl rfl ?_
    show Steps p.tables e below (T104.setTop (mkF m 21 #[.val (.ref a0), .val (.int (8 : Int32)), .val (.long q2), .second] [(.ref a0)])) _
    refine XS.iloadN X104.here hx rfl (hb hby d1_21) rfl ?_
    show Steps p.tables e below (T104.setTop (mkF m 22 #[.val (.ref a0), .val (.int (8 : Int32)), .val (.long q2), .second] [(.int (8 : Int32)), (.ref a0)])) _
    refine XS.iconst X104.here hx rfl (hb hby d1_22) ?_
    show Steps p.tables e below (T104.setTop (mkF m 23 #[.val (.ref a0), .val (.int (8 : Int32)), .val (.long q2), .second] [(.int (2 : Int32)), (.int (8 : Int32)), (.ref a0)])) _
    refine XS.iadd X104.here hx rfl (hb hby d1_23) rfl ?_
    show Steps p.tables e below (T104.setTop (mkF m 24 #[.val (.ref a0), .val (.int (8 : Int32)), .val (.long q2), .second] [(.int (10 : Int32)), (.ref a0)])) _
    refine XS.lloadN X104.here hx rfl (hb hby d1_24) rfl ?_
    show Steps p.tables e below (T104.setTop (mkF m 25 #[.val (.ref a0), .val (.int (8 : Int32)), .val (.long q2), .second] [(.long q2), (.int (10 : Int32)), (.ref a0)])) _
    refine XS.bipush X104.here hx rfl (hb hby d1_25) ?_
    show Steps p.tables e below (T104.setTop (mkF m 27 #[.val (.ref a0), .val (.int (8 : Int32)), .val (.long q2), .second] [(.int (40 : Int32)), (.long q2), (.int (10 : Int32)), (.ref a0)])) _
    refine XS.lushr X104.here hx rfl (hb hby d1_27) rfl ?_
    show Steps p.tables e below (T104.setTop (mkF m 28 #[.val (.ref a0), .val (.int (8 : Int32)), .val (.long q2), .second] [(.long ((q2.toUInt64 >>> ((40 : Int32) &&& 0x3f).toInt64.toUInt64).toInt64)), (.int (10 : Int32)), (.ref a0)])) _
    refine XS.l2i X104.here hx rfl (hb hby d1_28) rfl ?_
    show Steps p.tables e below (T104.setTop (mkF m 29 #[.val (.ref a0), .val (.int (8 : Int32)), .val (.long q2), .second] [(.int (((q2.toUInt64 >>> ((40 : Int32) &&& 0x3f).toInt64.toUInt64).toInt64).toInt32)), (.int (10 : Int32)), (.ref a0)])) _
    refine XS.i2b X104.here hx rfl (hb hby d1_29) rfl ?_
    show Steps p.tables e below (T104.setTop (mkF m 30 #[.val (.ref a0), .val (.int (8 : Int32)), .val (.long q2), .second] [(.int (own_b40 q2)), (.int (10 : Int32)), (.ref a0)])) _
    refine st106 _ ?_
    show Steps p.tables e below (T106.setTop (mkF m 31 #[.val (.ref a0), .val (.int (8 : Int32)), .val (.long q2), .second] [])) _
    refine XS.aloadN X106.here hx rfl (hb hby d1_31) rfl rfl ?_
    show Steps p.tables e below (T106.setTop (mkF m 32 #[.val (.ref a0), .val (.int (8 : Int32)), .val (.long q2), .second] [(.ref a0)])) _
    refine XS.iloadN X106.here hx rfl (hb hby d1_32) rfl ?_
    show Steps p.tables e below (T106.setTop (mkF m 33 #[.val (.ref a0), .val (.int (8 : Int32)), .val (.long q2), .second] [(.int (8 : Int32)), (.ref a0)])) _
    refine XS.iconst X106.here hx rfl (hb hby d1_33) ?_
    show Steps p.tables e below (T106.setTop (mkF m 34 #[.val (.ref a0), .val (.int (8 : Int32)), .val (.long q2), .second] [(.int (3 : Int32)), (.int (8 : Int32)), (.ref a0)])) _
    refine XS.iadd X106.here hx rfl (hb hby d1_34) rfl ?_
    show Steps p.tables e below (T106.setTop (mkF m 35 #[.val (.ref a0), .val (.int (8 : Int32)), .val (.long q2), .second] [(.int (11 : Int32)), (.ref a0)])) _
    refine XS.lloadN X106.here hx rfl (hb hby d1_35) rfl ?_
    show Steps p.tables e below (T106.setTop (mkF m 36 #[.val (.ref a0), .val (.int (8 : Int32)), .val (.long q2), .second] [(.long q2), (.int (11 : Int32)), (.ref a0)])) _
    refine XS.bipush X106.here hx rfl (hb hby d1_36) ?_
    show Steps p.tables e below (T106.setTop (mkF m 38 #[.val (.ref a0), .val (.int (8 : Int32)), .val (.long q2), .second] [(.int (32 : Int32)), (.long q2), (.int (11 : Int32)), (.ref a0)])) _
    refine XS.lushr X106.here hx rfl (hb hby d1_38) rfl ?_
    show Steps p.tables e below (T106.setTop (mkF m 39 #[.val (.ref a0), .val (.int (8 : Int32)), .val (.long q2), .second] [(.long ((q2.toUInt64 >>> ((32 : Int32) &&& 0x3f).toInt64.toUInt64).toInt64)), (.int (11 : Int32)), (.ref a0)])) _
    refine XS.l2i X106.here hx rfl (hb hby d1_39) rfl ?_
    show Steps p.tables e below (T106.setTop (mkF m 40 #[.val (.ref a0), .val (.int (8 : Int32)), .val (.long q2), .second] [(.int (((q2.toUInt64 >>> ((32 : Int32) &&& 0x3f).toInt64.toUInt64).toInt64).toInt32)), (.int (11 : Int32)), (.ref a0)])) _
    refine XS.i2b X106.here hx rfl (hb hby d1_40) rfl ?_
    show Steps p.tables e below (T106.setTop (mkF m 41 #[.val (.ref a0), .val (.int (8 : Int32)), .val (.long q2), .second] [(.int (own_b32 q2)), (.int (11 : Int32)), (.ref a0)])) _
    refine st108 _ ?_
    show Steps p.tables e below (T108.setTop (mkF m 42 #[.val (.ref a0), .val (.int (8 : Int32)), .val (.long q2), .second] [])) _
    refine XS.aloadN X108.here hx rfl (hb hby d1_42) rfl rfl ?_
    show Steps p.tables e below (T108.setTop (mkF m 43 #[.val (.ref a0), .val (.int (8 : Int32)), .val (.long q2), .second] [(.ref a0)])) _
    refine XS.iloadN X108.here hx rfl (hb hby d1_43) rfl ?_
    show Steps p.tables e below (T108.setTop (mkF m 44 #[.val (.ref a0), .val (.int (8 : Int32)), .val (.long q2), .second] [(.int (8 : Int32)), (.ref a0)])) _
    refine XS.iconst X108.here hx rfl (hb hby d1_44) ?_
    show Steps p.tables e below (T108.setTop (mkF m 45 #[.val (.ref a0), .val (.int (8 : Int32)), .val (.long q2), .second] [(.int (4 : Int32)), (.int (8 : Int32)), (.ref a0)])) _
    refine XS.iadd X108.here hx rfl (hb hby d1_45) rfl ?_
    show Steps p.tables e below (T108.setTop (mkF m 46 #[.val (.ref a0), .val (.int (8 : Int32)), .val (.long q2), .second] [(.int (12 : Int32)), (.ref a0)])) _
    refine XS.lloadN X108.here hx rfl (hb hby d1_46) rfl ?_
    show Steps p.tables e below (T108.setTop (mkF m 47 #[.val (.ref a0), .val (.int (8 : Int32)), .val (.long q2), .second] [(.long q2), (.int (12 : Int32)), (.ref a0)])) _
    refine XS.bipush X108.here hx rfl (hb hby d1_47) ?_
    show Steps p.tables e below (T108.setTop (mkF m 49 #[.val (.ref a0), .val (.int (8 : Int32)), .val (.long q2), .second] [(.int (24 : Int32)), (.long q2), (.int (12 : Int32)), (.ref a0)])) _
    refine XS.lushr X108.here hx rfl (hb hby d1_49) rfl ?_
    show Steps p.tables e below (T108.setTop (mkF m 50 #[.val (.ref a0), .val (.int (8 : Int32)), .val (.long q2), .second] [(.long ((q2.toUInt64 >>> ((24 : Int32) &&& 0x3f).toInt64.toUInt64).toInt64)), (.int (12 : Int32)), (.ref a0)])) _
    refine XS.l2i X108.here hx rfl (hb hby d1_50) rfl ?_
    show Steps p.tables e below (T108.setTop (mkF m 51 #[.val (.ref a0), .val (.int (8 : Int32)), .val (.long q2), .second] [(.int (((q2.toUInt64 >>> ((24 : Int32) &&& 0x3f).toInt64.toUInt64).toInt64).toInt32)), (.int (12 : Int32)), (.ref a0)])) _
    refine XS.i2b X108.here hx rfl (hb hby d1_51) rfl ?_
    show Steps p.tables e below (T108.setTop (mkF m 52 #[.val (.ref a0), .val (.int (8 : Int32)), .val (.long q2), .second] [(.int (own_b24 q2)), (.int (12 : Int32)), (.ref a0)])) _
    refine st110 _ ?_
    show Steps p.tables e below (T110.setTop (mkF m 53 #[.val (.ref a0), .val (.int (8 : Int32)), .val (.long q2), .second] [])) _
    refine XS.aloadN X110.here hx rfl (hb hby d1_53) rfl rfl ?_
    show Steps p.tables e below (T110.setTop (mkF m 54 #[.val (.ref a0), .val (.int (8 : Int32)), .val (.long q2), .second] [(.ref a0)])) _
    refine XS.iloadN X110.here hx rfl (hb hby d1_54) rfl ?_
    show Steps p.tables e below (T110.setTop (mkF m 55 #[.val (.ref a0), .val (.int (8 : Int32)), .val (.long q2), .second] [(.int (8 : Int32)), (.ref a0)])) _
    refine XS.iconst X110.here hx rfl (hb hby d1_55) ?_
    show Steps p.tables e below (T110.setTop (mkF m 56 #[.val (.ref a0), .val (.int (8 : Int32)), .val (.long q2), .second] [(.int (5 : Int32)), (.int (8 : Int32)), (.ref a0)])) _
    refine XS.iadd X110.here hx rfl (hb hby d1_56) rfl ?_
    show Steps p.tables e below (T110.setTop (mkF m 57 #[.val (.ref a0), .val (.int (8 : Int32)), .val (.long q2), .second] [(.int (13 : Int32)), (.ref a0)])) _
    refine XS.lloadN X110.here hx rfl (hb hby d1_57) rfl ?_
    show Steps p.tables e below (T110.setTop (mkF m 58 #[.val (.ref a0), .val (.int (8 : Int32)), .val (.long q2), .second] [(.long q2), (.int (13 : Int32)), (.ref a0)])) _
    refine XS.bipush X110.here hx rfl (hb hby d1_58) ?_
    show Steps p.tables e below (T110.setTop (mkF m 60 #[.val (.ref a0), .val (.int (8 : Int32)), .val (.long q2), .second] [(.int (16 : Int32)), (.long q2), (.int (13 : Int32)), (.ref a0)])) _
    refine XS.lushr X110.here hx rfl (hb hby d1_60) rfl ?_
    show Steps p.tables e below (T110.setTop (mkF m 61 #[.val (.ref a0), .val (.int (8 : Int32)), .val (.long q2), .second] [(.long ((q2.toUInt64 >>> ((16 : Int32) &&& 0x3f).toInt64.toUInt64).toInt64)), (.int (13 : Int32)), (.ref a0)])) _
    refine XS.l2i X110.here hx rfl (hb hby d1_61) rfl ?_
    show Steps p.tables e below (T110.setTop (mkF m 62 #[.val (.ref a0), .val (.int (8 : Int32)), .val (.long q2), .second] [(.int (((q2.toUInt64 >>> ((16 : Int32) &&& 0x3f).toInt64.toUInt64).toInt64).toInt32)), (.int (13 : Int32)), (.ref a0)])) _
    refine XS.i2b X110.here hx rfl (hb hby d1_62) rfl ?_
    show Steps p.tables e below (T110.setTop (mkF m 63 #[.val (.ref a0), .val (.int (8 : Int32)), .val (.long q2), .second] [(.int (own_b16 q2)), (.int (13 : Int32)), (.ref a0)])) _
    refine st112 _ ?_
    show Steps p.tables e below (T112.setTop (mkF m 64 #[.val (.ref a0), .val (.int (8 : Int32)), .val (.long q2), .second] [])) _
    refine XS.aloadN X112.here hx rfl (hb hby d1_64) rfl rfl ?_
    show Steps p.tables e below (T112.setTop (mkF m 65 #[.val (.ref a0), .val (.int (8 : Int32)), .val (.long q2), .second] [(.ref a0)])) _
    refine XS.iloadN X112.here hx rfl (hb hby d1_65) rfl ?_
    show Steps p.tables e below (T112.setTop (mkF m 66 #[.val (.ref a0), .val (.int (8 : Int32)), .val (.long q2), .second] [(.int (8 : Int32)), (.ref a0)])) _
    refine XS.bipush X112.here hx rfl (hb hby d1_66) ?_
    show Steps p.tables e below (T112.setTop (mkF m 68 #[.val (.ref a0), .val (.int (8 : Int32)), .val (.long q2), .second] [(.int (6 : Int32)), (.int (8 : Int32)), (.ref a0)])) _
    refine XS.iadd X112.here hx rfl (hb hby d1_68) rfl ?_
    show Steps p.tables e below (T112.setTop (mkF m 69 #[.val (.ref a0), .val (.int (8 : Int32)), .val (.long q2), .second] [(.int (14 : Int32)), (.ref a0)])) _
    refine XS.lloadN X112.here hx rfl (hb hby d1_69) rfl ?_
    show Steps p.tables e below (T112.setTop (mkF m 70 #[.val (.ref a0), .val (.int (8 : Int32)), .val (.long q2), .second] [(.long q2), (.int (14 : Int32)), (.ref a0)])) _
    refine XS.bipush X112.here hx rfl (hb hby d1_70) ?_
    show Steps p.tables e below (T112.setTop (mkF m 72 #[.val (.ref a0), .val (.int (8 : Int32)), .val (.long q2), .second] [(.int (8 : Int32)), (.long q2), (.int (14 : Int32)), (.ref a0)])) _
    refine XS.lushr X112.here hx rfl (hb hby d1_72) rfl ?_
    show Steps p.tables e below (T112.setTop (mkF m 73 #[.val (.ref a0), .val (.int (8 : Int32)), .val (.long q2), .second] [(.long ((q2.toUInt64 >>> ((8 : Int32) &&& 0x3f).toInt64.toUInt64).toInt64)), (.int (14 : Int32)), (.ref a0)])) _
    refine XS.l2i X112.here hx rfl (hb hby d1_73) rfl ?_
    show Steps p.tables e below (T112.setTop (mkF m 74 #[.val (.ref a0), .val (.int (8 : Int32)), .val (.long q2), .second] [(.int (((q2.toUInt64 >>> ((8 : Int32) &&& 0x3f).toInt64.toUInt64).toInt64).toInt32)), (.int (14 : Int32)), (.ref a0)])) _
    refine XS.i2b X112.here hx rfl (hb hby d1_74) rfl ?_
    show Steps p.tables e below (T112.setTop (mkF m 75 #[.val (.ref a0), .val (.int (8 : Int32)), .val (.long q2), .second] [(.int (own_b8 q2)), (.int (14 : Int32)), (.ref a0)])) _
    refine st114 _ ?_
    show Steps p.tables e below (T114.setTop (mkF m 76 #[.val (.ref a0), .val (.int (8 : Int32)), .val (.long q2), .second] [])) _
    refine XS.aloadN X114.here hx rfl (hb hby d1_76) rfl rfl ?_
    show Steps p.tables e below (T114.setTop (mkF m 77 #[.val (.ref a0), .val (.int (8 : Int32)), .val (.long q2), .second] [(.ref a0)])) _
    refine XS.iloadN X114.here hx rfl (hb hby d1_77) rfl ?_
    show Steps p.tables e below (T114.setTop (mkF m 78 #[.val (.ref a0), .val (.int (8 : Int32)), .val (.long q2), .second] [(.int (8 : Int32)), (.ref a0)])) _
    refine XS.bipush X114.here hx rfl (hb hby d1_78) ?_
    show Steps p.tables e below (T114.setTop (mkF m 80 #[.val (.ref a0), .val (.int (8 : Int32)), .val (.long q2), .second] [(.int (7 : Int32)), (.int (8 : Int32)), (.ref a0)])) _
    refine XS.iadd X114.here hx rfl (hb hby d1_80) rfl ?_
    show Steps p.tables e below (T114.setTop (mkF m 81 #[.val (.ref a0), .val (.int (8 : Int32)), .val (.long q2), .second] [(.int (15 : Int32)), (.ref a0)])) _
    refine XS.lloadN X114.here hx rfl (hb hby d1_81) rfl ?_
    show Steps p.tables e below (T114.setTop (mkF m 82 #[.val (.ref a0), .val (.int (8 : Int32)), .val (.long q2), .second] [(.long q2), (.int (15 : Int32)), (.ref a0)])) _
    refine XS.l2i X114.here hx rfl (hb hby d1_82) rfl ?_
    show Steps p.tables e below (T114.setTop (mkF m 83 #[.val (.ref a0), .val (.int (8 : Int32)), .val (.long q2), .second] [(.int (q2.toInt32)), (.int (15 : Int32)), (.ref a0)])) _
    refine XS.i2b X114.here hx rfl (hb hby d1_83) rfl ?_
    show Steps p.tables e below (T114.setTop (mkF m 84 #[.val (.ref a0), .val (.int (8 : Int32)), .val (.long q2), .second] [(.int (own_b0 q2)), (.int (15 : Int32)), (.ref a0)])) _
    refine st116 _ ?_
    show Steps p.tables e below (T116.setTop (mkF m 85 #[.val (.ref a0), .val (.int (8 : Int32)), .val (.long q2), .second] [])) _
    exact X116.returnOut hx Bd.returns (hb hby d1_85) hr
  · show Q_rmp8 Z a0 q2 kk vs h0 n0 _ T116.heap _
    rw [e116]
    exact ⟨rfl, N116, K116, V116⟩
theorem ef_rmp16 (m : MethodId) (x0 : Addr) (x1 : Int32) (x2 : Int64) : entryFrame m #[(.ref x0), (.int x1), (.long x2)] 4 = mkF m 0 #[.val (.ref x0), .val (.int x1), .val (.long x2), .second] [] := by first | (simp [entryFrame, mkF, argsToLocals, Value.category]; done) | rfl
def Q_rmp16 (Z : State) (a0 : Addr) (q2 : Int64) (kk : ClassId) (vs : List Value) (h0 : Heap) (n0 : Nat) (v : Option Value) (h : Heap) (L : List Loc) : Prop := v = none ∧ Fr n0 L ∧ Keep h0 h [a0] ∧ Arv Z h a0 kk .byte (32 : Int32) (own_put vs 16 q2) (.int (0 : Int32))
set_option maxRecDepth 65536 in
set_option maxHeartbeats 40000000 in
theorem rmp16 (l : Launch) (Z : State) (aw : Array Value) (hw : ∀ d ∈ tables_1, d.before aw Z = true) (ws : List Jvm.Cond) (a0 : Addr) (q2 : Int64) (kk : ClassId) (vs : List Value) (h0 : Heap) (n0 : Nat) (Z0 : n0 ≤ h0.size) (V0 : Arv Z h0 a0 kk .byte (32 : Int32) vs (.int (0 : Int32))) (hl : vs.length = 32) (g0 : n0 ≤ a0) :
    MetFree l (⟨"com/example/countersign/countersign/protocol/PrimitivesFoldPinLaw", "put", "([BIJ)V"⟩ : MethodName) (head1 (Jvm.Cond.code (⟨"com/example/countersign/countersign/protocol/PrimitivesFoldPinLaw", "put", "([BIJ)V"⟩ : MethodName) method_3_code 4 none :: ws) ({ frames := 0, cells := 0, slots := 0, locals := 0 } : Room)) (fun a U => a = #[(.ref a0), (.int (16 : Int32)), (.long q2)] ∧ Z.Warmed39 U.vm ∧ U.heap = h0) (fun _ _ _ _ _ => True) (fun _ U oc U' => ∃ v L, oc = .returned v ∧ Q_rmp16 Z a0 q2 kk vs h0 n0 v U'.heap L ∧ FrameEnd U oc U' L ({ frames := 0, cells := 0, slots := 0, locals := 0 } : Room).cells ({ frames := 0, cells := 0, slots := 0, locals := 0 } : Room).slots) := by
  refine MetFree.of_bodySF (plainFor_of_name pn_0) hisR ?_
  intro p e s m args below meth c s₁ Bd hml0 hP hK
  obtain ⟨rfl, hZ, hh⟩ := hP
  have hx := Bd.exec
  have hby := Bd.bytes
  have hml : c.maxLocals = 4 := hml0
  have hown : s.vm.findClass "com/example/countersign/countersign/protocol/PrimitivesFoldPinLaw" = some m.cls := findClass_of_methodNamed Bd.named
  have hnm := (name_of_methodNamed Bd.named Bd.method).1
  have X0 : Stand p l e ({ frames := 0, cells := 0, slots := 0, locals := 0 } : Room) s m #[(.ref a0), (.int (16 : Int32)), (.long q2)] below meth c s₁ [] 0 0 := Stand.of_body Bd
  have e0 : s₁.heap = h0 := by rw [← hh, Bd.state]; rfl
  have N0 := Fr.nil n0
  have pre0 : ∀ t, Steps p.tables e below (s₁.setTop (mkF m 0 #[.val (.ref a0), .val (.int (16 : Int32)), .val (.long q2), .second] [])) t → Steps p.tables e below (s₁.setTop (entryFrame m #[(.ref a0), (.int (16 : Int32)), (.long q2)] 4)) t := fun t k => castTop (ef_rmp16 m a0 (16 : Int32) q2) k
  obtain ⟨cl101, Ar101, q101, S101, M101, H101, G101⟩ := id V0
  obtain ⟨T102, h102, X102, e102, W102, st102⟩ := stB X0 hx hZ e0 Ar101 (j := (16 : Int32)) (inb_of S101 ⟨by decide, by decide⟩) (g := (mkF m 8 #[.val (.ref a0), .val (.int (16 : Int32)), .val (.long q2), .second] [(.int (own_b56 q2)), (.int (16 : Int32)), (.ref a0)])) rfl rfl (hb hby d1_8)
  have V102 := Arv.set Ar101 q101 S101 M101 H101 G101 (fits_nar_byte _) W102 16 rfl (by simp [hl])
  have K102 : Keep h0 h102 [a0] := (Keep.refl h0 [a0]).wr W102 (Or.inl (List.mem_of_getElem? (i := 0) rfl))
  have N102 := Fr.snoc X102 N0 g0
  have Z102 : n0 ≤ h102.size := Nat.le_trans Z0 (Keep.of_wr W102).1
  obtain ⟨cl103, Ar103, q103, S103, M103, H103, G103⟩ := id V102
  obtain ⟨T104, h104, X104, e104, W104, st104⟩ := stB X102 hx hZ e102 Ar103 (j := (17 : Int32)) (inb_of S103 ⟨by decide, by decide⟩) (g := (mkF m 19 #[.val (.ref a0), .val (.int (16 : Int32)), .val (.long q2), .second] [(.int (own_b48 q2)), (.int (17 : Int32)), (.ref a0)])) rfl rfl (hb hby d1_19)
  have V104 := Arv.set Ar103 q103 S103 M103 H103 G103 (fits_nar_byte _) W104 17 rfl (by simp [hl])
  have K104 : Keep h0 h104 [a0] := K102.wr W104 (Or.inl (List.mem_of_getElem? (i := 0) rfl))
  have N104 := Fr.snoc X104 N102 g0
  have Z104 : n0 ≤ h104.size := Nat.le_trans Z102 (Keep.of_wr W104).1
  obtain ⟨cl105, Ar105, q105, S105, M105, H105, G105⟩ := id V104
  obtain ⟨T106, h106, X106, e106, W106, st106⟩ := stB X104 hx hZ e104 Ar105 (j := (18 : Int32)) (inb_of S105 ⟨by decide, by decide⟩) (g := (mkF m 30 #[.val (.ref a0), .val (.int (16 : Int32)), .val (.long q2), .second] [(.int (own_b40 q2)), (.int (18 : Int32)), (.ref a0)])) rfl rfl (hb hby d1_30)
  have V106 := Arv.set Ar105 q105 S105 M105 H105 G105 (fits_nar_byte _) W106 18 rfl (by simp [hl])
  have K106 : Keep h0 h106 [a0] := K104.wr W106 (Or.inl (List.mem_of_getElem? (i := 0) rfl))
  have N106 := Fr.snoc X106 N104 g0
  have Z106 : n0 ≤ h106.size := Nat.le_trans Z104 (Keep.of_wr W106).1
  obtain ⟨cl107, Ar107, q107, S107, M107, H107, G107⟩ := id V106
  obtain ⟨T108, h108, X108, e108, W108, st108⟩ := stB X106 hx hZ e106 Ar107 (j := (19 : Int32)) (inb_of S107 ⟨by decide, by decide⟩) (g := (mkF m 41 #[.val (.ref a0), .val (.int (16 : Int32)), .val (.long q2), .second] [(.int (own_b32 q2)), (.int (19 : Int32)), (.ref a0)])) rfl rfl (hb hby d1_41)
  have V108 := Arv.set Ar107 q107 S107 M107 H107 G107 (fits_nar_byte _) W108 19 rfl (by simp [hl])
  have K108 : Keep h0 h108 [a0] := K106.wr W108 (Or.inl (List.mem_of_getElem? (i := 0) rfl))
  have N108 := Fr.snoc X108 N106 g0
  have Z108 : n0 ≤ h108.size := Nat.le_trans Z106 (Keep.of_wr W108).1
  obtain ⟨cl109, Ar109, q109, S109, M109, H109, G109⟩ := id V108
  obtain ⟨T110, h110, X110, e110, W110, st110⟩ := stB X108 hx hZ e108 Ar109 (j := (20 : Int32)) (inb_of S109 ⟨by decide, by decide⟩) (g := (mkF m 52 #[.val (.ref a0), .val (.int (16 : Int32)), .val (.long q2), .second] [(.int (own_b24 q2)), (.int (20 : Int32)), (.ref a0)])) rfl rfl (hb hby d1_52)
  have V110 := Arv.set Ar109 q109 S109 M109 H109 G109 (fits_nar_byte _) W110 20 rfl (by simp [hl])
  have K110 : Keep h0 h110 [a0] := K108.wr W110 (Or.inl (List.mem_of_getElem? (i := 0) rfl))
  have N110 := Fr.snoc X110 N108 g0
  have Z110 : n0 ≤ h110.size := Nat.le_trans Z108 (Keep.of_wr W110).1
  obtain ⟨cl111, Ar111, q111, S111, M111, H111, G111⟩ := id V110
  obtain ⟨T112, h112, X112, e112, W112, st112⟩ := stB X110 hx hZ e110 Ar111 (j := (21 : Int32)) (inb_of S111 ⟨by decide, by decide⟩) (g := (mkF m 63 #[.val (.ref a0), .val (.int (16 : Int32)), .val (.long q2), .second] [(.int (own_b16 q2)), (.int (21 : Int32)), (.ref a0)])) rfl rfl (hb hby d1_63)
  have V112 := Arv.set Ar111 q111 S111 M111 H111 G111 (fits_nar_byte _) W112 21 rfl (by simp [hl])
  have K112 : Keep h0 h112 [a0] := K110.wr W112 (Or.inl (List.mem_of_getElem? (i := 0) rfl))
  have N112 := Fr.snoc X112 N110 g0
  have Z112 : n0 ≤ h112.size := Nat.le_trans Z110 (Keep.of_wr W112).1
  obtain ⟨cl113, Ar113, q113, S113, M113, H113, G113⟩ := id V112
  obtain ⟨T114, h114, X114, e114, W114, st114⟩ := stB X112 hx hZ e112 Ar113 (j := (22 : Int32)) (inb_of S113 ⟨by decide, by decide⟩) (g := (mkF m 75 #[.val (.ref a0), .val (.int (16 : Int32)), .val (.long q2), .second] [(.int (own_b8 q2)), (.int (22 : Int32)), (.ref a0)])) rfl rfl (hb hby d1_75)
  have V114 := Arv.set Ar113 q113 S113 M113 H113 G113 (fits_nar_byte _) W114 22 rfl (by simp [hl])
  have K114 : Keep h0 h114 [a0] := K112.wr W114 (Or.inl (List.mem_of_getElem? (i := 0) rfl))
  have N114 := Fr.snoc X114 N112 g0
  have Z114 : n0 ≤ h114.size := Nat.le_trans Z112 (Keep.of_wr W114).1
  obtain ⟨cl115, Ar115, q115, S115, M115, H115, G115⟩ := id V114
  obtain ⟨T116, h116, X116, e116, W116, st116⟩ := stB X114 hx hZ e114 Ar115 (j := (23 : Int32)) (inb_of S115 ⟨by decide, by decide⟩) (g := (mkF m 84 #[.val (.ref a0), .val (.int (16 : Int32)), .val (.long q2), .second] [(.int (own_b0 q2)), (.int (23 : Int32)), (.ref a0)])) rfl rfl (hb hby d1_84)
  have V116 := Arv.set Ar115 q115 S115 M115 H115 G115 (fits_nar_byte _) W116 23 rfl (by simp [hl])
  have K116 : Keep h0 h116 [a0] := K114.wr W116 (Or.inl (List.mem_of_getElem? (i := 0) rfl))
  have N116 := Fr.snoc X116 N114 g0
  have Z116 : n0 ≤ h116.size := Nat.le_trans Z114 (Keep.of_wr W116).1
  obtain ⟨fs, hr, hrun, hended, hW, hsame⟩ := X116.leave (v := none) (fun _ => rfl)
  refine ⟨_, _, pre0 _ ?_, hrun, hended, _, _, rfl, ?_, ⟨_, rfl⟩, hW, hsame.mono (by decide) (by decide)⟩
  · show Steps p.tables e below (s₁.setTop (mkF m 0 #[.val (.ref a0), .val (.int (16 : Int32)), .val (.long q2), .second] [])) _
    refine XS.aloadN X0.here hx rfl (hb hby d1_0) rfl rfl ?_
    show Steps p.tables e below (s₁.setTop (mkF m 1 #[.val (.ref a0), .val (.int (16 : Int32)), .val (.long q2), .second] [(.ref a0)])) _
    refine XS.iloadN X0.here hx rfl (hb hby d1_1) rfl ?_
    show Steps p.tables e below (s₁.setTop (mkF m 2 #[.val (.ref a0), .val (.int (16 : Int32)), .val (.long q2), .second] [(.int (16 : Int32)), (.ref a0)])) _
    refine XS.lloadN X0.here hx rfl (hb hby d1_2) rfl ?_
    show Steps p.tables e below (s₁.setTop (mkF m 3 #[.val (.ref a0), .val (.int (16 : Int32)), .val (.long q2), .second] [(.long q2), (.int (16 : Int32)), (.ref a0)])) _
    refine XS.bipush X0.here hx rfl (hb hby d1_3) ?_
    show Steps p.tables e below (s₁.setTop (mkF m 5 #[.val (.ref a0), .val (.int (16 : Int32)), .val (.long q2), .second] [(.int (56 : Int32)), (.long q2), (.int (16 : Int32)), (.ref a0)])) _
    refine XS.lushr X0.here hx rfl (hb hby d1_5) rfl ?_
    show Steps p.tables e below (s₁.setTop (mkF m 6 #[.val (.ref a0), .val (.int (16 : Int32)), .val (.long q2), .second] [(.long ((q2.toUInt64 >>> ((56 : Int32) &&& 0x3f).toInt64.toUInt64).toInt64)), (.int (16 : Int32)), (.ref a0)])) _
    refine XS.l2i X0.here hx rfl (hb hby d1_6) rfl ?_
    show Steps p.tables e below (s₁.setTop (mkF m 7 #[.val (.ref a0), .val (.int (16 : Int32)), .val (.long q2), .second] [(.int (((q2.toUInt64 >>> ((56 : Int32) &&& 0x3f).toInt64.toUInt64).toInt64).toInt32)), (.int (16 : Int32)), (.ref a0)])) _
    refine XS.i2b X0.here hx rfl (hb hby d1_7) rfl ?_
    show Steps p.tables e below (s₁.setTop (mkF m 8 #[.val (.ref a0), .val (.int (16 : Int32)), .val (.long q2), .second] [(.int (own_b56 q2)), (.int (16 : Int32)), (.ref a0)])) _
    refine st102 _ ?_
    show Steps p.tables e below (T102.setTop (mkF m 9 #[.val (.ref a0), .val (.int (16 : Int32)), .val (.long q2), .second] [])) _
    refine XS.aloadN X102.here hx rfl (hb hby d1_9) rfl rfl ?_
    show Steps p.tables e below (T102.setTop (mkF m 10 #[.val (.ref a0), .val (.int (16 : Int32)), .val (.long q2), .second] [(.ref a0)])) _
    refine XS.iloadN X102.here hx rfl (hb hby d1_10) rfl ?_
    show Steps p.tables e below (T102.setTop (mkF m 11 #[.val (.ref a0), .val (.int (16 : Int32)), .val (.long q2), .second] [(.int (16 : Int32)), (.ref a0)])) _
    refine XS.iconst X102.here hx rfl (hb hby d1_11) ?_
    show Steps p.tables e below (T102.setTop (mkF m 12 #[.val (.ref a0), .val (.int (16 : Int32)), .val (.long q2), .second] [(.int (1 : Int32)), (.int (16 : Int32)), (.ref a0)])) _
    refine XS.iadd X102.here hx rfl (hb hby d1_12) rfl ?_
    show Steps p.tables e below (T102.setTop (mkF m 13 #[.val (.ref a0), .val (.int (16 : Int32)), .val (.long q2), .second] [(.int (17 : Int32)), (.ref a0)])) _
    refine XS.lloadN X102.here hx rfl (hb hby d1_13) rfl ?_
    show Steps p.tables e below (T102.setTop (mkF m 14 #[.val (.ref a0), .val (.int (16 : Int32)), .val (.long q2), .second] [(.long q2), (.int (17 : Int32)), (.ref a0)])) _
    refine XS.bipush X102.here hx rfl (hb hby d1_14) ?_
    show Steps p.tables e below (T102.setTop (mkF m 16 #[.val (.ref a0), .val (.int (16 : Int32)), .val (.long q2), .second] [(.int (48 : Int32)), (.long q2), (.int (17 : Int32)), (.ref a0)])) _
    refine XS.lushr X102.here hx rfl (hb hby d1_16) rfl ?_
    show Steps p.tables e below (T102.setTop (mkF m 17 #[.val (.ref a0), .val (.int (16 : Int32)), .val (.long q2), .second] [(.long ((q2.toUInt64 >>> ((48 : Int32) &&& 0x3f).toInt64.toUInt64).toInt64)), (.int (17 : Int32)), (.ref a0)])) _
    refine XS.l2i X102.here hx rfl (hb hby d1_17) rfl ?_
    show Steps p.tables e below (T102.setTop (mkF m 18 #[.val (.ref a0), .val (.int (16 : Int32)), .val (.long q2), .second] [(.int (((q2.toUInt64 >>> ((48 : Int32) &&& 0x3f).toInt64.toUInt64).toInt64).toInt32)), (.int (17 : Int32)), (.ref a0)])) _
    refine XS.i2b X102.here hx rfl (hb hby d1_18) rfl ?_
    show Steps p.tables e below (T102.setTop (mkF m 19 #[.val (.ref a0), .val (.int (16 : Int32)), .val (.long q2), .second] [(.int (own_b48 q2)), (.int (17 : Int32)), (.ref a0)])) _
    refine st104 _ ?_
    show Steps p.tables e below (T104.setTop (mkF m 20 #[.val (.ref a0), .val (.int (16 : Int32)), .val (.long q2), .second] [])) _
    refine XS.aloadN X104.here hx rfl (hb hby d1_20) rfl rfl ?_
    show Steps p.tables e below (T104.setTop (mkF m 21 #[.val (.ref a0), .val (.int (16 : Int32)), .val (.long q2), .second] [(.ref a0)])) _
    refine XS.iloadN X104.here hx rfl (hb hby d1_21) rfl ?_
    show Steps p.tables e below (T104.setTop (mkF m 22 #[.val (.ref a0), .val (.int (16 : Int32)), .val (.long q2), .second] [(.int (16 : Int32)), (.ref a0)])) _
    refine XS.iconst X104.here hx rfl (hb hby d1_22) ?_
    show Steps p.tables e below (T104.setTop (mkF m 23 #[.val (.ref a0), .val (.int (16 : Int32)), .val (.long q2), .second] [(.int (2 : Int32)), (.int (16 : Int32)), (.ref a0)])) _
    refine XS.iadd X104.here hx rfl (hb hby d1_23) rfl ?_
    show Steps p.tables e below (T104.setTop (mkF m 24 #[.val (.ref a0), .val (.int (16 : Int32)), .val (.long q2), .second] [(.int (18 : Int32)), (.ref a0)])) _
    refine XS.lloadN X104.here hx rfl (hb hby d1_24) rfl ?_
    show Steps p.tables e below (T104.setTop (mkF m 25 #[.val (.ref a0), .val (.int (16 : Int32)), .val (.long q2), .second] [(.long q2), (.int (18 : Int32)), (.ref a0)])) _
    refine XS.bipush X104.here hx rfl (hb hby d1_25) ?_
    show Steps p.tables e below (T104.setTop (mkF m 27 #[.val (.ref a0), .val (.int (16 : Int32)), .val (.long q2), .second] [(.int (40 : Int32)), (.long q2), (.int (18 : Int32)), (.ref a0)])) _
    refine XS.lushr X104.here hx rfl (hb hby d1_27) rfl ?_
    show Steps p.tables e below (T104.setTop (mkF m 28 #[.val (.ref a0), .val (.int (16 : Int32)), .val (.long q2), .second] [(.long ((q2.toUInt64 >>> ((40 : Int32) &&& 0x3f).toInt64.toUInt64).toInt64)), (.int (18 : Int32)), (.ref a0)])) _
    refine XS.l2i X104.here hx rfl (hb hby d1_28) rfl ?_
    show Steps p.tables e below (T104.setTop (mkF m 29 #[.val (.ref a0), .val (.int (16 : Int32)), .val (.long q2), .second] [(.int (((q2.toUInt64 >>> ((40 : Int32) &&& 0x3f).toInt64.toUInt64).toInt64).toInt32)), (.int (18 : Int32)), (.ref a0)])) _
    refine XS.i2b X104.here hx rfl (hb hby d1_29) rfl ?_
    show Steps p.tables e below (T104.setTop (mkF m 30 #[.val (.ref a0), .val (.int (16 : Int32)), .val (.long q2), .second] [(.int (own_b40 q2)), (.int (18 : Int32)), (.ref a0)])) _
    refine st106 _ ?_
    show Steps p.tables e below (T106.setTop (mkF m 31 #[.val (.ref a0), .val (.int (16 : Int32)), .val (.long q2), .second] [])) _
    refine XS.aloadN X106.here hx rfl (hb hby d1_31) rfl rfl ?_
    show Steps p.tables e below (T106.setTop (mkF m 32 #[.val (.ref a0), .val (.int (16 : Int32)), .val (.long q2), .second] [(.ref a0)])) _
    refine XS.iloadN X106.here hx rfl (hb hby d1_32) rfl ?_
    show Steps p.tables e below (T106.setTop (mkF m 33 #[.val (.ref a0), .val (.int (16 : Int32)), .val (.long q2), .second] [(.int (16 : Int32)), (.ref a0)])) _
    refine XS.iconst X106.here hx rfl (hb hby d1_33) ?_
    show Steps p.tables e below (T106.setTop (mkF m 34 #[.val (.ref a0), .val (.int (16 : Int32)), .val (.long q2), .second] [(.int (3 : Int32)), (.int (16 : Int32)), (.ref a0)])) _
    refine XS.iadd X106.here hx rfl (hb hby d1_34) rfl ?_
    show Steps p.tables e below (T106.setTop (mkF m 35 #[.val (.ref a0), .val (.int (16 : Int32)), .val (.long q2), .second] [(.int (19 : Int32)), (.ref a0)])) _
    refine XS.lloadN X106.here hx rfl (hb hby d1_35) rfl ?_
    show Steps p.tables e below (T106.setTop (mkF m 36 #[.val (.ref a0), .val (.int (16 : Int32)), .val (.long q2), .second] [(.long q2), (.int (19 : Int32)), (.ref a0)])) _
    refine XS.bipush X106.here hx rfl (hb hby d1_36) ?_
    show Steps p.tables e below (T106.setTop (mkF m 38 #[.val (.ref a0), .val (.int (16 : Int32)), .val (.long q2), .second] [(.int (32 : Int32)), (.long q2), (.int (19 : Int32)), (.ref a0)])) _
    refine XS.lushr X106.here hx rfl (hb hby d1_38) rfl ?_
    show Steps p.tables e below (T106.setTop (mkF m 39 #[.val (.ref a0), .val (.int (16 : Int32)), .val (.long q2), .second] [(.long ((q2.toUInt64 >>> ((32 : Int32) &&& 0x3f).toInt64.toUInt64).toInt64)), (.int (19 : Int32)), (.ref a0)])) _
    refine XS.l2i X106.here hx rfl (hb hby d1_39) rfl ?_
    show Steps p.tables e below (T106.setTop (mkF m 40 #[.val (.ref a0), .val (.int (16 : Int32)), .val (.long q2), .second] [(.int (((q2.toUInt64 >>> ((32 : Int32) &&& 0x3f).toInt64.toUInt64).toInt64).toInt32)), (.int (19 : Int32)), (.ref a0)])) _
    refine XS.i2b X106.here hx rfl (hb hby d1_40) rfl ?_
    show Steps p.tables e below (T106.setTop (mkF m 41 #[.val (.ref a0), .val (.int (16 : Int32)), .val (.long q2), .second] [(.int (own_b32 q2)), (.int (19 : Int32)), (.ref a0)])) _
    refine st108 _ ?_
    show Steps p.tables e below (T108.setTop (mkF m 42 #[.val (.ref a0), .val (.int (16 : Int32)), .val (.long q2), .second] [])) _
    refine XS.aloadN X108.here hx rfl (hb hby d1_42) rfl rfl ?_
    show Steps p.tables e below (T108.setTop (mkF m 43 #[.val (.ref a0), .val (.int (16 : Int32)), .val (.long q2), .second] [(.ref a0)])) _
    refine XS.iloadN X108.here hx rfl (hb hby d1_43) rfl ?_
    show Steps p.tables e below (T108.setTop (mkF m 44 #[.val (.ref a0), .val (.int (16 : Int32)), .val (.long q2), .second] [(.int (16 : Int32)), (.ref a0)])) _
    refine XS.iconst X108.here hx rfl (hb hby d1_44) ?_
    show Steps p.tables e below (T108.setTop (mkF m 45 #[.val (.ref a0), .val (.int (16 : Int32)), .val (.long q2), .second] [(.int (4 : Int32)), (.int (16 : Int32)), (.ref a0)])) _
    refine XS.iadd X108.here hx rfl (hb hby d1_45) rfl ?_
    show Steps p.tables e below (T108.setTop (mkF m 46 #[.val (.ref a0), .val (.int (16 : Int32)), .val (.long q2), .second] [(.int (20 : Int32)), (.ref a0)])) _
    refine XS.lloadN X108.here hx rfl (hb hby d1_46) rfl ?_
    show Steps p.tables e below (T108.setTop (mkF m 47 #[.val (.ref a0), .val (.int (16 : Int32)), .val (.long q2), .second] [(.long q2), (.int (20 : Int32)), (.ref a0)])) _
    refine XS.bipush X108.here hx rfl (hb hby d1_47) ?_
    show Steps p.tables e below (T108.setTop (mkF m 49 #[.val (.ref a0), .val (.int (16 : Int32)), .val (.long q2), .second] [(.int (24 : Int32)), (.long q2), (.int (20 : Int32)), (.ref a0)])) _
    refine XS.lushr X108.here hx rfl (hb hby d1_49) rfl ?_
    show Steps p.tables e below (T108.setTop (mkF m 50 #[.val (.ref a0), .val (.int (16 : Int32)), .val (.long q2), .second] [(.long ((q2.toUInt64 >>> ((24 : Int32) &&& 0x3f).toInt64.toUInt64).toInt64)), (.int (20 : Int32)), (.ref a0)])) _
    refine XS.l2i X108.here hx rfl (hb hby d1_50) rfl ?_
    show Steps p.tables e below (T108.setTop (mkF m 51 #[.val (.ref a0), .val (.int (16 : Int32)), .val (.long q2), .second] [(.int (((q2.toUInt64 >>> ((24 : Int32) &&& 0x3f).toInt64.toUInt64).toInt64).toInt32)), (.int (20 : Int32)), (.ref a0)])) _
    refine XS.i2b X108.here hx rfl (hb hby d1_51) rfl ?_
    show Steps p.tables e below (T108.setTop (mkF m 52 #[.val (.ref a0), .val (.int (16 : Int32)), .val (.long q2), .second] [(.int (own_b24 q2)), (.int (20 : Int32)), (.ref a0)])) _
    refine st110 _ ?_
    show Steps p.tables e below (T110.setTop (mkF m 53 #[.val (.ref a0), .val (.int (16 : Int32)), .val (.long q2), .second] [])) _
    refine XS.aloadN X110.here hx rfl (hb hby d1_53) rfl rfl ?_
    show Steps p.tables e below (T110.setTop (mkF m 54 #[.val (.ref a0), .val (.int (16 : Int32)), .val (.long q2), .second] [(.ref a0)])) _
    refine XS.iloadN X110.here hx rfl (hb hby d1_54) rfl ?_
    show Steps p.tables e below (T110.setTop (mkF m 55 #[.val (.ref a0), .val (.int (16 : Int32)), .val (.long q2), .second] [(.int (16 : Int32)), (.ref a0)])) _
    refine XS.iconst X110.here hx rfl (hb hby d1_55) ?_
    show Steps p.tables e below (T110.setTop (mkF m 56 #[.val (.ref a0), .val (.int (16 : Int32)), .val (.long q2), .second] [(.int (5 : Int32)), (.int (16 : Int32)), (.ref a0)])) _
    refine XS.iadd X110.here hx rfl (hb hby d1_56) rfl ?_
    show Steps p.tables e below (T110.setTop (mkF m 57 #[.val (.ref a0), .val (.int (16 : Int32)), .val (.long q2), .second] [(.int (21 : Int32)), (.ref a0)])) _
    refine XS.lloadN X110.here hx rfl (hb hby d1_57) rfl ?_
    show Steps p.tables e below (T110.setTop (mkF m 58 #[.val (.ref a0), .val (.int (16 : Int32)), .val (.long q2), .second] [(.long q2), (.int (21 : Int32)), (.ref a0)])) _
    refine XS.bipush X110.here hx rfl (hb hby d1_58) ?_
    show Steps p.tables e below (T110.setTop (mkF m 60 #[.val (.ref a0), .val (.int (16 : Int32)), .val (.long q2), .second] [(.int (16 : Int32)), (.long q2), (.int (21 : Int32)), (.ref a0)])) _
    refine XS.lushr X110.here hx rfl (hb hby d1_60) rfl ?_
    show Steps p.tables e below (T110.setTop (mkF m 61 #[.val (.ref a0), .val (.int (16 : Int32)), .val (.long q2), .second] [(.long ((q2.toUInt64 >>> ((16 : Int32) &&& 0x3f).toInt64.toUInt64).toInt64)), (.int (21 : Int32)), (.ref a0)])) _
    refine XS.l2i X110.here hx rfl (hb hby d1_61) rfl ?_
    show Steps p.tables e below (T110.setTop (mkF m 62 #[.val (.ref a0), .val (.int (16 : Int32)), .val (.long q2), .second] [(.int (((q2.toUInt64 >>> ((16 : Int32) &&& 0x3f).toInt64.toUInt64).toInt64).toInt32)), (.int (21 : Int32)), (.ref a0)])) _
    refine XS.i2b X110.here hx rfl (hb hby d1_62) rfl ?_
    show Steps p.tables e below (T110.setTop (mkF m 63 #[.val (.ref a0), .val (.int (16 : Int32)), .val (.long q2), .second] [(.int (own_b16 q2)), (.int (21 : Int32)), (.ref a0)])) _
    refine st112 _ ?_
    show Steps p.tables e below (T112.setTop (mkF m 64 #[.val (.ref a0), .val (.int (16 : Int32)), .val (.long q2), .second] [])) _
    refine XS.aloadN X112.here hx rfl (hb hby d1_64) rfl rfl ?_
    show Steps p.tables e below (T112.setTop (mkF m 65 #[.val (.ref a0), .val (.int (16 : Int32)), .val (.long q2), .second] [(.ref a0)])) _
    refine XS.iloadN X112.here hx rfl (hb hby d1_65) rfl ?_
    show Steps p.tables e below (T112.setTop (mkF m 66 #[.val (.ref a0), .val (.int (16 : Int32)), .val (.long q2), .second] [(.int (16 : Int32)), (.ref a0)])) _
    refine XS.bipush X112.here hx rfl (hb hby d1_66) ?_
    show Steps p.tables e below (T112.setTop (mkF m 68 #[.val (.ref a0), .val (.int (16 : Int32)), .val (.long q2), .second] [(.int (6 : Int32)), (.int (16 : Int32)), (.ref a0)])) _
    refine XS.iadd X112.here hx rfl (hb hby d1_68) rfl ?_
    show Steps p.tables e below (T112.setTop (mkF m 69 #[.val (.ref a0), .val (.int (16 : Int32)), .val (.long q2), .second] [(.int (22 : Int32)), (.ref a0)])) _
    refine XS.lloadN X112.here hx rfl (hb hby d1_69) rfl ?_
    show Steps p.tables e below (T112.setTop (mkF m 70 #[.val (.ref a0), .val (.int (16 : Int32)), .val (.long q2), .second] [(.long q2), (.int (22 : Int32)), (.ref a0)])) _
    refine XS.bipush X112.here hx rfl (hb hby d1_70) ?_
    show Steps p.tables e below (T112.setTop (mkF m 72 #[.val (.ref a0), .val (.int (16 : Int32)), .val (.long q2), .second] [(.int (8 : Int32)), (.long q2), (.int (22 : Int32)), (.ref a0)])) _
    refine XS.lushr X112.here hx rfl (hb hby d1_72) rfl ?_
    show Steps p.tables e below (T112.setTop (mkF m 73 #[.val (.ref a0), .val (.int (16 : Int32)), .val (.long q2), .second] [(.long ((q2.toUInt64 >>> ((8 : Int32) &&& 0x3f).toInt64.toUInt64).toInt64)), (.int (22 : Int32)), (.ref a0)])) _
    refine XS.l2i X112.here hx rfl (hb hby d1_73) rfl ?_
    show Steps p.tables e below (T112.setTop (mkF m 74 #[.val (.ref a0), .val (.int (16 : Int32)), .val (.long q2), .second] [(.int (((q2.toUInt64 >>> ((8 : Int32) &&& 0x3f).toInt64.toUInt64).toInt64).toInt32)), (.int (22 : Int32)), (.ref a0)])) _
    refine XS.i2b X112.here hx rfl (hb hby d1_74) rfl ?_
    show Steps p.tables e below (T112.setTop (mkF m 75 #[.val (.ref a0), .val (.int (16 : Int32)), .val (.long q2), .second] [(.int (own_b8 q2)), (.int (22 : Int32)), (.ref a0)])) _
    refine st114 _ ?_
    show Steps p.tables e below (T114.setTop (mkF m 76 #[.val (.ref a0), .val (.int (16 : Int32)), .val (.long q2), .second] [])) _
    refine XS.aloadN X114.here hx rfl (hb hby d1_76) rfl rfl ?_
    show Steps p.tables e below (T114.setTop (mkF m 77 #[.val (.ref a0), .val (.int (16 : Int32)), .val (.long q2), .second] [(.ref a0)])) _
    refine XS.iloadN X114.here hx rfl (hb hby d1_77) rfl ?_
    show Steps p.tables e below (T114.setTop (mkF m 78 #[.val (.ref a0), .val (.int (16 : Int32)), .val (.long q2), .second] [(.int (16 : Int32)), (.ref a0)])) _
    refine XS.bipush X114.here hx rfl (hb hby d1_78) ?_
    show Steps p.tables e below (T114.setTop (mkF m 80 #[.val (.ref a0), .val (.int (16 : Int32)), .val (.long q2), .second] [(.int (7 : Int32)), (.int (16 : Int32)), (.ref a0)])) _
    refine XS.iadd X114.here hx rfl (hb hby d1_80) rfl ?_
    show Steps p.tables e below (T114.setTop (mkF m 81 #[.val (.ref a0), .val (.int (16 : Int32)), .val (.long q2), .second] [(.int (23 : Int32)), (.ref a0)])) _
    refine XS.lloadN X114.here hx rfl (hb hby d1_81) rfl ?_
    show Steps p.tables e below (T114.setTop (mkF m 82 #[.val (.ref a0), .val (.int (16 : Int32)), .val (.long q2), .second] [(.long q2), (.int (23 : Int32)), (.ref a0)])) _
    refine XS.l2i X114.here hx rfl (hb hby d1_82) rfl ?_
    show Steps p.tables e below (T114.setTop (mkF m 83 #[.val (.ref a0), .val (.int (16 : Int32)), .val (.long q2), .second] [(.int (q2.toInt32)), (.int (23 : Int32)), (.ref a0)])) _
    refine XS.i2b X114.here hx rfl (hb hby d1_83) rfl ?_
    show Steps p.tables e below (T114.setTop (mkF m 84 #[.val (.ref a0), .val (.int (16 : Int32)), .val (.long q2), .second] [(.int (own_b0 q2)), (.int (23 : Int32)), (.ref a0)])) _
    refine st116 _ ?_
    show Steps p.tables e below (T116.setTop (mkF m 85 #[.val (.ref a0), .val (.int (16 : Int32)), .val (.long q2), .second] [])) _
    exact X116.returnOut hx Bd.returns (hb hby d1_85) hr
  · show Q_rmp16 Z a0 q2 kk vs h0 n0 _ T116.heap _
    rw [e116]
    exact ⟨rfl, N116, K116, V116⟩
theorem ef_rmp24 (m : MethodId) (x0 : Addr) (x1 : Int32) (x2 : Int64) : entryFrame m #[(.ref x0), (.int x1), (.long x2)] 4 = mkF m 0 #[.val (.ref x0), .val (.int x1), .val (.long x2), .second] [] := by first | (simp [entryFrame, mkF, argsToLocals, Value.category]; done) | rfl
def Q_rmp24 (Z : State) (a0 : Addr) (q2 : Int64) (kk : ClassId) (vs : List Value) (h0 : Heap) (n0 : Nat) (v : Option Value) (h : Heap) (L : List Loc) : Prop := v = none ∧ Fr n0 L ∧ Keep h0 h [a0] ∧ Arv Z h a0 kk .byte (32 : Int32) (own_put vs 24 q2) (.int (0 : Int32))
set_option maxRecDepth 65536 in
set_option maxHeartbeats 40000000 in
theorem rmp24 (l : Launch) (Z : State) (aw : Array Value) (hw : ∀ d ∈ tables_1, d.before aw Z = true) (ws : List Jvm.Cond) (a0 : Addr) (q2 : Int64) (kk : ClassId) (vs : List Value) (h0 : Heap) (n0 : Nat) (Z0 : n0 ≤ h0.size) (V0 : Arv Z h0 a0 kk .byte (32 : Int32) vs (.int (0 : Int32))) (hl : vs.length = 32) (g0 : n0 ≤ a0) :
    MetFree l (⟨"com/example/countersign/countersign/protocol/PrimitivesFoldPinLaw", "put", "([BIJ)V"⟩ : MethodName) (head1 (Jvm.Cond.code (⟨"com/example/countersign/countersign/protocol/PrimitivesFoldPinLaw", "put", "([BIJ)V"⟩ : MethodName) method_3_code 4 none :: ws) ({ frames := 0, cells := 0, slots := 0, locals := 0 } : Room)) (fun a U => a = #[(.ref a0), (.int (24 : Int32)), (.long q2)] ∧ Z.Warmed39 U.vm ∧ U.heap = h0) (fun _ _ _ _ _ => True) (fun _ U oc U' => ∃ v L, oc = .returned v ∧ Q_rmp24 Z a0 q2 kk vs h0 n0 v U'.heap L ∧ FrameEnd U oc U' L ({ frames := 0, cells := 0, slots := 0, locals := 0 } : Room).cells ({ frames := 0, cells := 0, slots := 0, locals := 0 } : Room).slots) := by
  refine MetFree.of_bodySF (plainFor_of_name pn_0) hisR ?_
  intro p e s m args below meth c s₁ Bd hml0 hP hK
  obtain ⟨rfl, hZ, hh⟩ := hP
  have hx := Bd.exec
  have hby := Bd.bytes
  have hml : c.maxLocals = 4 := hml0
  have hown : s.vm.findClass "com/example/countersign/countersign/protocol/PrimitivesFoldPinLaw" = some m.cls := findClass_of_methodNamed Bd.named
  have hnm := (name_of_methodNamed Bd.named Bd.method).1
  have X0 : Stand p l e ({ frames := 0, cells := 0, slots := 0, locals := 0 } : Room) s m #[(.ref a0), (.int (24 : Int32)), (.long q2)] below meth c s₁ [] 0 0 := Stand.of_body Bd
  have e0 : s₁.heap = h0 := by rw [← hh, Bd.state]; rfl
  have N0 := Fr.nil n0
  have pre0 : ∀ t, Steps p.tables e below (s₁.setTop (mkF m 0 #[.val (.ref a0), .val (.int (24 : Int32)), .val (.long q2), .second] [])) t → Steps p.tables e below (s₁.setTop (entryFrame m #[(.ref a0), (.int (24 : Int32)), (.long q2)] 4)) t := fun t k => castTop (ef_rmp24 m a0 (24 : Int32) q2) k
  obtain ⟨cl101, Ar101, q101, S101, M101, H101, G101⟩ := id V0
  obtain ⟨T102, h102, X102, e102, W102, st102⟩ := stB X0 hx hZ e0 Ar101 (j := (24 : Int32)) (inb_of S101 ⟨by decide, by decide⟩) (g := (mkF m 8 #[.val (.ref a0), .val (.int (24 : Int32)), .val (.long q2), .second] [(.int (own_b56 q2)), (.int (24 : Int32)), (.ref a0)])) rfl rfl (hb hby d1_8)
  have V102 := Arv.set Ar101 q101 S101 M101 H101 G101 (fits_nar_byte _) W102 24 rfl (by simp [hl])
  have K102 : Keep h0 h102 [a0] := (Keep.refl h0 [a0]).wr W102 (Or.inl (List.mem_of_getElem? (i := 0) rfl))
  have N102 := Fr.snoc X102 N0 g0
  have Z102 : n0 ≤ h102.size := Nat.le_trans Z0 (Keep.of_wr W102).1
  obtain ⟨cl103, Ar103, q103, S103, M103, H103, G103⟩ := id V102
  obtain ⟨T104, h104, X104, e104, W104, st104⟩ := stB X102 hx hZ e102 Ar103 (j := (25 : Int32)) (inb_of S103 ⟨by decide, by decide⟩) (g := (mkF m 19 #[.val (.ref a0), .val (.int (24 : Int32)), .val (.long q2), .second] [(.int (own_b48 q2)), (.int (25 : Int32)), (.ref a0)])) rfl rfl (hb hby d1_19)
  have V104 := Arv.set Ar103 q103 S103 M103 H103 G103 (fits_nar_byte _) W104 25 rfl (by simp [hl])
  have K104 : Keep h0 h104 [a0] := K102.wr W104 (Or.inl (List.mem_of_getElem? (i := 0) rfl))
  have N104 := Fr.snoc X104 N102 g0
  have Z104 : n0 ≤ h104.size := Nat.le_trans Z102 (Keep.of_wr W104).1
  obtain ⟨cl105, Ar105, q105, S105, M105, H105, G105⟩ := id V104
  obtain ⟨T106, h106, X106, e106, W106, st106⟩ := stB X104 hx hZ e104 Ar105 (j := (26 : Int32)) (inb_of S105 ⟨by decide, by decide⟩) (g := (mkF m 30 #[.val (.ref a0), .val (.int (24 : Int32)), .val (.long q2), .second] [(.int (own_b40 q2)), (.int (26 : Int32)), (.ref a0)])) rfl rfl (hb hby d1_30)
  have V106 := Arv.set Ar105 q105 S105 M105 H105 G105 (fits_nar_byte _) W106 26 rfl (by simp [hl])
  have K106 : Keep h0 h106 [a0] := K104.wr W106 (Or.inl (List.mem_of_getElem? (i := 0) rfl))
  have N106 := Fr.snoc X106 N104 g0
  have Z106 : n0 ≤ h106.size := Nat.le_trans Z104 (Keep.of_wr W106).1
  obtain ⟨cl107, Ar107, q107, S107, M107, H107, G107⟩ := id V106
  obtain ⟨T108, h108, X108, e108, W108, st108⟩ := stB X106 hx hZ e106 Ar107 (j := (27 : Int32)) (inb_of S107 ⟨by decide, by decide⟩) (g := (mkF m 41 #[.val (.ref a0), .val (.int (24 : Int32)), .val (.long q2), .second] [(.int (own_b32 q2)), (.int (27 : Int32)), (.ref a0)])) rfl rfl (hb hby d1_41)
  have V108 := Arv.set Ar107 q107 S107 M107 H107 G107 (fits_nar_byte _) W108 27 rfl (by simp [hl])
  have K108 : Keep h0 h108 [a0] := K106.wr W108 (Or.inl (List.mem_of_getElem? (i := 0) rfl))
  have N108 := Fr.snoc X108 N106 g0
  have Z108 : n0 ≤ h108.size := Nat.le_trans Z106 (Keep.of_wr W108).1
  obtain ⟨cl109, Ar109, q109, S109, M109, H109, G109⟩ := id V108
  obtain ⟨T110, h110, X110, e110, W110, st110⟩ := stB X108 hx hZ e108 Ar109 (j := (28 : Int32)) (inb_of S109 ⟨by decide, by decide⟩) (g := (mkF m 52 #[.val (.ref a0), .val (.int (24 : Int32)), .val (.long q2), .second] [(.int (own_b24 q2)), (.int (28 : Int32)), (.ref a0)])) rfl rfl (hb hby d1_52)
  have V110 := Arv.set Ar109 q109 S109 M109 H109 G109 (fits_nar_byte _) W110 28 rfl (by simp [hl])
  have K110 : Keep h0 h110 [a0] := K108.wr W110 (Or.inl (List.mem_of_getElem? (i := 0) rfl))
  have N110 := Fr.snoc X110 N108 g0
  have Z110 : n0 ≤ h110.size := Nat.le_trans Z108 (Keep.of_wr W110).1
  obtain ⟨cl111, Ar111, q111, S111, M111, H111, G111⟩ := id V110
  obtain ⟨T112, h112, X112, e112, W112, st112⟩ := stB X110 hx hZ e110 Ar111 (j := (29 : Int32)) (inb_of S111 ⟨by decide, by decide⟩) (g := (mkF m 63 #[.val (.ref a0), .val (.int (24 : Int32)), .val (.long q2), .second] [(.int (own_b16 q2)), (.int (29 : Int32)), (.ref a0)])) rfl rfl (hb hby d1_63)
  have V112 := Arv.set Ar111 q111 S111 M111 H111 G111 (fits_nar_byte _) W112 29 rfl (by simp [hl])
  have K112 : Keep h0 h112 [a0] := K110.wr W112 (Or.inl (List.mem_of_getElem? (i := 0) rfl))
  have N112 := Fr.snoc X112 N110 g0
  have Z112 : n0 ≤ h112.size := Nat.le_trans Z110 (Keep.of_wr W112).1
  obtain ⟨cl113, Ar113, q113, S113, M113, H113, G113⟩ := id V112
  obtain ⟨T114, h114, X114, e114, W114, st114⟩ := stB X112 hx hZ e112 Ar113 (j := (30 : Int32)) (inb_of S113 ⟨by decide, by decide⟩) (g := (mkF m 75 #[.val (.ref a0), .val (.int (24 : Int32)), .val (.long q2), .second] [(.int (own_b8 q2)), (.int (30 : Int32)), (.ref a0)])) rfl rfl (hb hby d1_75)
  have V114 := Arv.set Ar113 q113 S113 M113 H113 G113 (fits_nar_byte _) W114 30 rfl (by simp [hl])
  have K114 : Keep h0 h114 [a0] := K112.wr W114 (Or.inl (List.mem_of_getElem? (i := 0) rfl))
  have N114 := Fr.snoc X114 N112 g0
  have Z114 : n0 ≤ h114.size := Nat.le_trans Z112 (Keep.of_wr W114).1
  obtain ⟨cl115, Ar115, q115, S115, M115, H115, G115⟩ := id V114
  obtain ⟨T116, h116, X116, e116, W116, st116⟩ := stB X114 hx hZ e114 Ar115 (j := (31 : Int32)) (inb_of S115 ⟨by decide, by decide⟩) (g := (mkF m 84 #[.val (.ref a0), .val (.int (24 : Int32)), .val (.long q2), .second] [(.int (own_b0 q2)), (.int (31 : Int32)), (.ref a0)])) rfl rfl (hb hby d1_84)
  have V116 := Arv.set Ar115 q115 S115 M115 H115 G115 (fits_nar_byte _) W116 31 rfl (by simp [hl])
  have K116 : Keep h0 h116 [a0] := K114.wr W116 (Or.inl (List.mem_of_getElem? (i := 0) rfl))
  have N116 := Fr.snoc X116 N114 g0
  have Z116 : n0 ≤ h116.size := Nat.le_trans Z114 (Keep.of_wr W116).1
  obtain ⟨fs, hr, hrun, hended, hW, hsame⟩ := X116.leave (v := none) (fun _ => rfl)
  refine ⟨_, _, pre0 _ ?_, hrun, hended, _, _, rfl, ?_, ⟨_, rfl⟩, hW, hsame.mono (by decide) (by decide)⟩
  · show Steps p.tables e below (s₁.setTop (mkF m 0 #[.val (.ref a0), .val (.int (24 : Int32)), .val (.long q2), .second] [])) _
    refine XS.aloadN X0.here hx rfl (hb hby d1_0) rfl rfl ?_
    show Steps p.tables e below (s₁.setTop (mkF m 1 #[.val (.ref a0), .val (.int (24 : Int32)), .val (.long q2), .second] [(.ref a0)])) _
    refine XS.iloadN X0.here hx rfl (hb hby d1_1) rfl ?_
    show Steps p.tables e below (s₁.setTop (mkF m 2 #[.val (.ref a0), .val (.int (24 : Int32)), .val (.long q2), .second] [(.int (24 : Int32)), (.ref a0)])) _
    refine XS.lloadN X0.here hx rfl (hb hby d1_2) rfl ?_
    show Steps p.tables e below (s₁.setTop (mkF m 3 #[.val (.ref a0), .val (.int (24 : Int32)), .val (.long q2), .second] [(.long q2), (.int (24 : Int32)), (.ref a0)])) _
    refine XS.bipush X0.here hx rfl (hb hby d1_3) ?_
    show Steps p.tables e below (s₁.setTop (mkF m 5 #[.val (.ref a0), .val (.int (24 : Int32)), .val (.long q2), .second] [(.int (56 : Int32)), (.long q2), (.int (24 : Int32)), (.ref a0)])) _
    refine XS.lushr X0.here hx rfl (hb hby d1_5) rfl ?_
    show Steps p.tables e below (s₁.setTop (mkF m 6 #[.val (.ref a0), .val (.int (24 : Int32)), .val (.long q2), .second] [(.long ((q2.toUInt64 >>> ((56 : Int32) &&& 0x3f).toInt64.toUInt64).toInt64)), (.int (24 : Int32)), (.ref a0)])) _
    refine XS.l2i X0.here hx rfl (hb hby d1_6) rfl ?_
    show Steps p.tables e below (s₁.setTop (mkF m 7 #[.val (.ref a0), .val (.int (24 : Int32)), .val (.long q2), .second] [(.int (((q2.toUInt64 >>> ((56 : Int32) &&& 0x3f).toInt64.toUInt64).toInt64).toInt32)), (.int (24 : Int32)), (.ref a0)])) _
    refine XS.i2b X0.here hx rfl (hb hby d1_7) rfl ?_
    show Steps p.tables e below (s₁.setTop (mkF m 8 #[.val (.ref a0), .val (.int (24 : Int32)), .val (.long q2), .second] [(.int (own_b56 q2)), (.int (24 : Int32)), (.ref a0)])) _
    refine st102 _ ?_
    show Steps p.tables e below (T102.setTop (mkF m 9 #[.val (.ref a0), .val (.int (24 : Int32)), .val (.long q2), .second] [])) _
    refine XS.aloadN X102.here hx rfl (hb hby d1_9) rfl rfl ?_
    show Steps p.tables e below (T102.setTop (mkF m 10 #[.val (.ref a0), .val (.int (24 : Int32)), .val (.long q2), .second] [(.ref a0)])) _
    refine XS.iloadN X102.here hx rfl (hb hby d1_10) rfl ?_
    show Steps p.tables e below (T102.setTop (mkF m 11 #[.val (.ref a0), .val (.int (24 : Int32)), .val (.long q2), .second] [(.int (24 : Int32)), (.ref a0)])) _
    refine XS.iconst X102.here hx rfl (hb hby d1_11) ?_
    show Steps p.tables e below (T102.setTop (mkF m 12 #[.val (.ref a0), .val (.int (24 : Int32)), .val (.long q2), .second] [(.int (1 : Int32)), (.int (24 : Int32)), (.ref a0)])) _
    refine XS.iadd X102.here hx rfl (hb hby d1_12) rfl ?_
    show Steps p.tables e below (T102.setTop (mkF m 13 #[.val (.ref a0), .val (.int (24 : Int32)), .val (.long q2), .second] [(.int (25 : Int32)), (.ref a0)])) _
    refine XS.lloadN X102.here hx rfl (hb hby d1_13) rfl ?_
    show Steps p.tables e below (T102.setTop (mkF m 14 #[.val (.ref a0), .val (.int (24 : Int32)), .val (.long q2), .second] [(.long q2), (.int (25 : Int32)), (.ref a0)])) _
    refine XS.bipush X102.here hx rfl (hb hby d1_14) ?_
    show Steps p.tables e below (T102.setTop (mkF m 16 #[.val (.ref a0), .val (.int (24 : Int32)), .val (.long q2), .second] [(.int (48 : Int32)), (.long q2), (.int (25 : Int32)), (.ref a0)])) _
    refine XS.lushr X102.here hx rfl (hb hby d1_16) rfl ?_
    show Steps p.tables e below (T102.setTop (mkF m 17 #[.val (.ref a0), .val (.int (24 : Int32)), .val (.long q2), .second] [(.long ((q2.toUInt64 >>> ((48 : Int32) &&& 0x3f).toInt64.toUInt64).toInt64)), (.int (25 : Int32)), (.ref a0)])) _
    refine XS.l2i X102.here hx rfl (hb hby d1_17) rfl ?_
    show Steps p.tables e below (T102.setTop (mkF m 18 #[.val (.ref a0), .val (.int (24 : Int32)), .val (.long q2), .second] [(.int (((q2.toUInt64 >>> ((48 : Int32) &&& 0x3f).toInt64.toUInt64).toInt64).toInt32)), (.int (25 : Int32)), (.ref a0)])) _
    refine XS.i2b X102.here hx rfl (hb hby d1_18) rfl ?_
    show Steps p.tables e below (T102.setTop (mkF m 19 #[.val (.ref a0), .val (.int (24 : Int32)), .val (.long q2), .second] [(.int (own_b48 q2)), (.int (25 : Int32)), (.ref a0)])) _
    refine st104 _ ?_
    show Steps p.tables e below (T104.setTop (mkF m 20 #[.val (.ref a0), .val (.int (24 : Int32)), .val (.long q2), .second] [])) _
    refine XS.aloadN X104.here hx rfl (hb hby d1_20) rfl rfl ?_
    show Steps p.tables e below (T104.setTop (mkF m 21 #[.val (.ref a0), .val (.int (24 : Int32)), .val (.long q2), .second] [(.ref a0)])) _
    refine XS.iloadN X104.here hx rfl (hb hby d1_21) rfl ?_
    show Steps p.tables e below (T104.setTop (mkF m 22 #[.val (.ref a0), .val (.int (24 : Int32)), .val (.long q2), .second] [(.int (24 : Int32)), (.ref a0)])) _
    refine XS.iconst X104.here hx rfl (hb hby d1_22) ?_
    show Steps p.tables e below (T104.setTop (mkF m 23 #[.val (.ref a0), .val (.int (24 : Int32)), .val (.long q2), .second] [(.int (2 : Int32)), (.int (24 : Int32)), (.ref a0)])) _
    refine XS.iadd X104.here hx rfl (hb hby d1_23) rfl ?_
    show Steps p.tables e below (T104.setTop (mkF m 24 #[.val (.ref a0), .val (.int (24 : Int32)), .val (.long q2), .second] [(.int (26 : Int32)), (.ref a0)])) _
    refine XS.lloadN X104.here hx rfl (hb hby d1_24) rfl ?_
    show Steps p.tables e below (T104.setTop (mkF m 25 #[.val (.ref a0), .val (.int (24 : Int32)), .val (.long q2), .second] [(.long q2), (.int (26 : Int32)), (.ref a0)])) _
    refine XS.bipush X104.here hx rfl (hb hby d1_25) ?_
    show Steps p.tables e below (T104.setTop (mkF m 27 #[.val (.ref a0), .val (.int (24 : Int32)), .val (.long q2), .second] [(.int (40 : Int32)), (.long q2), (.int (26 : Int32)), (.ref a0)])) _
    refine XS.lushr X104.here hx rfl (hb hby d1_27) rfl ?_
    show Steps p.tables e below (T104.setTop (mkF m 28 #[.val (.ref a0), .val (.int (24 : Int32)), .val (.long q2), .second] [(.long ((q2.toUInt64 >>> ((40 : Int32) &&& 0x3f).toInt64.toUInt64).toInt64)), (.int (26 : Int32)), (.ref a0)])) _
    refine XS.l2i X104.here hx rfl (hb hby d1_28) rfl ?_
    show Steps p.tables e below (T104.setTop (mkF m 29 #[.val (.ref a0), .val (.int (24 : Int32)), .val (.long q2), .second] [(.int (((q2.toUInt64 >>> ((40 : Int32) &&& 0x3f).toInt64.toUInt64).toInt64).toInt32)), (.int (26 : Int32)), (.ref a0)])) _
    refine XS.i2b X104.here hx rfl (hb hby d1_29) rfl ?_
    show Steps p.tables e below (T104.setTop (mkF m 30 #[.val (.ref a0), .val (.int (24 : Int32)), .val (.long q2), .second] [(.int (own_b40 q2)), (.int (26 : Int32)), (.ref a0)])) _
    refine st106 _ ?_
    show Steps p.tables e below (T106.setTop (mkF m 31 #[.val (.ref a0), .val (.int (24 : Int32)), .val (.long q2), .second] [])) _
    refine XS.aloadN X106.here hx rfl (hb hby d1_31) rfl rfl ?_
    show Steps p.tables e below (T106.setTop (mkF m 32 #[.val (.ref a0), .val (.int (24 : Int32)), .val (.long q2), .second] [(.ref a0)])) _
    refine XS.iloadN X106.here hx rfl (hb hby d1_32) rfl ?_
    show Steps p.tables e below (T106.setTop (mkF m 33 #[.val (.ref a0), .val (.int (24 : Int32)), .val (.long q2), .second] [(.int (24 : Int32)), (.ref a0)])) _
    refine XS.iconst X106.here hx rfl (hb hby d1_33) ?_
    show Steps p.tables e below (T106.setTop (mkF m 34 #[.val (.ref a0), .val (.int (24 : Int32)), .val (.long q2), .second] [(.int (3 : Int32)), (.int (24 : Int32)), (.ref a0)])) _
    refine XS.iadd X106.here hx rfl (hb hby d1_34) rfl ?_
    show Steps p.tables e below (T106.setTop (mkF m 35 #[.val (.ref a0), .val (.int (24 : Int32)), .val (.long q2), .second] [(.int (27 : Int32)), (.ref a0)])) _
    refine XS.lloadN X106.here hx rfl (hb hby d1_35) rfl ?_
    show Steps p.tables e below (T106.setTop (mkF m 36 #[.val (.ref a0), .val (.int (24 : Int32)), .val (.long q2), .second] [(.long q2), (.int (27 : Int32)), (.ref a0)])) _
    refine XS.bipush X106.here hx rfl (hb hby d1_36) ?_
    show Steps p.tables e below (T106.setTop (mkF m 38 #[.val (.ref a0), .val (.int (24 : Int32)), .val (.long q2), .second] [(.int (32 : Int32)), (.long q2), (.int (27 : Int32)), (.ref a0)])) _
    refine XS.lushr X106.here hx rfl (hb hby d1_38) rfl ?_
    show Steps p.tables e below (T106.setTop (mkF m 39 #[.val (.ref a0), .val (.int (24 : Int32)), .val (.long q2), .second] [(.long ((q2.toUInt64 >>> ((32 : Int32) &&& 0x3f).toInt64.toUInt64).toInt64)), (.int (27 : Int32)), (.ref a0)])) _
    refine XS.l2i X106.here hx rfl (hb hby d1_39) rfl ?_
    show Steps p.tables e below (T106.setTop (mkF m 40 #[.val (.ref a0), .val (.int (24 : Int32)), .val (.long q2), .second] [(.int (((q2.toUInt64 >>> ((32 : Int32) &&& 0x3f).toInt64.toUInt64).toInt64).toInt32)), (.int (27 : Int32)), (.ref a0)])) _
    refine XS.i2b X106.here hx rfl (hb hby d1_40) rfl ?_
    show Steps p.tables e below (T106.setTop (mkF m 41 #[.val (.ref a0), .val (.int (24 : Int32)), .val (.long q2), .second] [(.int (own_b32 q2)), (.int (27 : Int32)), (.ref a0)])) _
    refine st108 _ ?_
    show Steps p.tables e below (T108.setTop (mkF m 42 #[.val (.ref a0), .val (.int (24 : Int32)), .val (.long q2), .second] [])) _
    refine XS.aloadN X108.here hx rfl (hb hby d1_42) rfl rfl ?_
    show Steps p.tables e below (T108.setTop (mkF m 43 #[.val (.ref a0), .val (.int (24 : Int32)), .val (.long q2), .second] [(.ref a0)])) _
    refine XS.iloadN X108.here hx rfl (hb hby d1_43) rfl ?_
    show Steps p.tables e below (T108.setTop (mkF m 44 #[.val (.ref a0), .val (.int (24 : Int32)), .val (.long q2), .second] [(.int (24 : Int32)), (.ref a0)])) _
    refine XS.iconst X108.here hx rfl (hb hby d1_44) ?_
    show Steps p.tables e below (T108.setTop (mkF m 45 #[.val (.ref a0), .val (.int (24 : Int32)), .val (.long q2), .second] [(.int (4 : Int32)), (.int (24 : Int32)), (.ref a0)])) _
    refine XS.iadd X108.here hx rfl (hb hby d1_45) rfl ?_
    show Steps p.tables e below (T108.setTop (mkF m 46 #[.val (.ref a0), .val (.int (24 : Int32)), .val (.long q2), .second] [(.int (28 : Int32)), (.ref a0)])) _
    refine XS.lloadN X108.here hx rfl (hb hby d1_46) rfl ?_
    show Steps p.tables e below (T108.setTop (mkF m 47 #[.val (.ref a0), .val (.int (24 : Int32)), .val (.long q2), .second] [(.long q2), (.int (28 : Int32)), (.ref a0)])) _
    refine XS.bipush X108.here hx rfl (hb hby d1_47) ?_
    show Steps p.tables e below (T108.setTop (mkF m 49 #[.val (.ref a0), .val (.int (24 : Int32)), .val (.long q2), .second] [(.int (24 : Int32)), (.long q2), (.int (28 : Int32)), (.ref a0)])) _
    refine XS.lushr X108.here hx rfl (hb hby d1_49) rfl ?_
    show Steps p.tables e below (T108.setTop (mkF m 50 #[.val (.ref a0), .val (.int (24 : Int32)), .val (.long q2), .second] [(.long ((q2.toUInt64 >>> ((24 : Int32) &&& 0x3f).toInt64.toUInt64).toInt64)), (.int (28 : Int32)), (.ref a0)])) _
    refine XS.l2i X108.here hx rfl (hb hby d1_50) rfl ?_
    show Steps p.tables e below (T108.setTop (mkF m 51 #[.val (.ref a0), .val (.int (24 : Int32)), .val (.long q2), .second] [(.int (((q2.toUInt64 >>> ((24 : Int32) &&& 0x3f).toInt64.toUInt64).toInt64).toInt32)), (.int (28 : Int32)), (.ref a0)])) _
    refine XS.i2b X108.here hx rfl (hb hby d1_51) rfl ?_
    show Steps p.tables e below (T108.setTop (mkF m 52 #[.val (.ref a0), .val (.int (24 : Int32)), .val (.long q2), .second] [(.int (own_b24 q2)), (.int (28 : Int32)), (.ref a0)])) _
    refine st110 _ ?_
    show Steps p.tables e below (T110.setTop (mkF m 53 #[.val (.ref a0), .val (.int (24 : Int32)), .val (.long q2), .second] [])) _
    refine XS.aloadN X110.here hx rfl (hb hby d1_53) rfl rfl ?_
    show Steps p.tables e below (T110.setTop (mkF m 54 #[.val (.ref a0), .val (.int (24 : Int32)), .val (.long q2), .second] [(.ref a0)])) _
    refine XS.iloadN X110.here hx rfl (hb hby d1_54) rfl ?_
    show Steps p.tables e below (T110.setTop (mkF m 55 #[.val (.ref a0), .val (.int (24 : Int32)), .val (.long q2), .second] [(.int (24 : Int32)), (.ref a0)])) _
    refine XS.iconst X110.here hx rfl (hb hby d1_55) ?_
    show Steps p.tables e below (T110.setTop (mkF m 56 #[.val (.ref a0), .val (.int (24 : Int32)), .val (.long q2), .second] [(.int (5 : Int32)), (.int (24 : Int32)), (.ref a0)])) _
    refine XS.iadd X110.here hx rfl (hb hby d1_56) rfl ?_
    show Steps p.tables e below (T110.setTop (mkF m 57 #[.val (.ref a0), .val (.int (24 : Int32)), .val (.long q2), .second] [(.int (29 : Int32)), (.ref a0)])) _
    refine XS.lloadN X110.here hx rfl (hb hby d1_57) rfl ?_
    show Steps p.tables e below (T110.setTop (mkF m 58 #[.val (.ref a0), .val (.int (24 : Int32)), .val (.long q2), .second] [(.long q2), (.int (29 : Int32)), (.ref a0)])) _
    refine XS.bipush X110.here hx rfl (hb hby d1_58) ?_
    show Steps p.tables e below (T110.setTop (mkF m 60 #[.val (.ref a0), .val (.int (24 : Int32)), .val (.long q2), .second] [(.int (16 : Int32)), (.long q2), (.int (29 : Int32)), (.ref a0)])) _
    refine XS.lushr X110.here hx rfl (hb hby d1_60) rfl ?_
    show Steps p.tables e below (T110.setTop (mkF m 61 #[.val (.ref a0), .val (.int (24 : Int32)), .val (.long q2), .second] [(.long ((q2.toUInt64 >>> ((16 : Int32) &&& 0x3f).toInt64.toUInt64).toInt64)), (.int (29 : Int32)), (.ref a0)])) _
    refine XS.l2i X110.here hx rfl (hb hby d1_61) rfl ?_
    show Steps p.tables e below (T110.setTop (mkF m 62 #[.val (.ref a0), .val (.int (24 : Int32)), .val (.long q2), .second] [(.int (((q2.toUInt64 >>> ((16 : Int32) &&& 0x3f).toInt64.toUInt64).toInt64).toInt32)), (.int (29 : Int32)), (.ref a0)])) _
    refine XS.i2b X110.here hx rfl (hb hby d1_62) rfl ?_
    show Steps p.tables e below (T110.setTop (mkF m 63 #[.val (.ref a0), .val (.int (24 : Int32)), .val (.long q2), .second] [(.int (own_b16 q2)), (.int (29 : Int32)), (.ref a0)])) _
    refine st112 _ ?_
    show Steps p.tables e below (T112.setTop (mkF m 64 #[.val (.ref a0), .val (.int (24 : Int32)), .val (.long q2), .second] [])) _
    refine XS.aloadN X112.here hx rfl (hb hby d1_64) rfl rfl ?_
    show Steps p.tables e below (T112.setTop (mkF m 65 #[.val (.ref a0), .val (.int (24 : Int32)), .val (.long q2), .second] [(.ref a0)])) _
    refine XS.iloadN X112.here hx rfl (hb hby d1_65) rfl ?_
    show Steps p.tables e below (T112.setTop (mkF m 66 #[.val (.ref a0), .val (.int (24 : Int32)), .val (.long q2), .second] [(.int (24 : Int32)), (.ref a0)])) _
    refine XS.bipush X112.here hx rfl (hb hby d1_66) ?_
    show Steps p.tables e below (T112.setTop (mkF m 68 #[.val (.ref a0), .val (.int (24 : Int32)), .val (.long q2), .second] [(.int (6 : Int32)), (.int (24 : Int32)), (.ref a0)])) _
    refine XS.iadd X112.here hx rfl (hb hby d1_68) rfl ?_
    show Steps p.tables e below (T112.setTop (mkF m 69 #[.val (.ref a0), .val (.int (24 : Int32)), .val (.long q2), .second] [(.int (30 : Int32)), (.ref a0)])) _
    refine XS.lloadN X112.here hx rfl (hb hby d1_69) rfl ?_
    show Steps p.tables e below (T112.setTop (mkF m 70 #[.val (.ref a0), .val (.int (24 : Int32)), .val (.long q2), .second] [(.long q2), (.int (30 : Int32)), (.ref a0)])) _
    refine XS.bipush X112.here hx rfl (hb hby d1_70) ?_
    show Steps p.tables e below (T112.setTop (mkF m 72 #[.val (.ref a0), .val (.int (24 : Int32)), .val (.long q2), .second] [(.int (8 : Int32)), (.long q2), (.int (30 : Int32)), (.ref a0)])) _
    refine XS.lushr X112.here hx rfl (hb hby d1_72) rfl ?_
    show Steps p.tables e below (T112.setTop (mkF m 73 #[.val (.ref a0), .val (.int (24 : Int32)), .val (.long q2), .second] [(.long ((q2.toUInt64 >>> ((8 : Int32) &&& 0x3f).toInt64.toUInt64).toInt64)), (.int (30 : Int32)), (.ref a0)])) _
    refine XS.l2i X112.here hx rfl (hb hby d1_73) rfl ?_
    show Steps p.tables e below (T112.setTop (mkF m 74 #[.val (.ref a0), .val (.int (24 : Int32)), .val (.long q2), .second] [(.int (((q2.toUInt64 >>> ((8 : Int32) &&& 0x3f).toInt64.toUInt64).toInt64).toInt32)), (.int (30 : Int32)), (.ref a0)])) _
    refine XS.i2b X112.here hx rfl (hb hby d1_74) rfl ?_
    show Steps p.tables e below (T112.setTop (mkF m 75 #[.val (.ref a0), .val (.int (24 : Int32)), .val (.long q2), .second] [(.int (own_b8 q2)), (.int (30 : Int32)), (.ref a0)])) _
    refine st114 _ ?_
    show Steps p.tables e below (T114.setTop (mkF m 76 #[.val (.ref a0), .val (.int (24 : Int32)), .val (.long q2), .second] [])) _
    refine XS.aloadN X114.here hx rfl (hb hby d1_76) rfl rfl ?_
    show Steps p.tables e below (T114.setTop (mkF m 77 #[.val (.ref a0), .val (.int (24 : Int32)), .val (.long q2), .second] [(.ref a0)])) _
    refine XS.iloadN X114.here hx rfl (hb hby d1_77) rfl ?_
    show Steps p.tables e below (T114.setTop (mkF m 78 #[.val (.ref a0), .val (.int (24 : Int32)), .val (.long q2), .second] [(.int (24 : Int32)), (.ref a0)])) _
    refine XS.bipush X114.here hx rfl (hb hby d1_78) ?_
    show Steps p.tables e below (T114.setTop (mkF m 80 #[.val (.ref a0), .val (.int (24 : Int32)), .val (.long q2), .second] [(.int (7 : Int32)), (.int (24 : Int32)), (.ref a0)])) _
    refine XS.iadd X114.here hx rfl (hb hby d1_80) rfl ?_
    show Steps p.tables e below (T114.setTop (mkF m 81 #[.val (.ref a0), .val (.int (24 : Int32)), .val (.long q2), .second] [(.int (31 : Int32)), (.ref a0)])) _
    refine XS.lloadN X114.here hx rfl (hb hby d1_81) rfl ?_
    show Steps p.tables e below (T114.setTop (mkF m 82 #[.val (.ref a0), .val (.int (24 : Int32)), .val (.long q2), .second] [(.long q2), (.int (31 : Int32)), (.ref a0)])) _
    refine XS.l2i X114.here hx rfl (hb hby d1_82) rfl ?_
    show Steps p.tables e below (T114.setTop (mkF m 83 #[.val (.ref a0), .val (.int (24 : Int32)), .val (.long q2), .second] [(.int (q2.toInt32)), (.int (31 : Int32)), (.ref a0)])) _
    refine XS.i2b X114.here hx rfl (hb hby d1_83) rfl ?_
    show Steps p.tables e below (T114.setTop (mkF m 84 #[.val (.ref a0), .val (.int (24 : Int32)), .val (.long q2), .second] [(.int (own_b0 q2)), (.int (31 : Int32)), (.ref a0)])) _
    refine st116 _ ?_
    show Steps p.tables e below (T116.setTop (mkF m 85 #[.val (.ref a0), .val (.int (24 : Int32)), .val (.long q2), .second] [])) _
    exact X116.returnOut hx Bd.returns (hb hby d1_85) hr
  · show Q_rmp24 Z a0 q2 kk vs h0 n0 _ T116.heap _
    rw [e116]
    exact ⟨rfl, N116, K116, V116⟩
def own_get (c0 c1 c2 c3 c4 c5 c6 c7 : Int32) : Int64 := ((((((((((c0.toInt64) &&& (255 : Int64)) <<< ((56 : Int32) &&& 0x3f).toInt64) ||| (((c1.toInt64) &&& (255 : Int64)) <<< ((48 : Int32) &&& 0x3f).toInt64)) ||| (((c2.toInt64) &&& (255 : Int64)) <<< ((40 : Int32) &&& 0x3f).toInt64)) ||| (((c3.toInt64) &&& (255 : Int64)) <<< ((32 : Int32) &&& 0x3f).toInt64)) ||| (((c4.toInt64) &&& (255 : Int64)) <<< ((24 : Int32) &&& 0x3f).toInt64)) ||| (((c5.toInt64) &&& (255 : Int64)) <<< ((16 : Int32) &&& 0x3f).toInt64)) ||| (((c6.toInt64) &&& (255 : Int64)) <<< ((8 : Int32) &&& 0x3f).toInt64)) ||| ((c7.toInt64) &&& (255 : Int64)))
theorem d3_0 : decode method_4_code 0 = .ok (.aload_n 0, 1) := by decide +kernel
theorem d3_1 : decode method_4_code 1 = .ok (.iload_n 1, 1) := by decide +kernel
theorem d3_2 : decode method_4_code 2 = .ok (.baload, 1) := by decide +kernel
theorem d3_3 : decode method_4_code 3 = .ok (.i2l, 1) := by decide +kernel
theorem d3_4 : decode method_4_code 4 = .ok (.ldc2_w 23, 3) := by decide +kernel
theorem d3_7 : decode method_4_code 7 = .ok (.land, 1) := by decide +kernel
theorem d3_8 : decode method_4_code 8 = .ok (.bipush 56, 2) := by decide +kernel
theorem d3_10 : decode method_4_code 10 = .ok (.lshl, 1) := by decide +kernel
theorem d3_11 : decode method_4_code 11 = .ok (.aload_n 0, 1) := by decide +kernel
theorem d3_12 : decode method_4_code 12 = .ok (.iload_n 1, 1) := by decide +kernel
theorem d3_13 : decode method_4_code 13 = .ok (.iconst 1, 1) := by decide +kernel
theorem d3_14 : decode method_4_code 14 = .ok (.iadd, 1) := by decide +kernel
theorem d3_15 : decode method_4_code 15 = .ok (.baload, 1) := by decide +kernel
theorem d3_16 : decode method_4_code 16 = .ok (.i2l, 1) := by decide +kernel
theorem d3_17 : decode method_4_code 17 = .ok (.ldc2_w 23, 3) := by decide +kernel
theorem d3_20 : decode method_4_code 20 = .ok (.land, 1) := by decide +kernel
theorem d3_21 : decode method_4_code 21 = .ok (.bipush 48, 2) := by decide +kernel
theorem d3_23 : decode method_4_code 23 = .ok (.lshl, 1) := by decide +kernel
theorem d3_24 : decode method_4_code 24 = .ok (.lor, 1) := by decide +kernel
theorem d3_25 : decode method_4_code 25 = .ok (.aload_n 0, 1) := by decide +kernel
theorem d3_26 : decode method_4_code 26 = .ok (.iload_n 1, 1) := by decide +kernel
theorem d3_27 : decode method_4_code 27 = .ok (.iconst 2, 1) := by decide +kernel
theorem d3_28 : decode method_4_code 28 = .ok (.iadd, 1) := by decide +kernel
theorem d3_29 : decode method_4_code 29 = .ok (.baload, 1) := by decide +kernel
theorem d3_30 : decode method_4_code 30 = .ok (.i2l, 1) := by decide +kernel
theorem d3_31 : decode method_4_code 31 = .ok (.ldc2_w 23, 3) := by decide +kernel
theorem d3_34 : decode method_4_code 34 = .ok (.land, 1) := by decide +kernel
theorem d3_35 : decode method_4_code 35 = .ok (.bipush 40, 2) := by decide +kernel
theorem d3_37 : decode method_4_code 37 = .ok (.lshl, 1) := by decide +kernel
theorem d3_38 : decode method_4_code 38 = .ok (.lor, 1) := by decide +kernel
theorem d3_39 : decode method_4_code 39 = .ok (.aload_n 0, 1) := by decide +kernel
theorem d3_40 : decode method_4_code 40 = .ok (.iload_n 1, 1) := by decide +kernel
theorem d3_41 : decode method_4_code 41 = .ok (.iconst 3, 1) := by decide +kernel
theorem d3_42 : decode method_4_code 42 = .ok (.iadd, 1) := by decide +kernel
theorem d3_43 : decode method_4_code 43 = .ok (.baload, 1) := by decide +kernel
theorem d3_44 : decode method_4_code 44 = .ok (.i2l, 1) := by decide +kernel
theorem d3_45 : decode method_4_code 45 = .ok (.ldc2_w 23, 3) := by decide +kernel
theorem d3_48 : decode method_4_code 48 = .ok (.land, 1) := by decide +kernel
theorem d3_49 : decode method_4_code 49 = .ok (.bipush 32, 2) := by decide +kernel
theorem d3_51 : decode method_4_code 51 = .ok (.lshl, 1) := by decide +kernel
theorem d3_52 : decode method_4_code 52 = .ok (.lor, 1) := by decide +kernel
theorem d3_53 : decode method_4_code 53 = .ok (.aload_n 0, 1) := by decide +kernel
theorem d3_54 : decode method_4_code 54 = .ok (.iload_n 1, 1) := by decide +kernel
theorem d3_55 : decode method_4_code 55 = .ok (.iconst 4, 1) := by decide +kernel
theorem d3_56 : decode method_4_code 56 = .ok (.iadd, 1) := by decide +kernel
theorem d3_57 : decode method_4_code 57 = .ok (.baload, 1) := by decide +kernel
theorem d3_58 : decode method_4_code 58 = .ok (.i2l, 1) := by decide +kernel
theorem d3_59 : decode method_4_code 59 = .ok (.ldc2_w 23, 3) := by decide +kernel
theorem d3_62 : decode method_4_code 62 = .ok (.land, 1) := by decide +kernel
theorem d3_63 : decode method_4_code 63 = .ok (.bipush 24, 2) := by decide +kernel
theorem d3_65 : decode method_4_code 65 = .ok (.lshl, 1) := by decide +kernel
theorem d3_66 : decode method_4_code 66 = .ok (.lor, 1) := by decide +kernel
theorem d3_67 : decode method_4_code 67 = .ok (.aload_n 0, 1) := by decide +kernel
theorem d3_68 : decode method_4_code 68 = .ok (.iload_n 1, 1) := by decide +kernel
theorem d3_69 : decode method_4_code 69 = .ok (.iconst 5, 1) := by decide +kernel
theorem d3_70 : decode method_4_code 70 = .ok (.iadd, 1) := by decide +kernel
theorem d3_71 : decode method_4_code 71 = .ok (.baload, 1) := by decide +kernel
theorem d3_72 : decode method_4_code 72 = .ok (.i2l, 1) := by decide +kernel
theorem d3_73 : decode method_4_code 73 = .ok (.ldc2_w 23, 3) := by decide +kernel
theorem d3_76 : decode method_4_code 76 = .ok (.land, 1) := by decide +kernel
theorem d3_77 : decode method_4_code 77 = .ok (.bipush 16, 2) := by decide +kernel
theorem d3_79 : decode method_4_code 79 = .ok (.lshl, 1) := by decide +kernel
theorem d3_80 : decode method_4_code 80 = .ok (.lor, 1) := by decide +kernel
theorem d3_81 : decode method_4_code 81 = .ok (.aload_n 0, 1) := by decide +kernel
theorem d3_82 : decode method_4_code 82 = .ok (.iload_n 1, 1) := by decide +kernel
theorem d3_83 : decode method_4_code 83 = .ok (.bipush 6, 2) := by decide +kernel
theorem d3_85 : decode method_4_code 85 = .ok (.iadd, 1) := by decide +kernel
theorem d3_86 : decode method_4_code 86 = .ok (.baload, 1) := by decide +kernel
theorem d3_87 : decode method_4_code 87 = .ok (.i2l, 1) := by decide +kernel
theorem d3_88 : decode method_4_code 88 = .ok (.ldc2_w 23, 3) := by decide +kernel
theorem d3_91 : decode method_4_code 91 = .ok (.land, 1) := by decide +kernel
theorem d3_92 : decode method_4_code 92 = .ok (.bipush 8, 2) := by decide +kernel
theorem d3_94 : decode method_4_code 94 = .ok (.lshl, 1) := by decide +kernel
theorem d3_95 : decode method_4_code 95 = .ok (.lor, 1) := by decide +kernel
theorem d3_96 : decode method_4_code 96 = .ok (.aload_n 0, 1) := by decide +kernel
theorem d3_97 : decode method_4_code 97 = .ok (.iload_n 1, 1) := by decide +kernel
theorem d3_98 : decode method_4_code 98 = .ok (.bipush 7, 2) := by decide +kernel
theorem d3_100 : decode method_4_code 100 = .ok (.iadd, 1) := by decide +kernel
theorem d3_101 : decode method_4_code 101 = .ok (.baload, 1) := by decide +kernel
theorem d3_102 : decode method_4_code 102 = .ok (.i2l, 1) := by decide +kernel
theorem d3_103 : decode method_4_code 103 = .ok (.ldc2_w 23, 3) := by decide +kernel
theorem d3_106 : decode method_4_code 106 = .ok (.land, 1) := by decide +kernel
theorem d3_107 : decode method_4_code 107 = .ok (.lor, 1) := by decide +kernel
theorem d3_108 : decode method_4_code 108 = .ok (.lreturn, 1) := by decide +kernel
theorem ef_rmg32_0 (m : MethodId) (x0 : Addr) (x1 : Int32) : entryFrame m #[(.ref x0), (.int x1)] 2 = mkF m 0 #[.val (.ref x0), .val (.int x1)] [] := by first | (simp [entryFrame, mkF, argsToLocals, Value.category]; done) | rfl
def Q_rmg32_0 (Z : State) (a0 : Addr) (kk : ClassId) (vs : List Value) (c0 : Int32) (c1 : Int32) (c2 : Int32) (c3 : Int32) (c4 : Int32) (c5 : Int32) (c6 : Int32) (c7 : Int32) (h0 : Heap) (n0 : Nat) (v : Option Value) (h : Heap) (L : List Loc) : Prop := v = some (.long (own_get c0 c1 c2 c3 c4 c5 c6 c7)) ∧ Fr n0 L ∧ h = h0
set_option maxRecDepth 65536 in
set_option maxHeartbeats 40000000 in
theorem rmg32_0 (l : Launch) (Z : State) (aw : Array Value) (hw : ∀ d ∈ tables_1, d.before aw Z = true) (ws : List Jvm.Cond) (a0 : Addr) (kk : ClassId) (vs : List Value) (c0 : Int32) (c1 : Int32) (c2 : Int32) (c3 : Int32) (c4 : Int32) (c5 : Int32) (c6 : Int32) (c7 : Int32) (h0 : Heap) (n0 : Nat) (Z0 : n0 ≤ h0.size) (V0 : Arv Z h0 a0 kk .byte (32 : Int32) vs (.int (0 : Int32))) (hb0 : vs.getD 0 (.int (0 : Int32)) = .int c0) (hb1 : vs.getD 1 (.int (0 : Int32)) = .int c1) (hb2 : vs.getD 2 (.int (0 : Int32)) = .int c2) (hb3 : vs.getD 3 (.int (0 : Int32)) = .int c3) (hb4 : vs.getD 4 (.int (0 : Int32)) = .int c4) (hb5 : vs.getD 5 (.int (0 : Int32)) = .int c5) (hb6 : vs.getD 6 (.int (0 : Int32)) = .int c6) (hb7 : vs.getD 7 (.int (0 : Int32)) = .int c7) :
    MetFree l (⟨"com/example/countersign/countersign/protocol/PrimitivesFoldPinLaw", "get", "([BI)J"⟩ : MethodName) (head1 (Jvm.Cond.code (⟨"com/example/countersign/countersign/protocol/PrimitivesFoldPinLaw", "get", "([BI)J"⟩ : MethodName) method_4_code 2 (some .long) :: ws) ({ frames := 0, cells := 0, slots := 0, locals := 0 } : Room)) (fun a U => a = #[(.ref a0), (.int (0 : Int32))] ∧ Z.Warmed39 U.vm ∧ U.heap = h0) (fun _ _ _ _ _ => True) (fun _ U oc U' => ∃ v L, oc = .returned v ∧ Q_rmg32_0 Z a0 kk vs c0 c1 c2 c3 c4 c5 c6 c7 h0 n0 v U'.heap L ∧ FrameEnd U oc U' L ({ frames := 0, cells := 0, slots := 0, locals := 0 } : Room).cells ({ frames := 0, cells := 0, slots := 0, locals := 0 } : Room).slots) := by
  refine MetFree.of_bodySF (plainFor_of_name pn_0) hisR ?_
  intro p e s m args below meth c s₁ Bd hml0 hP hK
  obtain ⟨rfl, hZ, hh⟩ := hP
  have hx := Bd.exec
  have hby := Bd.bytes
  have hml : c.maxLocals = 2 := hml0
  have hown : s.vm.findClass "com/example/countersign/countersign/protocol/PrimitivesFoldPinLaw" = some m.cls := findClass_of_methodNamed Bd.named
  have hnm := (name_of_methodNamed Bd.named Bd.method).1
  have X0 : Stand p l e ({ frames := 0, cells := 0, slots := 0, locals := 0 } : Room) s m #[(.ref a0), (.int (0 : Int32))] below meth c s₁ [] 0 0 := Stand.of_body Bd
  have e0 : s₁.heap = h0 := by rw [← hh, Bd.state]; rfl
  have N0 := Fr.nil n0
  have pre0 : ∀ t, Steps p.tables e below (s₁.setTop (mkF m 0 #[.val (.ref a0), .val (.int (0 : Int32))] [])) t → Steps p.tables e below (s₁.setTop (entryFrame m #[(.ref a0), (.int (0 : Int32))] 2)) t := fun t k => castTop (ef_rmg32_0 m a0 (0 : Int32)) k
  obtain ⟨cl101, Ar101, q101, S101, M101, H101, G101⟩ := id V0
  obtain ⟨cl102, Ar102, q102, S102, M102, H102, G102⟩ := id V0
  obtain ⟨cl103, Ar103, q103, S103, M103, H103, G103⟩ := id V0
  obtain ⟨cl104, Ar104, q104, S104, M104, H104, G104⟩ := id V0
  obtain ⟨cl105, Ar105, q105, S105, M105, H105, G105⟩ := id V0
  obtain ⟨cl106, Ar106, q106, S106, M106, H106, G106⟩ := id V0
  obtain ⟨cl107, Ar107, q107, S107, M107, H107, G107⟩ := id V0
  obtain ⟨cl108, Ar108, q108, S108, M108, H108, G108⟩ := id V0
  obtain ⟨fs, hr, hrun, hended, hW, hsame⟩ := X0.leave (v := some (.long ((((((((((c0.toInt64) &&& (255 : Int64)) <<< ((56 : Int32) &&& 0x3f).toInt64) ||| (((c1.toInt64) &&& (255 : Int64)) <<< ((48 : Int32) &&& 0x3f).toInt64)) ||| (((c2.toInt64) &&& (255 : Int64)) <<< ((40 : Int32) &&& 0x3f).toInt64)) ||| (((c3.toInt64) &&& (255 : Int64)) <<< ((32 : Int32) &&& 0x3f).toInt64)) ||| (((c4.toInt64) &&& (255 : Int64)) <<< ((24 : Int32) &&& 0x3f).toInt64)) ||| (((c5.toInt64) &&& (255 : Int64)) <<< ((16 : Int32) &&& 0x3f).toInt64)) ||| (((c6.toInt64) &&& (255 : Int64)) <<< ((8 : Int32) &&& 0x3f).toInt64)) ||| ((c7.toInt64) &&& (255 : Int64))))) (fun h => by rw [Bd.returns] at h; cases h)
  refine ⟨_, _, pre0 _ ?_, hrun, hended, _, _, rfl, ?_, ⟨_, rfl⟩, hW, hsame.mono (by decide) (by decide)⟩
  · show Steps p.tables e below (s₁.setTop (mkF m 0 #[.val (.ref a0), .val (.int (0 : Int32))] [])) _
    refine XS.aloadN X0.here hx rfl (hb hby d3_0) rfl rfl ?_
    show Steps p.tables e below (s₁.setTop (mkF m 1 #[.val (.ref a0), .val (.int (0 : Int32))] [(.ref a0)])) _
    refine XS.iloadN X0.here hx rfl (hb hby d3_1) rfl ?_
    show Steps p.tables e below (s₁.setTop (mkF m 2 #[.val (.ref a0), .val (.int (0 : Int32))] [(.int (0 : Int32)), (.ref a0)])) _
    have hin101 : ¬ ((0 : Int32) < 0 ∨ cl101.slots.size ≤ ((0 : Int32)).toNatClampNeg) := (inb_of S101 ⟨by decide, by decide⟩)
    refine X0.baloadBytes hx (j := (0 : Int32)) (v := (.int c0)) (by rw [e0]; exact Ar101.1) (State.isArrayOf_alike hZ.alike Ar101.2.1) Ar101.2.2 hin101 (H101.at hin101 hb0) (g := (mkF m 2 #[.val (.ref a0), .val (.int (0 : Int32))] [(.int (0 : Int32)), (.ref a0)])) rfl rfl (hb hby d3_2) _ ?_
    show Steps p.tables e below (s₁.setTop (mkF m 3 #[.val (.ref a0), .val (.int (0 : Int32))] [(.int c0)])) _
    refine XS.i2l X0.here hx rfl (hb hby d3_3) rfl ?_
    show Steps p.tables e below (s₁.setTop (mkF m 4 #[.val (.ref a0), .val (.int (0 : Int32))] [(.long (c0.toInt64))])) _
    refine X0.ldc2Long hx hown (mvT hZ (hw _ (List.mem_of_getElem? (i := 12) rfl))) (g := (mkF m 4 #[.val (.ref a0), .val (.int (0 : Int32))] [(.long (c0.toInt64))])) rfl (hb hby d3_4) _ ?_
    show Steps p.tables e below (s₁.setTop (mkF m 7 #[.val (.ref a0), .val (.int (0 : Int32))] [(.long (255 : Int64)), (.long (c0.toInt64))])) _
    refine XS.land X0.here hx rfl (hb hby d3_7) rfl ?_
    show Steps p.tables e below (s₁.setTop (mkF m 8 #[.val (.ref a0), .val (.int (0 : Int32))] [(.long ((c0.toInt64) &&& (255 : Int64)))])) _
    refine XS.bipush X0.here hx rfl (hb hby d3_8) ?_
    show Steps p.tables e below (s₁.setTop (mkF m 10 #[.val (.ref a0), .val (.int (0 : Int32))] [(.int (56 : Int32)), (.long ((c0.toInt64) &&& (255 : Int64)))])) _
    refine XS.lshl X0.here hx rfl (hb hby d3_10) rfl ?_
    show Steps p.tables e below (s₁.setTop (mkF m 11 #[.val (.ref a0), .val (.int (0 : Int32))] [(.long (((c0.toInt64) &&& (255 : Int64)) <<< ((56 : Int32) &&& 0x3f).toInt64))])) _
    refine XS.aloadN X0.here hx rfl (hb hby d3_11) rfl rfl ?_
    show Steps p.tables e below (s₁.setTop (mkF m 12 #[.val (.ref a0), .val (.int (0 : Int32))] [(.ref a0), (.long (((c0.toInt64) &&& (255 : Int64)) <<< ((56 : Int32) &&& 0x3f).toInt64))])) _
    refine XS.iloadN X0.here hx rfl (hb hby d3_12) rfl ?_
    show Steps p.tables e below (s₁.setTop (mkF m 13 #[.val (.ref a0), .val (.int (0 : Int32))] [(.int (0 : Int32)), (.ref a0), (.long (((c0.toInt64) &&& (255 : Int64)) <<< ((56 : Int32) &&& 0x3f).toInt64))])) _
    refine XS.iconst X0.here hx rfl (hb hby d3_13) ?_
    show Steps p.tables e below (s₁.setTop (mkF m 14 #[.val (.ref a0), .val (.int (0 : Int32))] [(.int (1 : Int32)), (.int (0 : Int32)), (.ref a0), (.long (((c0.toInt64) &&& (255 : Int64)) <<< ((56 : Int32) &&& 0x3f).toInt64))])) _
    refine XS.iadd X0.here hx rfl (hb hby d3_14) rfl ?_
    show Steps p.tables e below (s₁.setTop (mkF m 15 #[.val (.ref a0), .val (.int (0 : Int32))] [(.int (1 : Int32)), (.ref a0), (.long (((c0.toInt64) &&& (255 : Int64)) <<< ((56 : Int32) &&& 0x3f).toInt64))])) _
    have hin102 : ¬ ((1 : Int32) < 0 ∨ cl102.slots.size ≤ ((1 : Int32)).toNatClampNeg) := (inb_of S102 ⟨by decide, by decide⟩)
    refine X0.baloadBytes hx (j := (1 : Int32)) (v := (.int c1)) (by rw [e0]; exact Ar102.1) (State.isArrayOf_alike hZ.alike Ar102.2.1) Ar102.2.2 hin102 (H102.at hin102 hb1) (g := (mkF m 15 #[.val (.ref a0), .val (.int (0 : Int32))] [(.int (1 : Int32)), (.ref a0), (.long (((c0.toInt64) &&& (255 : Int64)) <<< ((56 : Int32) &&& 0x3f).toInt64))])) rfl rfl (hb hby d3_15) _ ?_
    show Steps p.tables e below (s₁.setTop (mkF m 16 #[.val (.ref a0), .val (.int (0 : Int32))] [(.int c1), (.long (((c0.toInt64) &&& (255 : Int64)) <<< ((56 : Int32) &&& 0x3f).toInt64))])) _
    refine XS.i2l X0.here hx rfl (hb hby d3_16) rfl ?_
    show Steps p.tables e below (s₁.setTop (mkF m 17 #[.val (.ref a0), .val (.int (0 : Int32))] [(.long (c1.toInt64)), (.long (((c0.toInt64) &&& (255 : Int64)) <<< ((56 : Int32) &&& 0x3f).toInt64))])) _
    refine X0.ldc2Long hx hown (mvT hZ (hw _ (List.mem_of_getElem? (i := 12) rfl))) (g := (mkF m 17 #[.val (.ref a0), .val (.int (0 : Int32))] [(.long (c1.toInt64)), (.long (((c0.toInt64) &&& (255 : Int64)) <<< ((56 : Int32) &&& 0x3f).toInt64))])) rfl (hb hby d3_17) _ ?_
    show Steps p.tables e below (s₁.setTop (mkF m 20 #[.val (.ref a0), .val (.int (0 : Int32))] [(.long (255 : Int64)), (.long (c1.toInt64)), (.long (((c0.toInt64) &&& (255 : Int64)) <<< ((56 : Int32) &&& 0x3f).toInt64))])) _
    refine XS.land X0.here hx rfl (hb hby d3_20) rfl ?_
    show Steps p.tables e below (s₁.setTop (mkF m 21 #[.val (.ref a0), .val (.int (0 : Int32))] [(.long ((c1.toInt64) &&& (255 : Int64))), (.long (((c0.toInt64) &&& (255 : Int64)) <<< ((56 : Int32) &&& 0x3f).toInt64))])) _
    refine XS.bipush X0.here hx rfl (hb hby d3_21) ?_
    show Steps p.tables e below (s₁.setTop (mkF m 23 #[.val (.ref a0), .val (.int (0 : Int32))] [(.int (48 : Int32)), (.long ((c1.toInt64) &&& (255 : Int64))), (.long (((c0.toInt64) &&& (255 : Int64)) <<< ((56 : Int32) &&& 0x3f).toInt64))])) _
    refine XS.lshl X0.here hx rfl (hb hby d3_23) rfl ?_
    show Steps p.tables e below (s₁.setTop (mkF m 24 #[.val (.ref a0), .val (.int (0 : Int32))] [(.long (((c1.toInt64) &&& (255 : Int64)) <<< ((48 : Int32) &&& 0x3f).toInt64)), (.long (((c0.toInt64) &&& (255 : Int64)) <<< ((56 : Int32) &&& 0x3f).toInt64))])) _
    refine XS.lor X0.here hx rfl (hb hby d3_24) rfl ?_
    show Steps p.tables e below (s₁.setTop (mkF m 25 #[.val (.ref a0), .val (.int (0 : Int32))] [(.long ((((c0.toInt64) &&& (255 : Int64)) <<< ((56 : Int32) &&& 0x3f).toInt64) ||| (((c1.toInt64) &&& (255 : Int64)) <<< ((48 : Int32) &&& 0x3f).toInt64)))])) _
    refine XS.aloadN X0.here hx rfl (hb hby d3_25) rfl rfl ?_
    show Steps p.tables e below (s₁.setTop (mkF m 26 #[.val (.ref a0), .val (.int (0 : Int32))] [(.ref a0), (.long ((((c0.toInt64) &&& (255 : Int64)) <<< ((56 : Int32) &&& 0x3f).toInt64) ||| (((c1.toInt64) &&& (255 : Int64)) <<< ((48 : Int32) &&& 0x3f).toInt64)))])) _
    refine XS.iloadN X0.here hx rfl (hb hby d3_26) rfl ?_
    show Steps p.tables e below (s₁.setTop (mkF m 27 #[.val (.ref a0), .val (.int (0 : Int32))] [(.int (0 : Int32)), (.ref a0), (.long ((((c0.toInt64) &&& (255 : Int64)) <<< ((56 : Int32) &&& 0x3f).toInt64) ||| (((c1.toInt64) &&& (255 : Int64)) <<< ((48 : Int32) &&& 0x3f).toInt64)))])) _
    refine XS.iconst X0.here hx rfl (hb hby d3_27) ?_
    show Steps p.tables e below (s₁.setTop (mkF m 28 #[.val (.ref a0), .val (.int (0 : Int32))] [(.int (2 : Int32)), (.int (0 : Int32)), (.ref a0), (.long ((((c0.toInt64) &&& (255 : Int64)) <<< ((56 : Int32) &&& 0x3f).toInt64) ||| (((c1.toInt64) &&& (255 : Int64)) <<< ((48 : Int32) &&& 0x3f).toInt64)))])) _
    refine XS.iadd X0.here hx rfl (hb hby d3_28) rfl ?_
    show Steps p.tables e below (s₁.setTop (mkF m 29 #[.val (.ref a0), .val (.int (0 : Int32))] [(.int (2 : Int32)), (.ref a0), (.long ((((c0.toInt64) &&& (255 : Int64)) <<< ((56 : Int32) &&& 0x3f).toInt64) ||| (((c1.toInt64) &&& (255 : Int64)) <<< ((48 : Int32) &&& 0x3f).toInt64)))])) _
    have hin103 : ¬ ((2 : Int32) < 0 ∨ cl103.slots.size ≤ ((2 : Int32)).toNatClampNeg) := (inb_of S103 ⟨by decide, by decide⟩)
    refine X0.baloadBytes hx (j := (2 : Int32)) (v := (.int c2)) (by rw [e0]; exact Ar103.1) (State.isArrayOf_alike hZ.alike Ar103.2.1) Ar103.2.2 hin103 (H103.at hin103 hb2) (g := (mkF m 29 #[.val (.ref a0), .val (.int (0 : Int32))] [(.int (2 : Int32)), (.ref a0), (.long ((((c0.toInt64) &&& (255 : Int64)) <<< ((56 : Int32) &&& 0x3f).toInt64) ||| (((c1.toInt64) &&& (255 : Int64)) <<< ((48 : Int32) &&& 0x3f).toInt64)))])) rfl rfl (hb hby d3_29) _ ?_
    show Steps p.tables e below (s₁.setTop (mkF m 30 #[.val (.ref a0), .val (.int (0 : Int32))] [(.int c2), (.long ((((c0.toInt64) &&& (255 : Int64)) <<< ((56 : Int32) &&& 0x3f).toInt64) ||| (((c1.toInt64) &&& (255 : Int64)) <<< ((48 : Int32) &&& 0x3f).toInt64)))])) _
    refine XS.i2l X0.here hx rfl (hb hby d3_30) rfl ?_
    show Steps p.tables e below (s₁.setTop (mkF m 31 #[.val (.ref a0), .val (.int (0 : Int32))] [(.long (c2.toInt64)), (.long ((((c0.toInt64) &&& (255 : Int64)) <<< ((56 : Int32) &&& 0x3f).toInt64) ||| (((c1.toInt64) &&& (255 : Int64)) <<< ((48 : Int32) &&& 0x3f).toInt64)))])) _
    refine X0.ldc2Long hx hown (mvT hZ (hw _ (List.mem_of_getElem? (i := 12) rfl))) (g := (mkF m 31 #[.val (.ref a0), .val (.int (0 : Int32))] [(.long (c2.toInt64)), (.long ((((c0.toInt64) &&& (255 : Int64)) <<< ((56 : Int32) &&& 0x3f).toInt64) ||| (((c1.toInt64) &&& (255 : Int64)) <<< ((48 : Int32) &&& 0x3f).toInt64)))])) rfl (hb hby d3_31) _ ?_
    show Steps p.tables e below (s₁.setTop (mkF m 34 #[.val (.ref a0), .val (.int (0 : Int32))] [(.long (255 : Int64)), (.long (c2.toInt64)), (.long ((((c0.toInt64) &&& (255 : Int64)) <<< ((56 : Int32) &&& 0x3f).toInt64) ||| (((c1.toInt64) &&& (255 : Int64)) <<< ((48 : Int32) &&& 0x3f).toInt64)))])) _
    refine XS.land X0.here hx rfl (hb hby d3_34) rfl ?_
    show Steps p.tables e below (s₁.setTop (mkF m 35 #[.val (.ref a0), .val (.int (0 : Int32))] [(.long ((c2.toInt64) &&& (255 : Int64))), (.long ((((c0.toInt64) &&& (255 : Int64)) <<< ((56 : Int32) &&& 0x3f).toInt64) ||| (((c1.toInt64) &&& (255 : Int64)) <<< ((48 : Int32) &&& 0x3f).toInt64)))])) _
    refine XS.bipush X0.here hx rfl (hb hby d3_35) ?_
    show Steps p.tables e below (s₁.setTop (mkF m 37 #[.val (.ref a0), .val (.int (0 : Int32))] [(.int (40 : Int32)), (.long ((c2.toInt64) &&& (255 : Int64))), (.long ((((c0.toInt64) &&& (255 : Int64)) <<< ((56 : Int32) &&& 0x3f).toInt64) ||| (((c1.toInt64) &&& (255 : Int64)) <<< ((48 : Int32) &&& 0x3f).toInt64)))])) _
    refine XS.lshl X0.here hx rfl (hb hby d3_37) rfl ?_
    show Steps p.tables e below (s₁.setTop (mkF m 38 #[.val (.ref a0), .val (.int (0 : Int32))] [(.long (((c2.toInt64) &&& (255 : Int64)) <<< ((40 : Int32) &&& 0x3f).toInt64)), (.long ((((c0.toInt64) &&& (255 : Int64)) <<< ((56 : Int32) &&& 0x3f).toInt64) ||| (((c1.toInt64) &&& (255 : Int64)) <<< ((48 : Int32) &&& 0x3f).toInt64)))])) _
    refine XS.lor X0.here hx rfl (hb hby d3_38) rfl ?_
    show Steps p.tables e below (s₁.setTop (mkF m 39 #[.val (.ref a0), .val (.int (0 : Int32))] [(.long (((((c0.toInt64) &&& (255 : Int64)) <<< ((56 : Int32) &&& 0x3f).toInt64) ||| (((c1.toInt64) &&& (255 : Int64)) <<< ((48 : Int32) &&& 0x3f).toInt64)) ||| (((c2.toInt64) &&& (255 : Int64)) <<< ((40 : Int32) &&& 0x3f).toInt64)))])) _
    refine XS.aloadN X0.here hx rfl (hb hby d3_39) rfl rfl ?_
    show Steps p.tables e below (s₁.setTop (mkF m 40 #[.val (.ref a0), .val (.int (0 : Int32))] [(.ref a0), (.long (((((c0.toInt64) &&& (255 : Int64)) <<< ((56 : Int32) &&& 0x3f).toInt64) ||| (((c1.toInt64) &&& (255 : Int64)) <<< ((48 : Int32) &&& 0x3f).toInt64)) ||| (((c2.toInt64) &&& (255 : Int64)) <<< ((40 : Int32) &&& 0x3f).toInt64)))])) _
    refine XS.iloadN X0.here hx rfl (hb hby d3_40) rfl ?_
    show Steps p.tables e below (s₁.setTop (mkF m 41 #[.val (.ref a0), .val (.int (0 : Int32))] [(.int (0 : Int32)), (.ref a0), (.long (((((c0.toInt64) &&& (255 : Int64)) <<< ((56 : Int32) &&& 0x3f).toInt64) ||| (((c1.toInt64) &&& (255 : Int64)) <<< ((48 : Int32) &&& 0x3f).toInt64)) ||| (((c2.toInt64) &&& (255 : Int64)) <<< ((40 : Int32) &&& 0x3f).toInt64)))])) _
    refine XS.iconst X0.here hx rfl (hb hby d3_41) ?_
    show Steps p.tables e below (s₁.setTop (mkF m 42 #[.val (.ref a0), .val (.int (0 : Int32))] [(.int (3 : Int32)), (.int (0 : Int32)), (.ref a0), (.long (((((c0.toInt64) &&& (255 : Int64)) <<< ((56 : Int32) &&& 0x3f).toInt64) ||| (((c1.toInt64) &&& (255 : Int64)) <<< ((48 : Int32) &&& 0x3f).toInt64)) ||| (((c2.toInt64) &&& (255 : Int64)) <<< ((40 : Int32) &&& 0x3f).toInt64)))])) _
    refine XS.iadd X0.here hx rfl (hb hby d3_42) rfl ?_
    show Steps p.tables e below (s₁.setTop (mkF m 43 #[.val (.ref a0), .val (.int (0 : Int32))] [(.int (3 : Int32)), (.ref a0), (.long (((((c0.toInt64) &&& (255 : Int64)) <<< ((56 : Int32) &&& 0x3f).toInt64) ||| (((c1.toInt64) &&& (255 : Int64)) <<< ((48 : Int32) &&& 0x3f).toInt64)) ||| (((c2.toInt64) &&& (255 : Int64)) <<< ((40 : Int32) &&& 0x3f).toInt64)))])) _
    have hin104 : ¬ ((3 : Int32) < 0 ∨ cl104.slots.size ≤ ((3 : Int32)).toNatClampNeg) := (inb_of S104 ⟨by decide, by decide⟩)
    refine X0.baloadBytes hx (j := (3 : Int32)) (v := (.int c3)) (by rw [e0]; exact Ar104.1) (State.isArrayOf_alike hZ.alike Ar104.2.1) Ar104.2.2 hin104 (H104.at hin104 hb3) (g := (mkF m 43 #[.val (.ref a0), .val (.int (0 : Int32))] [(.int (3 : Int32)), (.ref a0), (.long (((((c0.toInt64) &&& (255 : Int64)) <<< ((56 : Int32) &&& 0x3f).toInt64) ||| (((c1.toInt64) &&& (255 : Int64)) <<< ((48 : Int32) &&& 0x3f).toInt64)) ||| (((c2.toInt64) &&& (255 : Int64)) <<< ((40 : Int32) &&& 0x3f).toInt64)))])) rfl rfl (hb hby d3_43) _ ?_
    show Steps p.tables e below (s₁.setTop (mkF m 44 #[.val (.ref a0), .val (.int (0 : Int32))] [(.int c3), (.long (((((c0.toInt64) &&& (255 : Int64)) <<< ((56 : Int32) &&& 0x3f).toInt64) ||| (((c1.toInt64) &&& (255 : Int64)) <<< ((48 : Int32) &&& 0x3f).toInt64)) ||| (((c2.toInt64) &&& (255 : Int64)) <<< ((40 : Int32) &&& 0x3f).toInt64)))])) _
    refine XS.i2l X0.here hx rfl (hb hby d3_44) rfl ?_
    show Steps p.tables e below (s₁.setTop (mkF m 45 #[.val (.ref a0), .val (.int (0 : Int32))] [(.long (c3.toInt64)), (.long (((((c0.toInt64) &&& (255 : Int64)) <<< ((56 : Int32) &&& 0x3f).toInt64) ||| (((c1.toInt64) &&& (255 : Int64)) <<< ((48 : Int32) &&& 0x3f).toInt64)) ||| (((c2.toInt64) &&& (255 : Int64)) <<< ((40 : Int32) &&& 0x3f).toInt64)))])) _
    refine X0.ldc2Long hx hown (mvT hZ (hw _ (List.mem_of_getElem? (i := 12) rfl))) (g := (mkF m 45 #[.val (.ref a0), .val (.int (0 : Int32))] [(.long (c3.toInt64)), (.long (((((c0.toInt64) &&& (255 : Int64)) <<< ((56 : Int32) &&& 0x3f).toInt64) ||| (((c1.toInt64) &&& (255 : Int64)) <<< ((48 : Int32) &&& 0x3f).toInt64)) ||| (((c2.toInt64) &&& (255 : Int64)) <<< ((40 : Int32) &&& 0x3f).toInt64)))])) rfl (hb hby d3_45) _ ?_
    show Steps p.tables e below (s₁.setTop (mkF m 48 #[.val (.ref a0), .val (.int (0 : Int32))] [(.long (255 : Int64)), (.long (c3.toInt64)), (.long (((((c0.toInt64) &&& (255 : Int64)) <<< ((56 : Int32) &&& 0x3f).toInt64) ||| (((c1.toInt64) &&& (255 : Int64)) <<< ((48 : Int32) &&& 0x3f).toInt64)) ||| (((c2.toInt64) &&& (255 : Int64)) <<< ((40 : Int32) &&& 0x3f).toInt64)))])) _
    refine XS.land X0.here hx rfl (hb hby d3_48) rfl ?_
    show Steps p.tables e below (s₁.setTop (mkF m 49 #[.val (.ref a0), .val (.int (0 : Int32))] [(.long ((c3.toInt64) &&& (255 : Int64))), (.long (((((c0.toInt64) &&& (255 : Int64)) <<< ((56 : Int32) &&& 0x3f).toInt64) ||| (((c1.toInt64) &&& (255 : Int64)) <<< ((48 : Int32) &&& 0x3f).toInt64)) ||| (((c2.toInt64) &&& (255 : Int64)) <<< ((40 : Int32) &&& 0x3f).toInt64)))])) _
    refine XS.bipush X0.here hx rfl (hb hby d3_49) ?_
    show Steps p.tables e below (s₁.setTop (mkF m 51 #[.val (.ref a0), .val (.int (0 : Int32))] [(.int (32 : Int32)), (.long ((c3.toInt64) &&& (255 : Int64))), (.long (((((c0.toInt64) &&& (255 : Int64)) <<< ((56 : Int32) &&& 0x3f).toInt64) ||| (((c1.toInt64) &&& (255 : Int64)) <<< ((48 : Int32) &&& 0x3f).toInt64)) ||| (((c2.toInt64) &&& (255 : Int64)) <<< ((40 : Int32) &&& 0x3f).toInt64)))])) _
    refine XS.lshl X0.here hx rfl (hb hby d3_51) rfl ?_
    show Steps p.tables e below (s₁.setTop (mkF m 52 #[.val (.ref a0), .val (.int (0 : Int32))] [(.long (((c3.toInt64) &&& (255 : Int64)) <<< ((32 : Int32) &&& 0x3f).toInt64)), (.long (((((c0.toInt64) &&& (255 : Int64)) <<< ((56 : Int32) &&& 0x3f).toInt64) ||| (((c1.toInt64) &&& (255 : Int64)) <<< ((48 : Int32) &&& 0x3f).toInt64)) ||| (((c2.toInt64) &&& (255 : Int64)) <<< ((40 : Int32) &&& 0x3f).toInt64)))])) _
    refine XS.lor X0.here hx rfl (hb hby d3_52) rfl ?_
    show Steps p.tables e below (s₁.setTop (mkF m 53 #[.val (.ref a0), .val (.int (0 : Int32))] [(.long ((((((c0.toInt64) &&& (255 : Int64)) <<< ((56 : Int32) &&& 0x3f).toInt64) ||| (((c1.toInt64) &&& (255 : Int64)) <<< ((48 : Int32) &&& 0x3f).toInt64)) ||| (((c2.toInt64) &&& (255 : Int64)) <<< ((40 : Int32) &&& 0x3f).toInt64)) ||| (((c3.toInt64) &&& (255 : Int64)) <<< ((32 : Int32) &&& 0x3f).toInt64)))])) _
    refine XS.aloadN X0.here hx rfl (hb hby d3_53) rfl rfl ?_
    show Steps p.tables e below (s₁.setTop (mkF m 54 #[.val (.ref a0), .val (.int (0 : Int32))] [(.ref a0), (.long ((((((c0.toInt64) &&& (255 : Int64)) <<< ((56 : Int32) &&& 0x3f).toInt64) ||| (((c1.toInt64) &&& (255 : Int64)) <<< ((48 : Int32) &&& 0x3f).toInt64)) ||| (((c2.toInt64) &&& (255 : Int64)) <<< ((40 : Int32) &&& 0x3f).toInt64)) ||| (((c3.toInt64) &&& (255 : Int64)) <<< ((32 : Int32) &&& 0x3f).toInt64)))])) _
    refine XS.iloadN X0.here hx rfl (hb hby d3_54) rfl ?_
    show Steps p.tables e below (s₁.setTop (mkF m 55 #[.val (.ref a0), .val (.int (0 : Int32))] [(.int (0 : Int32)), (.ref a0), (.long ((((((c0.toInt64) &&& (255 : Int64)) <<< ((56 : Int32) &&& 0x3f).toInt64) ||| (((c1.toInt64) &&& (255 : Int64)) <<< ((48 : Int32) &&& 0x3f).toInt64)) ||| (((c2.toInt64) &&& (255 : Int64)) <<< ((40 : Int32) &&& 0x3f).toInt64)) ||| (((c3.toInt64) &&& (255 : Int64)) <<< ((32 : Int32) &&& 0x3f).toInt64)))])) _
    refine XS.iconst X0.here hx rfl (hb hby d3_55) ?_
    show Steps p.tables e below (s₁.setTop (mkF m 56 #[.val (.ref a0), .val (.int (0 : Int32))] [(.int (4 : Int32)), (.int (0 : Int32)), (.ref a0), (.long ((((((c0.toInt64) &&& (255 : Int64)) <<< ((56 : Int32) &&& 0x3f).toInt64) ||| (((c1.toInt64) &&& (255 : Int64)) <<< ((48 : Int32) &&& 0x3f).toInt64)) ||| (((c2.toInt64) &&& (255 : Int64)) <<< ((40 : Int32) &&& 0x3f).toInt64)) ||| (((c3.toInt64) &&& (255 : Int64)) <<< ((32 : Int32) &&& 0x3f).toInt64)))])) _
    refine XS.iadd X0.here hx rfl (hb hby d3_56) rfl ?_
    show Steps p.tables e below (s₁.setTop (mkF m 57 #[.val (.ref a0), .val (.int (0 : Int32))] [(.int (4 : Int32)), (.ref a0), (.long ((((((c0.toInt64) &&& (255 : Int64)) <<< ((56 : Int32) &&& 0x3f).toInt64) ||| (((c1.toInt64) &&& (255 : Int64)) <<< ((48 : Int32) &&& 0x3f).toInt64)) ||| (((c2.toInt64) &&& (255 : Int64)) <<< ((40 : Int32) &&& 0x3f).toInt64)) ||| (((c3.toInt64) &&& (255 : Int64)) <<< ((32 : Int32) &&& 0x3f).toInt64)))])) _
    have hin105 : ¬ ((4 : Int32) < 0 ∨ cl105.slots.size ≤ ((4 : Int32)).toNatClampNeg) := (inb_of S105 ⟨by decide, by decide⟩)
    refine X0.baloadBytes hx (j := (4 : Int32)) (v := (.int c4)) (by rw [e0]; exact Ar105.1) (State.isArrayOf_alike hZ.alike Ar105.2.1) Ar105.2.2 hin105 (H105.at hin105 hb4) (g := (mkF m 57 #[.val (.ref a0), .val (.int (0 : Int32))] [(.int (4 : Int32)), (.ref a0), (.long ((((((c0.toInt64) &&& (255 : Int64)) <<< ((56 : Int32) &&& 0x3f).toInt64) ||| (((c1.toInt64) &&& (255 : Int64)) <<< ((48 : Int32) &&& 0x3f).toInt64)) ||| (((c2.toInt64) &&& (255 : Int64)) <<< ((40 : Int32) &&& 0x3f).toInt64)) ||| (((c3.toInt64) &&& (255 : Int64)) <<< ((32 : Int32) &&& 0x3f).toInt64)))])) rfl rfl (hb hby d3_57) _ ?_
    show Steps p.tables e below (s₁.setTop (mkF m 58 #[.val (.ref a0), .val (.int (0 : Int32))] [(.int c4), (.long ((((((c0.toInt64) &&& (255 : Int64)) <<< ((56 : Int32) &&& 0x3f).toInt64) ||| (((c1.toInt64) &&& (255 : Int64)) <<< ((48 : Int32) &&& 0x3f).toInt64)) ||| (((c2.toInt64) &&& (255 : Int64)) <<< ((40 : Int32) &&& 0x3f).toInt64)) ||| (((c3.toInt64) &&& (255 : Int64)) <<< ((32 : Int32) &&& 0x3f).toInt64)))])) _
    refine XS.i2l X0.here hx rfl (hb hby d3_58) rfl ?_
    show Steps p.tables e below (s₁.setTop (mkF m 59 #[.val (.ref a0), .val (.int (0 : Int32))] [(.long (c4.toInt64)), (.long ((((((c0.toInt64) &&& (255 : Int64)) <<< ((56 : Int32) &&& 0x3f).toInt64) ||| (((c1.toInt64) &&& (255 : Int64)) <<< ((48 : Int32) &&& 0x3f).toInt64)) ||| (((c2.toInt64) &&& (255 : Int64)) <<< ((40 : Int32) &&& 0x3f).toInt64)) ||| (((c3.toInt64) &&& (255 : Int64)) <<< ((32 : Int32) &&& 0x3f).toInt64)))])) _
    refine X0.ldc2Long hx hown (mvT hZ (hw _ (List.mem_of_getElem? (i := 12) rfl))) (g := (mkF m 59 #[.val (.ref a0), .val (.int (0 : Int32))] [(.long (c4.toInt64)), (.long ((((((c0.toInt64) &&& (255 : Int64)) <<< ((56 : Int32) &&& 0x3f).toInt64) ||| (((c1.toInt64) &&& (255 : Int64)) <<< ((48 : Int32) &&& 0x3f).toInt64)) ||| (((c2.toInt64) &&& (255 : Int64)) <<< ((40 : Int32) &&& 0x3f).toInt64)) ||| (((c3.toInt64) &&& (255 : Int64)) <<< ((32 : Int32) &&& 0x3f).toInt64)))])) rfl (hb hby d3_59) _ ?_
    show Steps p.tables e below (s₁.setTop (mkF m 62 #[.val (.ref a0), .val (.int (0 : Int32))] [(.long (255 : Int64)), (.long (c4.toInt64)), (.long ((((((c0.toInt64) &&& (255 : Int64)) <<< ((56 : Int32) &&& 0x3f).toInt64) ||| (((c1.toInt64) &&& (255 : Int64)) <<< ((48 : Int32) &&& 0x3f).toInt64)) ||| (((c2.toInt64) &&& (255 : Int64)) <<< ((40 : Int32) &&& 0x3f).toInt64)) ||| (((c3.toInt64) &&& (255 : Int64)) <<< ((32 : Int32) &&& 0x3f).toInt64)))])) _
    refine XS.land X0.here hx rfl (hb hby d3_62) rfl ?_
    show Steps p.tables e below (s₁.setTop (mkF m 63 #[.val (.ref a0), .val (.int (0 : Int32))] [(.long ((c4.toInt64) &&& (255 : Int64))), (.long ((((((c0.toInt64) &&& (255 : Int64)) <<< ((56 : Int32) &&& 0x3f).toInt64) ||| (((c1.toInt64) &&& (255 : Int64)) <<< ((48 : Int32) &&& 0x3f).toInt64)) ||| (((c2.toInt64) &&& (255 : Int64)) <<< ((40 : Int32) &&& 0x3f).toInt64)) ||| (((c3.toInt64) &&& (255 : Int64)) <<< ((32 : Int32) &&& 0x3f).toInt64)))])) _
    refine XS.bipush X0.here hx rfl (hb hby d3_63) ?_
    show Steps p.tables e below (s₁.setTop (mkF m 65 #[.val (.ref a0), .val (.int (0 : Int32))] [(.int (24 : Int32)), (.long ((c4.toInt64) &&& (255 : Int64))), (.long ((((((c0.toInt64) &&& (255 : Int64)) <<< ((56 : Int32) &&& 0x3f).toInt64) ||| (((c1.toInt64) &&& (255 : Int64)) <<< ((48 : Int32) &&& 0x3f).toInt64)) ||| (((c2.toInt64) &&& (255 : Int64)) <<< ((40 : Int32) &&& 0x3f).toInt64)) ||| (((c3.toInt64) &&& (255 : Int64)) <<< ((32 : Int32) &&& 0x3f).toInt64)))])) _
    refine XS.lshl X0.here hx rfl (hb hby d3_65) rfl ?_
    show Steps p.tables e below (s₁.setTop (mkF m 66 #[.val (.ref a0), .val (.int (0 : Int32))] [(.long (((c4.toInt64) &&& (255 : Int64)) <<< ((24 : Int32) &&& 0x3f).toInt64)), (.long ((((((c0.toInt64) &&& (255 : Int64)) <<< ((56 : Int32) &&& 0x3f).toInt64) ||| (((c1.toInt64) &&& (255 : Int64)) <<< ((48 : Int32) &&& 0x3f).toInt64)) ||| (((c2.toInt64) &&& (255 : Int64)) <<< ((40 : Int32) &&& 0x3f).toInt64)) ||| (((c3.toInt64) &&& (255 : Int64)) <<< ((32 : Int32) &&& 0x3f).toInt64)))])) _
    refine XS.lor X0.here hx rfl (hb hby d3_66) rfl ?_
    show Steps p.tables e below (s₁.setTop (mkF m 67 #[.val (.ref a0), .val (.int (0 : Int32))] [(.long (((((((c0.toInt64) &&& (255 : Int64)) <<< ((56 : Int32) &&& 0x3f).toInt64) ||| (((c1.toInt64) &&& (255 : Int64)) <<< ((48 : Int32) &&& 0x3f).toInt64)) ||| (((c2.toInt64) &&& (255 : Int64)) <<< ((40 : Int32) &&& 0x3f).toInt64)) ||| (((c3.toInt64) &&& (255 : Int64)) <<< ((32 : Int32) &&& 0x3f).toInt64)) ||| (((c4.toInt64) &&& (255 : Int64)) <<< ((24 : Int32) &&& 0x3f).toInt64)))])) _
    refine XS.aloadN X0.here hx rfl (hb hby d3_67) rfl rfl ?_
    show Steps p.tables e below (s₁.setTop (mkF m 68 #[.val (.ref a0), .val (.int (0 : Int32))] [(.ref a0), (.long (((((((c0.toInt64) &&& (255 : Int64)) <<< ((56 : Int32) &&& 0x3f).toInt64) ||| (((c1.toInt64) &&& (255 : Int64)) <<< ((48 : Int32) &&& 0x3f).toInt64)) ||| (((c2.toInt64) &&& (255 : Int64)) <<< ((40 : Int32) &&& 0x3f).toInt64)) ||| (((c3.toInt64) &&& (255 : Int64)) <<< ((32 : Int32) &&& 0x3f).toInt64)) ||| (((c4.toInt64) &&& (255 : Int64)) <<< ((24 : Int32) &&& 0x3f).toInt64)))])) _
    refine XS.iloadN X0.here hx rfl (hb hby d3_68) rfl ?_
    show Steps p.tables e below (s₁.setTop (mkF m 69 #[.val (.ref a0), .val (.int (0 : Int32))] [(.int (0 : Int32)), (.ref a0), (.long (((((((c0.toInt64) &&& (255 : Int64)) <<< ((56 : Int32) &&& 0x3f).toInt64) ||| (((c1.toInt64) &&& (255 : Int64)) <<< ((48 : Int32) &&& 0x3f).toInt64)) ||| (((c2.toInt64) &&& (255 : Int64)) <<< ((40 : Int32) &&& 0x3f).toInt64)) ||| (((c3.toInt64) &&& (255 : Int64)) <<< ((32 : Int32) &&& 0x3f).toInt64)) ||| (((c4.toInt64) &&& (255 : Int64)) <<< ((24 : Int32) &&& 0x3f).toInt64)))])) _
    refine XS.iconst X0.here hx rfl (hb hby d3_69) ?_
    show Steps p.tables e below (s₁.setTop (mkF m 70 #[.val (.ref a0), .val (.int (0 : Int32))] [(.int (5 : Int32)), (.int (0 : Int32)), (.ref a0), (.long (((((((c0.toInt64) &&& (255 : Int64)) <<< ((56 : Int32) &&& 0x3f).toInt64) ||| (((c1.toInt64) &&& (255 : Int64)) <<< ((48 : Int32) &&& 0x3f).toInt64)) ||| (((c2.toInt64) &&& (255 : Int64)) <<< ((40 : Int32) &&& 0x3f).toInt64)) ||| (((c3.toInt64) &&& (255 : Int64)) <<< ((32 : Int32) &&& 0x3f).toInt64)) ||| (((c4.toInt64) &&& (255 : Int64)) <<< ((24 : Int32) &&& 0x3f).toInt64)))])) _
    refine XS.iadd X0.here hx rfl (hb hby d3_70) rfl ?_
    show Steps p.tables e below (s₁.setTop (mkF m 71 #[.val (.ref a0), .val (.int (0 : Int32))] [(.int (5 : Int32)), (.ref a0), (.long (((((((c0.toInt64) &&& (255 : Int64)) <<< ((56 : Int32) &&& 0x3f).toInt64) ||| (((c1.toInt64) &&& (255 : Int64)) <<< ((48 : Int32) &&& 0x3f).toInt64)) ||| (((c2.toInt64) &&& (255 : Int64)) <<< ((40 : Int32) &&& 0x3f).toInt64)) ||| (((c3.toInt64) &&& (255 : Int64)) <<< ((32 : Int32) &&& 0x3f).toInt64)) ||| (((c4.toInt64) &&& (255 : Int64)) <<< ((24 : Int32) &&& 0x3f).toInt64)))])) _
    have hin106 : ¬ ((5 : Int32) < 0 ∨ cl106.slots.size ≤ ((5 : Int32)).toNatClampNeg) := (inb_of S106 ⟨by decide, by decide⟩)
    refine X0.baloadBytes hx (j := (5 : Int32)) (v := (.int c5)) (by rw [e0]; exact Ar106.1) (State.isArrayOf_alike hZ.alike Ar106.2.1) Ar106.2.2 hin106 (H106.at hin106 hb5) (g := (mkF m 71 #[.val (.ref a0), .val (.int (0 : Int32))] [(.int (5 : Int32)), (.ref a0), (.long (((((((c0.toInt64) &&& (255 : Int64)) <<< ((56 : Int32) &&& 0x3f).toInt64) ||| (((c1.toInt64) &&& (255 : Int64)) <<< ((48 : Int32) &&& 0x3f).toInt64)) ||| (((c2.toInt64) &&& (255 : Int64)) <<< ((40 : Int32) &&& 0x3f).toInt64)) ||| (((c3.toInt64) &&& (255 : Int64)) <<< ((32 : Int32) &&& 0x3f).toInt64)) ||| (((c4.toInt64) &&& (255 : Int64)) <<< ((24 : Int32) &&& 0x3f).toInt64)))])) rfl rfl (hb hby d3_71) _ ?_
    show Steps p.tables e below (s₁.setTop (mkF m 72 #[.val (.ref a0), .val (.int (0 : Int32))] [(.int c5), (.long (((((((c0.toInt64) &&& (255 : Int64)) <<< ((56 : Int32) &&& 0x3f).toInt64) ||| (((c1.toInt64) &&& (255 : Int64)) <<< ((48 : Int32) &&& 0x3f).toInt64)) ||| (((c2.toInt64) &&& (255 : Int64)) <<< ((40 : Int32) &&& 0x3f).toInt64)) ||| (((c3.toInt64) &&& (255 : Int64)) <<< ((32 : Int32) &&& 0x3f).toInt64)) ||| (((c4.toInt64) &&& (255 : Int64)) <<< ((24 : Int32) &&& 0x3f).toInt64)))])) _
    refine XS.i2l X0.here hx rfl (hb hby d3_72) rfl ?_
    show Steps p.tables e below (s₁.setTop (mkF m 73 #[.val (.ref a0), .val (.int (0 : Int32))] [(.long (c5.toInt64)), (.long (((((((c0.toInt64) &&& (255 : Int64)) <<< ((56 : Int32) &&& 0x3f).toInt64) ||| (((c1.toInt64) &&& (255 : Int64)) <<< ((48 : Int32) &&& 0x3f).toInt64)) ||| (((c2.toInt64) &&& (255 : Int64)) <<< ((40 : Int32) &&& 0x3f).toInt64)) ||| (((c3.toInt64) &&& (255 : Int64)) <<< ((32 : Int32) &&& 0x3f).toInt64)) ||| (((c4.toInt64) &&& (255 : Int64)) <<< ((24 : Int32) &&& 0x3f).toInt64)))])) _
    refine X0.ldc2Long hx hown (mvT hZ (hw _ (List.mem_of_getElem? (i := 12) rfl))) (g := (mkF m 73 #[.val (.ref a0), .val (.int (0 : Int32))] [(.long (c5.toInt64)), (.long (((((((c0.toInt64) &&& (255 : Int64)) <<< ((56 : Int32) &&& 0x3f).toInt64) ||| (((c1.toInt64) &&& (255 : Int64)) <<< ((48 : Int32) &&& 0x3f).toInt64)) ||| (((c2.toInt64) &&& (255 : Int64)) <<< ((40 : Int32) &&& 0x3f).toInt64)) ||| (((c3.toInt64) &&& (255 : Int64)) <<< ((32 : Int32) &&& 0x3f).toInt64)) ||| (((c4.toInt64) &&& (255 : Int64)) <<< ((24 : Int32) &&& 0x3f).toInt64)))])) rfl (hb hby d3_73) _ ?_
    show Steps p.tables e below (s₁.setTop (mkF m 76 #[.val (.ref a0), .val (.int (0 : Int32))] [(.long (255 : Int64)), (.long (c5.toInt64)), (.long (((((((c0.toInt64) &&& (255 : Int64)) <<< ((56 : Int32) &&& 0x3f).toInt64) ||| (((c1.toInt64) &&& (255 : Int64)) <<< ((48 : Int32) &&& 0x3f).toInt64)) ||| (((c2.toInt64) &&& (255 : Int64)) <<< ((40 : Int32) &&& 0x3f).toInt64)) ||| (((c3.toInt64) &&& (255 : Int64)) <<< ((32 : Int32) &&& 0x3f).toInt64)) ||| (((c4.toInt64) &&& (255 : Int64)) <<< ((24 : Int32) &&& 0x3f).toInt64)))])) _
    refine XS.land X0.here hx rfl (hb hby d3_76) rfl ?_
    show Steps p.tables e below (s₁.setTop (mkF m 77 #[.val (.ref a0), .val (.int (0 : Int32))] [(.long ((c5.toInt64) &&& (255 : Int64))), (.long (((((((c0.toInt64) &&& (255 : Int64)) <<< ((56 : Int32) &&& 0x3f).toInt64) ||| (((c1.toInt64) &&& (255 : Int64)) <<< ((48 : Int32) &&& 0x3f).toInt64)) ||| (((c2.toInt64) &&& (255 : Int64)) <<< ((40 : Int32) &&& 0x3f).toInt64)) ||| (((c3.toInt64) &&& (255 : Int64)) <<< ((32 : Int32) &&& 0x3f).toInt64)) ||| (((c4.toInt64) &&& (255 : Int64)) <<< ((24 : Int32) &&& 0x3f).toInt64)))])) _
    refine XS.bipush X0.here hx rfl (hb hby d3_77) ?_
    show Steps p.tables e below (s₁.setTop (mkF m 79 #[.val (.ref a0), .val (.int (0 : Int32))] [(.int (16 : Int32)), (.long ((c5.toInt64) &&& (255 : Int64))), (.long (((((((c0.toInt64) &&& (255 : Int64)) <<< ((56 : Int32) &&& 0x3f).toInt64) ||| (((c1.toInt64) &&& (255 : Int64)) <<< ((48 : Int32) &&& 0x3f).toInt64)) ||| (((c2.toInt64) &&& (255 : Int64)) <<< ((40 : Int32) &&& 0x3f).toInt64)) ||| (((c3.toInt64) &&& (255 : Int64)) <<< ((32 : Int32) &&& 0x3f).toInt64)) ||| (((c4.toInt64) &&& (255 : Int64)) <<< ((24 : Int32) &&& 0x3f).toInt64)))])) _
    refine XS.lshl X0.here hx rfl (hb hby d3_79) rfl ?_
    show Steps p.tables e below (s₁.setTop (mkF m 80 #[.val (.ref a0), .val (.int (0 : Int32))] [(.long (((c5.toInt64) &&& (255 : Int64)) <<< ((16 : Int32) &&& 0x3f).toInt64)), (.long (((((((c0.toInt64) &&& (255 : Int64)) <<< ((56 : Int32) &&& 0x3f).toInt64) ||| (((c1.toInt64) &&& (255 : Int64)) <<< ((48 : Int32) &&& 0x3f).toInt64)) ||| (((c2.toInt64) &&& (255 : Int64)) <<< ((40 : Int32) &&& 0x3f).toInt64)) ||| (((c3.toInt64) &&& (255 : Int64)) <<< ((32 : Int32) &&& 0x3f).toInt64)) ||| (((c4.toInt64) &&& (255 : Int64)) <<< ((24 : Int32) &&& 0x3f).toInt64)))])) _
    refine XS.lor X0.here hx rfl (hb hby d3_80) rfl ?_
    show Steps p.tables e below (s₁.setTop (mkF m 81 #[.val (.ref a0), .val (.int (0 : Int32))] [(.long ((((((((c0.toInt64) &&& (255 : Int64)) <<< ((56 : Int32) &&& 0x3f).toInt64) ||| (((c1.toInt64) &&& (255 : Int64)) <<< ((48 : Int32) &&& 0x3f).toInt64)) ||| (((c2.toInt64) &&& (255 : Int64)) <<< ((40 : Int32) &&& 0x3f).toInt64)) ||| (((c3.toInt64) &&& (255 : Int64)) <<< ((32 : Int32) &&& 0x3f).toInt64)) ||| (((c4.toInt64) &&& (255 : Int64)) <<< ((24 : Int32) &&& 0x3f).toInt64)) ||| (((c5.toInt64) &&& (255 : Int64)) <<< ((16 : Int32) &&& 0x3f).toInt64)))])) _
    refine XS.aloadN X0.here hx rfl (hb hby d3_81) rfl rfl ?_
    show Steps p.tables e below (s₁.setTop (mkF m 82 #[.val (.ref a0), .val (.int (0 : Int32))] [(.ref a0), (.long ((((((((c0.toInt64) &&& (255 : Int64)) <<< ((56 : Int32) &&& 0x3f).toInt64) ||| (((c1.toInt64) &&& (255 : Int64)) <<< ((48 : Int32) &&& 0x3f).toInt64)) ||| (((c2.toInt64) &&& (255 : Int64)) <<< ((40 : Int32) &&& 0x3f).toInt64)) ||| (((c3.toInt64) &&& (255 : Int64)) <<< ((32 : Int32) &&& 0x3f).toInt64)) ||| (((c4.toInt64) &&& (255 : Int64)) <<< ((24 : Int32) &&& 0x3f).toInt64)) ||| (((c5.toInt64) &&& (255 : Int64)) <<< ((16 : Int32) &&& 0x3f).toInt64)))])) _
    refine XS.iloadN X0.here hx rfl (hb hby d3_82) rfl ?_
    show Steps p.tables e below (s₁.setTop (mkF m 83 #[.val (.ref a0), .val (.int (0 : Int32))] [(.int (0 : Int32)), (.ref a0), (.long ((((((((c0.toInt64) &&& (255 : Int64)) <<< ((56 : Int32) &&& 0x3f).toInt64) ||| (((c1.toInt64) &&& (255 : Int64)) <<< ((48 : Int32) &&& 0x3f).toInt64)) ||| (((c2.toInt64) &&& (255 : Int64)) <<< ((40 : Int32) &&& 0x3f).toInt64)) ||| (((c3.toInt64) &&& (255 : Int64)) <<< ((32 : Int32) &&& 0x3f).toInt64)) ||| (((c4.toInt64) &&& (255 : Int64)) <<< ((24 : Int32) &&& 0x3f).toInt64)) ||| (((c5.toInt64) &&& (255 : Int64)) <<< ((16 : Int32) &&& 0x3f).toInt64)))])) _
    refine XS.bipush X0.here hx rfl (hb hby d3_83) ?_
    show Steps p.tables e below (s₁.setTop (mkF m 85 #[.val (.ref a0), .val (.int (0 : Int32))] [(.int (6 : Int32)), (.int (0 : Int32)), (.ref a0), (.long ((((((((c0.toInt64) &&& (255 : Int64)) <<< ((56 : Int32) &&& 0x3f).toInt64) ||| (((c1.toInt64) &&& (255 : Int64)) <<< ((48 : Int32) &&& 0x3f).toInt64)) ||| (((c2.toInt64) &&& (255 : Int64)) <<< ((40 : Int32) &&& 0x3f).toInt64)) ||| (((c3.toInt64) &&& (255 : Int64)) <<< ((32 : Int32) &&& 0x3f).toInt64)) ||| (((c4.toInt64) &&& (255 : Int64)) <<< ((24 : Int32) &&& 0x3f).toInt64)) ||| (((c5.toInt64) &&& (255 : Int64)) <<< ((16 : Int32) &&& 0x3f).toInt64)))])) _
    refine XS.iadd X0.here hx rfl (hb hby d3_85) rfl ?_
    show Steps p.tables e below (s₁.setTop (mkF m 86 #[.val (.ref a0), .val (.int (0 : Int32))] [(.int (6 : Int32)), (.ref a0), (.long ((((((((c0.toInt64) &&& (255 : Int64)) <<< ((56 : Int32) &&& 0x3f).toInt64) ||| (((c1.toInt64) &&& (255 : Int64)) <<< ((48 : Int32) &&& 0x3f).toInt64)) ||| (((c2.toInt64) &&& (255 : Int64)) <<< ((40 : Int32) &&& 0x3f).toInt64)) ||| (((c3.toInt64) &&& (255 : Int64)) <<< ((32 : Int32) &&& 0x3f).toInt64)) ||| (((c4.toInt64) &&& (255 : Int64)) <<< ((24 : Int32) &&& 0x3f).toInt64)) ||| (((c5.toInt64) &&& (255 : Int64)) <<< ((16 : Int32) &&& 0x3f).toInt64)))])) _
    have hin107 : ¬ ((6 : Int32) < 0 ∨ cl107.slots.size ≤ ((6 : Int32)).toNatClampNeg) := (inb_of S107 ⟨by decide, by decide⟩)
    refine X0.baloadBytes hx (j := (6 : Int32)) (v := (.int c6)) (by rw [e0]; exact Ar107.1) (State.isArrayOf_alike hZ.alike Ar107.2.1) Ar107.2.2 hin107 (H107.at hin107 hb6) (g := (mkF m 86 #[.val (.ref a0), .val (.int (0 : Int32))] [(.int (6 : Int32)), (.ref a0), (.long ((((((((c0.toInt64) &&& (255 : Int64)) <<< ((56 : Int32) &&& 0x3f).toInt64) ||| (((c1.toInt64) &&& (255 : Int64)) <<< ((48 : Int32) &&& 0x3f).toInt64)) ||| (((c2.toInt64) &&& (255 : Int64)) <<< ((40 : Int32) &&& 0x3f).toInt64)) ||| (((c3.toInt64) &&& (255 : Int64)) <<< ((32 : Int32) &&& 0x3f).toInt64)) ||| (((c4.toInt64) &&& (255 : Int64)) <<< ((24 : Int32) &&& 0x3f).toInt64)) ||| (((c5.toInt64) &&& (255 : Int64)) <<< ((16 : Int32) &&& 0x3f).toInt64)))])) rfl rfl (hb hby d3_86) _ ?_
    show Steps p.tables e below (s₁.setTop (mkF m 87 #[.val (.ref a0), .val (.int (0 : Int32))] [(.int c6), (.long ((((((((c0.toInt64) &&& (255 : Int64)) <<< ((56 : Int32) &&& 0x3f).toInt64) ||| (((c1.toInt64) &&& (255 : Int64)) <<< ((48 : Int32) &&& 0x3f).toInt64)) ||| (((c2.toInt64) &&& (255 : Int64)) <<< ((40 : Int32) &&& 0x3f).toInt64)) ||| (((c3.toInt64) &&& (255 : Int64)) <<< ((32 : Int32) &&& 0x3f).toInt64)) ||| (((c4.toInt64) &&& (255 : Int64)) <<< ((24 : Int32) &&& 0x3f).toInt64)) ||| (((c5.toInt64) &&& (255 : Int64)) <<< ((16 : Int32) &&& 0x3f).toInt64)))])) _
    refine XS.i2l X0.here hx rfl (hb hby d3_87) rfl ?_
    show Steps p.tables e below (s₁.setTop (mkF m 88 #[.val (.ref a0), .val (.int (0 : Int32))] [(.long (c6.toInt64)), (.long ((((((((c0.toInt64) &&& (255 : Int64)) <<< ((56 : Int32) &&& 0x3f).toInt64) ||| (((c1.toInt64) &&& (255 : Int64)) <<< ((48 : Int32) &&& 0x3f).toInt64)) ||| (((c2.toInt64) &&& (255 : Int64)) <<< ((40 : Int32) &&& 0x3f).toInt64)) ||| (((c3.toInt64) &&& (255 : Int64)) <<< ((32 : Int32) &&& 0x3f).toInt64)) ||| (((c4.toInt64) &&& (255 : Int64)) <<< ((24 : Int32) &&& 0x3f).toInt64)) ||| (((c5.toInt64) &&& (255 : Int64)) <<< ((16 : Int32) &&& 0x3f).toInt64)))])) _
    refine X0.ldc2Long hx hown (mvT hZ (hw _ (List.mem_of_getElem? (i := 12) rfl))) (g := (mkF m 88 #[.val (.ref a0), .val (.int (0 : Int32))] [(.long (c6.toInt64)), (.long ((((((((c0.toInt64) &&& (255 : Int64)) <<< ((56 : Int32) &&& 0x3f).toInt64) ||| (((c1.toInt64) &&& (255 : Int64)) <<< ((48 : Int32) &&& 0x3f).toInt64)) ||| (((c2.toInt64) &&& (255 : Int64)) <<< ((40 : Int32) &&& 0x3f).toInt64)) ||| (((c3.toInt64) &&& (255 : Int64)) <<< ((32 : Int32) &&& 0x3f).toInt64)) ||| (((c4.toInt64) &&& (255 : Int64)) <<< ((24 : Int32) &&& 0x3f).toInt64)) ||| (((c5.toInt64) &&& (255 : Int64)) <<< ((16 : Int32) &&& 0x3f).toInt64)))])) rfl (hb hby d3_88) _ ?_
    show Steps p.tables e below (s₁.setTop (mkF m 91 #[.val (.ref a0), .val (.int (0 : Int32))] [(.long (255 : Int64)), (.long (c6.toInt64)), (.long ((((((((c0.toInt64) &&& (255 : Int64)) <<< ((56 : Int32) &&& 0x3f).toInt64) ||| (((c1.toInt64) &&& (255 : Int64)) <<< ((48 : Int32) &&& 0x3f).toInt64)) ||| (((c2.toInt64) &&& (255 : Int64)) <<< ((40 : Int32) &&& 0x3f).toInt64)) ||| (((c3.toInt64) &&& (255 : Int64)) <<< ((32 : Int32) &&& 0x3f).toInt64)) ||| (((c4.toInt64) &&& (255 : Int64)) <<< ((24 : Int32) &&& 0x3f).toInt64)) ||| (((c5.toInt64) &&& (255 : Int64)) <<< ((16 : Int32) &&& 0x3f).toInt64)))])) _
    refine XS.land X0.here hx rfl (hb hby d3_91) rfl ?_
    show Steps p.tables e below (s₁.setTop (mkF m 92 #[.val (.ref a0), .val (.int (0 : Int32))] [(.long ((c6.toInt64) &&& (255 : Int64))), (.long ((((((((c0.toInt64) &&& (255 : Int64)) <<< ((56 : Int32) &&& 0x3f).toInt64) ||| (((c1.toInt64) &&& (255 : Int64)) <<< ((48 : Int32) &&& 0x3f).toInt64)) ||| (((c2.toInt64) &&& (255 : Int64)) <<< ((40 : Int32) &&& 0x3f).toInt64)) ||| (((c3.toInt64) &&& (255 : Int64)) <<< ((32 : Int32) &&& 0x3f).toInt64)) ||| (((c4.toInt64) &&& (255 : Int64)) <<< ((24 : Int32) &&& 0x3f).toInt64)) ||| (((c5.toInt64) &&& (255 : Int64)) <<< ((16 : Int32) &&& 0x3f).toInt64)))])) _
    refine XS.bipush X0.here hx rfl (hb hby d3_92) ?_
    show Steps p.tables e below (s₁.setTop (mkF m 94 #[.val (.ref a0), .val (.int (0 : Int32))] [(.int (8 : Int32)), (.long ((c6.toInt64) &&& (255 : Int64))), (.long ((((((((c0.toInt64) &&& (255 : Int64)) <<< ((56 : Int32) &&& 0x3f).toInt64) ||| (((c1.toInt64) &&& (255 : Int64)) <<< ((48 : Int32) &&& 0x3f).toInt64)) ||| (((c2.toInt64) &&& (255 : Int64)) <<< ((40 : Int32) &&& 0x3f).toInt64)) ||| (((c3.toInt64) &&& (255 : Int64)) <<< ((32 : Int32) &&& 0x3f).toInt64)) ||| (((c4.toInt64) &&& (255 : Int64)) <<< ((24 : Int32) &&& 0x3f).toInt64)) ||| (((c5.toInt64) &&& (255 : Int64)) <<< ((16 : Int32) &&& 0x3f).toInt64)))])) _
    refine XS.lshl X0.here hx rfl (hb hby d3_94) rfl ?_
    show Steps p.tables e below (s₁.setTop (mkF m 95 #[.val (.ref a0), .val (.int (0 : Int32))] [(.long (((c6.toInt64) &&& (255 : Int64)) <<< ((8 : Int32) &&& 0x3f).toInt64)), (.long ((((((((c0.toInt64) &&& (255 : Int64)) <<< ((56 : Int32) &&& 0x3f).toInt64) ||| (((c1.toInt64) &&& (255 : Int64)) <<< ((48 : Int32) &&& 0x3f).toInt64)) ||| (((c2.toInt64) &&& (255 : Int64)) <<< ((40 : Int32) &&& 0x3f).toInt64)) ||| (((c3.toInt64) &&& (255 : Int64)) <<< ((32 : Int32) &&& 0x3f).toInt64)) ||| (((c4.toInt64) &&& (255 : Int64)) <<< ((24 : Int32) &&& 0x3f).toInt64)) ||| (((c5.toInt64) &&& (255 : Int64)) <<< ((16 : Int32) &&& 0x3f).toInt64)))])) _
    refine XS.lor X0.here hx rfl (hb hby d3_95) rfl ?_
    show Steps p.tables e below (s₁.setTop (mkF m 96 #[.val (.ref a0), .val (.int (0 : Int32))] [(.long (((((((((c0.toInt64) &&& (255 : Int64)) <<< ((56 : Int32) &&& 0x3f).toInt64) ||| (((c1.toInt64) &&& (255 : Int64)) <<< ((48 : Int32) &&& 0x3f).toInt64)) ||| (((c2.toInt64) &&& (255 : Int64)) <<< ((40 : Int32) &&& 0x3f).toInt64)) ||| (((c3.toInt64) &&& (255 : Int64)) <<< ((32 : Int32) &&& 0x3f).toInt64)) ||| (((c4.toInt64) &&& (255 : Int64)) <<< ((24 : Int32) &&& 0x3f).toInt64)) ||| (((c5.toInt64) &&& (255 : Int64)) <<< ((16 : Int32) &&& 0x3f).toInt64)) ||| (((c6.toInt64) &&& (255 : Int64)) <<< ((8 : Int32) &&& 0x3f).toInt64)))])) _
    refine XS.aloadN X0.here hx rfl (hb hby d3_96) rfl rfl ?_
    show Steps p.tables e below (s₁.setTop (mkF m 97 #[.val (.ref a0), .val (.int (0 : Int32))] [(.ref a0), (.long (((((((((c0.toInt64) &&& (255 : Int64)) <<< ((56 : Int32) &&& 0x3f).toInt64) ||| (((c1.toInt64) &&& (255 : Int64)) <<< ((48 : Int32) &&& 0x3f).toInt64)) ||| (((c2.toInt64) &&& (255 : Int64)) <<< ((40 : Int32) &&& 0x3f).toInt64)) ||| (((c3.toInt64) &&& (255 : Int64)) <<< ((32 : Int32) &&& 0x3f).toInt64)) ||| (((c4.toInt64) &&& (255 : Int64)) <<< ((24 : Int32) &&& 0x3f).toInt64)) ||| (((c5.toInt64) &&& (255 : Int64)) <<< ((16 : Int32) &&& 0x3f).toInt64)) ||| (((c6.toInt64) &&& (255 : Int64)) <<< ((8 : Int32) &&& 0x3f).toInt64)))])) _
    refine XS.iloadN X0.here hx rfl (hb hby d3_97) rfl ?_
    show Steps p.tables e below (s₁.setTop (mkF m 98 #[.val (.ref a0), .val (.int (0 : Int32))] [(.int (0 : Int32)), (.ref a0), (.long (((((((((c0.toInt64) &&& (255 : Int64)) <<< ((56 : Int32) &&& 0x3f).toInt64) ||| (((c1.toInt64) &&& (255 : Int64)) <<< ((48 : Int32) &&& 0x3f).toInt64)) ||| (((c2.toInt64) &&& (255 : Int64)) <<< ((40 : Int32) &&& 0x3f).toInt64)) ||| (((c3.toInt64) &&& (255 : Int64)) <<< ((32 : Int32) &&& 0x3f).toInt64)) ||| (((c4.toInt64) &&& (255 : Int64)) <<< ((24 : Int32) &&& 0x3f).toInt64)) ||| (((c5.toInt64) &&& (255 : Int64)) <<< ((16 : Int32) &&& 0x3f).toInt64)) ||| (((c6.toInt64) &&& (255 : Int64)) <<< ((8 : Int32) &&& 0x3f).toInt64)))])) _
    refine XS.bipush X0.here hx rfl (hb hby d3_98) ?_
    show Steps p.tables e below (s₁.setTop (mkF m 100 #[.val (.ref a0), .val (.int (0 : Int32))] [(.int (7 : Int32)), (.int (0 : Int32)), (.ref a0), (.long (((((((((c0.toInt64) &&& (255 : Int64)) <<< ((56 : Int32) &&& 0x3f).toInt64) ||| (((c1.toInt64) &&& (255 : Int64)) <<< ((48 : Int32) &&& 0x3f).toInt64)) ||| (((c2.toInt64) &&& (255 : Int64)) <<< ((40 : Int32) &&& 0x3f).toInt64)) ||| (((c3.toInt64) &&& (255 : Int64)) <<< ((32 : Int32) &&& 0x3f).toInt64)) ||| (((c4.toInt64) &&& (255 : Int64)) <<< ((24 : Int32) &&& 0x3f).toInt64)) ||| (((c5.toInt64) &&& (255 : Int64)) <<< ((16 : Int32) &&& 0x3f).toInt64)) ||| (((c6.toInt64) &&& (255 : Int64)) <<< ((8 : Int32) &&& 0x3f).toInt64)))])) _
    refine XS.iadd X0.here hx rfl (hb hby d3_100) rfl ?_
    show Steps p.tables e below (s₁.setTop (mkF m 101 #[.val (.ref a0), .val (.int (0 : Int32))] [(.int (7 : Int32)), (.ref a0), (.long (((((((((c0.toInt64) &&& (255 : Int64)) <<< ((56 : Int32) &&& 0x3f).toInt64) ||| (((c1.toInt64) &&& (255 : Int64)) <<< ((48 : Int32) &&& 0x3f).toInt64)) ||| (((c2.toInt64) &&& (255 : Int64)) <<< ((40 : Int32) &&& 0x3f).toInt64)) ||| (((c3.toInt64) &&& (255 : Int64)) <<< ((32 : Int32) &&& 0x3f).toInt64)) ||| (((c4.toInt64) &&& (255 : Int64)) <<< ((24 : Int32) &&& 0x3f).toInt64)) ||| (((c5.toInt64) &&& (255 : Int64)) <<< ((16 : Int32) &&& 0x3f).toInt64)) ||| (((c6.toInt64) &&& (255 : Int64)) <<< ((8 : Int32) &&& 0x3f).toInt64)))])) _
    have hin108 : ¬ ((7 : Int32) < 0 ∨ cl108.slots.size ≤ ((7 : Int32)).toNatClampNeg) := (inb_of S108 ⟨by decide, by decide⟩)
    refine X0.baloadBytes hx (j := (7 : Int32)) (v := (.int c7)) (by rw [e0]; exact Ar108.1) (State.isArrayOf_alike hZ.alike Ar108.2.1) Ar108.2.2 hin108 (H108.at hin108 hb7) (g := (mkF m 101 #[.val (.ref a0), .val (.int (0 : Int32))] [(.int (7 : Int32)), (.ref a0), (.long (((((((((c0.toInt64) &&& (255 : Int64)) <<< ((56 : Int32) &&& 0x3f).toInt64) ||| (((c1.toInt64) &&& (255 : Int64)) <<< ((48 : Int32) &&& 0x3f).toInt64)) ||| (((c2.toInt64) &&& (255 : Int64)) <<< ((40 : Int32) &&& 0x3f).toInt64)) ||| (((c3.toInt64) &&& (255 : Int64)) <<< ((32 : Int32) &&& 0x3f).toInt64)) ||| (((c4.toInt64) &&& (255 : Int64)) <<< ((24 : Int32) &&& 0x3f).toInt64)) ||| (((c5.toInt64) &&& (255 : Int64)) <<< ((16 : Int32) &&& 0x3f).toInt64)) ||| (((c6.toInt64) &&& (255 : Int64)) <<< ((8 : Int32) &&& 0x3f).toInt64)))])) rfl rfl (hb hby d3_101) _ ?_
    show Steps p.tables e below (s₁.setTop (mkF m 102 #[.val (.ref a0), .val (.int (0 : Int32))] [(.int c7), (.long (((((((((c0.toInt64) &&& (255 : Int64)) <<< ((56 : Int32) &&& 0x3f).toInt64) ||| (((c1.toInt64) &&& (255 : Int64)) <<< ((48 : Int32) &&& 0x3f).toInt64)) ||| (((c2.toInt64) &&& (255 : Int64)) <<< ((40 : Int32) &&& 0x3f).toInt64)) ||| (((c3.toInt64) &&& (255 : Int64)) <<< ((32 : Int32) &&& 0x3f).toInt64)) ||| (((c4.toInt64) &&& (255 : Int64)) <<< ((24 : Int32) &&& 0x3f).toInt64)) ||| (((c5.toInt64) &&& (255 : Int64)) <<< ((16 : Int32) &&& 0x3f).toInt64)) ||| (((c6.toInt64) &&& (255 : Int64)) <<< ((8 : Int32) &&& 0x3f).toInt64)))])) _
    refine XS.i2l X0.here hx rfl (hb hby d3_102) rfl ?_
    show Steps p.tables e below (s₁.setTop (mkF m 103 #[.val (.ref a0), .val (.int (0 : Int32))] [(.long (c7.toInt64)), (.long (((((((((c0.toInt64) &&& (255 : Int64)) <<< ((56 : Int32) &&& 0x3f).toInt64) ||| (((c1.toInt64) &&& (255 : Int64)) <<< ((48 : Int32) &&& 0x3f).toInt64)) ||| (((c2.toInt64) &&& (255 : Int64)) <<< ((40 : Int32) &&& 0x3f).toInt64)) ||| (((c3.toInt64) &&& (255 : Int64)) <<< ((32 : Int32) &&& 0x3f).toInt64)) ||| (((c4.toInt64) &&& (255 : Int64)) <<< ((24 : Int32) &&& 0x3f).toInt64)) ||| (((c5.toInt64) &&& (255 : Int64)) <<< ((16 : Int32) &&& 0x3f).toInt64)) ||| (((c6.toInt64) &&& (255 : Int64)) <<< ((8 : Int32) &&& 0x3f).toInt64)))])) _
    refine X0.ldc2Long hx hown (mvT hZ (hw _ (List.mem_of_getElem? (i := 12) rfl))) (g := (mkF m 103 #[.val (.ref a0), .val (.int (0 : Int32))] [(.long (c7.toInt64)), (.long (((((((((c0.toInt64) &&& (255 : Int64)) <<< ((56 : Int32) &&& 0x3f).toInt64) ||| (((c1.toInt64) &&& (255 : Int64)) <<< ((48 : Int32) &&& 0x3f).toInt64)) ||| (((c2.toInt64) &&& (255 : Int64)) <<< ((40 : Int32) &&& 0x3f).toInt64)) ||| (((c3.toInt64) &&& (255 : Int64)) <<< ((32 : Int32) &&& 0x3f).toInt64)) ||| (((c4.toInt64) &&& (255 : Int64)) <<< ((24 : Int32) &&& 0x3f).toInt64)) ||| (((c5.toInt64) &&& (255 : Int64)) <<< ((16 : Int32) &&& 0x3f).toInt64)) ||| (((c6.toInt64) &&& (255 : Int64)) <<< ((8 : Int32) &&& 0x3f).toInt64)))])) rfl (hb hby d3_103) _ ?_
    show Steps p.tables e below (s₁.setTop (mkF m 106 #[.val (.ref a0), .val (.int (0 : Int32))] [(.long (255 : Int64)), (.long (c7.toInt64)), (.long (((((((((c0.toInt64) &&& (255 : Int64)) <<< ((56 : Int32) &&& 0x3f).toInt64) ||| (((c1.toInt64) &&& (255 : Int64)) <<< ((48 : Int32) &&& 0x3f).toInt64)) ||| (((c2.toInt64) &&& (255 : Int64)) <<< ((40 : Int32) &&& 0x3f).toInt64)) ||| (((c3.toInt64) &&& (255 : Int64)) <<< ((32 : Int32) &&& 0x3f).toInt64)) ||| (((c4.toInt64) &&& (255 : Int64)) <<< ((24 : Int32) &&& 0x3f).toInt64)) ||| (((c5.toInt64) &&& (255 : Int64)) <<< ((16 : Int32) &&& 0x3f).toInt64)) ||| (((c6.toInt64) &&& (255 : Int64)) <<< ((8 : Int32) &&& 0x3f).toInt64)))])) _
    refine XS.land X0.here hx rfl (hb hby d3_106) rfl ?_
    show Steps p.tables e below (s₁.setTop (mkF m 107 #[.val (.ref a0), .val (.int (0 : Int32))] [(.long ((c7.toInt64) &&& (255 : Int64))), (.long (((((((((c0.toInt64) &&& (255 : Int64)) <<< ((56 : Int32) &&& 0x3f).toInt64) ||| (((c1.toInt64) &&& (255 : Int64)) <<< ((48 : Int32) &&& 0x3f).toInt64)) ||| (((c2.toInt64) &&& (255 : Int64)) <<< ((40 : Int32) &&& 0x3f).toInt64)) ||| (((c3.toInt64) &&& (255 : Int64)) <<< ((32 : Int32) &&& 0x3f).toInt64)) ||| (((c4.toInt64) &&& (255 : Int64)) <<< ((24 : Int32) &&& 0x3f).toInt64)) ||| (((c5.toInt64) &&& (255 : Int64)) <<< ((16 : Int32) &&& 0x3f).toInt64)) ||| (((c6.toInt64) &&& (255 : Int64)) <<< ((8 : Int32) &&& 0x3f).toInt64)))])) _
    refine XS.lor X0.here hx rfl (hb hby d3_107) rfl ?_
    show Steps p.tables e below (s₁.setTop (mkF m 108 #[.val (.ref a0), .val (.int (0 : Int32))] [(.long ((((((((((c0.toInt64) &&& (255 : Int64)) <<< ((56 : Int32) &&& 0x3f).toInt64) ||| (((c1.toInt64) &&& (255 : Int64)) <<< ((48 : Int32) &&& 0x3f).toInt64)) ||| (((c2.toInt64) &&& (255 : Int64)) <<< ((40 : Int32) &&& 0x3f).toInt64)) ||| (((c3.toInt64) &&& (255 : Int64)) <<< ((32 : Int32) &&& 0x3f).toInt64)) ||| (((c4.toInt64) &&& (255 : Int64)) <<< ((24 : Int32) &&& 0x3f).toInt64)) ||| (((c5.toInt64) &&& (255 : Int64)) <<< ((16 : Int32) &&& 0x3f).toInt64)) ||| (((c6.toInt64) &&& (255 : Int64)) <<< ((8 : Int32) &&& 0x3f).toInt64)) ||| ((c7.toInt64) &&& (255 : Int64))))])) _
    exact retOut X0 hx (t := .long) Bd.returns rfl (Or.inr (Or.inl ⟨rfl, rfl, _, rfl⟩)) (hb hby d3_108) hr
  · show Q_rmg32_0 Z a0 kk vs c0 c1 c2 c3 c4 c5 c6 c7 h0 n0 _ s₁.heap _
    rw [e0]
    exact ⟨rfl, N0, rfl⟩
theorem ef_rmg32_8 (m : MethodId) (x0 : Addr) (x1 : Int32) : entryFrame m #[(.ref x0), (.int x1)] 2 = mkF m 0 #[.val (.ref x0), .val (.int x1)] [] := by first | (simp [entryFrame, mkF, argsToLocals, Value.category]; done) | rfl
def Q_rmg32_8 (Z : State) (a0 : Addr) (kk : ClassId) (vs : List Value) (c0 : Int32) (c1 : Int32) (c2 : Int32) (c3 : Int32) (c4 : Int32) (c5 : Int32) (c6 : Int32) (c7 : Int32) (h0 : Heap) (n0 : Nat) (v : Option Value) (h : Heap) (L : List Loc) : Prop := v = some (.long (own_get c0 c1 c2 c3 c4 c5 c6 c7)) ∧ Fr n0 L ∧ h = h0
set_option maxRecDepth 65536 in
set_option maxHeartbeats 40000000 in
theorem rmg32_8 (l : Launch) (Z : State) (aw : Array Value) (hw : ∀ d ∈ tables_1, d.before aw Z = true) (ws : List Jvm.Cond) (a0 : Addr) (kk : ClassId) (vs : List Value) (c0 : Int32) (c1 : Int32) (c2 : Int32) (c3 : Int32) (c4 : Int32) (c5 : Int32) (c6 : Int32) (c7 : Int32) (h0 : Heap) (n0 : Nat) (Z0 : n0 ≤ h0.size) (V0 : Arv Z h0 a0 kk .byte (32 : Int32) vs (.int (0 : Int32))) (hb0 : vs.getD 8 (.int (0 : Int32)) = .int c0) (hb1 : vs.getD 9 (.int (0 : Int32)) = .int c1) (hb2 : vs.getD 10 (.int (0 : Int32)) = .int c2) (hb3 : vs.getD 11 (.int (0 : Int32)) = .int c3) (hb4 : vs.getD 12 (.int (0 : Int32)) = .int c4) (hb5 : vs.getD 13 (.int (0 : Int32)) = .int c5) (hb6 : vs.getD 14 (.int (0 : Int32)) = .int c6) (hb7 : vs.getD 15 (.int (0 : Int32)) = .int c7) :
    MetFree l (⟨"com/example/countersign/countersign/protocol/PrimitivesFoldPinLaw", "get", "([BI)J"⟩ : MethodName) (head1 (Jvm.Cond.code (⟨"com/example/countersign/countersign/protocol/PrimitivesFoldPinLaw", "get", "([BI)J"⟩ : MethodName) method_4_code 2 (some .long) :: ws) ({ frames := 0, cells := 0, slots := 0, locals := 0 } : Room)) (fun a U => a = #[(.ref a0), (.int (8 : Int32))] ∧ Z.Warmed39 U.vm ∧ U.heap = h0) (fun _ _ _ _ _ => True) (fun _ U oc U' => ∃ v L, oc = .returned v ∧ Q_rmg32_8 Z a0 kk vs c0 c1 c2 c3 c4 c5 c6 c7 h0 n0 v U'.heap L ∧ FrameEnd U oc U' L ({ frames := 0, cells := 0, slots := 0, locals := 0 } : Room).cells ({ frames := 0, cells := 0, slots := 0, locals := 0 } : Room).slots) := by
  refine MetFree.of_bodySF (plainFor_of_name pn_0) hisR ?_
  intro p e s m args below meth c s₁ Bd hml0 hP hK
  obtain ⟨rfl, hZ, hh⟩ := hP
  have hx := Bd.exec
  have hby := Bd.bytes
  have hml : c.maxLocals = 2 := hml0
  have hown : s.vm.findClass "com/example/countersign/countersign/protocol/PrimitivesFoldPinLaw" = some m.cls := findClass_of_methodNamed Bd.named
  have hnm := (name_of_methodNamed Bd.named Bd.method).1
  have X0 : Stand p l e ({ frames := 0, cells := 0, slots := 0, locals := 0 } : Room) s m #[(.ref a0), (.int (8 : Int32))] below meth c s₁ [] 0 0 := Stand.of_body Bd
  have e0 : s₁.heap = h0 := by rw [← hh, Bd.state]; rfl
  have N0 := Fr.nil n0
  have pre0 : ∀ t, Steps p.tables e below (s₁.setTop (mkF m 0 #[.val (.ref a0), .val (.int (8 : Int32))] [])) t → Steps p.tables e below (s₁.setTop (entryFrame m #[(.ref a0), (.int (8 : Int32))] 2)) t := fun t k => castTop (ef_rmg32_8 m a0 (8 : Int32)) k
  obtain ⟨cl101, Ar101, q101, S101, M101, H101, G101⟩ := id V0
  obtain ⟨cl102, Ar102, q102, S102, M102, H102, G102⟩ := id V0
  obtain ⟨cl103, Ar103, q103, S103, M103, H103, G103⟩ := id V0
  obtain ⟨cl104, Ar104, q104, S104, M104, H104, G104⟩ := id V0
  obtain ⟨cl105, Ar105, q105, S105, M105, H105, G105⟩ := id V0
  obtain ⟨cl106, Ar106, q106, S106, M106, H106, G106⟩ := id V0
  obtain ⟨cl107, Ar107, q107, S107, M107, H107, G107⟩ := id V0
  obtain ⟨cl108, Ar108, q108, S108, M108, H108, G108⟩ := id V0
  obtain ⟨fs, hr, hrun, hended, hW, hsame⟩ := X0.leave (v := some (.long ((((((((((c0.toInt64) &&& (255 : Int64)) <<< ((56 : Int32) &&& 0x3f).toInt64) ||| (((c1.toInt64) &&& (255 : Int64)) <<< ((48 : Int32) &&& 0x3f).toInt64)) ||| (((c2.toInt64) &&& (255 : Int64)) <<< ((40 : Int32) &&& 0x3f).toInt64)) ||| (((c3.toInt64) &&& (255 : Int64)) <<< ((32 : Int32) &&& 0x3f).toInt64)) ||| (((c4.toInt64) &&& (255 : Int64)) <<< ((24 : Int32) &&& 0x3f).toInt64)) ||| (((c5.toInt64) &&& (255 : Int64)) <<< ((16 : Int32) &&& 0x3f).toInt64)) ||| (((c6.toInt64) &&& (255 : Int64)) <<< ((8 : Int32) &&& 0x3f).toInt64)) ||| ((c7.toInt64) &&& (255 : Int64))))) (fun h => by rw [Bd.returns] at h; cases h)
  refine ⟨_, _, pre0 _ ?_, hrun, hended, _, _, rfl, ?_, ⟨_, rfl⟩, hW, hsame.mono (by decide) (by decide)⟩
  · show Steps p.tables e below (s₁.setTop (mkF m 0 #[.val (.ref a0), .val (.int (8 : Int32))] [])) _
    refine XS.aloadN X0.here hx rfl (hb hby d3_0) rfl rfl ?_
    show Steps p.tables e below (s₁.setTop (mkF m 1 #[.val (.ref a0), .val (.int (8 : Int32))] [(.ref a0)])) _
    refine XS.iloadN X0.here hx rfl (hb hby d3_1) rfl ?_
    show Steps p.tables e below (s₁.setTop (mkF m 2 #[.val (.ref a0), .val (.int (8 : Int32))] [(.int (8 : Int32)), (.ref a0)])) _
    have hin101 : ¬ ((8 : Int32) < 0 ∨ cl101.slots.size ≤ ((8 : Int32)).toNatClampNeg) := (inb_of S101 ⟨by decide, by decide⟩)
    refine X0.baloadBytes hx (j := (8 : Int32)) (v := (.int c0)) (by rw [e0]; exact Ar101.1) (State.isArrayOf_alike hZ.alike Ar101.2.1) Ar101.2.2 hin101 (H101.at hin101 hb0) (g := (mkF m 2 #[.val (.ref a0), .val (.int (8 : Int32))] [(.int (8 : Int32)), (.ref a0)])) rfl rfl (hb hby d3_2) _ ?_
    show Steps p.tables e below (s₁.setTop (mkF m 3 #[.val (.ref a0), .val (.int (8 : Int32))] [(.int c0)])) _
    refine XS.i2l X0.here hx rfl (hb hby d3_3) rfl ?_
    show Steps p.tables e below (s₁.setTop (mkF m 4 #[.val (.ref a0), .val (.int (8 : Int32))] [(.long (c0.toInt64))])) _
    refine X0.ldc2Long hx hown (mvT hZ (hw _ (List.mem_of_getElem? (i := 12) rfl))) (g := (mkF m 4 #[.val (.ref a0), .val (.int (8 : Int32))] [(.long (c0.toInt64))])) rfl (hb hby d3_4) _ ?_
    show Steps p.tables e below (s₁.setTop (mkF m 7 #[.val (.ref a0), .val (.int (8 : Int32))] [(.long (255 : Int64)), (.long (c0.toInt64))])) _
    refine XS.land X0.here hx rfl (hb hby d3_7) rfl ?_
    show Steps p.tables e below (s₁.setTop (mkF m 8 #[.val (.ref a0), .val (.int (8 : Int32))] [(.long ((c0.toInt64) &&& (255 : Int64)))])) _
    refine XS.bipush X0.here hx rfl (hb hby d3_8) ?_
    show Steps p.tables e below (s₁.setTop (mkF m 10 #[.val (.ref a0), .val (.int (8 : Int32))] [(.int (56 : Int32)), (.long ((c0.toInt64) &&& (255 : Int64)))])) _
    refine XS.lshl X0.here hx rfl (hb hby d3_10) rfl ?_
    show Steps p.tables e below (s₁.setTop (mkF m 11 #[.val (.ref a0), .val (.int (8 : Int32))] [(.long (((c0.toInt64) &&& (255 : Int64)) <<< ((56 : Int32) &&& 0x3f).toInt64))])) _
    refine XS.aloadN X0.here hx rfl (hb hby d3_11) rfl rfl ?_
    show Steps p.tables e below (s₁.setTop (mkF m 12 #[.val (.ref a0), .val (.int (8 : Int32))] [(.ref a0), (.long (((c0.toInt64) &&& (255 : Int64)) <<< ((56 : Int32) &&& 0x3f).toInt64))])) _
    refine XS.iloadN X0.here hx rfl (hb hby d3_12) rfl ?_
    show Steps p.tables e below (s₁.setTop (mkF m 13 #[.val (.ref a0), .val (.int (8 : Int32))] [(.int (8 : Int32)), (.ref a0), (.long (((c0.toInt64) &&& (255 : Int64)) <<< ((56 : Int32) &&& 0x3f).toInt64))])) _
    refine XS.iconst X0.here hx rfl (hb hby d3_13) ?_
    show Steps p.tables e below (s₁.setTop (mkF m 14 #[.val (.ref a0), .val (.int (8 : Int32))] [(.int (1 : Int32)), (.int (8 : Int32)), (.ref a0), (.long (((c0.toInt64) &&& (255 : Int64)) <<< ((56 : Int32) &&& 0x3f).toInt64))])) _
    refine XS.iadd X0.here hx rfl (hb hby d3_14) rfl ?_
    show Steps p.tables e below (s₁.setTop (mkF m 15 #[.val (.ref a0), .val (.int (8 : Int32))] [(.int (9 : Int32)), (.ref a0), (.long (((c0.toInt64) &&& (255 : Int64)) <<< ((56 : Int32) &&& 0x3f).toInt64))])) _
    have hin102 : ¬ ((9 : Int32) < 0 ∨ cl102.slots.size ≤ ((9 : Int32)).toNatClampNeg) := (inb_of S102 ⟨by decide, by decide⟩)
    refine X0.baloadBytes hx (j := (9 : Int32)) (v := (.int c1)) (by rw [e0]; exact Ar102.1) (State.isArrayOf_alike hZ.alike Ar102.2.1) Ar102.2.2 hin102 (H102.at hin102 hb1) (g := (mkF m 15 #[.val (.ref a0), .val (.int (8 : Int32))] [(.int (9 : Int32)), (.ref a0), (.long (((c0.toInt64) &&& (255 : Int64)) <<< ((56 : Int32) &&& 0x3f).toInt64))])) rfl rfl (hb hby d3_15) _ ?_
    show Steps p.tables e below (s₁.setTop (mkF m 16 #[.val (.ref a0), .val (.int (8 : Int32))] [(.int c1), (.long (((c0.toInt64) &&& (255 : Int64)) <<< ((56 : Int32) &&& 0x3f).toInt64))])) _
    refine XS.i2l X0.here hx rfl (hb hby d3_16) rfl ?_
    show Steps p.tables e below (s₁.setTop (mkF m 17 #[.val (.ref a0), .val (.int (8 : Int32))] [(.long (c1.toInt64)), (.long (((c0.toInt64) &&& (255 : Int64)) <<< ((56 : Int32) &&& 0x3f).toInt64))])) _
    refine X0.ldc2Long hx hown (mvT hZ (hw _ (List.mem_of_getElem? (i := 12) rfl))) (g := (mkF m 17 #[.val (.ref a0), .val (.int (8 : Int32))] [(.long (c1.toInt64)), (.long (((c0.toInt64) &&& (255 : Int64)) <<< ((56 : Int32) &&& 0x3f).toInt64))])) rfl (hb hby d3_17) _ ?_
    show Steps p.tables e below (s₁.setTop (mkF m 20 #[.val (.ref a0), .val (.int (8 : Int32))] [(.long (255 : Int64)), (.long (c1.toInt64)), (.long (((c0.toInt64) &&& (255 : Int64)) <<< ((56 : Int32) &&& 0x3f).toInt64))])) _
    refine XS.land X0.here hx rfl (hb hby d3_20) rfl ?_
    show Steps p.tables e below (s₁.setTop (mkF m 21 #[.val (.ref a0), .val (.int (8 : Int32))] [(.long ((c1.toInt64) &&& (255 : Int64))), (.long (((c0.toInt64) &&& (255 : Int64)) <<< ((56 : Int32) &&& 0x3f).toInt64))])) _
    refine XS.bipush X0.here hx rfl (hb hby d3_21) ?_
    show Steps p.tables e below (s₁.setTop (mkF m 23 #[.val (.ref a0), .val (.int (8 : Int32))] [(.int (48 : Int32)), (.long ((c1.toInt64) &&& (255 : Int64))), (.long (((c0.toInt64) &&& (255 : Int64)) <<< ((56 : Int32) &&& 0x3f).toInt64))])) _
    refine XS.lshl X0.here hx rfl (hb hby d3_23) rfl ?_
    show Steps p.tables e below (s₁.setTop (mkF m 24 #[.val (.ref a0), .val (.int (8 : Int32))] [(.long (((c1.toInt64) &&& (255 : Int64)) <<< ((48 : Int32) &&& 0x3f).toInt64)), (.long (((c0.toInt64) &&& (255 : Int64)) <<< ((56 : Int32) &&& 0x3f).toInt64))])) _
    refine XS.lor X0.here hx rfl (hb hby d3_24) rfl ?_
    show Steps p.tables e below (s₁.setTop (mkF m 25 #[.val (.ref a0), .val (.int (8 : Int32))] [(.long ((((c0.toInt64) &&& (255 : Int64)) <<< ((56 : Int32) &&& 0x3f).toInt64) ||| (((c1.toInt64) &&& (255 : Int64)) <<< ((48 : Int32) &&& 0x3f).toInt64)))])) _
    refine XS.aloadN X0.here hx rfl (hb hby d3_25) rfl rfl ?_
    show Steps p.tables e below (s₁.setTop (mkF m 26 #[.val (.ref a0), .val (.int (8 : Int32))] [(.ref a0), (.long ((((c0.toInt64) &&& (255 : Int64)) <<< ((56 : Int32) &&& 0x3f).toInt64) ||| (((c1.toInt64) &&& (255 : Int64)) <<< ((48 : Int32) &&& 0x3f).toInt64)))])) _
    refine XS.iloadN X0.here hx rfl (hb hby d3_26) rfl ?_
    show Steps p.tables e below (s₁.setTop (mkF m 27 #[.val (.ref a0), .val (.int (8 : Int32))] [(.int (8 : Int32)), (.ref a0), (.long ((((c0.toInt64) &&& (255 : Int64)) <<< ((56 : Int32) &&& 0x3f).toInt64) ||| (((c1.toInt64) &&& (255 : Int64)) <<< ((48 : Int32) &&& 0x3f).toInt64)))])) _
    refine XS.iconst X0.here hx rfl (hb hby d3_27) ?_
    show Steps p.tables e below (s₁.setTop (mkF m 28 #[.val (.ref a0), .val (.int (8 : Int32))] [(.int (2 : Int32)), (.int (8 : Int32)), (.ref a0), (.long ((((c0.toInt64) &&& (255 : Int64)) <<< ((56 : Int32) &&& 0x3f).toInt64) ||| (((c1.toInt64) &&& (255 : Int64)) <<< ((48 : Int32) &&& 0x3f).toInt64)))])) _
    refine XS.iadd X0.here hx rfl (hb hby d3_28) rfl ?_
    show Steps p.tables e below (s₁.setTop (mkF m 29 #[.val (.ref a0), .val (.int (8 : Int32))] [(.int (10 : Int32)), (.ref a0), (.long ((((c0.toInt64) &&& (255 : Int64)) <<< ((56 : Int32) &&& 0x3f).toInt64) ||| (((c1.toInt64) &&& (255 : Int64)) <<< ((48 : Int32) &&& 0x3f).toInt64)))])) _
    have hin103 : ¬ ((10 : Int32) < 0 ∨ cl103.slots.size ≤ ((10 : Int32)).toNatClampNeg) := (inb_of S103 ⟨by decide, by decide⟩)
    refine X0.baloadBytes hx (j := (10 : Int32)) (v := (.int c2)) (by rw [e0]; exact Ar103.1) (State.isArrayOf_alike hZ.alike Ar103.2.1) Ar103.2.2 hin103 (H103.at hin103 hb2) (g := (mkF m 29 #[.val (.ref a0), .val (.int (8 : Int32))] [(.int (10 : Int32)), (.ref a0), (.long ((((c0.toInt64) &&& (255 : Int64)) <<< ((56 : Int32) &&& 0x3f).toInt64) ||| (((c1.toInt64) &&& (255 : Int64)) <<< ((48 : Int32) &&& 0x3f).toInt64)))])) rfl rfl (hb hby d3_29) _ ?_
    show Steps p.tables e below (s₁.setTop (mkF m 30 #[.val (.ref a0), .val (.int (8 : Int32))] [(.int c2), (.long ((((c0.toInt64) &&& (255 : Int64)) <<< ((56 : Int32) &&& 0x3f).toInt64) ||| (((c1.toInt64) &&& (255 : Int64)) <<< ((48 : Int32) &&& 0x3f).toInt64)))])) _
    refine XS.i2l X0.here hx rfl (hb hby d3_30) rfl ?_
    show Steps p.tables e below (s₁.setTop (mkF m 31 #[.val (.ref a0), .val (.int (8 : Int32))] [(.long (c2.toInt64)), (.long ((((c0.toInt64) &&& (255 : Int64)) <<< ((56 : Int32) &&& 0x3f).toInt64) ||| (((c1.toInt64) &&& (255 : Int64)) <<< ((48 : Int32) &&& 0x3f).toInt64)))])) _
    refine X0.ldc2Long hx hown (mvT hZ (hw _ (List.mem_of_getElem? (i := 12) rfl))) (g := (mkF m 31 #[.val (.ref a0), .val (.int (8 : Int32))] [(.long (c2.toInt64)), (.long ((((c0.toInt64) &&& (255 : Int64)) <<< ((56 : Int32) &&& 0x3f).toInt64) ||| (((c1.toInt64) &&& (255 : Int64)) <<< ((48 : Int32) &&& 0x3f).toInt64)))])) rfl (hb hby d3_31) _ ?_
    show Steps p.tables e below (s₁.setTop (mkF m 34 #[.val (.ref a0), .val (.int (8 : Int32))] [(.long (255 : Int64)), (.long (c2.toInt64)), (.long ((((c0.toInt64) &&& (255 : Int64)) <<< ((56 : Int32) &&& 0x3f).toInt64) ||| (((c1.toInt64) &&& (255 : Int64)) <<< ((48 : Int32) &&& 0x3f).toInt64)))])) _
    refine XS.land X0.here hx rfl (hb hby d3_34) rfl ?_
    show Steps p.tables e below (s₁.setTop (mkF m 35 #[.val (.ref a0), .val (.int (8 : Int32))] [(.long ((c2.toInt64) &&& (255 : Int64))), (.long ((((c0.toInt64) &&& (255 : Int64)) <<< ((56 : Int32) &&& 0x3f).toInt64) ||| (((c1.toInt64) &&& (255 : Int64)) <<< ((48 : Int32) &&& 0x3f).toInt64)))])) _
    refine XS.bipush X0.here hx rfl (hb hby d3_35) ?_
    show Steps p.tables e below (s₁.setTop (mkF m 37 #[.val (.ref a0), .val (.int (8 : Int32))] [(.int (40 : Int32)), (.long ((c2.toInt64) &&& (255 : Int64))), (.long ((((c0.toInt64) &&& (255 : Int64)) <<< ((56 : Int32) &&& 0x3f).toInt64) ||| (((c1.toInt64) &&& (255 : Int64)) <<< ((48 : Int32) &&& 0x3f).toInt64)))])) _
    refine XS.lshl X0.here hx rfl (hb hby d3_37) rfl ?_
    show Steps p.tables e below (s₁.setTop (mkF m 38 #[.val (.ref a0), .val (.int (8 : Int32))] [(.long (((c2.toInt64) &&& (255 : Int64)) <<< ((40 : Int32) &&& 0x3f).toInt64)), (.long ((((c0.toInt64) &&& (255 : Int64)) <<< ((56 : Int32) &&& 0x3f).toInt64) ||| (((c1.toInt64) &&& (255 : Int64)) <<< ((48 : Int32) &&& 0x3f).toInt64)))])) _
    refine XS.lor X0.here hx rfl (hb hby d3_38) rfl ?_
    show Steps p.tables e below (s₁.setTop (mkF m 39 #[.val (.ref a0), .val (.int (8 : Int32))] [(.long (((((c0.toInt64) &&& (255 : Int64)) <<< ((56 : Int32) &&& 0x3f).toInt64) ||| (((c1.toInt64) &&& (255 : Int64)) <<< ((48 : Int32) &&& 0x3f).toInt64)) ||| (((c2.toInt64) &&& (255 : Int64)) <<< ((40 : Int32) &&& 0x3f).toInt64)))])) _
    refine XS.aloadN X0.here hx rfl (hb hby d3_39) rfl rfl ?_
    show Steps p.tables e below (s₁.setTop (mkF m 40 #[.val (.ref a0), .val (.int (8 : Int32))] [(.ref a0), (.long (((((c0.toInt64) &&& (255 : Int64)) <<< ((56 : Int32) &&& 0x3f).toInt64) ||| (((c1.toInt64) &&& (255 : Int64)) <<< ((48 : Int32) &&& 0x3f).toInt64)) ||| (((c2.toInt64) &&& (255 : Int64)) <<< ((40 : Int32) &&& 0x3f).toInt64)))])) _
    refine XS.iloadN X0.here hx rfl (hb hby d3_40) rfl ?_
    show Steps p.tables e below (s₁.setTop (mkF m 41 #[.val (.ref a0), .val (.int (8 : Int32))] [(.int (8 : Int32)), (.ref a0), (.long (((((c0.toInt64) &&& (255 : Int64)) <<< ((56 : Int32) &&& 0x3f).toInt64) ||| (((c1.toInt64) &&& (255 : Int64)) <<< ((48 : Int32) &&& 0x3f).toInt64)) ||| (((c2.toInt64) &&& (255 : Int64)) <<< ((40 : Int32) &&& 0x3f).toInt64)))])) _
    refine XS.iconst X0.here hx rfl (hb hby d3_41) ?_
    show Steps p.tables e below (s₁.setTop (mkF m 42 #[.val (.ref a0), .val (.int (8 : Int32))] [(.int (3 : Int32)), (.int (8 : Int32)), (.ref a0), (.long (((((c0.toInt64) &&& (255 : Int64)) <<< ((56 : Int32) &&& 0x3f).toInt64) ||| (((c1.toInt64) &&& (255 : Int64)) <<< ((48 : Int32) &&& 0x3f).toInt64)) ||| (((c2.toInt64) &&& (255 : Int64)) <<< ((40 : Int32) &&& 0x3f).toInt64)))])) _
    refine XS.iadd X0.here hx rfl (hb hby d3_42) rfl ?_
    show Steps p.tables e below (s₁.setTop (mkF m 43 #[.val (.ref a0), .val (.int (8 : Int32))] [(.int (11 : Int32)), (.ref a0), (.long (((((c0.toInt64) &&& (255 : Int64)) <<< ((56 : Int32) &&& 0x3f).toInt64) ||| (((c1.toInt64) &&& (255 : Int64)) <<< ((48 : Int32) &&& 0x3f).toInt64)) ||| (((c2.toInt64) &&& (255 : Int64)) <<< ((40 : Int32) &&& 0x3f).toInt64)))])) _
    have hin104 : ¬ ((11 : Int32) < 0 ∨ cl104.slots.size ≤ ((11 : Int32)).toNatClampNeg) := (inb_of S104 ⟨by decide, by decide⟩)
    refine X0.baloadBytes hx (j := (11 : Int32)) (v := (.int c3)) (by rw [e0]; exact Ar104.1) (State.isArrayOf_alike hZ.alike Ar104.2.1) Ar104.2.2 hin104 (H104.at hin104 hb3) (g := (mkF m 43 #[.val (.ref a0), .val (.int (8 : Int32))] [(.int (11 : Int32)), (.ref a0), (.long (((((c0.toInt64) &&& (255 : Int64)) <<< ((56 : Int32) &&& 0x3f).toInt64) ||| (((c1.toInt64) &&& (255 : Int64)) <<< ((48 : Int32) &&& 0x3f).toInt64)) ||| (((c2.toInt64) &&& (255 : Int64)) <<< ((40 : Int32) &&& 0x3f).toInt64)))])) rfl rfl (hb hby d3_43) _ ?_
    show Steps p.tables e below (s₁.setTop (mkF m 44 #[.val (.ref a0), .val (.int (8 : Int32))] [(.int c3), (.long (((((c0.toInt64) &&& (255 : Int64)) <<< ((56 : Int32) &&& 0x3f).toInt64) ||| (((c1.toInt64) &&& (255 : Int64)) <<< ((48 : Int32) &&& 0x3f).toInt64)) ||| (((c2.toInt64) &&& (255 : Int64)) <<< ((40 : Int32) &&& 0x3f).toInt64)))])) _
    refine XS.i2l X0.here hx rfl (hb hby d3_44) rfl ?_
    show Steps p.tables e below (s₁.setTop (mkF m 45 #[.val (.ref a0), .val (.int (8 : Int32))] [(.long (c3.toInt64)), (.long (((((c0.toInt64) &&& (255 : Int64)) <<< ((56 : Int32) &&& 0x3f).toInt64) ||| (((c1.toInt64) &&& (255 : Int64)) <<< ((48 : Int32) &&& 0x3f).toInt64)) ||| (((c2.toInt64) &&& (255 : Int64)) <<< ((40 : Int32) &&& 0x3f).toInt64)))])) _
    refine X0.ldc2Long hx hown (mvT hZ (hw _ (List.mem_of_getElem? (i := 12) rfl))) (g := (mkF m 45 #[.val (.ref a0), .val (.int (8 : Int32))] [(.long (c3.toInt64)), (.long (((((c0.toInt64) &&& (255 : Int64)) <<< ((56 : Int32) &&& 0x3f).toInt64) ||| (((c1.toInt64) &&& (255 : Int64)) <<< ((48 : Int32) &&& 0x3f).toInt64)) ||| (((c2.toInt64) &&& (255 : Int64)) <<< ((40 : Int32) &&& 0x3f).toInt64)))])) rfl (hb hby d3_45) _ ?_
    show Steps p.tables e below (s₁.setTop (mkF m 48 #[.val (.ref a0), .val (.int (8 : Int32))] [(.long (255 : Int64)), (.long (c3.toInt64)), (.long (((((c0.toInt64) &&& (255 : Int64)) <<< ((56 : Int32) &&& 0x3f).toInt64) ||| (((c1.toInt64) &&& (255 : Int64)) <<< ((48 : Int32) &&& 0x3f).toInt64)) ||| (((c2.toInt64) &&& (255 : Int64)) <<< ((40 : Int32) &&& 0x3f).toInt64)))])) _
    refine XS.land X0.here hx rfl (hb hby d3_48) rfl ?_
    show Steps p.tables e below (s₁.setTop (mkF m 49 #[.val (.ref a0), .val (.int (8 : Int32))] [(.long ((c3.toInt64) &&& (255 : Int64))), (.long (((((c0.toInt64) &&& (255 : Int64)) <<< ((56 : Int32) &&& 0x3f).toInt64) ||| (((c1.toInt64) &&& (255 : Int64)) <<< ((48 : Int32) &&& 0x3f).toInt64)) ||| (((c2.toInt64) &&& (255 : Int64)) <<< ((40 : Int32) &&& 0x3f).toInt64)))])) _
    refine XS.bipush X0.here hx rfl (hb hby d3_49) ?_
    show Steps p.tables e below (s₁.setTop (mkF m 51 #[.val (.ref a0), .val (.int (8 : Int32))] [(.int (32 : Int32)), (.long ((c3.toInt64) &&& (255 : Int64))), (.long (((((c0.toInt64) &&& (255 : Int64)) <<< ((56 : Int32) &&& 0x3f).toInt64) ||| (((c1.toInt64) &&& (255 : Int64)) <<< ((48 : Int32) &&& 0x3f).toInt64)) ||| (((c2.toInt64) &&& (255 : Int64)) <<< ((40 : Int32) &&& 0x3f).toInt64)))])) _
    refine XS.lshl X0.here hx rfl (hb hby d3_51) rfl ?_
    show Steps p.tables e below (s₁.setTop (mkF m 52 #[.val (.ref a0), .val (.int (8 : Int32))] [(.long (((c3.toInt64) &&& (255 : Int64)) <<< ((32 : Int32) &&& 0x3f).toInt64)), (.long (((((c0.toInt64) &&& (255 : Int64)) <<< ((56 : Int32) &&& 0x3f).toInt64) ||| (((c1.toInt64) &&& (255 : Int64)) <<< ((48 : Int32) &&& 0x3f).toInt64)) ||| (((c2.toInt64) &&& (255 : Int64)) <<< ((40 : Int32) &&& 0x3f).toInt64)))])) _
    refine XS.lor X0.here hx rfl (hb hby d3_52) rfl ?_
    show Steps p.tables e below (s₁.setTop (mkF m 53 #[.val (.ref a0), .val (.int (8 : Int32))] [(.long ((((((c0.toInt64) &&& (255 : Int64)) <<< ((56 : Int32) &&& 0x3f).toInt64) ||| (((c1.toInt64) &&& (255 : Int64)) <<< ((48 : Int32) &&& 0x3f).toInt64)) ||| (((c2.toInt64) &&& (255 : Int64)) <<< ((40 : Int32) &&& 0x3f).toInt64)) ||| (((c3.toInt64) &&& (255 : Int64)) <<< ((32 : Int32) &&& 0x3f).toInt64)))])) _
    refine XS.aloadN X0.here hx rfl (hb hby d3_53) rfl rfl ?_
    show Steps p.tables e below (s₁.setTop (mkF m 54 #[.val (.ref a0), .val (.int (8 : Int32))] [(.ref a0), (.long ((((((c0.toInt64) &&& (255 : Int64)) <<< ((56 : Int32) &&& 0x3f).toInt64) ||| (((c1.toInt64) &&& (255 : Int64)) <<< ((48 : Int32) &&& 0x3f).toInt64)) ||| (((c2.toInt64) &&& (255 : Int64)) <<< ((40 : Int32) &&& 0x3f).toInt64)) ||| (((c3.toInt64) &&& (255 : Int64)) <<< ((32 : Int32) &&& 0x3f).toInt64)))])) _
    refine XS.iloadN X0.here hx rfl (hb hby d3_54) rfl ?_
    show Steps p.tables e below (s₁.setTop (mkF m 55 #[.val (.ref a0), .val (.int (8 : Int32))] [(.int (8 : Int32)), (.ref a0), (.long ((((((c0.toInt64) &&& (255 : Int64)) <<< ((56 : Int32) &&& 0x3f).toInt64) ||| (((c1.toInt64) &&& (255 : Int64)) <<< ((48 : Int32) &&& 0x3f).toInt64)) ||| (((c2.toInt64) &&& (255 : Int64)) <<< ((40 : Int32) &&& 0x3f).toInt64)) ||| (((c3.toInt64) &&& (255 : Int64)) <<< ((32 : Int32) &&& 0x3f).toInt64)))])) _
    refine XS.iconst X0.here hx rfl (hb hby d3_55) ?_
    show Steps p.tables e below (s₁.setTop (mkF m 56 #[.val (.ref a0), .val (.int (8 : Int32))] [(.int (4 : Int32)), (.int (8 : Int32)), (.ref a0), (.long ((((((c0.toInt64) &&& (255 : Int64)) <<< ((56 : Int32) &&& 0x3f).toInt64) ||| (((c1.toInt64) &&& (255 : Int64)) <<< ((48 : Int32) &&& 0x3f).toInt64)) ||| (((c2.toInt64) &&& (255 : Int64)) <<< ((40 : Int32) &&& 0x3f).toInt64)) ||| (((c3.toInt64) &&& (255 : Int64)) <<< ((32 : Int32) &&& 0x3f).toInt64)))])) _
    refine XS.iadd X0.here hx rfl (hb hby d3_56) rfl ?_
    show Steps p.tables e below (s₁.setTop (mkF m 57 #[.val (.ref a0), .val (.int (8 : Int32))] [(.int (12 : Int32)), (.ref a0), (.long ((((((c0.toInt64) &&& (255 : Int64)) <<< ((56 : Int32) &&& 0x3f).toInt64) ||| (((c1.toInt64) &&& (255 : Int64)) <<< ((48 : Int32) &&& 0x3f).toInt64)) ||| (((c2.toInt64) &&& (255 : Int64)) <<< ((40 : Int32) &&& 0x3f).toInt64)) ||| (((c3.toInt64) &&& (255 : Int64)) <<< ((32 : Int32) &&& 0x3f).toInt64)))])) _
    have hin105 : ¬ ((12 : Int32) < 0 ∨ cl105.slots.size ≤ ((12 : Int32)).toNatClampNeg) := (inb_of S105 ⟨by decide, by decide⟩)
    refine X0.baloadBytes hx (j := (12 : Int32)) (v := (.int c4)) (by rw [e0]; exact Ar105.1) (State.isArrayOf_alike hZ.alike Ar105.2.1) Ar105.2.2 hin105 (H105.at hin105 hb4) (g := (mkF m 57 #[.val (.ref a0), .val (.int (8 : Int32))] [(.int (12 : Int32)), (.ref a0), (.long ((((((c0.toInt64) &&& (255 : Int64)) <<< ((56 : Int32) &&& 0x3f).toInt64) ||| (((c1.toInt64) &&& (255 : Int64)) <<< ((48 : Int32) &&& 0x3f).toInt64)) ||| (((c2.toInt64) &&& (255 : Int64)) <<< ((40 : Int32) &&& 0x3f).toInt64)) ||| (((c3.toInt64) &&& (255 : Int64)) <<< ((32 : Int32) &&& 0x3f).toInt64)))])) rfl rfl (hb hby d3_57) _ ?_
    show Steps p.tables e below (s₁.setTop (mkF m 58 #[.val (.ref a0), .val (.int (8 : Int32))] [(.int c4), (.long ((((((c0.toInt64) &&& (255 : Int64)) <<< ((56 : Int32) &&& 0x3f).toInt64) ||| (((c1.toInt64) &&& (255 : Int64)) <<< ((48 : Int32) &&& 0x3f).toInt64)) ||| (((c2.toInt64) &&& (255 : Int64)) <<< ((40 : Int32) &&& 0x3f).toInt64)) ||| (((c3.toInt64) &&& (255 : Int64)) <<< ((32 : Int32) &&& 0x3f).toInt64)))])) _
    refine XS.i2l X0.here hx rfl (hb hby d3_58) rfl ?_
    show Steps p.tables e below (s₁.setTop (mkF m 59 #[.val (.ref a0), .val (.int (8 : Int32))] [(.long (c4.toInt64)), (.long ((((((c0.toInt64) &&& (255 : Int64)) <<< ((56 : Int32) &&& 0x3f).toInt64) ||| (((c1.toInt64) &&& (255 : Int64)) <<< ((48 : Int32) &&& 0x3f).toInt64)) ||| (((c2.toInt64) &&& (255 : Int64)) <<< ((40 : Int32) &&& 0x3f).toInt64)) ||| (((c3.toInt64) &&& (255 : Int64)) <<< ((32 : Int32) &&& 0x3f).toInt64)))])) _
    refine X0.ldc2Long hx hown (mvT hZ (hw _ (List.mem_of_getElem? (i := 12) rfl))) (g := (mkF m 59 #[.val (.ref a0), .val (.int (8 : Int32))] [(.long (c4.toInt64)), (.long ((((((c0.toInt64) &&& (255 : Int64)) <<< ((56 : Int32) &&& 0x3f).toInt64) ||| (((c1.toInt64) &&& (255 : Int64)) <<< ((48 : Int32) &&& 0x3f).toInt64)) ||| (((c2.toInt64) &&& (255 : Int64)) <<< ((40 : Int32) &&& 0x3f).toInt64)) ||| (((c3.toInt64) &&& (255 : Int64)) <<< ((32 : Int32) &&& 0x3f).toInt64)))])) rfl (hb hby d3_59) _ ?_
    show Steps p.tables e below (s₁.setTop (mkF m 62 #[.val (.ref a0), .val (.int (8 : Int32))] [(.long (255 : Int64)), (.long (c4.toInt64)), (.long ((((((c0.toInt64) &&& (255 : Int64)) <<< ((56 : Int32) &&& 0x3f).toInt64) ||| (((c1.toInt64) &&& (255 : Int64)) <<< ((48 : Int32) &&& 0x3f).toInt64)) ||| (((c2.toInt64) &&& (255 : Int64)) <<< ((40 : Int32) &&& 0x3f).toInt64)) ||| (((c3.toInt64) &&& (255 : Int64)) <<< ((32 : Int32) &&& 0x3f).toInt64)))])) _
    refine XS.land X0.here hx rfl (hb hby d3_62) rfl ?_
    show Steps p.tables e below (s₁.setTop (mkF m 63 #[.val (.ref a0), .val (.int (8 : Int32))] [(.long ((c4.toInt64) &&& (255 : Int64))), (.long ((((((c0.toInt64) &&& (255 : Int64)) <<< ((56 : Int32) &&& 0x3f).toInt64) ||| (((c1.toInt64) &&& (255 : Int64)) <<< ((48 : Int32) &&& 0x3f).toInt64)) ||| (((c2.toInt64) &&& (255 : Int64)) <<< ((40 : Int32) &&& 0x3f).toInt64)) ||| (((c3.toInt64) &&& (255 : Int64)) <<< ((32 : Int32) &&& 0x3f).toInt64)))])) _
    refine XS.bipush X0.here hx rfl (hb hby d3_63) ?_
    show Steps p.tables e below (s₁.setTop (mkF m 65 #[.val (.ref a0), .val (.int (8 : Int32))] [(.int (24 : Int32)), (.long ((c4.toInt64) &&& (255 : Int64))), (.long ((((((c0.toInt64) &&& (255 : Int64)) <<< ((56 : Int32) &&& 0x3f).toInt64) ||| (((c1.toInt64) &&& (255 : Int64)) <<< ((48 : Int32) &&& 0x3f).toInt64)) ||| (((c2.toInt64) &&& (255 : Int64)) <<< ((40 : Int32) &&& 0x3f).toInt64)) ||| (((c3.toInt64) &&& (255 : Int64)) <<< ((32 : Int32) &&& 0x3f).toInt64)))])) _
    refine XS.lshl X0.here hx rfl (hb hby d3_65) rfl ?_
    show Steps p.tables e below (s₁.setTop (mkF m 66 #[.val (.ref a0), .val (.int (8 : Int32))] [(.long (((c4.toInt64) &&& (255 : Int64)) <<< ((24 : Int32) &&& 0x3f).toInt64)), (.long ((((((c0.toInt64) &&& (255 : Int64)) <<< ((56 : Int32) &&& 0x3f).toInt64) ||| (((c1.toInt64) &&& (255 : Int64)) <<< ((48 : Int32) &&& 0x3f).toInt64)) ||| (((c2.toInt64) &&& (255 : Int64)) <<< ((40 : Int32) &&& 0x3f).toInt64)) ||| (((c3.toInt64) &&& (255 : Int64)) <<< ((32 : Int32) &&& 0x3f).toInt64)))])) _
    refine XS.lor X0.here hx rfl (hb hby d3_66) rfl ?_
    show Steps p.tables e below (s₁.setTop (mkF m 67 #[.val (.ref a0), .val (.int (8 : Int32))] [(.long (((((((c0.toInt64) &&& (255 : Int64)) <<< ((56 : Int32) &&& 0x3f).toInt64) ||| (((c1.toInt64) &&& (255 : Int64)) <<< ((48 : Int32) &&& 0x3f).toInt64)) ||| (((c2.toInt64) &&& (255 : Int64)) <<< ((40 : Int32) &&& 0x3f).toInt64)) ||| (((c3.toInt64) &&& (255 : Int64)) <<< ((32 : Int32) &&& 0x3f).toInt64)) ||| (((c4.toInt64) &&& (255 : Int64)) <<< ((24 : Int32) &&& 0x3f).toInt64)))])) _
    refine XS.aloadN X0.here hx rfl (hb hby d3_67) rfl rfl ?_
    show Steps p.tables e below (s₁.setTop (mkF m 68 #[.val (.ref a0), .val (.int (8 : Int32))] [(.ref a0), (.long (((((((c0.toInt64) &&& (255 : Int64)) <<< ((56 : Int32) &&& 0x3f).toInt64) ||| (((c1.toInt64) &&& (255 : Int64)) <<< ((48 : Int32) &&& 0x3f).toInt64)) ||| (((c2.toInt64) &&& (255 : Int64)) <<< ((40 : Int32) &&& 0x3f).toInt64)) ||| (((c3.toInt64) &&& (255 : Int64)) <<< ((32 : Int32) &&& 0x3f).toInt64)) ||| (((c4.toInt64) &&& (255 : Int64)) <<< ((24 : Int32) &&& 0x3f).toInt64)))])) _
    refine XS.iloadN X0.here hx rfl (hb hby d3_68) rfl ?_
    show Steps p.tables e below (s₁.setTop (mkF m 69 #[.val (.ref a0), .val (.int (8 : Int32))] [(.int (8 : Int32)), (.ref a0), (.long (((((((c0.toInt64) &&& (255 : Int64)) <<< ((56 : Int32) &&& 0x3f).toInt64) ||| (((c1.toInt64) &&& (255 : Int64)) <<< ((48 : Int32) &&& 0x3f).toInt64)) ||| (((c2.toInt64) &&& (255 : Int64)) <<< ((40 : Int32) &&& 0x3f).toInt64)) ||| (((c3.toInt64) &&& (255 : Int64)) <<< ((32 : Int32) &&& 0x3f).toInt64)) ||| (((c4.toInt64) &&& (255 : Int64)) <<< ((24 : Int32) &&& 0x3f).toInt64)))])) _
    refine XS.iconst X0.here hx rfl (hb hby d3_69) ?_
    show Steps p.tables e below (s₁.setTop (mkF m 70 #[.val (.ref a0), .val (.int (8 : Int32))] [(.int (5 : Int32)), (.int (8 : Int32)), (.ref a0), (.long (((((((c0.toInt64) &&& (255 : Int64)) <<< ((56 : Int32) &&& 0x3f).toInt64) ||| (((c1.toInt64) &&& (255 : Int64)) <<< ((48 : Int32) &&& 0x3f).toInt64)) ||| (((c2.toInt64) &&& (255 : Int64)) <<< ((40 : Int32) &&& 0x3f).toInt64)) ||| (((c3.toInt64) &&& (255 : Int64)) <<< ((32 : Int32) &&& 0x3f).toInt64)) ||| (((c4.toInt64) &&& (255 : Int64)) <<< ((24 : Int32) &&& 0x3f).toInt64)))])) _
    refine XS.iadd X0.here hx rfl (hb hby d3_70) rfl ?_
    show Steps p.tables e below (s₁.setTop (mkF m 71 #[.val (.ref a0), .val (.int (8 : Int32))] [(.int (13 : Int32)), (.ref a0), (.long (((((((c0.toInt64) &&& (255 : Int64)) <<< ((56 : Int32) &&& 0x3f).toInt64) ||| (((c1.toInt64) &&& (255 : Int64)) <<< ((48 : Int32) &&& 0x3f).toInt64)) ||| (((c2.toInt64) &&& (255 : Int64)) <<< ((40 : Int32) &&& 0x3f).toInt64)) ||| (((c3.toInt64) &&& (255 : Int64)) <<< ((32 : Int32) &&& 0x3f).toInt64)) ||| (((c4.toInt64) &&& (255 : Int64)) <<< ((24 : Int32) &&& 0x3f).toInt64)))])) _
    have hin106 : ¬ ((13 : Int32) < 0 ∨ cl106.slots.size ≤ ((13 : Int32)).toNatClampNeg) := (inb_of S106 ⟨by decide, by decide⟩)
    refine X0.baloadBytes hx (j := (13 : Int32)) (v := (.int c5)) (by rw [e0]; exact Ar106.1) (State.isArrayOf_alike hZ.alike Ar106.2.1) Ar106.2.2 hin106 (H106.at hin106 hb5) (g := (mkF m 71 #[.val (.ref a0), .val (.int (8 : Int32))] [(.int (13 : Int32)), (.ref a0), (.long (((((((c0.toInt64) &&& (255 : Int64)) <<< ((56 : Int32) &&& 0x3f).toInt64) ||| (((c1.toInt64) &&& (255 : Int64)) <<< ((48 : Int32) &&& 0x3f).toInt64)) ||| (((c2.toInt64) &&& (255 : Int64)) <<< ((40 : Int32) &&& 0x3f).toInt64)) ||| (((c3.toInt64) &&& (255 : Int64)) <<< ((32 : Int32) &&& 0x3f).toInt64)) ||| (((c4.toInt64) &&& (255 : Int64)) <<< ((24 : Int32) &&& 0x3f).toInt64)))])) rfl rfl (hb hby d3_71) _ ?_
    show Steps p.tables e below (s₁.setTop (mkF m 72 #[.val (.ref a0), .val (.int (8 : Int32))] [(.int c5), (.long (((((((c0.toInt64) &&& (255 : Int64)) <<< ((56 : Int32) &&& 0x3f).toInt64) ||| (((c1.toInt64) &&& (255 : Int64)) <<< ((48 : Int32) &&& 0x3f).toInt64)) ||| (((c2.toInt64) &&& (255 : Int64)) <<< ((40 : Int32) &&& 0x3f).toInt64)) ||| (((c3.toInt64) &&& (255 : Int64)) <<< ((32 : Int32) &&& 0x3f).toInt64)) ||| (((c4.toInt64) &&& (255 : Int64)) <<< ((24 : Int32) &&& 0x3f).toInt64)))])) _
    refine XS.i2l X0.here hx rfl (hb hby d3_72) rfl ?_
    show Steps p.tables e below (s₁.setTop (mkF m 73 #[.val (.ref a0), .val (.int (8 : Int32))] [(.long (c5.toInt64)), (.long (((((((c0.toInt64) &&& (255 : Int64)) <<< ((56 : Int32) &&& 0x3f).toInt64) ||| (((c1.toInt64) &&& (255 : Int64)) <<< ((48 : Int32) &&& 0x3f).toInt64)) ||| (((c2.toInt64) &&& (255 : Int64)) <<< ((40 : Int32) &&& 0x3f).toInt64)) ||| (((c3.toInt64) &&& (255 : Int64)) <<< ((32 : Int32) &&& 0x3f).toInt64)) ||| (((c4.toInt64) &&& (255 : Int64)) <<< ((24 : Int32) &&& 0x3f).toInt64)))])) _
    refine X0.ldc2Long hx hown (mvT hZ (hw _ (List.mem_of_getElem? (i := 12) rfl))) (g := (mkF m 73 #[.val (.ref a0), .val (.int (8 : Int32))] [(.long (c5.toInt64)), (.long (((((((c0.toInt64) &&& (255 : Int64)) <<< ((56 : Int32) &&& 0x3f).toInt64) ||| (((c1.toInt64) &&& (255 : Int64)) <<< ((48 : Int32) &&& 0x3f).toInt64)) ||| (((c2.toInt64) &&& (255 : Int64)) <<< ((40 : Int32) &&& 0x3f).toInt64)) ||| (((c3.toInt64) &&& (255 : Int64)) <<< ((32 : Int32) &&& 0x3f).toInt64)) ||| (((c4.toInt64) &&& (255 : Int64)) <<< ((24 : Int32) &&& 0x3f).toInt64)))])) rfl (hb hby d3_73) _ ?_
    show Steps p.tables e below (s₁.setTop (mkF m 76 #[.val (.ref a0), .val (.int (8 : Int32))] [(.long (255 : Int64)), (.long (c5.toInt64)), (.long (((((((c0.toInt64) &&& (255 : Int64)) <<< ((56 : Int32) &&& 0x3f).toInt64) ||| (((c1.toInt64) &&& (255 : Int64)) <<< ((48 : Int32) &&& 0x3f).toInt64)) ||| (((c2.toInt64) &&& (255 : Int64)) <<< ((40 : Int32) &&& 0x3f).toInt64)) ||| (((c3.toInt64) &&& (255 : Int64)) <<< ((32 : Int32) &&& 0x3f).toInt64)) ||| (((c4.toInt64) &&& (255 : Int64)) <<< ((24 : Int32) &&& 0x3f).toInt64)))])) _
    refine XS.land X0.here hx rfl (hb hby d3_76) rfl ?_
    show Steps p.tables e below (s₁.setTop (mkF m 77 #[.val (.ref a0), .val (.int (8 : Int32))] [(.long ((c5.toInt64) &&& (255 : Int64))), (.long (((((((c0.toInt64) &&& (255 : Int64)) <<< ((56 : Int32) &&& 0x3f).toInt64) ||| (((c1.toInt64) &&& (255 : Int64)) <<< ((48 : Int32) &&& 0x3f).toInt64)) ||| (((c2.toInt64) &&& (255 : Int64)) <<< ((40 : Int32) &&& 0x3f).toInt64)) ||| (((c3.toInt64) &&& (255 : Int64)) <<< ((32 : Int32) &&& 0x3f).toInt64)) ||| (((c4.toInt64) &&& (255 : Int64)) <<< ((24 : Int32) &&& 0x3f).toInt64)))])) _
    refine XS.bipush X0.here hx rfl (hb hby d3_77) ?_
    show Steps p.tables e below (s₁.setTop (mkF m 79 #[.val (.ref a0), .val (.int (8 : Int32))] [(.int (16 : Int32)), (.long ((c5.toInt64) &&& (255 : Int64))), (.long (((((((c0.toInt64) &&& (255 : Int64)) <<< ((56 : Int32) &&& 0x3f).toInt64) ||| (((c1.toInt64) &&& (255 : Int64)) <<< ((48 : Int32) &&& 0x3f).toInt64)) ||| (((c2.toInt64) &&& (255 : Int64)) <<< ((40 : Int32) &&& 0x3f).toInt64)) ||| (((c3.toInt64) &&& (255 : Int64)) <<< ((32 : Int32) &&& 0x3f).toInt64)) ||| (((c4.toInt64) &&& (255 : Int64)) <<< ((24 : Int32) &&& 0x3f).toInt64)))])) _
    refine XS.lshl X0.here hx rfl (hb hby d3_79) rfl ?_
    show Steps p.tables e below (s₁.setTop (mkF m 80 #[.val (.ref a0), .val (.int (8 : Int32))] [(.long (((c5.toInt64) &&& (255 : Int64)) <<< ((16 : Int32) &&& 0x3f).toInt64)), (.long (((((((c0.toInt64) &&& (255 : Int64)) <<< ((56 : Int32) &&& 0x3f).toInt64) ||| (((c1.toInt64) &&& (255 : Int64)) <<< ((48 : Int32) &&& 0x3f).toInt64)) ||| (((c2.toInt64) &&& (255 : Int64)) <<< ((40 : Int32) &&& 0x3f).toInt64)) ||| (((c3.toInt64) &&& (255 : Int64)) <<< ((32 : Int32) &&& 0x3f).toInt64)) ||| (((c4.toInt64) &&& (255 : Int64)) <<< ((24 : Int32) &&& 0x3f).toInt64)))])) _
    refine XS.lor X0.here hx rfl (hb hby d3_80) rfl ?_
    show Steps p.tables e below (s₁.setTop (mkF m 81 #[.val (.ref a0), .val (.int (8 : Int32))] [(.long ((((((((c0.toInt64) &&& (255 : Int64)) <<< ((56 : Int32) &&& 0x3f).toInt64) ||| (((c1.toInt64) &&& (255 : Int64)) <<< ((48 : Int32) &&& 0x3f).toInt64)) ||| (((c2.toInt64) &&& (255 : Int64)) <<< ((40 : Int32) &&& 0x3f).toInt64)) ||| (((c3.toInt64) &&& (255 : Int64)) <<< ((32 : Int32) &&& 0x3f).toInt64)) ||| (((c4.toInt64) &&& (255 : Int64)) <<< ((24 : Int32) &&& 0x3f).toInt64)) ||| (((c5.toInt64) &&& (255 : Int64)) <<< ((16 : Int32) &&& 0x3f).toInt64)))])) _
    refine XS.aloadN X0.here hx rfl (hb hby d3_81) rfl rfl ?_
    show Steps p.tables e below (s₁.setTop (mkF m 82 #[.val (.ref a0), .val (.int (8 : Int32))] [(.ref a0), (.long ((((((((c0.toInt64) &&& (255 : Int64)) <<< ((56 : Int32) &&& 0x3f).toInt64) ||| (((c1.toInt64) &&& (255 : Int64)) <<< ((48 : Int32) &&& 0x3f).toInt64)) ||| (((c2.toInt64) &&& (255 : Int64)) <<< ((40 : Int32) &&& 0x3f).toInt64)) ||| (((c3.toInt64) &&& (255 : Int64)) <<< ((32 : Int32) &&& 0x3f).toInt64)) ||| (((c4.toInt64) &&& (255 : Int64)) <<< ((24 : Int32) &&& 0x3f).toInt64)) ||| (((c5.toInt64) &&& (255 : Int64)) <<< ((16 : Int32) &&& 0x3f).toInt64)))])) _
    refine XS.iloadN X0.here hx rfl (hb hby d3_82) rfl ?_
    show Steps p.tables e below (s₁.setTop (mkF m 83 #[.val (.ref a0), .val (.int (8 : Int32))] [(.int (8 : Int32)), (.ref a0), (.long ((((((((c0.toInt64) &&& (255 : Int64)) <<< ((56 : Int32) &&& 0x3f).toInt64) ||| (((c1.toInt64) &&& (255 : Int64)) <<< ((48 : Int32) &&& 0x3f).toInt64)) ||| (((c2.toInt64) &&& (255 : Int64)) <<< ((40 : Int32) &&& 0x3f).toInt64)) ||| (((c3.toInt64) &&& (255 : Int64)) <<< ((32 : Int32) &&& 0x3f).toInt64)) ||| (((c4.toInt64) &&& (255 : Int64)) <<< ((24 : Int32) &&& 0x3f).toInt64)) ||| (((c5.toInt64) &&& (255 : Int64)) <<< ((16 : Int32) &&& 0x3f).toInt64)))])) _
    refine XS.bipush X0.here hx rfl (hb hby d3_83) ?_
    show Steps p.tables e below (s₁.setTop (mkF m 85 #[.val (.ref a0), .val (.int (8 : Int32))] [(.int (6 : Int32)), (.int (8 : Int32)), (.ref a0), (.long ((((((((c0.toInt64) &&& (255 : Int64)) <<< ((56 : Int32) &&& 0x3f).toInt64) ||| (((c1.toInt64) &&& (255 : Int64)) <<< ((48 : Int32) &&& 0x3f).toInt64)) ||| (((c2.toInt64) &&& (255 : Int64)) <<< ((40 : Int32) &&& 0x3f).toInt64)) ||| (((c3.toInt64) &&& (255 : Int64)) <<< ((32 : Int32) &&& 0x3f).toInt64)) ||| (((c4.toInt64) &&& (255 : Int64)) <<< ((24 : Int32) &&& 0x3f).toInt64)) ||| (((c5.toInt64) &&& (255 : Int64)) <<< ((16 : Int32) &&& 0x3f).toInt64)))])) _
    refine XS.iadd X0.here hx rfl (hb hby d3_85) rfl ?_
    show Steps p.tables e below (s₁.setTop (mkF m 86 #[.val (.ref a0), .val (.int (8 : Int32))] [(.int (14 : Int32)), (.ref a0), (.long ((((((((c0.toInt64) &&& (255 : Int64)) <<< ((56 : Int32) &&& 0x3f).toInt64) ||| (((c1.toInt64) &&& (255 : Int64)) <<< ((48 : Int32) &&& 0x3f).toInt64)) ||| (((c2.toInt64) &&& (255 : Int64)) <<< ((40 : Int32) &&& 0x3f).toInt64)) ||| (((c3.toInt64) &&& (255 : Int64)) <<< ((32 : Int32) &&& 0x3f).toInt64)) ||| (((c4.toInt64) &&& (255 : Int64)) <<< ((24 : Int32) &&& 0x3f).toInt64)) ||| (((c5.toInt64) &&& (255 : Int64)) <<< ((16 : Int32) &&& 0x3f).toInt64)))])) _
    have hin107 : ¬ ((14 : Int32) < 0 ∨ cl107.slots.size ≤ ((14 : Int32)).toNatClampNeg) := (inb_of S107 ⟨by decide, by decide⟩)
    refine X0.baloadBytes hx (j := (14 : Int32)) (v := (.int c6)) (by rw [e0]; exact Ar107.1) (State.isArrayOf_alike hZ.alike Ar107.2.1) Ar107.2.2 hin107 (H107.at hin107 hb6) (g := (mkF m 86 #[.val (.ref a0), .val (.int (8 : Int32))] [(.int (14 : Int32)), (.ref a0), (.long ((((((((c0.toInt64) &&& (255 : Int64)) <<< ((56 : Int32) &&& 0x3f).toInt64) ||| (((c1.toInt64) &&& (255 : Int64)) <<< ((48 : Int32) &&& 0x3f).toInt64)) ||| (((c2.toInt64) &&& (255 : Int64)) <<< ((40 : Int32) &&& 0x3f).toInt64)) ||| (((c3.toInt64) &&& (255 : Int64)) <<< ((32 : Int32) &&& 0x3f).toInt64)) ||| (((c4.toInt64) &&& (255 : Int64)) <<< ((24 : Int32) &&& 0x3f).toInt64)) ||| (((c5.toInt64) &&& (255 : Int64)) <<< ((16 : Int32) &&& 0x3f).toInt64)))])) rfl rfl (hb hby d3_86) _ ?_
    show Steps p.tables e below (s₁.setTop (mkF m 87 #[.val (.ref a0), .val (.int (8 : Int32))] [(.int c6), (.long ((((((((c0.toInt64) &&& (255 : Int64)) <<< ((56 : Int32) &&& 0x3f).toInt64) ||| (((c1.toInt64) &&& (255 : Int64)) <<< ((48 : Int32) &&& 0x3f).toInt64)) ||| (((c2.toInt64) &&& (255 : Int64)) <<< ((40 : Int32) &&& 0x3f).toInt64)) ||| (((c3.toInt64) &&& (255 : Int64)) <<< ((32 : Int32) &&& 0x3f).toInt64)) ||| (((c4.toInt64) &&& (255 : Int64)) <<< ((24 : Int32) &&& 0x3f).toInt64)) ||| (((c5.toInt64) &&& (255 : Int64)) <<< ((16 : Int32) &&& 0x3f).toInt64)))])) _
    refine XS.i2l X0.here hx rfl (hb hby d3_87) rfl ?_
    show Steps p.tables e below (s₁.setTop (mkF m 88 #[.val (.ref a0), .val (.int (8 : Int32))] [(.long (c6.toInt64)), (.long ((((((((c0.toInt64) &&& (255 : Int64)) <<< ((56 : Int32) &&& 0x3f).toInt64) ||| (((c1.toInt64) &&& (255 : Int64)) <<< ((48 : Int32) &&& 0x3f).toInt64)) ||| (((c2.toInt64) &&& (255 : Int64)) <<< ((40 : Int32) &&& 0x3f).toInt64)) ||| (((c3.toInt64) &&& (255 : Int64)) <<< ((32 : Int32) &&& 0x3f).toInt64)) ||| (((c4.toInt64) &&& (255 : Int64)) <<< ((24 : Int32) &&& 0x3f).toInt64)) ||| (((c5.toInt64) &&& (255 : Int64)) <<< ((16 : Int32) &&& 0x3f).toInt64)))])) _
    refine X0.ldc2Long hx hown (mvT hZ (hw _ (List.mem_of_getElem? (i := 12) rfl))) (g := (mkF m 88 #[.val (.ref a0), .val (.int (8 : Int32))] [(.long (c6.toInt64)), (.long ((((((((c0.toInt64) &&& (255 : Int64)) <<< ((56 : Int32) &&& 0x3f).toInt64) ||| (((c1.toInt64) &&& (255 : Int64)) <<< ((48 : Int32) &&& 0x3f).toInt64)) ||| (((c2.toInt64) &&& (255 : Int64)) <<< ((40 : Int32) &&& 0x3f).toInt64)) ||| (((c3.toInt64) &&& (255 : Int64)) <<< ((32 : Int32) &&& 0x3f).toInt64)) ||| (((c4.toInt64) &&& (255 : Int64)) <<< ((24 : Int32) &&& 0x3f).toInt64)) ||| (((c5.toInt64) &&& (255 : Int64)) <<< ((16 : Int32) &&& 0x3f).toInt64)))])) rfl (hb hby d3_88) _ ?_
    show Steps p.tables e below (s₁.setTop (mkF m 91 #[.val (.ref a0), .val (.int (8 : Int32))] [(.long (255 : Int64)), (.long (c6.toInt64)), (.long ((((((((c0.toInt64) &&& (255 : Int64)) <<< ((56 : Int32) &&& 0x3f).toInt64) ||| (((c1.toInt64) &&& (255 : Int64)) <<< ((48 : Int32) &&& 0x3f).toInt64)) ||| (((c2.toInt64) &&& (255 : Int64)) <<< ((40 : Int32) &&& 0x3f).toInt64)) ||| (((c3.toInt64) &&& (255 : Int64)) <<< ((32 : Int32) &&& 0x3f).toInt64)) ||| (((c4.toInt64) &&& (255 : Int64)) <<< ((24 : Int32) &&& 0x3f).toInt64)) ||| (((c5.toInt64) &&& (255 : Int64)) <<< ((16 : Int32) &&& 0x3f).toInt64)))])) _
    refine XS.land X0.here hx rfl (hb hby d3_91) rfl ?_
    show Steps p.tables e below (s₁.setTop (mkF m 92 #[.val (.ref a0), .val (.int (8 : Int32))] [(.long ((c6.toInt64) &&& (255 : Int64))), (.long ((((((((c0.toInt64) &&& (255 : Int64)) <<< ((56 : Int32) &&& 0x3f).toInt64) ||| (((c1.toInt64) &&& (255 : Int64)) <<< ((48 : Int32) &&& 0x3f).toInt64)) ||| (((c2.toInt64) &&& (255 : Int64)) <<< ((40 : Int32) &&& 0x3f).toInt64)) ||| (((c3.toInt64) &&& (255 : Int64)) <<< ((32 : Int32) &&& 0x3f).toInt64)) ||| (((c4.toInt64) &&& (255 : Int64)) <<< ((24 : Int32) &&& 0x3f).toInt64)) ||| (((c5.toInt64) &&& (255 : Int64)) <<< ((16 : Int32) &&& 0x3f).toInt64)))])) _
    refine XS.bipush X0.here hx rfl (hb hby d3_92) ?_
    show Steps p.tables e below (s₁.setTop (mkF m 94 #[.val (.ref a0), .val (.int (8 : Int32))] [(.int (8 : Int32)), (.long ((c6.toInt64) &&& (255 : Int64))), (.long ((((((((c0.toInt64) &&& (255 : Int64)) <<< ((56 : Int32) &&& 0x3f).toInt64) ||| (((c1.toInt64) &&& (255 : Int64)) <<< ((48 : Int32) &&& 0x3f).toInt64)) ||| (((c2.toInt64) &&& (255 : Int64)) <<< ((40 : Int32) &&& 0x3f).toInt64)) ||| (((c3.toInt64) &&& (255 : Int64)) <<< ((32 : Int32) &&& 0x3f).toInt64)) ||| (((c4.toInt64) &&& (255 : Int64)) <<< ((24 : Int32) &&& 0x3f).toInt64)) ||| (((c5.toInt64) &&& (255 : Int64)) <<< ((16 : Int32) &&& 0x3f).toInt64)))])) _
    refine XS.lshl X0.here hx rfl (hb hby d3_94) rfl ?_
    show Steps p.tables e below (s₁.setTop (mkF m 95 #[.val (.ref a0), .val (.int (8 : Int32))] [(.long (((c6.toInt64) &&& (255 : Int64)) <<< ((8 : Int32) &&& 0x3f).toInt64)), (.long ((((((((c0.toInt64) &&& (255 : Int64)) <<< ((56 : Int32) &&& 0x3f).toInt64) ||| (((c1.toInt64) &&& (255 : Int64)) <<< ((48 : Int32) &&& 0x3f).toInt64)) ||| (((c2.toInt64) &&& (255 : Int64)) <<< ((40 : Int32) &&& 0x3f).toInt64)) ||| (((c3.toInt64) &&& (255 : Int64)) <<< ((32 : Int32) &&& 0x3f).toInt64)) ||| (((c4.toInt64) &&& (255 : Int64)) <<< ((24 : Int32) &&& 0x3f).toInt64)) ||| (((c5.toInt64) &&& (255 : Int64)) <<< ((16 : Int32) &&& 0x3f).toInt64)))])) _
    refine XS.lor X0.here hx rfl (hb hby d3_95) rfl ?_
    show Steps p.tables e below (s₁.setTop (mkF m 96 #[.val (.ref a0), .val (.int (8 : Int32))] [(.long (((((((((c0.toInt64) &&& (255 : Int64)) <<< ((56 : Int32) &&& 0x3f).toInt64) ||| (((c1.toInt64) &&& (255 : Int64)) <<< ((48 : Int32) &&& 0x3f).toInt64)) ||| (((c2.toInt64) &&& (255 : Int64)) <<< ((40 : Int32) &&& 0x3f).toInt64)) ||| (((c3.toInt64) &&& (255 : Int64)) <<< ((32 : Int32) &&& 0x3f).toInt64)) ||| (((c4.toInt64) &&& (255 : Int64)) <<< ((24 : Int32) &&& 0x3f).toInt64)) ||| (((c5.toInt64) &&& (255 : Int64)) <<< ((16 : Int32) &&& 0x3f).toInt64)) ||| (((c6.toInt64) &&& (255 : Int64)) <<< ((8 : Int32) &&& 0x3f).toInt64)))])) _
    refine XS.aloadN X0.here hx rfl (hb hby d3_96) rfl rfl ?_
    show Steps p.tables e below (s₁.setTop (mkF m 97 #[.val (.ref a0), .val (.int (8 : Int32))] [(.ref a0), (.long (((((((((c0.toInt64) &&& (255 : Int64)) <<< ((56 : Int32) &&& 0x3f).toInt64) ||| (((c1.toInt64) &&& (255 : Int64)) <<< ((48 : Int32) &&& 0x3f).toInt64)) ||| (((c2.toInt64) &&& (255 : Int64)) <<< ((40 : Int32) &&& 0x3f).toInt64)) ||| (((c3.toInt64) &&& (255 : Int64)) <<< ((32 : Int32) &&& 0x3f).toInt64)) ||| (((c4.toInt64) &&& (255 : Int64)) <<< ((24 : Int32) &&& 0x3f).toInt64)) ||| (((c5.toInt64) &&& (255 : Int64)) <<< ((16 : Int32) &&& 0x3f).toInt64)) ||| (((c6.toInt64) &&& (255 : Int64)) <<< ((8 : Int32) &&& 0x3f).toInt64)))])) _
    refine XS.iloadN X0.here hx rfl (hb hby d3_97) rfl ?_
    show Steps p.tables e below (s₁.setTop (mkF m 98 #[.val (.ref a0), .val (.int (8 : Int32))] [(.int (8 : Int32)), (.ref a0), (.long (((((((((c0.toInt64) &&& (255 : Int64)) <<< ((56 : Int32) &&& 0x3f).toInt64) ||| (((c1.toInt64) &&& (255 : Int64)) <<< ((48 : Int32) &&& 0x3f).toInt64)) ||| (((c2.toInt64) &&& (255 : Int64)) <<< ((40 : Int32) &&& 0x3f).toInt64)) ||| (((c3.toInt64) &&& (255 : Int64)) <<< ((32 : Int32) &&& 0x3f).toInt64)) ||| (((c4.toInt64) &&& (255 : Int64)) <<< ((24 : Int32) &&& 0x3f).toInt64)) ||| (((c5.toInt64) &&& (255 : Int64)) <<< ((16 : Int32) &&& 0x3f).toInt64)) ||| (((c6.toInt64) &&& (255 : Int64)) <<< ((8 : Int32) &&& 0x3f).toInt64)))])) _
    refine XS.bipush X0.here hx rfl (hb hby d3_98) ?_
    show Steps p.tables e below (s₁.setTop (mkF m 100 #[.val (.ref a0), .val (.int (8 : Int32))] [(.int (7 : Int32)), (.int (8 : Int32)), (.ref a0), (.long (((((((((c0.toInt64) &&& (255 : Int64)) <<< ((56 : Int32) &&& 0x3f).toInt64) ||| (((c1.toInt64) &&& (255 : Int64)) <<< ((48 : Int32) &&& 0x3f).toInt64)) ||| (((c2.toInt64) &&& (255 : Int64)) <<< ((40 : Int32) &&& 0x3f).toInt64)) ||| (((c3.toInt64) &&& (255 : Int64)) <<< ((32 : Int32) &&& 0x3f).toInt64)) ||| (((c4.toInt64) &&& (255 : Int64)) <<< ((24 : Int32) &&& 0x3f).toInt64)) ||| (((c5.toInt64) &&& (255 : Int64)) <<< ((16 : Int32) &&& 0x3f).toInt64)) ||| (((c6.toInt64) &&& (255 : Int64)) <<< ((8 : Int32) &&& 0x3f).toInt64)))])) _
    refine XS.iadd X0.here hx rfl (hb hby d3_100) rfl ?_
    show Steps p.tables e below (s₁.setTop (mkF m 101 #[.val (.ref a0), .val (.int (8 : Int32))] [(.int (15 : Int32)), (.ref a0), (.long (((((((((c0.toInt64) &&& (255 : Int64)) <<< ((56 : Int32) &&& 0x3f).toInt64) ||| (((c1.toInt64) &&& (255 : Int64)) <<< ((48 : Int32) &&& 0x3f).toInt64)) ||| (((c2.toInt64) &&& (255 : Int64)) <<< ((40 : Int32) &&& 0x3f).toInt64)) ||| (((c3.toInt64) &&& (255 : Int64)) <<< ((32 : Int32) &&& 0x3f).toInt64)) ||| (((c4.toInt64) &&& (255 : Int64)) <<< ((24 : Int32) &&& 0x3f).toInt64)) ||| (((c5.toInt64) &&& (255 : Int64)) <<< ((16 : Int32) &&& 0x3f).toInt64)) ||| (((c6.toInt64) &&& (255 : Int64)) <<< ((8 : Int32) &&& 0x3f).toInt64)))])) _
    have hin108 : ¬ ((15 : Int32) < 0 ∨ cl108.slots.size ≤ ((15 : Int32)).toNatClampNeg) := (inb_of S108 ⟨by decide, by decide⟩)
    refine X0.baloadBytes hx (j := (15 : Int32)) (v := (.int c7)) (by rw [e0]; exact Ar108.1) (State.isArrayOf_alike hZ.alike Ar108.2.1) Ar108.2.2 hin108 (H108.at hin108 hb7) (g := (mkF m 101 #[.val (.ref a0), .val (.int (8 : Int32))] [(.int (15 : Int32)), (.ref a0), (.long (((((((((c0.toInt64) &&& (255 : Int64)) <<< ((56 : Int32) &&& 0x3f).toInt64) ||| (((c1.toInt64) &&& (255 : Int64)) <<< ((48 : Int32) &&& 0x3f).toInt64)) ||| (((c2.toInt64) &&& (255 : Int64)) <<< ((40 : Int32) &&& 0x3f).toInt64)) ||| (((c3.toInt64) &&& (255 : Int64)) <<< ((32 : Int32) &&& 0x3f).toInt64)) ||| (((c4.toInt64) &&& (255 : Int64)) <<< ((24 : Int32) &&& 0x3f).toInt64)) ||| (((c5.toInt64) &&& (255 : Int64)) <<< ((16 : Int32) &&& 0x3f).toInt64)) ||| (((c6.toInt64) &&& (255 : Int64)) <<< ((8 : Int32) &&& 0x3f).toInt64)))])) rfl rfl (hb hby d3_101) _ ?_
    show Steps p.tables e below (s₁.setTop (mkF m 102 #[.val (.ref a0), .val (.int (8 : Int32))] [(.int c7), (.long (((((((((c0.toInt64) &&& (255 : Int64)) <<< ((56 : Int32) &&& 0x3f).toInt64) ||| (((c1.toInt64) &&& (255 : Int64)) <<< ((48 : Int32) &&& 0x3f).toInt64)) ||| (((c2.toInt64) &&& (255 : Int64)) <<< ((40 : Int32) &&& 0x3f).toInt64)) ||| (((c3.toInt64) &&& (255 : Int64)) <<< ((32 : Int32) &&& 0x3f).toInt64)) ||| (((c4.toInt64) &&& (255 : Int64)) <<< ((24 : Int32) &&& 0x3f).toInt64)) ||| (((c5.toInt64) &&& (255 : Int64)) <<< ((16 : Int32) &&& 0x3f).toInt64)) ||| (((c6.toInt64) &&& (255 : Int64)) <<< ((8 : Int32) &&& 0x3f).toInt64)))])) _
    refine XS.i2l X0.here hx rfl (hb hby d3_102) rfl ?_
    show Steps p.tables e below (s₁.setTop (mkF m 103 #[.val (.ref a0), .val (.int (8 : Int32))] [(.long (c7.toInt64)), (.long (((((((((c0.toInt64) &&& (255 : Int64)) <<< ((56 : Int32) &&& 0x3f).toInt64) ||| (((c1.toInt64) &&& (255 : Int64)) <<< ((48 : Int32) &&& 0x3f).toInt64)) ||| (((c2.toInt64) &&& (255 : Int64)) <<< ((40 : Int32) &&& 0x3f).toInt64)) ||| (((c3.toInt64) &&& (255 : Int64)) <<< ((32 : Int32) &&& 0x3f).toInt64)) ||| (((c4.toInt64) &&& (255 : Int64)) <<< ((24 : Int32) &&& 0x3f).toInt64)) ||| (((c5.toInt64) &&& (255 : Int64)) <<< ((16 : Int32) &&& 0x3f).toInt64)) ||| (((c6.toInt64) &&& (255 : Int64)) <<< ((8 : Int32) &&& 0x3f).toInt64)))])) _
    refine X0.ldc2Long hx hown (mvT hZ (hw _ (List.mem_of_getElem? (i := 12) rfl))) (g := (mkF m 103 #[.val (.ref a0), .val (.int (8 : Int32))] [(.long (c7.toInt64)), (.long (((((((((c0.toInt64) &&& (255 : Int64)) <<< ((56 : Int32) &&& 0x3f).toInt64) ||| (((c1.toInt64) &&& (255 : Int64)) <<< ((48 : Int32) &&& 0x3f).toInt64)) ||| (((c2.toInt64) &&& (255 : Int64)) <<< ((40 : Int32) &&& 0x3f).toInt64)) ||| (((c3.toInt64) &&& (255 : Int64)) <<< ((32 : Int32) &&& 0x3f).toInt64)) ||| (((c4.toInt64) &&& (255 : Int64)) <<< ((24 : Int32) &&& 0x3f).toInt64)) ||| (((c5.toInt64) &&& (255 : Int64)) <<< ((16 : Int32) &&& 0x3f).toInt64)) ||| (((c6.toInt64) &&& (255 : Int64)) <<< ((8 : Int32) &&& 0x3f).toInt64)))])) rfl (hb hby d3_103) _ ?_
    show Steps p.tables e below (s₁.setTop (mkF m 106 #[.val (.ref a0), .val (.int (8 : Int32))] [(.long (255 : Int64)), (.long (c7.toInt64)), (.long (((((((((c0.toInt64) &&& (255 : Int64)) <<< ((56 : Int32) &&& 0x3f).toInt64) ||| (((c1.toInt64) &&& (255 : Int64)) <<< ((48 : Int32) &&& 0x3f).toInt64)) ||| (((c2.toInt64) &&& (255 : Int64)) <<< ((40 : Int32) &&& 0x3f).toInt64)) ||| (((c3.toInt64) &&& (255 : Int64)) <<< ((32 : Int32) &&& 0x3f).toInt64)) ||| (((c4.toInt64) &&& (255 : Int64)) <<< ((24 : Int32) &&& 0x3f).toInt64)) ||| (((c5.toInt64) &&& (255 : Int64)) <<< ((16 : Int32) &&& 0x3f).toInt64)) ||| (((c6.toInt64) &&& (255 : Int64)) <<< ((8 : Int32) &&& 0x3f).toInt64)))])) _
    refine XS.land X0.here hx rfl (hb hby d3_106) rfl ?_
    show Steps p.tables e below (s₁.setTop (mkF m 107 #[.val (.ref a0), .val (.int (8 : Int32))] [(.long ((c7.toInt64) &&& (255 : Int64))), (.long (((((((((c0.toInt64) &&& (255 : Int64)) <<< ((56 : Int32) &&& 0x3f).toInt64) ||| (((c1.toInt64) &&& (255 : Int64)) <<< ((48 : Int32) &&& 0x3f).toInt64)) ||| (((c2.toInt64) &&& (255 : Int64)) <<< ((40 : Int32) &&& 0x3f).toInt64)) ||| (((c3.toInt64) &&& (255 : Int64)) <<< ((32 : Int32) &&& 0x3f).toInt64)) ||| (((c4.toInt64) &&& (255 : Int64)) <<< ((24 : Int32) &&& 0x3f).toInt64)) ||| (((c5.toInt64) &&& (255 : Int64)) <<< ((16 : Int32) &&& 0x3f).toInt64)) ||| (((c6.toInt64) &&& (255 : Int64)) <<< ((8 : Int32) &&& 0x3f).toInt64)))])) _
    refine XS.lor X0.here hx rfl (hb hby d3_107) rfl ?_
    show Steps p.tables e below (s₁.setTop (mkF m 108 #[.val (.ref a0), .val (.int (8 : Int32))] [(.long ((((((((((c0.toInt64) &&& (255 : Int64)) <<< ((56 : Int32) &&& 0x3f).toInt64) ||| (((c1.toInt64) &&& (255 : Int64)) <<< ((48 : Int32) &&& 0x3f).toInt64)) ||| (((c2.toInt64) &&& (255 : Int64)) <<< ((40 : Int32) &&& 0x3f).toInt64)) ||| (((c3.toInt64) &&& (255 : Int64)) <<< ((32 : Int32) &&& 0x3f).toInt64)) ||| (((c4.toInt64) &&& (255 : Int64)) <<< ((24 : Int32) &&& 0x3f).toInt64)) ||| (((c5.toInt64) &&& (255 : Int64)) <<< ((16 : Int32) &&& 0x3f).toInt64)) ||| (((c6.toInt64) &&& (255 : Int64)) <<< ((8 : Int32) &&& 0x3f).toInt64)) ||| ((c7.toInt64) &&& (255 : Int64))))])) _
    exact retOut X0 hx (t := .long) Bd.returns rfl (Or.inr (Or.inl ⟨rfl, rfl, _, rfl⟩)) (hb hby d3_108) hr
  · show Q_rmg32_8 Z a0 kk vs c0 c1 c2 c3 c4 c5 c6 c7 h0 n0 _ s₁.heap _
    rw [e0]
    exact ⟨rfl, N0, rfl⟩
theorem ef_rmg32_16 (m : MethodId) (x0 : Addr) (x1 : Int32) : entryFrame m #[(.ref x0), (.int x1)] 2 = mkF m 0 #[.val (.ref x0), .val (.int x1)] [] := by first | (simp [entryFrame, mkF, argsToLocals, Value.category]; done) | rfl
def Q_rmg32_16 (Z : State) (a0 : Addr) (kk : ClassId) (vs : List Value) (c0 : Int32) (c1 : Int32) (c2 : Int32) (c3 : Int32) (c4 : Int32) (c5 : Int32) (c6 : Int32) (c7 : Int32) (h0 : Heap) (n0 : Nat) (v : Option Value) (h : Heap) (L : List Loc) : Prop := v = some (.long (own_get c0 c1 c2 c3 c4 c5 c6 c7)) ∧ Fr n0 L ∧ h = h0
set_option maxRecDepth 65536 in
set_option maxHeartbeats 40000000 in
theorem rmg32_16 (l : Launch) (Z : State) (aw : Array Value) (hw : ∀ d ∈ tables_1, d.before aw Z = true) (ws : List Jvm.Cond) (a0 : Addr) (kk : ClassId) (vs : List Value) (c0 : Int32) (c1 : Int32) (c2 : Int32) (c3 : Int32) (c4 : Int32) (c5 : Int32) (c6 : Int32) (c7 : Int32) (h0 : Heap) (n0 : Nat) (Z0 : n0 ≤ h0.size) (V0 : Arv Z h0 a0 kk .byte (32 : Int32) vs (.int (0 : Int32))) (hb0 : vs.getD 16 (.int (0 : Int32)) = .int c0) (hb1 : vs.getD 17 (.int (0 : Int32)) = .int c1) (hb2 : vs.getD 18 (.int (0 : Int32)) = .int c2) (hb3 : vs.getD 19 (.int (0 : Int32)) = .int c3) (hb4 : vs.getD 20 (.int (0 : Int32)) = .int c4) (hb5 : vs.getD 21 (.int (0 : Int32)) = .int c5) (hb6 : vs.getD 22 (.int (0 : Int32)) = .int c6) (hb7 : vs.getD 23 (.int (0 : Int32)) = .int c7) :
    MetFree l (⟨"com/example/countersign/countersign/protocol/PrimitivesFoldPinLaw", "get", "([BI)J"⟩ : MethodName) (head1 (Jvm.Cond.code (⟨"com/example/countersign/countersign/protocol/PrimitivesFoldPinLaw", "get", "([BI)J"⟩ : MethodName) method_4_code 2 (some .long) :: ws) ({ frames := 0, cells := 0, slots := 0, locals := 0 } : Room)) (fun a U => a = #[(.ref a0), (.int (16 : Int32))] ∧ Z.Warmed39 U.vm ∧ U.heap = h0) (fun _ _ _ _ _ => True) (fun _ U oc U' => ∃ v L, oc = .returned v ∧ Q_rmg32_16 Z a0 kk vs c0 c1 c2 c3 c4 c5 c6 c7 h0 n0 v U'.heap L ∧ FrameEnd U oc U' L ({ frames := 0, cells := 0, slots := 0, locals := 0 } : Room).cells ({ frames := 0, cells := 0, slots := 0, locals := 0 } : Room).slots) := by
  refine MetFree.of_bodySF (plainFor_of_name pn_0) hisR ?_
  intro p e s m args below meth c s₁ Bd hml0 hP hK
  obtain ⟨rfl, hZ, hh⟩ := hP
  have hx := Bd.exec
  have hby := Bd.bytes
  have hml : c.maxLocals = 2 := hml0
  have hown : s.vm.findClass "com/example/countersign/countersign/protocol/PrimitivesFoldPinLaw" = some m.cls := findClass_of_methodNamed Bd.named
  have hnm := (name_of_methodNamed Bd.named Bd.method).1
  have X0 : Stand p l e ({ frames := 0, cells := 0, slots := 0, locals := 0 } : Room) s m #[(.ref a0), (.int (16 : Int32))] below meth c s₁ [] 0 0 := Stand.of_body Bd
  have e0 : s₁.heap = h0 := by rw [← hh, Bd.state]; rfl
  have N0 := Fr.nil n0
  have pre0 : ∀ t, Steps p.tables e below (s₁.setTop (mkF m 0 #[.val (.ref a0), .val (.int (16 : Int32))] [])) t → Steps p.tables e below (s₁.setTop (entryFrame m #[(.ref a0), (.int (16 : Int32))] 2)) t := fun t k => castTop (ef_rmg32_16 m a0 (16 : Int32)) k
  obtain ⟨cl101, Ar101, q101, S101, M101, H101, G101⟩ := id V0
  obtain ⟨cl102, Ar102, q102, S102, M102, H102, G102⟩ := id V0
  obtain ⟨cl103, Ar103, q103, S103, M103, H103, G103⟩ := id V0
  obtain ⟨cl104, Ar104, q104, S104, M104, H104, G104⟩ := id V0
  obtain ⟨cl105, Ar105, q105, S105, M105, H105, G105⟩ := id V0
  obtain ⟨cl106, Ar106, q106, S106, M106, H106, G106⟩ := id V0
  obtain ⟨cl107, Ar107, q107, S107, M107, H107, G107⟩ := id V0
  obtain ⟨cl108, Ar108, q108, S108, M108, H108, G108⟩ := id V0
  obtain ⟨fs, hr, hrun, hended, hW, hsame⟩ := X0.leave (v := some (.long ((((((((((c0.toInt64) &&& (255 : Int64)) <<< ((56 : Int32) &&& 0x3f).toInt64) ||| (((c1.toInt64) &&& (255 : Int64)) <<< ((48 : Int32) &&& 0x3f).toInt64)) ||| (((c2.toInt64) &&& (255 : Int64)) <<< ((40 : Int32) &&& 0x3f).toInt64)) ||| (((c3.toInt64) &&& (255 : Int64)) <<< ((32 : Int32) &&& 0x3f).toInt64)) ||| (((c4.toInt64) &&& (255 : Int64)) <<< ((24 : Int32) &&& 0x3f).toInt64)) ||| (((c5.toInt64) &&& (255 : Int64)) <<< ((16 : Int32) &&& 0x3f).toInt64)) ||| (((c6.toInt64) &&& (255 : Int64)) <<< ((8 : Int32) &&& 0x3f).toInt64)) ||| ((c7.toInt64) &&& (255 : Int64))))) (fun h => by rw [Bd.returns] at h; cases h)
  refine ⟨_, _, pre0 _ ?_, hrun, hended, _, _, rfl, ?_, ⟨_, rfl⟩, hW, hsame.mono (by decide) (by decide)⟩
  · show Steps p.tables e below (s₁.setTop (mkF m 0 #[.val (.ref a0), .val (.int (16 : Int32))] [])) _
    refine XS.aloadN X0.here hx rfl (hb hby d3_0) rfl rfl ?_
    show Steps p.tables e below (s₁.setTop (mkF m 1 #[.val (.ref a0), .val (.int (16 : Int32))] [(.ref a0)])) _
    refine XS.iloadN X0.here hx rfl (hb hby d3_1) rfl ?_
    show Steps p.tables e below (s₁.setTop (mkF m 2 #[.val (.ref a0), .val (.int (16 : Int32))] [(.int (16 : Int32)), (.ref a0)])) _
    have hin101 : ¬ ((16 : Int32) < 0 ∨ cl101.slots.size ≤ ((16 : Int32)).toNatClampNeg) := (inb_of S101 ⟨by decide, by decide⟩)
    refine X0.baloadBytes hx (j := (16 : Int32)) (v := (.int c0)) (by rw [e0]; exact Ar101.1) (State.isArrayOf_alike hZ.alike Ar101.2.1) Ar101.2.2 hin101 (H101.at hin101 hb0) (g := (mkF m 2 #[.val (.ref a0), .val (.int (16 : Int32))] [(.int (16 : Int32)), (.ref a0)])) rfl rfl (hb hby d3_2) _ ?_
    show Steps p.tables e below (s₁.setTop (mkF m 3 #[.val (.ref a0), .val (.int (16 : Int32))] [(.int c0)])) _
    refine XS.i2l X0.here hx rfl (hb hby d3_3) rfl ?_
    show Steps p.tables e below (s₁.setTop (mkF m 4 #[.val (.ref a0), .val (.int (16 : Int32))] [(.long (c0.toInt64))])) _
    refine X0.ldc2Long hx hown (mvT hZ (hw _ (List.mem_of_getElem? (i := 12) rfl))) (g := (mkF m 4 #[.val (.ref a0), .val (.int (16 : Int32))] [(.long (c0.toInt64))])) rfl (hb hby d3_4) _ ?_
    show Steps p.tables e below (s₁.setTop (mkF m 7 #[.val (.ref a0), .val (.int (16 : Int32))] [(.long (255 : Int64)), (.long (c0.toInt64))])) _
    refine XS.land X0.here hx rfl (hb hby d3_7) rfl ?_
    show Steps p.tables e below (s₁.setTop (mkF m 8 #[.val (.ref a0), .val (.int (16 : Int32))] [(.long ((c0.toInt64) &&& (255 : Int64)))])) _
    refine XS.bipush X0.here hx rfl (hb hby d3_8) ?_
    show Steps p.tables e below (s₁.setTop (mkF m 10 #[.val (.ref a0), .val (.int (16 : Int32))] [(.int (56 : Int32)), (.long ((c0.toInt64) &&& (255 : Int64)))])) _
    refine XS.lshl X0.here hx rfl (hb hby d3_10) rfl ?_
    show Steps p.tables e below (s₁.setTop (mkF m 11 #[.val (.ref a0), .val (.int (16 : Int32))] [(.long (((c0.toInt64) &&& (255 : Int64)) <<< ((56 : Int32) &&& 0x3f).toInt64))])) _
    refine XS.aloadN X0.here hx rfl (hb hby d3_11) rfl rfl ?_
    show Steps p.tables e below (s₁.setTop (mkF m 12 #[.val (.ref a0), .val (.int (16 : Int32))] [(.ref a0), (.long (((c0.toInt64) &&& (255 : Int64)) <<< ((56 : Int32) &&& 0x3f).toInt64))])) _
    refine XS.iloadN X0.here hx rfl (hb hby d3_12) rfl ?_
    show Steps p.tables e below (s₁.setTop (mkF m 13 #[.val (.ref a0), .val (.int (16 : Int32))] [(.int (16 : Int32)), (.ref a0), (.long (((c0.toInt64) &&& (255 : Int64)) <<< ((56 : Int32) &&& 0x3f).toInt64))])) _
    refine XS.iconst X0.here hx rfl (hb hby d3_13) ?_
    show Steps p.tables e below (s₁.setTop (mkF m 14 #[.val (.ref a0), .val (.int (16 : Int32))] [(.int (1 : Int32)), (.int (16 : Int32)), (.ref a0), (.long (((c0.toInt64) &&& (255 : Int64)) <<< ((56 : Int32) &&& 0x3f).toInt64))])) _
    refine XS.iadd X0.here hx rfl (hb hby d3_14) rfl ?_
    show Steps p.tables e below (s₁.setTop (mkF m 15 #[.val (.ref a0), .val (.int (16 : Int32))] [(.int (17 : Int32)), (.ref a0), (.long (((c0.toInt64) &&& (255 : Int64)) <<< ((56 : Int32) &&& 0x3f).toInt64))])) _
    have hin102 : ¬ ((17 : Int32) < 0 ∨ cl102.slots.size ≤ ((17 : Int32)).toNatClampNeg) := (inb_of S102 ⟨by decide, by decide⟩)
    refine X0.baloadBytes hx (j := (17 : Int32)) (v := (.int c1)) (by rw [e0]; exact Ar102.1) (State.isArrayOf_alike hZ.alike Ar102.2.1) Ar102.2.2 hin102 (H102.at hin102 hb1) (g := (mkF m 15 #[.val (.ref a0), .val (.int (16 : Int32))] [(.int (17 : Int32)), (.ref a0), (.long (((c0.toInt64) &&& (255 : Int64)) <<< ((56 : Int32) &&& 0x3f).toInt64))])) rfl rfl (hb hby d3_15) _ ?_
    show Steps p.tables e below (s₁.setTop (mkF m 16 #[.val (.ref a0), .val (.int (16 : Int32))] [(.int c1), (.long (((c0.toInt64) &&& (255 : Int64)) <<< ((56 : Int32) &&& 0x3f).toInt64))])) _
    refine XS.i2l X0.here hx rfl (hb hby d3_16) rfl ?_
    show Steps p.tables e below (s₁.setTop (mkF m 17 #[.val (.ref a0), .val (.int (16 : Int32))] [(.long (c1.toInt64)), (.long (((c0.toInt64) &&& (255 : Int64)) <<< ((56 : Int32) &&& 0x3f).toInt64))])) _
    refine X0.ldc2Long hx hown (mvT hZ (hw _ (List.mem_of_getElem? (i := 12) rfl))) (g := (mkF m 17 #[.val (.ref a0), .val (.int (16 : Int32))] [(.long (c1.toInt64)), (.long (((c0.toInt64) &&& (255 : Int64)) <<< ((56 : Int32) &&& 0x3f).toInt64))])) rfl (hb hby d3_17) _ ?_
    show Steps p.tables e below (s₁.setTop (mkF m 20 #[.val (.ref a0), .val (.int (16 : Int32))] [(.long (255 : Int64)), (.long (c1.toInt64)), (.long (((c0.toInt64) &&& (255 : Int64)) <<< ((56 : Int32) &&& 0x3f).toInt64))])) _
    refine XS.land X0.here hx rfl (hb hby d3_20) rfl ?_
    show Steps p.tables e below (s₁.setTop (mkF m 21 #[.val (.ref a0), .val (.int (16 : Int32))] [(.long ((c1.toInt64) &&& (255 : Int64))), (.long (((c0.toInt64) &&& (255 : Int64)) <<< ((56 : Int32) &&& 0x3f).toInt64))])) _
    refine XS.bipush X0.here hx rfl (hb hby d3_21) ?_
    show Steps p.tables e below (s₁.setTop (mkF m 23 #[.val (.ref a0), .val (.int (16 : Int32))] [(.int (48 : Int32)), (.long ((c1.toInt64) &&& (255 : Int64))), (.long (((c0.toInt64) &&& (255 : Int64)) <<< ((56 : Int32) &&& 0x3f).toInt64))])) _
    refine XS.lshl X0.here hx rfl (hb hby d3_23) rfl ?_
    show Steps p.tables e below (s₁.setTop (mkF m 24 #[.val (.ref a0), .val (.int (16 : Int32))] [(.long (((c1.toInt64) &&& (255 : Int64)) <<< ((48 : Int32) &&& 0x3f).toInt64)), (.long (((c0.toInt64) &&& (255 : Int64)) <<< ((56 : Int32) &&& 0x3f).toInt64))])) _
    refine XS.lor X0.here hx rfl (hb hby d3_24) rfl ?_
    show Steps p.tables e below (s₁.setTop (mkF m 25 #[.val (.ref a0), .val (.int (16 : Int32))] [(.long ((((c0.toInt64) &&& (255 : Int64)) <<< ((56 : Int32) &&& 0x3f).toInt64) ||| (((c1.toInt64) &&& (255 : Int64)) <<< ((48 : Int32) &&& 0x3f).toInt64)))])) _
    refine XS.aloadN X0.here hx rfl (hb hby d3_25) rfl rfl ?_
    show Steps p.tables e below (s₁.setTop (mkF m 26 #[.val (.ref a0), .val (.int (16 : Int32))] [(.ref a0), (.long ((((c0.toInt64) &&& (255 : Int64)) <<< ((56 : Int32) &&& 0x3f).toInt64) ||| (((c1.toInt64) &&& (255 : Int64)) <<< ((48 : Int32) &&& 0x3f).toInt64)))])) _
    refine XS.iloadN X0.here hx rfl (hb hby d3_26) rfl ?_
    show Steps p.tables e below (s₁.setTop (mkF m 27 #[.val (.ref a0), .val (.int (16 : Int32))] [(.int (16 : Int32)), (.ref a0), (.long ((((c0.toInt64) &&& (255 : Int64)) <<< ((56 : Int32) &&& 0x3f).toInt64) ||| (((c1.toInt64) &&& (255 : Int64)) <<< ((48 : Int32) &&& 0x3f).toInt64)))])) _
    refine XS.iconst X0.here hx rfl (hb hby d3_27) ?_
    show Steps p.tables e below (s₁.setTop (mkF m 28 #[.val (.ref a0), .val (.int (16 : Int32))] [(.int (2 : Int32)), (.int (16 : Int32)), (.ref a0), (.long ((((c0.toInt64) &&& (255 : Int64)) <<< ((56 : Int32) &&& 0x3f).toInt64) ||| (((c1.toInt64) &&& (255 : Int64)) <<< ((48 : Int32) &&& 0x3f).toInt64)))])) _
    refine XS.iadd X0.here hx rfl (hb hby d3_28) rfl ?_
    show Steps p.tables e below (s₁.setTop (mkF m 29 #[.val (.ref a0), .val (.int (16 : Int32))] [(.int (18 : Int32)), (.ref a0), (.long ((((c0.toInt64) &&& (255 : Int64)) <<< ((56 : Int32) &&& 0x3f).toInt64) ||| (((c1.toInt64) &&& (255 : Int64)) <<< ((48 : Int32) &&& 0x3f).toInt64)))])) _
    have hin103 : ¬ ((18 : Int32) < 0 ∨ cl103.slots.size ≤ ((18 : Int32)).toNatClampNeg) := (inb_of S103 ⟨by decide, by decide⟩)
    refine X0.baloadBytes hx (j := (18 : Int32)) (v := (.int c2)) (by rw [e0]; exact Ar103.1) (State.isArrayOf_alike hZ.alike Ar103.2.1) Ar103.2.2 hin103 (H103.at hin103 hb2) (g := (mkF m 29 #[.val (.ref a0), .val (.int (16 : Int32))] [(.int (18 : Int32)), (.ref a0), (.long ((((c0.toInt64) &&& (255 : Int64)) <<< ((56 : Int32) &&& 0x3f).toInt64) ||| (((c1.toInt64) &&& (255 : Int64)) <<< ((48 : Int32) &&& 0x3f).toInt64)))])) rfl rfl (hb hby d3_29) _ ?_
    show Steps p.tables e below (s₁.setTop (mkF m 30 #[.val (.ref a0), .val (.int (16 : Int32))] [(.int c2), (.long ((((c0.toInt64) &&& (255 : Int64)) <<< ((56 : Int32) &&& 0x3f).toInt64) ||| (((c1.toInt64) &&& (255 : Int64)) <<< ((48 : Int32) &&& 0x3f).toInt64)))])) _
    refine XS.i2l X0.here hx rfl (hb hby d3_30) rfl ?_
    show Steps p.tables e below (s₁.setTop (mkF m 31 #[.val (.ref a0), .val (.int (16 : Int32))] [(.long (c2.toInt64)), (.long ((((c0.toInt64) &&& (255 : Int64)) <<< ((56 : Int32) &&& 0x3f).toInt64) ||| (((c1.toInt64) &&& (255 : Int64)) <<< ((48 : Int32) &&& 0x3f).toInt64)))])) _
    refine X0.ldc2Long hx hown (mvT hZ (hw _ (List.mem_of_getElem? (i := 12) rfl))) (g := (mkF m 31 #[.val (.ref a0), .val (.int (16 : Int32))] [(.long (c2.toInt64)), (.long ((((c0.toInt64) &&& (255 : Int64)) <<< ((56 : Int32) &&& 0x3f).toInt64) ||| (((c1.toInt64) &&& (255 : Int64)) <<< ((48 : Int32) &&& 0x3f).toInt64)))])) rfl (hb hby d3_31) _ ?_
    show Steps p.tables e below (s₁.setTop (mkF m 34 #[.val (.ref a0), .val (.int (16 : Int32))] [(.long (255 : Int64)), (.long (c2.toInt64)), (.long ((((c0.toInt64) &&& (255 : Int64)) <<< ((56 : Int32) &&& 0x3f).toInt64) ||| (((c1.toInt64) &&& (255 : Int64)) <<< ((48 : Int32) &&& 0x3f).toInt64)))])) _
    refine XS.land X0.here hx rfl (hb hby d3_34) rfl ?_
    show Steps p.tables e below (s₁.setTop (mkF m 35 #[.val (.ref a0), .val (.int (16 : Int32))] [(.long ((c2.toInt64) &&& (255 : Int64))), (.long ((((c0.toInt64) &&& (255 : Int64)) <<< ((56 : Int32) &&& 0x3f).toInt64) ||| (((c1.toInt64) &&& (255 : Int64)) <<< ((48 : Int32) &&& 0x3f).toInt64)))])) _
    refine XS.bipush X0.here hx rfl (hb hby d3_35) ?_
    show Steps p.tables e below (s₁.setTop (mkF m 37 #[.val (.ref a0), .val (.int (16 : Int32))] [(.int (40 : Int32)), (.long ((c2.toInt64) &&& (255 : Int64))), (.long ((((c0.toInt64) &&& (255 : Int64)) <<< ((56 : Int32) &&& 0x3f).toInt64) ||| (((c1.toInt64) &&& (255 : Int64)) <<< ((48 : Int32) &&& 0x3f).toInt64)))])) _
    refine XS.lshl X0.here hx rfl (hb hby d3_37) rfl ?_
    show Steps p.tables e below (s₁.setTop (mkF m 38 #[.val (.ref a0), .val (.int (16 : Int32))] [(.long (((c2.toInt64) &&& (255 : Int64)) <<< ((40 : Int32) &&& 0x3f).toInt64)), (.long ((((c0.toInt64) &&& (255 : Int64)) <<< ((56 : Int32) &&& 0x3f).toInt64) ||| (((c1.toInt64) &&& (255 : Int64)) <<< ((48 : Int32) &&& 0x3f).toInt64)))])) _
    refine XS.lor X0.here hx rfl (hb hby d3_38) rfl ?_
    show Steps p.tables e below (s₁.setTop (mkF m 39 #[.val (.ref a0), .val (.int (16 : Int32))] [(.long (((((c0.toInt64) &&& (255 : Int64)) <<< ((56 : Int32) &&& 0x3f).toInt64) ||| (((c1.toInt64) &&& (255 : Int64)) <<< ((48 : Int32) &&& 0x3f).toInt64)) ||| (((c2.toInt64) &&& (255 : Int64)) <<< ((40 : Int32) &&& 0x3f).toInt64)))])) _
    refine XS.aloadN X0.here hx rfl (hb hby d3_39) rfl rfl ?_
    show Steps p.tables e below (s₁.setTop (mkF m 40 #[.val (.ref a0), .val (.int (16 : Int32))] [(.ref a0), (.long (((((c0.toInt64) &&& (255 : Int64)) <<< ((56 : Int32) &&& 0x3f).toInt64) ||| (((c1.toInt64) &&& (255 : Int64)) <<< ((48 : Int32) &&& 0x3f).toInt64)) ||| (((c2.toInt64) &&& (255 : Int64)) <<< ((40 : Int32) &&& 0x3f).toInt64)))])) _
    refine XS.iloadN X0.here hx rfl (hb hby d3_40) rfl ?_
    show Steps p.tables e below (s₁.setTop (mkF m 41 #[.val (.ref a0), .val (.int (16 : Int32))] [(.int (16 : Int32)), (.ref a0), (.long (((((c0.toInt64) &&& (255 : Int64)) <<< ((56 : Int32) &&& 0x3f).toInt64) ||| (((c1.toInt64) &&& (255 : Int64)) <<< ((48 : Int32) &&& 0x3f).toInt64)) ||| (((c2.toInt64) &&& (255 : Int64)) <<< ((40 : Int32) &&& 0x3f).toInt64)))])) _
    refine XS.iconst X0.here hx rfl (hb hby d3_41) ?_
    show Steps p.tables e below (s₁.setTop (mkF m 42 #[.val (.ref a0), .val (.int (16 : Int32))] [(.int (3 : Int32)), (.int (16 : Int32)), (.ref a0), (.long (((((c0.toInt64) &&& (255 : Int64)) <<< ((56 : Int32) &&& 0x3f).toInt64) ||| (((c1.toInt64) &&& (255 : Int64)) <<< ((48 : Int32) &&& 0x3f).toInt64)) ||| (((c2.toInt64) &&& (255 : Int64)) <<< ((40 : Int32) &&& 0x3f).toInt64)))])) _
    refine XS.iadd X0.here hx rfl (hb hby d3_42) rfl ?_
    show Steps p.tables e below (s₁.setTop (mkF m 43 #[.val (.ref a0), .val (.int (16 : Int32))] [(.int (19 : Int32)), (.ref a0), (.long (((((c0.toInt64) &&& (255 : Int64)) <<< ((56 : Int32) &&& 0x3f).toInt64) ||| (((c1.toInt64) &&& (255 : Int64)) <<< ((48 : Int32) &&& 0x3f).toInt64)) ||| (((c2.toInt64) &&& (255 : Int64)) <<< ((40 : Int32) &&& 0x3f).toInt64)))])) _
    have hin104 : ¬ ((19 : Int32) < 0 ∨ cl104.slots.size ≤ ((19 : Int32)).toNatClampNeg) := (inb_of S104 ⟨by decide, by decide⟩)
    refine X0.baloadBytes hx (j := (19 : Int32)) (v := (.int c3)) (by rw [e0]; exact Ar104.1) (State.isArrayOf_alike hZ.alike Ar104.2.1) Ar104.2.2 hin104 (H104.at hin104 hb3) (g := (mkF m 43 #[.val (.ref a0), .val (.int (16 : Int32))] [(.int (19 : Int32)), (.ref a0), (.long (((((c0.toInt64) &&& (255 : Int64)) <<< ((56 : Int32) &&& 0x3f).toInt64) ||| (((c1.toInt64) &&& (255 : Int64)) <<< ((48 : Int32) &&& 0x3f).toInt64)) ||| (((c2.toInt64) &&& (255 : Int64)) <<< ((40 : Int32) &&& 0x3f).toInt64)))])) rfl rfl (hb hby d3_43) _ ?_
    show Steps p.tables e below (s₁.setTop (mkF m 44 #[.val (.ref a0), .val (.int (16 : Int32))] [(.int c3), (.long (((((c0.toInt64) &&& (255 : Int64)) <<< ((56 : Int32) &&& 0x3f).toInt64) ||| (((c1.toInt64) &&& (255 : Int64)) <<< ((48 : Int32) &&& 0x3f).toInt64)) ||| (((c2.toInt64) &&& (255 : Int64)) <<< ((40 : Int32) &&& 0x3f).toInt64)))])) _
    refine XS.i2l X0.here hx rfl (hb hby d3_44) rfl ?_
    show Steps p.tables e below (s₁.setTop (mkF m 45 #[.val (.ref a0), .val (.int (16 : Int32))] [(.long (c3.toInt64)), (.long (((((c0.toInt64) &&& (255 : Int64)) <<< ((56 : Int32) &&& 0x3f).toInt64) ||| (((c1.toInt64) &&& (255 : Int64)) <<< ((48 : Int32) &&& 0x3f).toInt64)) ||| (((c2.toInt64) &&& (255 : Int64)) <<< ((40 : Int32) &&& 0x3f).toInt64)))])) _
    refine X0.ldc2Long hx hown (mvT hZ (hw _ (List.mem_of_getElem? (i := 12) rfl))) (g := (mkF m 45 #[.val (.ref a0), .val (.int (16 : Int32))] [(.long (c3.toInt64)), (.long (((((c0.toInt64) &&& (255 : Int64)) <<< ((56 : Int32) &&& 0x3f).toInt64) ||| (((c1.toInt64) &&& (255 : Int64)) <<< ((48 : Int32) &&& 0x3f).toInt64)) ||| (((c2.toInt64) &&& (255 : Int64)) <<< ((40 : Int32) &&& 0x3f).toInt64)))])) rfl (hb hby d3_45) _ ?_
    show Steps p.tables e below (s₁.setTop (mkF m 48 #[.val (.ref a0), .val (.int (16 : Int32))] [(.long (255 : Int64)), (.long (c3.toInt64)), (.long (((((c0.toInt64) &&& (255 : Int64)) <<< ((56 : Int32) &&& 0x3f).toInt64) ||| (((c1.toInt64) &&& (255 : Int64)) <<< ((48 : Int32) &&& 0x3f).toInt64)) ||| (((c2.toInt64) &&& (255 : Int64)) <<< ((40 : Int32) &&& 0x3f).toInt64)))])) _
    refine XS.land X0.here hx rfl (hb hby d3_48) rfl ?_
    show Steps p.tables e below (s₁.setTop (mkF m 49 #[.val (.ref a0), .val (.int (16 : Int32))] [(.long ((c3.toInt64) &&& (255 : Int64))), (.long (((((c0.toInt64) &&& (255 : Int64)) <<< ((56 : Int32) &&& 0x3f).toInt64) ||| (((c1.toInt64) &&& (255 : Int64)) <<< ((48 : Int32) &&& 0x3f).toInt64)) ||| (((c2.toInt64) &&& (255 : Int64)) <<< ((40 : Int32) &&& 0x3f).toInt64)))])) _
    refine XS.bipush X0.here hx rfl (hb hby d3_49) ?_
    show Steps p.tables e below (s₁.setTop (mkF m 51 #[.val (.ref a0), .val (.int (16 : Int32))] [(.int (32 : Int32)), (.long ((c3.toInt64) &&& (255 : Int64))), (.long (((((c0.toInt64) &&& (255 : Int64)) <<< ((56 : Int32) &&& 0x3f).toInt64) ||| (((c1.toInt64) &&& (255 : Int64)) <<< ((48 : Int32) &&& 0x3f).toInt64)) ||| (((c2.toInt64) &&& (255 : Int64)) <<< ((40 : Int32) &&& 0x3f).toInt64)))])) _
    refine XS.lshl X0.here hx rfl (hb hby d3_51) rfl ?_
    show Steps p.tables e below (s₁.setTop (mkF m 52 #[.val (.ref a0), .val (.int (16 : Int32))] [(.long (((c3.toInt64) &&& (255 : Int64)) <<< ((32 : Int32) &&& 0x3f).toInt64)), (.long (((((c0.toInt64) &&& (255 : Int64)) <<< ((56 : Int32) &&& 0x3f).toInt64) ||| (((c1.toInt64) &&& (255 : Int64)) <<< ((48 : Int32) &&& 0x3f).toInt64)) ||| (((c2.toInt64) &&& (255 : Int64)) <<< ((40 : Int32) &&& 0x3f).toInt64)))])) _
    refine XS.lor X0.here hx rfl (hb hby d3_52) rfl ?_
    show Steps p.tables e below (s₁.setTop (mkF m 53 #[.val (.ref a0), .val (.int (16 : Int32))] [(.long ((((((c0.toInt64) &&& (255 : Int64)) <<< ((56 : Int32) &&& 0x3f).toInt64) ||| (((c1.toInt64) &&& (255 : Int64)) <<< ((48 : Int32) &&& 0x3f).toInt64)) ||| (((c2.toInt64) &&& (255 : Int64)) <<< ((40 : Int32) &&& 0x3f).toInt64)) ||| (((c3.toInt64) &&& (255 : Int64)) <<< ((32 : Int32) &&& 0x3f).toInt64)))])) _
    refine XS.aloadN X0.here hx rfl (hb hby d3_53) rfl rfl ?_
    show Steps p.tables e below (s₁.setTop (mkF m 54 #[.val (.ref a0), .val (.int (16 : Int32))] [(.ref a0), (.long ((((((c0.toInt64) &&& (255 : Int64)) <<< ((56 : Int32) &&& 0x3f).toInt64) ||| (((c1.toInt64) &&& (255 : Int64)) <<< ((48 : Int32) &&& 0x3f).toInt64)) ||| (((c2.toInt64) &&& (255 : Int64)) <<< ((40 : Int32) &&& 0x3f).toInt64)) ||| (((c3.toInt64) &&& (255 : Int64)) <<< ((32 : Int32) &&& 0x3f).toInt64)))])) _
    refine XS.iloadN X0.here hx rfl (hb hby d3_54) rfl ?_
    show Steps p.tables e below (s₁.setTop (mkF m 55 #[.val (.ref a0), .val (.int (16 : Int32))] [(.int (16 : Int32)), (.ref a0), (.long ((((((c0.toInt64) &&& (255 : Int64)) <<< ((56 : Int32) &&& 0x3f).toInt64) ||| (((c1.toInt64) &&& (255 : Int64)) <<< ((48 : Int32) &&& 0x3f).toInt64)) ||| (((c2.toInt64) &&& (255 : Int64)) <<< ((40 : Int32) &&& 0x3f).toInt64)) ||| (((c3.toInt64) &&& (255 : Int64)) <<< ((32 : Int32) &&& 0x3f).toInt64)))])) _
    refine XS.iconst X0.here hx rfl (hb hby d3_55) ?_
    show Steps p.tables e below (s₁.setTop (mkF m 56 #[.val (.ref a0), .val (.int (16 : Int32))] [(.int (4 : Int32)), (.int (16 : Int32)), (.ref a0), (.long ((((((c0.toInt64) &&& (255 : Int64)) <<< ((56 : Int32) &&& 0x3f).toInt64) ||| (((c1.toInt64) &&& (255 : Int64)) <<< ((48 : Int32) &&& 0x3f).toInt64)) ||| (((c2.toInt64) &&& (255 : Int64)) <<< ((40 : Int32) &&& 0x3f).toInt64)) ||| (((c3.toInt64) &&& (255 : Int64)) <<< ((32 : Int32) &&& 0x3f).toInt64)))])) _
    refine XS.iadd X0.here hx rfl (hb hby d3_56) rfl ?_
    show Steps p.tables e below (s₁.setTop (mkF m 57 #[.val (.ref a0), .val (.int (16 : Int32))] [(.int (20 : Int32)), (.ref a0), (.long ((((((c0.toInt64) &&& (255 : Int64)) <<< ((56 : Int32) &&& 0x3f).toInt64) ||| (((c1.toInt64) &&& (255 : Int64)) <<< ((48 : Int32) &&& 0x3f).toInt64)) ||| (((c2.toInt64) &&& (255 : Int64)) <<< ((40 : Int32) &&& 0x3f).toInt64)) ||| (((c3.toInt64) &&& (255 : Int64)) <<< ((32 : Int32) &&& 0x3f).toInt64)))])) _
    have hin105 : ¬ ((20 : Int32) < 0 ∨ cl105.slots.size ≤ ((20 : Int32)).toNatClampNeg) := (inb_of S105 ⟨by decide, by decide⟩)
    refine X0.baloadBytes hx (j := (20 : Int32)) (v := (.int c4)) (by rw [e0]; exact Ar105.1) (State.isArrayOf_alike hZ.alike Ar105.2.1) Ar105.2.2 hin105 (H105.at hin105 hb4) (g := (mkF m 57 #[.val (.ref a0), .val (.int (16 : Int32))] [(.int (20 : Int32)), (.ref a0), (.long ((((((c0.toInt64) &&& (255 : Int64)) <<< ((56 : Int32) &&& 0x3f).toInt64) ||| (((c1.toInt64) &&& (255 : Int64)) <<< ((48 : Int32) &&& 0x3f).toInt64)) ||| (((c2.toInt64) &&& (255 : Int64)) <<< ((40 : Int32) &&& 0x3f).toInt64)) ||| (((c3.toInt64) &&& (255 : Int64)) <<< ((32 : Int32) &&& 0x3f).toInt64)))])) rfl rfl (hb hby d3_57) _ ?_
    show Steps p.tables e below (s₁.setTop (mkF m 58 #[.val (.ref a0), .val (.int (16 : Int32))] [(.int c4), (.long ((((((c0.toInt64) &&& (255 : Int64)) <<< ((56 : Int32) &&& 0x3f).toInt64) ||| (((c1.toInt64) &&& (255 : Int64)) <<< ((48 : Int32) &&& 0x3f).toInt64)) ||| (((c2.toInt64) &&& (255 : Int64)) <<< ((40 : Int32) &&& 0x3f).toInt64)) ||| (((c3.toInt64) &&& (255 : Int64)) <<< ((32 : Int32) &&& 0x3f).toInt64)))])) _
    refine XS.i2l X0.here hx rfl (hb hby d3_58) rfl ?_
    show Steps p.tables e below (s₁.setTop (mkF m 59 #[.val (.ref a0), .val (.int (16 : Int32))] [(.long (c4.toInt64)), (.long ((((((c0.toInt64) &&& (255 : Int64)) <<< ((56 : Int32) &&& 0x3f).toInt64) ||| (((c1.toInt64) &&& (255 : Int64)) <<< ((48 : Int32) &&& 0x3f).toInt64)) ||| (((c2.toInt64) &&& (255 : Int64)) <<< ((40 : Int32) &&& 0x3f).toInt64)) ||| (((c3.toInt64) &&& (255 : Int64)) <<< ((32 : Int32) &&& 0x3f).toInt64)))])) _
    refine X0.ldc2Long hx hown (mvT hZ (hw _ (List.mem_of_getElem? (i := 12) rfl))) (g := (mkF m 59 #[.val (.ref a0), .val (.int (16 : Int32))] [(.long (c4.toInt64)), (.long ((((((c0.toInt64) &&& (255 : Int64)) <<< ((56 : Int32) &&& 0x3f).toInt64) ||| (((c1.toInt64) &&& (255 : Int64)) <<< ((48 : Int32) &&& 0x3f).toInt64)) ||| (((c2.toInt64) &&& (255 : Int64)) <<< ((40 : Int32) &&& 0x3f).toInt64)) ||| (((c3.toInt64) &&& (255 : Int64)) <<< ((32 : Int32) &&& 0x3f).toInt64)))])) rfl (hb hby d3_59) _ ?_
    show Steps p.tables e below (s₁.setTop (mkF m 62 #[.val (.ref a0), .val (.int (16 : Int32))] [(.long (255 : Int64)), (.long (c4.toInt64)), (.long ((((((c0.toInt64) &&& (255 : Int64)) <<< ((56 : Int32) &&& 0x3f).toInt64) ||| (((c1.toInt64) &&& (255 : Int64)) <<< ((48 : Int32) &&& 0x3f).toInt64)) ||| (((c2.toInt64) &&& (255 : Int64)) <<< ((40 : Int32) &&& 0x3f).toInt64)) ||| (((c3.toInt64) &&& (255 : Int64)) <<< ((32 : Int32) &&& 0x3f).toInt64)))])) _
    refine XS.land X0.here hx rfl (hb hby d3_62) rfl ?_
    show Steps p.tables e below (s₁.setTop (mkF m 63 #[.val (.ref a0), .val (.int (16 : Int32))] [(.long ((c4.toInt64) &&& (255 : Int64))), (.long ((((((c0.toInt64) &&& (255 : Int64)) <<< ((56 : Int32) &&& 0x3f).toInt64) ||| (((c1.toInt64) &&& (255 : Int64)) <<< ((48 : Int32) &&& 0x3f).toInt64)) ||| (((c2.toInt64) &&& (255 : Int64)) <<< ((40 : Int32) &&& 0x3f).toInt64)) ||| (((c3.toInt64) &&& (255 : Int64)) <<< ((32 : Int32) &&& 0x3f).toInt64)))])) _
    refine XS.bipush X0.here hx rfl (hb hby d3_63) ?_
    show Steps p.tables e below (s₁.setTop (mkF m 65 #[.val (.ref a0), .val (.int (16 : Int32))] [(.int (24 : Int32)), (.long ((c4.toInt64) &&& (255 : Int64))), (.long ((((((c0.toInt64) &&& (255 : Int64)) <<< ((56 : Int32) &&& 0x3f).toInt64) ||| (((c1.toInt64) &&& (255 : Int64)) <<< ((48 : Int32) &&& 0x3f).toInt64)) ||| (((c2.toInt64) &&& (255 : Int64)) <<< ((40 : Int32) &&& 0x3f).toInt64)) ||| (((c3.toInt64) &&& (255 : Int64)) <<< ((32 : Int32) &&& 0x3f).toInt64)))])) _
    refine XS.lshl X0.here hx rfl (hb hby d3_65) rfl ?_
    show Steps p.tables e below (s₁.setTop (mkF m 66 #[.val (.ref a0), .val (.int (16 : Int32))] [(.long (((c4.toInt64) &&& (255 : Int64)) <<< ((24 : Int32) &&& 0x3f).toInt64)), (.long ((((((c0.toInt64) &&& (255 : Int64)) <<< ((56 : Int32) &&& 0x3f).toInt64) ||| (((c1.toInt64) &&& (255 : Int64)) <<< ((48 : Int32) &&& 0x3f).toInt64)) ||| (((c2.toInt64) &&& (255 : Int64)) <<< ((40 : Int32) &&& 0x3f).toInt64)) ||| (((c3.toInt64) &&& (255 : Int64)) <<< ((32 : Int32) &&& 0x3f).toInt64)))])) _
    refine XS.lor X0.here hx rfl (hb hby d3_66) rfl ?_
    show Steps p.tables e below (s₁.setTop (mkF m 67 #[.val (.ref a0), .val (.int (16 : Int32))] [(.long (((((((c0.toInt64) &&& (255 : Int64)) <<< ((56 : Int32) &&& 0x3f).toInt64) ||| (((c1.toInt64) &&& (255 : Int64)) <<< ((48 : Int32) &&& 0x3f).toInt64)) ||| (((c2.toInt64) &&& (255 : Int64)) <<< ((40 : Int32) &&& 0x3f).toInt64)) ||| (((c3.toInt64) &&& (255 : Int64)) <<< ((32 : Int32) &&& 0x3f).toInt64)) ||| (((c4.toInt64) &&& (255 : Int64)) <<< ((24 : Int32) &&& 0x3f).toInt64)))])) _
    refine XS.aloadN X0.here hx rfl (hb hby d3_67) rfl rfl ?_
    show Steps p.tables e below (s₁.setTop (mkF m 68 #[.val (.ref a0), .val (.int (16 : Int32))] [(.ref a0), (.long (((((((c0.toInt64) &&& (255 : Int64)) <<< ((56 : Int32) &&& 0x3f).toInt64) ||| (((c1.toInt64) &&& (255 : Int64)) <<< ((48 : Int32) &&& 0x3f).toInt64)) ||| (((c2.toInt64) &&& (255 : Int64)) <<< ((40 : Int32) &&& 0x3f).toInt64)) ||| (((c3.toInt64) &&& (255 : Int64)) <<< ((32 : Int32) &&& 0x3f).toInt64)) ||| (((c4.toInt64) &&& (255 : Int64)) <<< ((24 : Int32) &&& 0x3f).toInt64)))])) _
    refine XS.iloadN X0.here hx rfl (hb hby d3_68) rfl ?_
    show Steps p.tables e below (s₁.setTop (mkF m 69 #[.val (.ref a0), .val (.int (16 : Int32))] [(.int (16 : Int32)), (.ref a0), (.long (((((((c0.toInt64) &&& (255 : Int64)) <<< ((56 : Int32) &&& 0x3f).toInt64) ||| (((c1.toInt64) &&& (255 : Int64)) <<< ((48 : Int32) &&& 0x3f).toInt64)) ||| (((c2.toInt64) &&& (255 : Int64)) <<< ((40 : Int32) &&& 0x3f).toInt64)) ||| (((c3.toInt64) &&& (255 : Int64)) <<< ((32 : Int32) &&& 0x3f).toInt64)) ||| (((c4.toInt64) &&& (255 : Int64)) <<< ((24 : Int32) &&& 0x3f).toInt64)))])) _
    refine XS.iconst X0.here hx rfl (hb hby d3_69) ?_
    show Steps p.tables e below (s₁.setTop (mkF m 70 #[.val (.ref a0), .val (.int (16 : Int32))] [(.int (5 : Int32)), (.int (16 : Int32)), (.ref a0), (.long (((((((c0.toInt64) &&& (255 : Int64)) <<< ((56 : Int32) &&& 0x3f).toInt64) ||| (((c1.toInt64) &&& (255 : Int64)) <<< ((48 : Int32) &&& 0x3f).toInt64)) ||| (((c2.toInt64) &&& (255 : Int64)) <<< ((40 : Int32) &&& 0x3f).toInt64)) ||| (((c3.toInt64) &&& (255 : Int64)) <<< ((32 : Int32) &&& 0x3f).toInt64)) ||| (((c4.toInt64) &&& (255 : Int64)) <<< ((24 : Int32) &&& 0x3f).toInt64)))])) _
    refine XS.iadd X0.here hx rfl (hb hby d3_70) rfl ?_
    show Steps p.tables e below (s₁.setTop (mkF m 71 #[.val (.ref a0), .val (.int (16 : Int32))] [(.int (21 : Int32)), (.ref a0), (.long (((((((c0.toInt64) &&& (255 : Int64)) <<< ((56 : Int32) &&& 0x3f).toInt64) ||| (((c1.toInt64) &&& (255 : Int64)) <<< ((48 : Int32) &&& 0x3f).toInt64)) ||| (((c2.toInt64) &&& (255 : Int64)) <<< ((40 : Int32) &&& 0x3f).toInt64)) ||| (((c3.toInt64) &&& (255 : Int64)) <<< ((32 : Int32) &&& 0x3f).toInt64)) ||| (((c4.toInt64) &&& (255 : Int64)) <<< ((24 : Int32) &&& 0x3f).toInt64)))])) _
    have hin106 : ¬ ((21 : Int32) < 0 ∨ cl106.slots.size ≤ ((21 : Int32)).toNatClampNeg) := (inb_of S106 ⟨by decide, by decide⟩)
    refine X0.baloadBytes hx (j := (21 : Int32)) (v := (.int c5)) (by rw [e0]; exact Ar106.1) (State.isArrayOf_alike hZ.alike Ar106.2.1) Ar106.2.2 hin106 (H106.at hin106 hb5) (g := (mkF m 71 #[.val (.ref a0), .val (.int (16 : Int32))] [(.int (21 : Int32)), (.ref a0), (.long (((((((c0.toInt64) &&& (255 : Int64)) <<< ((56 : Int32) &&& 0x3f).toInt64) ||| (((c1.toInt64) &&& (255 : Int64)) <<< ((48 : Int32) &&& 0x3f).toInt64)) ||| (((c2.toInt64) &&& (255 : Int64)) <<< ((40 : Int32) &&& 0x3f).toInt64)) ||| (((c3.toInt64) &&& (255 : Int64)) <<< ((32 : Int32) &&& 0x3f).toInt64)) ||| (((c4.toInt64) &&& (255 : Int64)) <<< ((24 : Int32) &&& 0x3f).toInt64)))])) rfl rfl (hb hby d3_71) _ ?_
    show Steps p.tables e below (s₁.setTop (mkF m 72 #[.val (.ref a0), .val (.int (16 : Int32))] [(.int c5), (.long (((((((c0.toInt64) &&& (255 : Int64)) <<< ((56 : Int32) &&& 0x3f).toInt64) ||| (((c1.toInt64) &&& (255 : Int64)) <<< ((48 : Int32) &&& 0x3f).toInt64)) ||| (((c2.toInt64) &&& (255 : Int64)) <<< ((40 : Int32) &&& 0x3f).toInt64)) ||| (((c3.toInt64) &&& (255 : Int64)) <<< ((32 : Int32) &&& 0x3f).toInt64)) ||| (((c4.toInt64) &&& (255 : Int64)) <<< ((24 : Int32) &&& 0x3f).toInt64)))])) _
    refine XS.i2l X0.here hx rfl (hb hby d3_72) rfl ?_
    show Steps p.tables e below (s₁.setTop (mkF m 73 #[.val (.ref a0), .val (.int (16 : Int32))] [(.long (c5.toInt64)), (.long (((((((c0.toInt64) &&& (255 : Int64)) <<< ((56 : Int32) &&& 0x3f).toInt64) ||| (((c1.toInt64) &&& (255 : Int64)) <<< ((48 : Int32) &&& 0x3f).toInt64)) ||| (((c2.toInt64) &&& (255 : Int64)) <<< ((40 : Int32) &&& 0x3f).toInt64)) ||| (((c3.toInt64) &&& (255 : Int64)) <<< ((32 : Int32) &&& 0x3f).toInt64)) ||| (((c4.toInt64) &&& (255 : Int64)) <<< ((24 : Int32) &&& 0x3f).toInt64)))])) _
    refine X0.ldc2Long hx hown (mvT hZ (hw _ (List.mem_of_getElem? (i := 12) rfl))) (g := (mkF m 73 #[.val (.ref a0), .val (.int (16 : Int32))] [(.long (c5.toInt64)), (.long (((((((c0.toInt64) &&& (255 : Int64)) <<< ((56 : Int32) &&& 0x3f).toInt64) ||| (((c1.toInt64) &&& (255 : Int64)) <<< ((48 : Int32) &&& 0x3f).toInt64)) ||| (((c2.toInt64) &&& (255 : Int64)) <<< ((40 : Int32) &&& 0x3f).toInt64)) ||| (((c3.toInt64) &&& (255 : Int64)) <<< ((32 : Int32) &&& 0x3f).toInt64)) ||| (((c4.toInt64) &&& (255 : Int64)) <<< ((24 : Int32) &&& 0x3f).toInt64)))])) rfl (hb hby d3_73) _ ?_
    show Steps p.tables e below (s₁.setTop (mkF m 76 #[.val (.ref a0), .val (.int (16 : Int32))] [(.long (255 : Int64)), (.long (c5.toInt64)), (.long (((((((c0.toInt64) &&& (255 : Int64)) <<< ((56 : Int32) &&& 0x3f).toInt64) ||| (((c1.toInt64) &&& (255 : Int64)) <<< ((48 : Int32) &&& 0x3f).toInt64)) ||| (((c2.toInt64) &&& (255 : Int64)) <<< ((40 : Int32) &&& 0x3f).toInt64)) ||| (((c3.toInt64) &&& (255 : Int64)) <<< ((32 : Int32) &&& 0x3f).toInt64)) ||| (((c4.toInt64) &&& (255 : Int64)) <<< ((24 : Int32) &&& 0x3f).toInt64)))])) _
    refine XS.land X0.here hx rfl (hb hby d3_76) rfl ?_
    show Steps p.tables e below (s₁.setTop (mkF m 77 #[.val (.ref a0), .val (.int (16 : Int32))] [(.long ((c5.toInt64) &&& (255 : Int64))), (.long (((((((c0.toInt64) &&& (255 : Int64)) <<< ((56 : Int32) &&& 0x3f).toInt64) ||| (((c1.toInt64) &&& (255 : Int64)) <<< ((48 : Int32) &&& 0x3f).toInt64)) ||| (((c2.toInt64) &&& (255 : Int64)) <<< ((40 : Int32) &&& 0x3f).toInt64)) ||| (((c3.toInt64) &&& (255 : Int64)) <<< ((32 : Int32) &&& 0x3f).toInt64)) ||| (((c4.toInt64) &&& (255 : Int64)) <<< ((24 : Int32) &&& 0x3f).toInt64)))])) _
    refine XS.bipush X0.here hx rfl (hb hby d3_77) ?_
    show Steps p.tables e below (s₁.setTop (mkF m 79 #[.val (.ref a0), .val (.int (16 : Int32))] [(.int (16 : Int32)), (.long ((c5.toInt64) &&& (255 : Int64))), (.long (((((((c0.toInt64) &&& (255 : Int64)) <<< ((56 : Int32) &&& 0x3f).toInt64) ||| (((c1.toInt64) &&& (255 : Int64)) <<< ((48 : Int32) &&& 0x3f).toInt64)) ||| (((c2.toInt64) &&& (255 : Int64)) <<< ((40 : Int32) &&& 0x3f).toInt64)) ||| (((c3.toInt64) &&& (255 : Int64)) <<< ((32 : Int32) &&& 0x3f).toInt64)) ||| (((c4.toInt64) &&& (255 : Int64)) <<< ((24 : Int32) &&& 0x3f).toInt64)))])) _
    refine XS.lshl X0.here hx rfl (hb hby d3_79) rfl ?_
    show Steps p.tables e below (s₁.setTop (mkF m 80 #[.val (.ref a0), .val (.int (16 : Int32))] [(.long (((c5.toInt64) &&& (255 : Int64)) <<< ((16 : Int32) &&& 0x3f).toInt64)), (.long (((((((c0.toInt64) &&& (255 : Int64)) <<< ((56 : Int32) &&& 0x3f).toInt64) ||| (((c1.toInt64) &&& (255 : Int64)) <<< ((48 : Int32) &&& 0x3f).toInt64)) ||| (((c2.toInt64) &&& (255 : Int64)) <<< ((40 : Int32) &&& 0x3f).toInt64)) ||| (((c3.toInt64) &&& (255 : Int64)) <<< ((32 : Int32) &&& 0x3f).toInt64)) ||| (((c4.toInt64) &&& (255 : Int64)) <<< ((24 : Int32) &&& 0x3f).toInt64)))])) _
    refine XS.lor X0.here hx rfl (hb hby d3_80) rfl ?_
    show Steps p.tables e below (s₁.setTop (mkF m 81 #[.val (.ref a0), .val (.int (16 : Int32))] [(.long ((((((((c0.toInt64) &&& (255 : Int64)) <<< ((56 : Int32) &&& 0x3f).toInt64) ||| (((c1.toInt64) &&& (255 : Int64)) <<< ((48 : Int32) &&& 0x3f).toInt64)) ||| (((c2.toInt64) &&& (255 : Int64)) <<< ((40 : Int32) &&& 0x3f).toInt64)) ||| (((c3.toInt64) &&& (255 : Int64)) <<< ((32 : Int32) &&& 0x3f).toInt64)) ||| (((c4.toInt64) &&& (255 : Int64)) <<< ((24 : Int32) &&& 0x3f).toInt64)) ||| (((c5.toInt64) &&& (255 : Int64)) <<< ((16 : Int32) &&& 0x3f).toInt64)))])) _
    refine XS.aloadN X0.here hx rfl (hb hby d3_81) rfl rfl ?_
    show Steps p.tables e below (s₁.setTop (mkF m 82 #[.val (.ref a0), .val (.int (16 : Int32))] [(.ref a0), (.long ((((((((c0.toInt64) &&& (255 : Int64)) <<< ((56 : Int32) &&& 0x3f).toInt64) ||| (((c1.toInt64) &&& (255 : Int64)) <<< ((48 : Int32) &&& 0x3f).toInt64)) ||| (((c2.toInt64) &&& (255 : Int64)) <<< ((40 : Int32) &&& 0x3f).toInt64)) ||| (((c3.toInt64) &&& (255 : Int64)) <<< ((32 : Int32) &&& 0x3f).toInt64)) ||| (((c4.toInt64) &&& (255 : Int64)) <<< ((24 : Int32) &&& 0x3f).toInt64)) ||| (((c5.toInt64) &&& (255 : Int64)) <<< ((16 : Int32) &&& 0x3f).toInt64)))])) _
    refine XS.iloadN X0.here hx rfl (hb hby d3_82) rfl ?_
    show Steps p.tables e below (s₁.setTop (mkF m 83 #[.val (.ref a0), .val (.int (16 : Int32))] [(.int (16 : Int32)), (.ref a0), (.long ((((((((c0.toInt64) &&& (255 : Int64)) <<< ((56 : Int32) &&& 0x3f).toInt64) ||| (((c1.toInt64) &&& (255 : Int64)) <<< ((48 : Int32) &&& 0x3f).toInt64)) ||| (((c2.toInt64) &&& (255 : Int64)) <<< ((40 : Int32) &&& 0x3f).toInt64)) ||| (((c3.toInt64) &&& (255 : Int64)) <<< ((32 : Int32) &&& 0x3f).toInt64)) ||| (((c4.toInt64) &&& (255 : Int64)) <<< ((24 : Int32) &&& 0x3f).toInt64)) ||| (((c5.toInt64) &&& (255 : Int64)) <<< ((16 : Int32) &&& 0x3f).toInt64)))])) _
    refine XS.bipush X0.here hx rfl (hb hby d3_83) ?_
    show Steps p.tables e below (s₁.setTop (mkF m 85 #[.val (.ref a0), .val (.int (16 : Int32))] [(.int (6 : Int32)), (.int (16 : Int32)), (.ref a0), (.long ((((((((c0.toInt64) &&& (255 : Int64)) <<< ((56 : Int32) &&& 0x3f).toInt64) ||| (((c1.toInt64) &&& (255 : Int64)) <<< ((48 : Int32) &&& 0x3f).toInt64)) ||| (((c2.toInt64) &&& (255 : Int64)) <<< ((40 : Int32) &&& 0x3f).toInt64)) ||| (((c3.toInt64) &&& (255 : Int64)) <<< ((32 : Int32) &&& 0x3f).toInt64)) ||| (((c4.toInt64) &&& (255 : Int64)) <<< ((24 : Int32) &&& 0x3f).toInt64)) ||| (((c5.toInt64) &&& (255 : Int64)) <<< ((16 : Int32) &&& 0x3f).toInt64)))])) _
    refine XS.iadd X0.here hx rfl (hb hby d3_85) rfl ?_
    show Steps p.tables e below (s₁.setTop (mkF m 86 #[.val (.ref a0), .val (.int (16 : Int32))] [(.int (22 : Int32)), (.ref a0), (.long ((((((((c0.toInt64) &&& (255 : Int64)) <<< ((56 : Int32) &&& 0x3f).toInt64) ||| (((c1.toInt64) &&& (255 : Int64)) <<< ((48 : Int32) &&& 0x3f).toInt64)) ||| (((c2.toInt64) &&& (255 : Int64)) <<< ((40 : Int32) &&& 0x3f).toInt64)) ||| (((c3.toInt64) &&& (255 : Int64)) <<< ((32 : Int32) &&& 0x3f).toInt64)) ||| (((c4.toInt64) &&& (255 : Int64)) <<< ((24 : Int32) &&& 0x3f).toInt64)) ||| (((c5.toInt64) &&& (255 : Int64)) <<< ((16 : Int32) &&& 0x3f).toInt64)))])) _
    have hin107 : ¬ ((22 : Int32) < 0 ∨ cl107.slots.size ≤ ((22 : Int32)).toNatClampNeg) := (inb_of S107 ⟨by decide, by decide⟩)
    refine X0.baloadBytes hx (j := (22 : Int32)) (v := (.int c6)) (by rw [e0]; exact Ar107.1) (State.isArrayOf_alike hZ.alike Ar107.2.1) Ar107.2.2 hin107 (H107.at hin107 hb6) (g := (mkF m 86 #[.val (.ref a0), .val (.int (16 : Int32))] [(.int (22 : Int32)), (.ref a0), (.long ((((((((c0.toInt64) &&& (255 : Int64)) <<< ((56 : Int32) &&& 0x3f).toInt64) ||| (((c1.toInt64) &&& (255 : Int64)) <<< ((48 : Int32) &&& 0x3f).toInt64)) ||| (((c2.toInt64) &&& (255 : Int64)) <<< ((40 : Int32) &&& 0x3f).toInt64)) ||| (((c3.toInt64) &&& (255 : Int64)) <<< ((32 : Int32) &&& 0x3f).toInt64)) ||| (((c4.toInt64) &&& (255 : Int64)) <<< ((24 : Int32) &&& 0x3f).toInt64)) ||| (((c5.toInt64) &&& (255 : Int64)) <<< ((16 : Int32) &&& 0x3f).toInt64)))])) rfl rfl (hb hby d3_86) _ ?_
    show Steps p.tables e below (s₁.setTop (mkF m 87 #[.val (.ref a0), .val (.int (16 : Int32))] [(.int c6), (.long ((((((((c0.toInt64) &&& (255 : Int64)) <<< ((56 : Int32) &&& 0x3f).toInt64) ||| (((c1.toInt64) &&& (255 : Int64)) <<< ((48 : Int32) &&& 0x3f).toInt64)) ||| (((c2.toInt64) &&& (255 : Int64)) <<< ((40 : Int32) &&& 0x3f).toInt64)) ||| (((c3.toInt64) &&& (255 : Int64)) <<< ((32 : Int32) &&& 0x3f).toInt64)) ||| (((c4.toInt64) &&& (255 : Int64)) <<< ((24 : Int32) &&& 0x3f).toInt64)) ||| (((c5.toInt64) &&& (255 : Int64)) <<< ((16 : Int32) &&& 0x3f).toInt64)))])) _
    refine XS.i2l X0.here hx rfl (hb hby d3_87) rfl ?_
    show Steps p.tables e below (s₁.setTop (mkF m 88 #[.val (.ref a0), .val (.int (16 : Int32))] [(.long (c6.toInt64)), (.long ((((((((c0.toInt64) &&& (255 : Int64)) <<< ((56 : Int32) &&& 0x3f).toInt64) ||| (((c1.toInt64) &&& (255 : Int64)) <<< ((48 : Int32) &&& 0x3f).toInt64)) ||| (((c2.toInt64) &&& (255 : Int64)) <<< ((40 : Int32) &&& 0x3f).toInt64)) ||| (((c3.toInt64) &&& (255 : Int64)) <<< ((32 : Int32) &&& 0x3f).toInt64)) ||| (((c4.toInt64) &&& (255 : Int64)) <<< ((24 : Int32) &&& 0x3f).toInt64)) ||| (((c5.toInt64) &&& (255 : Int64)) <<< ((16 : Int32) &&& 0x3f).toInt64)))])) _
    refine X0.ldc2Long hx hown (mvT hZ (hw _ (List.mem_of_getElem? (i := 12) rfl))) (g := (mkF m 88 #[.val (.ref a0), .val (.int (16 : Int32))] [(.long (c6.toInt64)), (.long ((((((((c0.toInt64) &&& (255 : Int64)) <<< ((56 : Int32) &&& 0x3f).toInt64) ||| (((c1.toInt64) &&& (255 : Int64)) <<< ((48 : Int32) &&& 0x3f).toInt64)) ||| (((c2.toInt64) &&& (255 : Int64)) <<< ((40 : Int32) &&& 0x3f).toInt64)) ||| (((c3.toInt64) &&& (255 : Int64)) <<< ((32 : Int32) &&& 0x3f).toInt64)) ||| (((c4.toInt64) &&& (255 : Int64)) <<< ((24 : Int32) &&& 0x3f).toInt64)) ||| (((c5.toInt64) &&& (255 : Int64)) <<< ((16 : Int32) &&& 0x3f).toInt64)))])) rfl (hb hby d3_88) _ ?_
    show Steps p.tables e below (s₁.setTop (mkF m 91 #[.val (.ref a0), .val (.int (16 : Int32))] [(.long (255 : Int64)), (.long (c6.toInt64)), (.long ((((((((c0.toInt64) &&& (255 : Int64)) <<< ((56 : Int32) &&& 0x3f).toInt64) ||| (((c1.toInt64) &&& (255 : Int64)) <<< ((48 : Int32) &&& 0x3f).toInt64)) ||| (((c2.toInt64) &&& (255 : Int64)) <<< ((40 : Int32) &&& 0x3f).toInt64)) ||| (((c3.toInt64) &&& (255 : Int64)) <<< ((32 : Int32) &&& 0x3f).toInt64)) ||| (((c4.toInt64) &&& (255 : Int64)) <<< ((24 : Int32) &&& 0x3f).toInt64)) ||| (((c5.toInt64) &&& (255 : Int64)) <<< ((16 : Int32) &&& 0x3f).toInt64)))])) _
    refine XS.land X0.here hx rfl (hb hby d3_91) rfl ?_
    show Steps p.tables e below (s₁.setTop (mkF m 92 #[.val (.ref a0), .val (.int (16 : Int32))] [(.long ((c6.toInt64) &&& (255 : Int64))), (.long ((((((((c0.toInt64) &&& (255 : Int64)) <<< ((56 : Int32) &&& 0x3f).toInt64) ||| (((c1.toInt64) &&& (255 : Int64)) <<< ((48 : Int32) &&& 0x3f).toInt64)) ||| (((c2.toInt64) &&& (255 : Int64)) <<< ((40 : Int32) &&& 0x3f).toInt64)) ||| (((c3.toInt64) &&& (255 : Int64)) <<< ((32 : Int32) &&& 0x3f).toInt64)) ||| (((c4.toInt64) &&& (255 : Int64)) <<< ((24 : Int32) &&& 0x3f).toInt64)) ||| (((c5.toInt64) &&& (255 : Int64)) <<< ((16 : Int32) &&& 0x3f).toInt64)))])) _
    refine XS.bipush X0.here hx rfl (hb hby d3_92) ?_
    show Steps p.tables e below (s₁.setTop (mkF m 94 #[.val (.ref a0), .val (.int (16 : Int32))] [(.int (8 : Int32)), (.long ((c6.toInt64) &&& (255 : Int64))), (.long ((((((((c0.toInt64) &&& (255 : Int64)) <<< ((56 : Int32) &&& 0x3f).toInt64) ||| (((c1.toInt64) &&& (255 : Int64)) <<< ((48 : Int32) &&& 0x3f).toInt64)) ||| (((c2.toInt64) &&& (255 : Int64)) <<< ((40 : Int32) &&& 0x3f).toInt64)) ||| (((c3.toInt64) &&& (255 : Int64)) <<< ((32 : Int32) &&& 0x3f).toInt64)) ||| (((c4.toInt64) &&& (255 : Int64)) <<< ((24 : Int32) &&& 0x3f).toInt64)) ||| (((c5.toInt64) &&& (255 : Int64)) <<< ((16 : Int32) &&& 0x3f).toInt64)))])) _
    refine XS.lshl X0.here hx rfl (hb hby d3_94) rfl ?_
    show Steps p.tables e below (s₁.setTop (mkF m 95 #[.val (.ref a0), .val (.int (16 : Int32))] [(.long (((c6.toInt64) &&& (255 : Int64)) <<< ((8 : Int32) &&& 0x3f).toInt64)), (.long ((((((((c0.toInt64) &&& (255 : Int64)) <<< ((56 : Int32) &&& 0x3f).toInt64) ||| (((c1.toInt64) &&& (255 : Int64)) <<< ((48 : Int32) &&& 0x3f).toInt64)) ||| (((c2.toInt64) &&& (255 : Int64)) <<< ((40 : Int32) &&& 0x3f).toInt64)) ||| (((c3.toInt64) &&& (255 : Int64)) <<< ((32 : Int32) &&& 0x3f).toInt64)) ||| (((c4.toInt64) &&& (255 : Int64)) <<< ((24 : Int32) &&& 0x3f).toInt64)) ||| (((c5.toInt64) &&& (255 : Int64)) <<< ((16 : Int32) &&& 0x3f).toInt64)))])) _
    refine XS.lor X0.here hx rfl (hb hby d3_95) rfl ?_
    show Steps p.tables e below (s₁.setTop (mkF m 96 #[.val (.ref a0), .val (.int (16 : Int32))] [(.long (((((((((c0.toInt64) &&& (255 : Int64)) <<< ((56 : Int32) &&& 0x3f).toInt64) ||| (((c1.toInt64) &&& (255 : Int64)) <<< ((48 : Int32) &&& 0x3f).toInt64)) ||| (((c2.toInt64) &&& (255 : Int64)) <<< ((40 : Int32) &&& 0x3f).toInt64)) ||| (((c3.toInt64) &&& (255 : Int64)) <<< ((32 : Int32) &&& 0x3f).toInt64)) ||| (((c4.toInt64) &&& (255 : Int64)) <<< ((24 : Int32) &&& 0x3f).toInt64)) ||| (((c5.toInt64) &&& (255 : Int64)) <<< ((16 : Int32) &&& 0x3f).toInt64)) ||| (((c6.toInt64) &&& (255 : Int64)) <<< ((8 : Int32) &&& 0x3f).toInt64)))])) _
    refine XS.aloadN X0.here hx rfl (hb hby d3_96) rfl rfl ?_
    show Steps p.tables e below (s₁.setTop (mkF m 97 #[.val (.ref a0), .val (.int (16 : Int32))] [(.ref a0), (.long (((((((((c0.toInt64) &&& (255 : Int64)) <<< ((56 : Int32) &&& 0x3f).toInt64) ||| (((c1.toInt64) &&& (255 : Int64)) <<< ((48 : Int32) &&& 0x3f).toInt64)) ||| (((c2.toInt64) &&& (255 : Int64)) <<< ((40 : Int32) &&& 0x3f).toInt64)) ||| (((c3.toInt64) &&& (255 : Int64)) <<< ((32 : Int32) &&& 0x3f).toInt64)) ||| (((c4.toInt64) &&& (255 : Int64)) <<< ((24 : Int32) &&& 0x3f).toInt64)) ||| (((c5.toInt64) &&& (255 : Int64)) <<< ((16 : Int32) &&& 0x3f).toInt64)) ||| (((c6.toInt64) &&& (255 : Int64)) <<< ((8 : Int32) &&& 0x3f).toInt64)))])) _
    refine XS.iloadN X0.here hx rfl (hb hby d3_97) rfl ?_
    show Steps p.tables e below (s₁.setTop (mkF m 98 #[.val (.ref a0), .val (.int (16 : Int32))] [(.int (16 : Int32)), (.ref a0), (.long (((((((((c0.toInt64) &&& (255 : Int64)) <<< ((56 : Int32) &&& 0x3f).toInt64) ||| (((c1.toInt64) &&& (255 : Int64)) <<< ((48 : Int32) &&& 0x3f).toInt64)) ||| (((c2.toInt64) &&& (255 : Int64)) <<< ((40 : Int32) &&& 0x3f).toInt64)) ||| (((c3.toInt64) &&& (255 : Int64)) <<< ((32 : Int32) &&& 0x3f).toInt64)) ||| (((c4.toInt64) &&& (255 : Int64)) <<< ((24 : Int32) &&& 0x3f).toInt64)) ||| (((c5.toInt64) &&& (255 : Int64)) <<< ((16 : Int32) &&& 0x3f).toInt64)) ||| (((c6.toInt64) &&& (255 : Int64)) <<< ((8 : Int32) &&& 0x3f).toInt64)))])) _
    refine XS.bipush X0.here hx rfl (hb hby d3_98) ?_
    show Steps p.tables e below (s₁.setTop (mkF m 100 #[.val (.ref a0), .val (.int (16 : Int32))] [(.int (7 : Int32)), (.int (16 : Int32)), (.ref a0), (.long (((((((((c0.toInt64) &&& (255 : Int64)) <<< ((56 : Int32) &&& 0x3f).toInt64) ||| (((c1.toInt64) &&& (255 : Int64)) <<< ((48 : Int32) &&& 0x3f).toInt64)) ||| (((c2.toInt64) &&& (255 : Int64)) <<< ((40 : Int32) &&& 0x3f).toInt64)) ||| (((c3.toInt64) &&& (255 : Int64)) <<< ((32 : Int32) &&& 0x3f).toInt64)) ||| (((c4.toInt64) &&& (255 : Int64)) <<< ((24 : Int32) &&& 0x3f).toInt64)) ||| (((c5.toInt64) &&& (255 : Int64)) <<< ((16 : Int32) &&& 0x3f).toInt64)) ||| (((c6.toInt64) &&& (255 : Int64)) <<< ((8 : Int32) &&& 0x3f).toInt64)))])) _
    refine XS.iadd X0.here hx rfl (hb hby d3_100) rfl ?_
    show Steps p.tables e below (s₁.setTop (mkF m 101 #[.val (.ref a0), .val (.int (16 : Int32))] [(.int (23 : Int32)), (.ref a0), (.long (((((((((c0.toInt64) &&& (255 : Int64)) <<< ((56 : Int32) &&& 0x3f).toInt64) ||| (((c1.toInt64) &&& (255 : Int64)) <<< ((48 : Int32) &&& 0x3f).toInt64)) ||| (((c2.toInt64) &&& (255 : Int64)) <<< ((40 : Int32) &&& 0x3f).toInt64)) ||| (((c3.toInt64) &&& (255 : Int64)) <<< ((32 : Int32) &&& 0x3f).toInt64)) ||| (((c4.toInt64) &&& (255 : Int64)) <<< ((24 : Int32) &&& 0x3f).toInt64)) ||| (((c5.toInt64) &&& (255 : Int64)) <<< ((16 : Int32) &&& 0x3f).toInt64)) ||| (((c6.toInt64) &&& (255 : Int64)) <<< ((8 : Int32) &&& 0x3f).toInt64)))])) _
    have hin108 : ¬ ((23 : Int32) < 0 ∨ cl108.slots.size ≤ ((23 : Int32)).toNatClampNeg) := (inb_of S108 ⟨by decide, by decide⟩)
    refine X0.baloadBytes hx (j := (23 : Int32)) (v := (.int c7)) (by rw [e0]; exact Ar108.1) (State.isArrayOf_alike hZ.alike Ar108.2.1) Ar108.2.2 hin108 (H108.at hin108 hb7) (g := (mkF m 101 #[.val (.ref a0), .val (.int (16 : Int32))] [(.int (23 : Int32)), (.ref a0), (.long (((((((((c0.toInt64) &&& (255 : Int64)) <<< ((56 : Int32) &&& 0x3f).toInt64) ||| (((c1.toInt64) &&& (255 : Int64)) <<< ((48 : Int32) &&& 0x3f).toInt64)) ||| (((c2.toInt64) &&& (255 : Int64)) <<< ((40 : Int32) &&& 0x3f).toInt64)) ||| (((c3.toInt64) &&& (255 : Int64)) <<< ((32 : Int32) &&& 0x3f).toInt64)) ||| (((c4.toInt64) &&& (255 : Int64)) <<< ((24 : Int32) &&& 0x3f).toInt64)) ||| (((c5.toInt64) &&& (255 : Int64)) <<< ((16 : Int32) &&& 0x3f).toInt64)) ||| (((c6.toInt64) &&& (255 : Int64)) <<< ((8 : Int32) &&& 0x3f).toInt64)))])) rfl rfl (hb hby d3_101) _ ?_
    show Steps p.tables e below (s₁.setTop (mkF m 102 #[.val (.ref a0), .val (.int (16 : Int32))] [(.int c7), (.long (((((((((c0.toInt64) &&& (255 : Int64)) <<< ((56 : Int32) &&& 0x3f).toInt64) ||| (((c1.toInt64) &&& (255 : Int64)) <<< ((48 : Int32) &&& 0x3f).toInt64)) ||| (((c2.toInt64) &&& (255 : Int64)) <<< ((40 : Int32) &&& 0x3f).toInt64)) ||| (((c3.toInt64) &&& (255 : Int64)) <<< ((32 : Int32) &&& 0x3f).toInt64)) ||| (((c4.toInt64) &&& (255 : Int64)) <<< ((24 : Int32) &&& 0x3f).toInt64)) ||| (((c5.toInt64) &&& (255 : Int64)) <<< ((16 : Int32) &&& 0x3f).toInt64)) ||| (((c6.toInt64) &&& (255 : Int64)) <<< ((8 : Int32) &&& 0x3f).toInt64)))])) _
    refine XS.i2l X0.here hx rfl (hb hby d3_102) rfl ?_
    show Steps p.tables e below (s₁.setTop (mkF m 103 #[.val (.ref a0), .val (.int (16 : Int32))] [(.long (c7.toInt64)), (.long (((((((((c0.toInt64) &&& (255 : Int64)) <<< ((56 : Int32) &&& 0x3f).toInt64) ||| (((c1.toInt64) &&& (255 : Int64)) <<< ((48 : Int32) &&& 0x3f).toInt64)) ||| (((c2.toInt64) &&& (255 : Int64)) <<< ((40 : Int32) &&& 0x3f).toInt64)) ||| (((c3.toInt64) &&& (255 : Int64)) <<< ((32 : Int32) &&& 0x3f).toInt64)) ||| (((c4.toInt64) &&& (255 : Int64)) <<< ((24 : Int32) &&& 0x3f).toInt64)) ||| (((c5.toInt64) &&& (255 : Int64)) <<< ((16 : Int32) &&& 0x3f).toInt64)) ||| (((c6.toInt64) &&& (255 : Int64)) <<< ((8 : Int32) &&& 0x3f).toInt64)))])) _
    refine X0.ldc2Long hx hown (mvT hZ (hw _ (List.mem_of_getElem? (i := 12) rfl))) (g := (mkF m 103 #[.val (.ref a0), .val (.int (16 : Int32))] [(.long (c7.toInt64)), (.long (((((((((c0.toInt64) &&& (255 : Int64)) <<< ((56 : Int32) &&& 0x3f).toInt64) ||| (((c1.toInt64) &&& (255 : Int64)) <<< ((48 : Int32) &&& 0x3f).toInt64)) ||| (((c2.toInt64) &&& (255 : Int64)) <<< ((40 : Int32) &&& 0x3f).toInt64)) ||| (((c3.toInt64) &&& (255 : Int64)) <<< ((32 : Int32) &&& 0x3f).toInt64)) ||| (((c4.toInt64) &&& (255 : Int64)) <<< ((24 : Int32) &&& 0x3f).toInt64)) ||| (((c5.toInt64) &&& (255 : Int64)) <<< ((16 : Int32) &&& 0x3f).toInt64)) ||| (((c6.toInt64) &&& (255 : Int64)) <<< ((8 : Int32) &&& 0x3f).toInt64)))])) rfl (hb hby d3_103) _ ?_
    show Steps p.tables e below (s₁.setTop (mkF m 106 #[.val (.ref a0), .val (.int (16 : Int32))] [(.long (255 : Int64)), (.long (c7.toInt64)), (.long (((((((((c0.toInt64) &&& (255 : Int64)) <<< ((56 : Int32) &&& 0x3f).toInt64) ||| (((c1.toInt64) &&& (255 : Int64)) <<< ((48 : Int32) &&& 0x3f).toInt64)) ||| (((c2.toInt64) &&& (255 : Int64)) <<< ((40 : Int32) &&& 0x3f).toInt64)) ||| (((c3.toInt64) &&& (255 : Int64)) <<< ((32 : Int32) &&& 0x3f).toInt64)) ||| (((c4.toInt64) &&& (255 : Int64)) <<< ((24 : Int32) &&& 0x3f).toInt64)) ||| (((c5.toInt64) &&& (255 : Int64)) <<< ((16 : Int32) &&& 0x3f).toInt64)) ||| (((c6.toInt64) &&& (255 : Int64)) <<< ((8 : Int32) &&& 0x3f).toInt64)))])) _
    refine XS.land X0.here hx rfl (hb hby d3_106) rfl ?_
    show Steps p.tables e below (s₁.setTop (mkF m 107 #[.val (.ref a0), .val (.int (16 : Int32))] [(.long ((c7.toInt64) &&& (255 : Int64))), (.long (((((((((c0.toInt64) &&& (255 : Int64)) <<< ((56 : Int32) &&& 0x3f).toInt64) ||| (((c1.toInt64) &&& (255 : Int64)) <<< ((48 : Int32) &&& 0x3f).toInt64)) ||| (((c2.toInt64) &&& (255 : Int64)) <<< ((40 : Int32) &&& 0x3f).toInt64)) ||| (((c3.toInt64) &&& (255 : Int64)) <<< ((32 : Int32) &&& 0x3f).toInt64)) ||| (((c4.toInt64) &&& (255 : Int64)) <<< ((24 : Int32) &&& 0x3f).toInt64)) ||| (((c5.toInt64) &&& (255 : Int64)) <<< ((16 : Int32) &&& 0x3f).toInt64)) ||| (((c6.toInt64) &&& (255 : Int64)) <<< ((8 : Int32) &&& 0x3f).toInt64)))])) _
    refine XS.lor X0.here hx rfl (hb hby d3_107) rfl ?_
    show Steps p.tables e below (s₁.setTop (mkF m 108 #[.val (.ref a0), .val (.int (16 : Int32))] [(.long ((((((((((c0.toInt64) &&& (255 : Int64)) <<< ((56 : Int32) &&& 0x3f).toInt64) ||| (((c1.toInt64) &&& (255 : Int64)) <<< ((48 : Int32) &&& 0x3f).toInt64)) ||| (((c2.toInt64) &&& (255 : Int64)) <<< ((40 : Int32) &&& 0x3f).toInt64)) ||| (((c3.toInt64) &&& (255 : Int64)) <<< ((32 : Int32) &&& 0x3f).toInt64)) ||| (((c4.toInt64) &&& (255 : Int64)) <<< ((24 : Int32) &&& 0x3f).toInt64)) ||| (((c5.toInt64) &&& (255 : Int64)) <<< ((16 : Int32) &&& 0x3f).toInt64)) ||| (((c6.toInt64) &&& (255 : Int64)) <<< ((8 : Int32) &&& 0x3f).toInt64)) ||| ((c7.toInt64) &&& (255 : Int64))))])) _
    exact retOut X0 hx (t := .long) Bd.returns rfl (Or.inr (Or.inl ⟨rfl, rfl, _, rfl⟩)) (hb hby d3_108) hr
  · show Q_rmg32_16 Z a0 kk vs c0 c1 c2 c3 c4 c5 c6 c7 h0 n0 _ s₁.heap _
    rw [e0]
    exact ⟨rfl, N0, rfl⟩
theorem ef_rmg32_24 (m : MethodId) (x0 : Addr) (x1 : Int32) : entryFrame m #[(.ref x0), (.int x1)] 2 = mkF m 0 #[.val (.ref x0), .val (.int x1)] [] := by first | (simp [entryFrame, mkF, argsToLocals, Value.category]; done) | rfl
def Q_rmg32_24 (Z : State) (a0 : Addr) (kk : ClassId) (vs : List Value) (c0 : Int32) (c1 : Int32) (c2 : Int32) (c3 : Int32) (c4 : Int32) (c5 : Int32) (c6 : Int32) (c7 : Int32) (h0 : Heap) (n0 : Nat) (v : Option Value) (h : Heap) (L : List Loc) : Prop := v = some (.long (own_get c0 c1 c2 c3 c4 c5 c6 c7)) ∧ Fr n0 L ∧ h = h0
set_option maxRecDepth 65536 in
set_option maxHeartbeats 40000000 in
theorem rmg32_24 (l : Launch) (Z : State) (aw : Array Value) (hw : ∀ d ∈ tables_1, d.before aw Z = true) (ws : List Jvm.Cond) (a0 : Addr) (kk : ClassId) (vs : List Value) (c0 : Int32) (c1 : Int32) (c2 : Int32) (c3 : Int32) (c4 : Int32) (c5 : Int32) (c6 : Int32) (c7 : Int32) (h0 : Heap) (n0 : Nat) (Z0 : n0 ≤ h0.size) (V0 : Arv Z h0 a0 kk .byte (32 : Int32) vs (.int (0 : Int32))) (hb0 : vs.getD 24 (.int (0 : Int32)) = .int c0) (hb1 : vs.getD 25 (.int (0 : Int32)) = .int c1) (hb2 : vs.getD 26 (.int (0 : Int32)) = .int c2) (hb3 : vs.getD 27 (.int (0 : Int32)) = .int c3) (hb4 : vs.getD 28 (.int (0 : Int32)) = .int c4) (hb5 : vs.getD 29 (.int (0 : Int32)) = .int c5) (hb6 : vs.getD 30 (.int (0 : Int32)) = .int c6) (hb7 : vs.getD 31 (.int (0 : Int32)) = .int c7) :
    MetFree l (⟨"com/example/countersign/countersign/protocol/PrimitivesFoldPinLaw", "get", "([BI)J"⟩ : MethodName) (head1 (Jvm.Cond.code (⟨"com/example/countersign/countersign/protocol/PrimitivesFoldPinLaw", "get", "([BI)J"⟩ : MethodName) method_4_code 2 (some .long) :: ws) ({ frames := 0, cells := 0, slots := 0, locals := 0 } : Room)) (fun a U => a = #[(.ref a0), (.int (24 : Int32))] ∧ Z.Warmed39 U.vm ∧ U.heap = h0) (fun _ _ _ _ _ => True) (fun _ U oc U' => ∃ v L, oc = .returned v ∧ Q_rmg32_24 Z a0 kk vs c0 c1 c2 c3 c4 c5 c6 c7 h0 n0 v U'.heap L ∧ FrameEnd U oc U' L ({ frames := 0, cells := 0, slots := 0, locals := 0 } : Room).cells ({ frames := 0, cells := 0, slots := 0, locals := 0 } : Room).slots) := by
  refine MetFree.of_bodySF (plainFor_of_name pn_0) hisR ?_
  intro p e s m args below meth c s₁ Bd hml0 hP hK
  obtain ⟨rfl, hZ, hh⟩ := hP
  have hx := Bd.exec
  have hby := Bd.bytes
  have hml : c.maxLocals = 2 := hml0
  have hown : s.vm.findClass "com/example/countersign/countersign/protocol/PrimitivesFoldPinLaw" = some m.cls := findClass_of_methodNamed Bd.named
  have hnm := (name_of_methodNamed Bd.named Bd.method).1
  have X0 : Stand p l e ({ frames := 0, cells := 0, slots := 0, locals := 0 } : Room) s m #[(.ref a0), (.int (24 : Int32))] below meth c s₁ [] 0 0 := Stand.of_body Bd
  have e0 : s₁.heap = h0 := by rw [← hh, Bd.state]; rfl
  have N0 := Fr.nil n0
  have pre0 : ∀ t, Steps p.tables e below (s₁.setTop (mkF m 0 #[.val (.ref a0), .val (.int (24 : Int32))] [])) t → Steps p.tables e below (s₁.setTop (entryFrame m #[(.ref a0), (.int (24 : Int32))] 2)) t := fun t k => castTop (ef_rmg32_24 m a0 (24 : Int32)) k
  obtain ⟨cl101, Ar101, q101, S101, M101, H101, G101⟩ := id V0
  obtain ⟨cl102, Ar102, q102, S102, M102, H102, G102⟩ := id V0
  obtain ⟨cl103, Ar103, q103, S103, M103, H103, G103⟩ := id V0
  obtain ⟨cl104, Ar104, q104, S104, M104, H104, G104⟩ := id V0
  obtain ⟨cl105, Ar105, q105, S105, M105, H105, G105⟩ := id V0
  obtain ⟨cl106, Ar106, q106, S106, M106, H106, G106⟩ := id V0
  obtain ⟨cl107, Ar107, q107, S107, M107, H107, G107⟩ := id V0
  obtain ⟨cl108, Ar108, q108, S108, M108, H108, G108⟩ := id V0
  obtain ⟨fs, hr, hrun, hended, hW, hsame⟩ := X0.leave (v := some (.long ((((((((((c0.toInt64) &&& (255 : Int64)) <<< ((56 : Int32) &&& 0x3f).toInt64) ||| (((c1.toInt64) &&& (255 : Int64)) <<< ((48 : Int32) &&& 0x3f).toInt64)) ||| (((c2.toInt64) &&& (255 : Int64)) <<< ((40 : Int32) &&& 0x3f).toInt64)) ||| (((c3.toInt64) &&& (255 : Int64)) <<< ((32 : Int32) &&& 0x3f).toInt64)) ||| (((c4.toInt64) &&& (255 : Int64)) <<< ((24 : Int32) &&& 0x3f).toInt64)) ||| (((c5.toInt64) &&& (255 : Int64)) <<< ((16 : Int32) &&& 0x3f).toInt64)) ||| (((c6.toInt64) &&& (255 : Int64)) <<< ((8 : Int32) &&& 0x3f).toInt64)) ||| ((c7.toInt64) &&& (255 : Int64))))) (fun h => by rw [Bd.returns] at h; cases h)
  refine ⟨_, _, pre0 _ ?_, hrun, hended, _, _, rfl, ?_, ⟨_, rfl⟩, hW, hsame.mono (by decide) (by decide)⟩
  · show Steps p.tables e below (s₁.setTop (mkF m 0 #[.val (.ref a0), .val (.int (24 : Int32))] [])) _
    refine XS.aloadN X0.here hx rfl (hb hby d3_0) rfl rfl ?_
    show Steps p.tables e below (s₁.setTop (mkF m 1 #[.val (.ref a0), .val (.int (24 : Int32))] [(.ref a0)])) _
    refine XS.iloadN X0.here hx rfl (hb hby d3_1) rfl ?_
    show Steps p.tables e below (s₁.setTop (mkF m 2 #[.val (.ref a0), .val (.int (24 : Int32))] [(.int (24 : Int32)), (.ref a0)])) _
    have hin101 : ¬ ((24 : Int32) < 0 ∨ cl101.slots.size ≤ ((24 : Int32)).toNatClampNeg) := (inb_of S101 ⟨by decide, by decide⟩)
    refine X0.baloadBytes hx (j := (24 : Int32)) (v := (.int c0)) (by rw [e0]; exact Ar101.1) (State.isArrayOf_alike hZ.alike Ar101.2.1) Ar101.2.2 hin101 (H101.at hin101 hb0) (g := (mkF m 2 #[.val (.ref a0), .val (.int (24 : Int32))] [(.int (24 : Int32)), (.ref a0)])) rfl rfl (hb hby d3_2) _ ?_
    show Steps p.tables e below (s₁.setTop (mkF m 3 #[.val (.ref a0), .val (.int (24 : Int32))] [(.int c0)])) _
    refine XS.i2l X0.here hx rfl (hb hby d3_3) rfl ?_
    show Steps p.tables e below (s₁.setTop (mkF m 4 #[.val (.ref a0), .val (.int (24 : Int32))] [(.long (c0.toInt64))])) _
    refine X0.ldc2Long hx hown (mvT hZ (hw _ (List.mem_of_getElem? (i := 12) rfl))) (g := (mkF m 4 #[.val (.ref a0), .val (.int (24 : Int32))] [(.long (c0.toInt64))])) rfl (hb hby d3_4) _ ?_
    show Steps p.tables e below (s₁.setTop (mkF m 7 #[.val (.ref a0), .val (.int (24 : Int32))] [(.long (255 : Int64)), (.long (c0.toInt64))])) _
    refine XS.land X0.here hx rfl (hb hby d3_7) rfl ?_
    show Steps p.tables e below (s₁.setTop (mkF m 8 #[.val (.ref a0), .val (.int (24 : Int32))] [(.long ((c0.toInt64) &&& (255 : Int64)))])) _
    refine XS.bipush X0.here hx rfl (hb hby d3_8) ?_
    show Steps p.tables e below (s₁.setTop (mkF m 10 #[.val (.ref a0), .val (.int (24 : Int32))] [(.int (56 : Int32)), (.long ((c0.toInt64) &&& (255 : Int64)))])) _
    refine XS.lshl X0.here hx rfl (hb hby d3_10) rfl ?_
    show Steps p.tables e below (s₁.setTop (mkF m 11 #[.val (.ref a0), .val (.int (24 : Int32))] [(.long (((c0.toInt64) &&& (255 : Int64)) <<< ((56 : Int32) &&& 0x3f).toInt64))])) _
    refine XS.aloadN X0.here hx rfl (hb hby d3_11) rfl rfl ?_
    show Steps p.tables e below (s₁.setTop (mkF m 12 #[.val (.ref a0), .val (.int (24 : Int32))] [(.ref a0), (.long (((c0.toInt64) &&& (255 : Int64)) <<< ((56 : Int32) &&& 0x3f).toInt64))])) _
    refine XS.iloadN X0.here hx rfl (hb hby d3_12) rfl ?_
    show Steps p.tables e below (s₁.setTop (mkF m 13 #[.val (.ref a0), .val (.int (24 : Int32))] [(.int (24 : Int32)), (.ref a0), (.long (((c0.toInt64) &&& (255 : Int64)) <<< ((56 : Int32) &&& 0x3f).toInt64))])) _
    refine XS.iconst X0.here hx rfl (hb hby d3_13) ?_
    show Steps p.tables e below (s₁.setTop (mkF m 14 #[.val (.ref a0), .val (.int (24 : Int32))] [(.int (1 : Int32)), (.int (24 : Int32)), (.ref a0), (.long (((c0.toInt64) &&& (255 : Int64)) <<< ((56 : Int32) &&& 0x3f).toInt64))])) _
    refine XS.iadd X0.here hx rfl (hb hby d3_14) rfl ?_
    show Steps p.tables e below (s₁.setTop (mkF m 15 #[.val (.ref a0), .val (.int (24 : Int32))] [(.int (25 : Int32)), (.ref a0), (.long (((c0.toInt64) &&& (255 : Int64)) <<< ((56 : Int32) &&& 0x3f).toInt64))])) _
    have hin102 : ¬ ((25 : Int32) < 0 ∨ cl102.slots.size ≤ ((25 : Int32)).toNatClampNeg) := (inb_of S102 ⟨by decide, by decide⟩)
    refine X0.baloadBytes hx (j := (25 : Int32)) (v := (.int c1)) (by rw [e0]; exact Ar102.1) (State.isArrayOf_alike hZ.alike Ar102.2.1) Ar102.2.2 hin102 (H102.at hin102 hb1) (g := (mkF m 15 #[.val (.ref a0), .val (.int (24 : Int32))] [(.int (25 : Int32)), (.ref a0), (.long (((c0.toInt64) &&& (255 : Int64)) <<< ((56 : Int32) &&& 0x3f).toInt64))])) rfl rfl (hb hby d3_15) _ ?_
    show Steps p.tables e below (s₁.setTop (mkF m 16 #[.val (.ref a0), .val (.int (24 : Int32))] [(.int c1), (.long (((c0.toInt64) &&& (255 : Int64)) <<< ((56 : Int32) &&& 0x3f).toInt64))])) _
    refine XS.i2l X0.here hx rfl (hb hby d3_16) rfl ?_
    show Steps p.tables e below (s₁.setTop (mkF m 17 #[.val (.ref a0), .val (.int (24 : Int32))] [(.long (c1.toInt64)), (.long (((c0.toInt64) &&& (255 : Int64)) <<< ((56 : Int32) &&& 0x3f).toInt64))])) _
    refine X0.ldc2Long hx hown (mvT hZ (hw _ (List.mem_of_getElem? (i := 12) rfl))) (g := (mkF m 17 #[.val (.ref a0), .val (.int (24 : Int32))] [(.long (c1.toInt64)), (.long (((c0.toInt64) &&& (255 : Int64)) <<< ((56 : Int32) &&& 0x3f).toInt64))])) rfl (hb hby d3_17) _ ?_
    show Steps p.tables e below (s₁.setTop (mkF m 20 #[.val (.ref a0), .val (.int (24 : Int32))] [(.long (255 : Int64)), (.long (c1.toInt64)), (.long (((c0.toInt64) &&& (255 : Int64)) <<< ((56 : Int32) &&& 0x3f).toInt64))])) _
    refine XS.land X0.here hx rfl (hb hby d3_20) rfl ?_
    show Steps p.tables e below (s₁.setTop (mkF m 21 #[.val (.ref a0), .val (.int (24 : Int32))] [(.long ((c1.toInt64) &&& (255 : Int64))), (.long (((c0.toInt64) &&& (255 : Int64)) <<< ((56 : Int32) &&& 0x3f).toInt64))])) _
    refine XS.bipush X0.here hx rfl (hb hby d3_21) ?_
    show Steps p.tables e below (s₁.setTop (mkF m 23 #[.val (.ref a0), .val (.int (24 : Int32))] [(.int (48 : Int32)), (.long ((c1.toInt64) &&& (255 : Int64))), (.long (((c0.toInt64) &&& (255 : Int64)) <<< ((56 : Int32) &&& 0x3f).toInt64))])) _
    refine XS.lshl X0.here hx rfl (hb hby d3_23) rfl ?_
    show Steps p.tables e below (s₁.setTop (mkF m 24 #[.val (.ref a0), .val (.int (24 : Int32))] [(.long (((c1.toInt64) &&& (255 : Int64)) <<< ((48 : Int32) &&& 0x3f).toInt64)), (.long (((c0.toInt64) &&& (255 : Int64)) <<< ((56 : Int32) &&& 0x3f).toInt64))])) _
    refine XS.lor X0.here hx rfl (hb hby d3_24) rfl ?_
    show Steps p.tables e below (s₁.setTop (mkF m 25 #[.val (.ref a0), .val (.int (24 : Int32))] [(.long ((((c0.toInt64) &&& (255 : Int64)) <<< ((56 : Int32) &&& 0x3f).toInt64) ||| (((c1.toInt64) &&& (255 : Int64)) <<< ((48 : Int32) &&& 0x3f).toInt64)))])) _
    refine XS.aloadN X0.here hx rfl (hb hby d3_25) rfl rfl ?_
    show Steps p.tables e below (s₁.setTop (mkF m 26 #[.val (.ref a0), .val (.int (24 : Int32))] [(.ref a0), (.long ((((c0.toInt64) &&& (255 : Int64)) <<< ((56 : Int32) &&& 0x3f).toInt64) ||| (((c1.toInt64) &&& (255 : Int64)) <<< ((48 : Int32) &&& 0x3f).toInt64)))])) _
    refine XS.iloadN X0.here hx rfl (hb hby d3_26) rfl ?_
    show Steps p.tables e below (s₁.setTop (mkF m 27 #[.val (.ref a0), .val (.int (24 : Int32))] [(.int (24 : Int32)), (.ref a0), (.long ((((c0.toInt64) &&& (255 : Int64)) <<< ((56 : Int32) &&& 0x3f).toInt64) ||| (((c1.toInt64) &&& (255 : Int64)) <<< ((48 : Int32) &&& 0x3f).toInt64)))])) _
    refine XS.iconst X0.here hx rfl (hb hby d3_27) ?_
    show Steps p.tables e below (s₁.setTop (mkF m 28 #[.val (.ref a0), .val (.int (24 : Int32))] [(.int (2 : Int32)), (.int (24 : Int32)), (.ref a0), (.long ((((c0.toInt64) &&& (255 : Int64)) <<< ((56 : Int32) &&& 0x3f).toInt64) ||| (((c1.toInt64) &&& (255 : Int64)) <<< ((48 : Int32) &&& 0x3f).toInt64)))])) _
    refine XS.iadd X0.here hx rfl (hb hby d3_28) rfl ?_
    show Steps p.tables e below (s₁.setTop (mkF m 29 #[.val (.ref a0), .val (.int (24 : Int32))] [(.int (26 : Int32)), (.ref a0), (.long ((((c0.toInt64) &&& (255 : Int64)) <<< ((56 : Int32) &&& 0x3f).toInt64) ||| (((c1.toInt64) &&& (255 : Int64)) <<< ((48 : Int32) &&& 0x3f).toInt64)))])) _
    have hin103 : ¬ ((26 : Int32) < 0 ∨ cl103.slots.size ≤ ((26 : Int32)).toNatClampNeg) := (inb_of S103 ⟨by decide, by decide⟩)
    refine X0.baloadBytes hx (j := (26 : Int32)) (v := (.int c2)) (by rw [e0]; exact Ar103.1) (State.isArrayOf_alike hZ.alike Ar103.2.1) Ar103.2.2 hin103 (H103.at hin103 hb2) (g := (mkF m 29 #[.val (.ref a0), .val (.int (24 : Int32))] [(.int (26 : Int32)), (.ref a0), (.long ((((c0.toInt64) &&& (255 : Int64)) <<< ((56 : Int32) &&& 0x3f).toInt64) ||| (((c1.toInt64) &&& (255 : Int64)) <<< ((48 : Int32) &&& 0x3f).toInt64)))])) rfl rfl (hb hby d3_29) _ ?_
    show Steps p.tables e below (s₁.setTop (mkF m 30 #[.val (.ref a0), .val (.int (24 : Int32))] [(.int c2), (.long ((((c0.toInt64) &&& (255 : Int64)) <<< ((56 : Int32) &&& 0x3f).toInt64) ||| (((c1.toInt64) &&& (255 : Int64)) <<< ((48 : Int32) &&& 0x3f).toInt64)))])) _
    refine XS.i2l X0.here hx rfl (hb hby d3_30) rfl ?_
    show Steps p.tables e below (s₁.setTop (mkF m 31 #[.val (.ref a0), .val (.int (24 : Int32))] [(.long (c2.toInt64)), (.long ((((c0.toInt64) &&& (255 : Int64)) <<< ((56 : Int32) &&& 0x3f).toInt64) ||| (((c1.toInt64) &&& (255 : Int64)) <<< ((48 : Int32) &&& 0x3f).toInt64)))])) _
    refine X0.ldc2Long hx hown (mvT hZ (hw _ (List.mem_of_getElem? (i := 12) rfl))) (g := (mkF m 31 #[.val (.ref a0), .val (.int (24 : Int32))] [(.long (c2.toInt64)), (.long ((((c0.toInt64) &&& (255 : Int64)) <<< ((56 : Int32) &&& 0x3f).toInt64) ||| (((c1.toInt64) &&& (255 : Int64)) <<< ((48 : Int32) &&& 0x3f).toInt64)))])) rfl (hb hby d3_31) _ ?_
    show Steps p.tables e below (s₁.setTop (mkF m 34 #[.val (.ref a0), .val (.int (24 : Int32))] [(.long (255 : Int64)), (.long (c2.toInt64)), (.long ((((c0.toInt64) &&& (255 : Int64)) <<< ((56 : Int32) &&& 0x3f).toInt64) ||| (((c1.toInt64) &&& (255 : Int64)) <<< ((48 : Int32) &&& 0x3f).toInt64)))])) _
    refine XS.land X0.here hx rfl (hb hby d3_34) rfl ?_
    show Steps p.tables e below (s₁.setTop (mkF m 35 #[.val (.ref a0), .val (.int (24 : Int32))] [(.long ((c2.toInt64) &&& (255 : Int64))), (.long ((((c0.toInt64) &&& (255 : Int64)) <<< ((56 : Int32) &&& 0x3f).toInt64) ||| (((c1.toInt64) &&& (255 : Int64)) <<< ((48 : Int32) &&& 0x3f).toInt64)))])) _
    refine XS.bipush X0.here hx rfl (hb hby d3_35) ?_
    show Steps p.tables e below (s₁.setTop (mkF m 37 #[.val (.ref a0), .val (.int (24 : Int32))] [(.int (40 : Int32)), (.long ((c2.toInt64) &&& (255 : Int64))), (.long ((((c0.toInt64) &&& (255 : Int64)) <<< ((56 : Int32) &&& 0x3f).toInt64) ||| (((c1.toInt64) &&& (255 : Int64)) <<< ((48 : Int32) &&& 0x3f).toInt64)))])) _
    refine XS.lshl X0.here hx rfl (hb hby d3_37) rfl ?_
    show Steps p.tables e below (s₁.setTop (mkF m 38 #[.val (.ref a0), .val (.int (24 : Int32))] [(.long (((c2.toInt64) &&& (255 : Int64)) <<< ((40 : Int32) &&& 0x3f).toInt64)), (.long ((((c0.toInt64) &&& (255 : Int64)) <<< ((56 : Int32) &&& 0x3f).toInt64) ||| (((c1.toInt64) &&& (255 : Int64)) <<< ((48 : Int32) &&& 0x3f).toInt64)))])) _
    refine XS.lor X0.here hx rfl (hb hby d3_38) rfl ?_
    show Steps p.tables e below (s₁.setTop (mkF m 39 #[.val (.ref a0), .val (.int (24 : Int32))] [(.long (((((c0.toInt64) &&& (255 : Int64)) <<< ((56 : Int32) &&& 0x3f).toInt64) ||| (((c1.toInt64) &&& (255 : Int64)) <<< ((48 : Int32) &&& 0x3f).toInt64)) ||| (((c2.toInt64) &&& (255 : Int64)) <<< ((40 : Int32) &&& 0x3f).toInt64)))])) _
    refine XS.aloadN X0.here hx rfl (hb hby d3_39) rfl rfl ?_
    show Steps p.tables e below (s₁.setTop (mkF m 40 #[.val (.ref a0), .val (.int (24 : Int32))] [(.ref a0), (.long (((((c0.toInt64) &&& (255 : Int64)) <<< ((56 : Int32) &&& 0x3f).toInt64) ||| (((c1.toInt64) &&& (255 : Int64)) <<< ((48 : Int32) &&& 0x3f).toInt64)) ||| (((c2.toInt64) &&& (255 : Int64)) <<< ((40 : Int32) &&& 0x3f).toInt64)))])) _
    refine XS.iloadN X0.here hx rfl (hb hby d3_40) rfl ?_
    show Steps p.tables e below (s₁.setTop (mkF m 41 #[.val (.ref a0), .val (.int (24 : Int32))] [(.int (24 : Int32)), (.ref a0), (.long (((((c0.toInt64) &&& (255 : Int64)) <<< ((56 : Int32) &&& 0x3f).toInt64) ||| (((c1.toInt64) &&& (255 : Int64)) <<< ((48 : Int32) &&& 0x3f).toInt64)) ||| (((c2.toInt64) &&& (255 : Int64)) <<< ((40 : Int32) &&& 0x3f).toInt64)))])) _
    refine XS.iconst X0.here hx rfl (hb hby d3_41) ?_
    show Steps p.tables e below (s₁.setTop (mkF m 42 #[.val (.ref a0), .val (.int (24 : Int32))] [(.int (3 : Int32)), (.int (24 : Int32)), (.ref a0), (.long (((((c0.toInt64) &&& (255 : Int64)) <<< ((56 : Int32) &&& 0x3f).toInt64) ||| (((c1.toInt64) &&& (255 : Int64)) <<< ((48 : Int32) &&& 0x3f).toInt64)) ||| (((c2.toInt64) &&& (255 : Int64)) <<< ((40 : Int32) &&& 0x3f).toInt64)))])) _
    refine XS.iadd X0.here hx rfl (hb hby d3_42) rfl ?_
    show Steps p.tables e below (s₁.setTop (mkF m 43 #[.val (.ref a0), .val (.int (24 : Int32))] [(.int (27 : Int32)), (.ref a0), (.long (((((c0.toInt64) &&& (255 : Int64)) <<< ((56 : Int32) &&& 0x3f).toInt64) ||| (((c1.toInt64) &&& (255 : Int64)) <<< ((48 : Int32) &&& 0x3f).toInt64)) ||| (((c2.toInt64) &&& (255 : Int64)) <<< ((40 : Int32) &&& 0x3f).toInt64)))])) _
    have hin104 : ¬ ((27 : Int32) < 0 ∨ cl104.slots.size ≤ ((27 : Int32)).toNatClampNeg) := (inb_of S104 ⟨by decide, by decide⟩)
    refine X0.baloadBytes hx (j := (27 : Int32)) (v := (.int c3)) (by rw [e0]; exact Ar104.1) (State.isArrayOf_alike hZ.alike Ar104.2.1) Ar104.2.2 hin104 (H104.at hin104 hb3) (g := (mkF m 43 #[.val (.ref a0), .val (.int (24 : Int32))] [(.int (27 : Int32)), (.ref a0), (.long (((((c0.toInt64) &&& (255 : Int64)) <<< ((56 : Int32) &&& 0x3f).toInt64) ||| (((c1.toInt64) &&& (255 : Int64)) <<< ((48 : Int32) &&& 0x3f).toInt64)) ||| (((c2.toInt64) &&& (255 : Int64)) <<< ((40 : Int32) &&& 0x3f).toInt64)))])) rfl rfl (hb hby d3_43) _ ?_
    show Steps p.tables e below (s₁.setTop (mkF m 44 #[.val (.ref a0), .val (.int (24 : Int32))] [(.int c3), (.long (((((c0.toInt64) &&& (255 : Int64)) <<< ((56 : Int32) &&& 0x3f).toInt64) ||| (((c1.toInt64) &&& (255 : Int64)) <<< ((48 : Int32) &&& 0x3f).toInt64)) ||| (((c2.toInt64) &&& (255 : Int64)) <<< ((40 : Int32) &&& 0x3f).toInt64)))])) _
    refine XS.i2l X0.here hx rfl (hb hby d3_44) rfl ?_
    show Steps p.tables e below (s₁.setTop (mkF m 45 #[.val (.ref a0), .val (.int (24 : Int32))] [(.long (c3.toInt64)), (.long (((((c0.toInt64) &&& (255 : Int64)) <<< ((56 : Int32) &&& 0x3f).toInt64) ||| (((c1.toInt64) &&& (255 : Int64)) <<< ((48 : Int32) &&& 0x3f).toInt64)) ||| (((c2.toInt64) &&& (255 : Int64)) <<< ((40 : Int32) &&& 0x3f).toInt64)))])) _
    refine X0.ldc2Long hx hown (mvT hZ (hw _ (List.mem_of_getElem? (i := 12) rfl))) (g := (mkF m 45 #[.val (.ref a0), .val (.int (24 : Int32))] [(.long (c3.toInt64)), (.long (((((c0.toInt64) &&& (255 : Int64)) <<< ((56 : Int32) &&& 0x3f).toInt64) ||| (((c1.toInt64) &&& (255 : Int64)) <<< ((48 : Int32) &&& 0x3f).toInt64)) ||| (((c2.toInt64) &&& (255 : Int64)) <<< ((40 : Int32) &&& 0x3f).toInt64)))])) rfl (hb hby d3_45) _ ?_
    show Steps p.tables e below (s₁.setTop (mkF m 48 #[.val (.ref a0), .val (.int (24 : Int32))] [(.long (255 : Int64)), (.long (c3.toInt64)), (.long (((((c0.toInt64) &&& (255 : Int64)) <<< ((56 : Int32) &&& 0x3f).toInt64) ||| (((c1.toInt64) &&& (255 : Int64)) <<< ((48 : Int32) &&& 0x3f).toInt64)) ||| (((c2.toInt64) &&& (255 : Int64)) <<< ((40 : Int32) &&& 0x3f).toInt64)))])) _
    refine XS.land X0.here hx rfl (hb hby d3_48) rfl ?_
    show Steps p.tables e below (s₁.setTop (mkF m 49 #[.val (.ref a0), .val (.int (24 : Int32))] [(.long ((c3.toInt64) &&& (255 : Int64))), (.long (((((c0.toInt64) &&& (255 : Int64)) <<< ((56 : Int32) &&& 0x3f).toInt64) ||| (((c1.toInt64) &&& (255 : Int64)) <<< ((48 : Int32) &&& 0x3f).toInt64)) ||| (((c2.toInt64) &&& (255 : Int64)) <<< ((40 : Int32) &&& 0x3f).toInt64)))])) _
    refine XS.bipush X0.here hx rfl (hb hby d3_49) ?_
    show Steps p.tables e below (s₁.setTop (mkF m 51 #[.val (.ref a0), .val (.int (24 : Int32))] [(.int (32 : Int32)), (.long ((c3.toInt64) &&& (255 : Int64))), (.long (((((c0.toInt64) &&& (255 : Int64)) <<< ((56 : Int32) &&& 0x3f).toInt64) ||| (((c1.toInt64) &&& (255 : Int64)) <<< ((48 : Int32) &&& 0x3f).toInt64)) ||| (((c2.toInt64) &&& (255 : Int64)) <<< ((40 : Int32) &&& 0x3f).toInt64)))])) _
    refine XS.lshl X0.here hx rfl (hb hby d3_51) rfl ?_
    show Steps p.tables e below (s₁.setTop (mkF m 52 #[.val (.ref a0), .val (.int (24 : Int32))] [(.long (((c3.toInt64) &&& (255 : Int64)) <<< ((32 : Int32) &&& 0x3f).toInt64)), (.long (((((c0.toInt64) &&& (255 : Int64)) <<< ((56 : Int32) &&& 0x3f).toInt64) ||| (((c1.toInt64) &&& (255 : Int64)) <<< ((48 : Int32) &&& 0x3f).toInt64)) ||| (((c2.toInt64) &&& (255 : Int64)) <<< ((40 : Int32) &&& 0x3f).toInt64)))])) _
    refine XS.lor X0.here hx rfl (hb hby d3_52) rfl ?_
    show Steps p.tables e below (s₁.setTop (mkF m 53 #[.val (.ref a0), .val (.int (24 : Int32))] [(.long ((((((c0.toInt64) &&& (255 : Int64)) <<< ((56 : Int32) &&& 0x3f).toInt64) ||| (((c1.toInt64) &&& (255 : Int64)) <<< ((48 : Int32) &&& 0x3f).toInt64)) ||| (((c2.toInt64) &&& (255 : Int64)) <<< ((40 : Int32) &&& 0x3f).toInt64)) ||| (((c3.toInt64) &&& (255 : Int64)) <<< ((32 : Int32) &&& 0x3f).toInt64)))])) _
    refine XS.aloadN X0.here hx rfl (hb hby d3_53) rfl rfl ?_
    show Steps p.tables e below (s₁.setTop (mkF m 54 #[.val (.ref a0), .val (.int (24 : Int32))] [(.ref a0), (.long ((((((c0.toInt64) &&& (255 : Int64)) <<< ((56 : Int32) &&& 0x3f).toInt64) ||| (((c1.toInt64) &&& (255 : Int64)) <<< ((48 : Int32) &&& 0x3f).toInt64)) ||| (((c2.toInt64) &&& (255 : Int64)) <<< ((40 : Int32) &&& 0x3f).toInt64)) ||| (((c3.toInt64) &&& (255 : Int64)) <<< ((32 : Int32) &&& 0x3f).toInt64)))])) _
    refine XS.iloadN X0.here hx rfl (hb hby d3_54) rfl ?_
    show Steps p.tables e below (s₁.setTop (mkF m 55 #[.val (.ref a0), .val (.int (24 : Int32))] [(.int (24 : Int32)), (.ref a0), (.long ((((((c0.toInt64) &&& (255 : Int64)) <<< ((56 : Int32) &&& 0x3f).toInt64) ||| (((c1.toInt64) &&& (255 : Int64)) <<< ((48 : Int32) &&& 0x3f).toInt64)) ||| (((c2.toInt64) &&& (255 : Int64)) <<< ((40 : Int32) &&& 0x3f).toInt64)) ||| (((c3.toInt64) &&& (255 : Int64)) <<< ((32 : Int32) &&& 0x3f).toInt64)))])) _
    refine XS.iconst X0.here hx rfl (hb hby d3_55) ?_
    show Steps p.tables e below (s₁.setTop (mkF m 56 #[.val (.ref a0), .val (.int (24 : Int32))] [(.int (4 : Int32)), (.int (24 : Int32)), (.ref a0), (.long ((((((c0.toInt64) &&& (255 : Int64)) <<< ((56 : Int32) &&& 0x3f).toInt64) ||| (((c1.toInt64) &&& (255 : Int64)) <<< ((48 : Int32) &&& 0x3f).toInt64)) ||| (((c2.toInt64) &&& (255 : Int64)) <<< ((40 : Int32) &&& 0x3f).toInt64)) ||| (((c3.toInt64) &&& (255 : Int64)) <<< ((32 : Int32) &&& 0x3f).toInt64)))])) _
    refine XS.iadd X0.here hx rfl (hb hby d3_56) rfl ?_
    show Steps p.tables e below (s₁.setTop (mkF m 57 #[.val (.ref a0), .val (.int (24 : Int32))] [(.int (28 : Int32)), (.ref a0), (.long ((((((c0.toInt64) &&& (255 : Int64)) <<< ((56 : Int32) &&& 0x3f).toInt64) ||| (((c1.toInt64) &&& (255 : Int64)) <<< ((48 : Int32) &&& 0x3f).toInt64)) ||| (((c2.toInt64) &&& (255 : Int64)) <<< ((40 : Int32) &&& 0x3f).toInt64)) ||| (((c3.toInt64) &&& (255 : Int64)) <<< ((32 : Int32) &&& 0x3f).toInt64)))])) _
    have hin105 : ¬ ((28 : Int32) < 0 ∨ cl105.slots.size ≤ ((28 : Int32)).toNatClampNeg) := (inb_of S105 ⟨by decide, by decide⟩)
    refine X0.baloadBytes hx (j := (28 : Int32)) (v := (.int c4)) (by rw [e0]; exact Ar105.1) (State.isArrayOf_alike hZ.alike Ar105.2.1) Ar105.2.2 hin105 (H105.at hin105 hb4) (g := (mkF m 57 #[.val (.ref a0), .val (.int (24 : Int32))] [(.int (28 : Int32)), (.ref a0), (.long ((((((c0.toInt64) &&& (255 : Int64)) <<< ((56 : Int32) &&& 0x3f).toInt64) ||| (((c1.toInt64) &&& (255 : Int64)) <<< ((48 : Int32) &&& 0x3f).toInt64)) ||| (((c2.toInt64) &&& (255 : Int64)) <<< ((40 : Int32) &&& 0x3f).toInt64)) ||| (((c3.toInt64) &&& (255 : Int64)) <<< ((32 : Int32) &&& 0x3f).toInt64)))])) rfl rfl (hb hby d3_57) _ ?_
    show Steps p.tables e below (s₁.setTop (mkF m 58 #[.val (.ref a0), .val (.int (24 : Int32))] [(.int c4), (.long ((((((c0.toInt64) &&& (255 : Int64)) <<< ((56 : Int32) &&& 0x3f).toInt64) ||| (((c1.toInt64) &&& (255 : Int64)) <<< ((48 : Int32) &&& 0x3f).toInt64)) ||| (((c2.toInt64) &&& (255 : Int64)) <<< ((40 : Int32) &&& 0x3f).toInt64)) ||| (((c3.toInt64) &&& (255 : Int64)) <<< ((32 : Int32) &&& 0x3f).toInt64)))])) _
    refine XS.i2l X0.here hx rfl (hb hby d3_58) rfl ?_
    show Steps p.tables e below (s₁.setTop (mkF m 59 #[.val (.ref a0), .val (.int (24 : Int32))] [(.long (c4.toInt64)), (.long ((((((c0.toInt64) &&& (255 : Int64)) <<< ((56 : Int32) &&& 0x3f).toInt64) ||| (((c1.toInt64) &&& (255 : Int64)) <<< ((48 : Int32) &&& 0x3f).toInt64)) ||| (((c2.toInt64) &&& (255 : Int64)) <<< ((40 : Int32) &&& 0x3f).toInt64)) ||| (((c3.toInt64) &&& (255 : Int64)) <<< ((32 : Int32) &&& 0x3f).toInt64)))])) _
    refine X0.ldc2Long hx hown (mvT hZ (hw _ (List.mem_of_getElem? (i := 12) rfl))) (g := (mkF m 59 #[.val (.ref a0), .val (.int (24 : Int32))] [(.long (c4.toInt64)), (.long ((((((c0.toInt64) &&& (255 : Int64)) <<< ((56 : Int32) &&& 0x3f).toInt64) ||| (((c1.toInt64) &&& (255 : Int64)) <<< ((48 : Int32) &&& 0x3f).toInt64)) ||| (((c2.toInt64) &&& (255 : Int64)) <<< ((40 : Int32) &&& 0x3f).toInt64)) ||| (((c3.toInt64) &&& (255 : Int64)) <<< ((32 : Int32) &&& 0x3f).toInt64)))])) rfl (hb hby d3_59) _ ?_
    show Steps p.tables e below (s₁.setTop (mkF m 62 #[.val (.ref a0), .val (.int (24 : Int32))] [(.long (255 : Int64)), (.long (c4.toInt64)), (.long ((((((c0.toInt64) &&& (255 : Int64)) <<< ((56 : Int32) &&& 0x3f).toInt64) ||| (((c1.toInt64) &&& (255 : Int64)) <<< ((48 : Int32) &&& 0x3f).toInt64)) ||| (((c2.toInt64) &&& (255 : Int64)) <<< ((40 : Int32) &&& 0x3f).toInt64)) ||| (((c3.toInt64) &&& (255 : Int64)) <<< ((32 : Int32) &&& 0x3f).toInt64)))])) _
    refine XS.land X0.here hx rfl (hb hby d3_62) rfl ?_
    show Steps p.tables e below (s₁.setTop (mkF m 63 #[.val (.ref a0), .val (.int (24 : Int32))] [(.long ((c4.toInt64) &&& (255 : Int64))), (.long ((((((c0.toInt64) &&& (255 : Int64)) <<< ((56 : Int32) &&& 0x3f).toInt64) ||| (((c1.toInt64) &&& (255 : Int64)) <<< ((48 : Int32) &&& 0x3f).toInt64)) ||| (((c2.toInt64) &&& (255 : Int64)) <<< ((40 : Int32) &&& 0x3f).toInt64)) ||| (((c3.toInt64) &&& (255 : Int64)) <<< ((32 : Int32) &&& 0x3f).toInt64)))])) _
    refine XS.bipush X0.here hx rfl (hb hby d3_63) ?_
    show Steps p.tables e below (s₁.setTop (mkF m 65 #[.val (.ref a0), .val (.int (24 : Int32))] [(.int (24 : Int32)), (.long ((c4.toInt64) &&& (255 : Int64))), (.long ((((((c0.toInt64) &&& (255 : Int64)) <<< ((56 : Int32) &&& 0x3f).toInt64) ||| (((c1.toInt64) &&& (255 : Int64)) <<< ((48 : Int32) &&& 0x3f).toInt64)) ||| (((c2.toInt64) &&& (255 : Int64)) <<< ((40 : Int32) &&& 0x3f).toInt64)) ||| (((c3.toInt64) &&& (255 : Int64)) <<< ((32 : Int32) &&& 0x3f).toInt64)))])) _
    refine XS.lshl X0.here hx rfl (hb hby d3_65) rfl ?_
    show Steps p.tables e below (s₁.setTop (mkF m 66 #[.val (.ref a0), .val (.int (24 : Int32))] [(.long (((c4.toInt64) &&& (255 : Int64)) <<< ((24 : Int32) &&& 0x3f).toInt64)), (.long ((((((c0.toInt64) &&& (255 : Int64)) <<< ((56 : Int32) &&& 0x3f).toInt64) ||| (((c1.toInt64) &&& (255 : Int64)) <<< ((48 : Int32) &&& 0x3f).toInt64)) ||| (((c2.toInt64) &&& (255 : Int64)) <<< ((40 : Int32) &&& 0x3f).toInt64)) ||| (((c3.toInt64) &&& (255 : Int64)) <<< ((32 : Int32) &&& 0x3f).toInt64)))])) _
    refine XS.lor X0.here hx rfl (hb hby d3_66) rfl ?_
    show Steps p.tables e below (s₁.setTop (mkF m 67 #[.val (.ref a0), .val (.int (24 : Int32))] [(.long (((((((c0.toInt64) &&& (255 : Int64)) <<< ((56 : Int32) &&& 0x3f).toInt64) ||| (((c1.toInt64) &&& (255 : Int64)) <<< ((48 : Int32) &&& 0x3f).toInt64)) ||| (((c2.toInt64) &&& (255 : Int64)) <<< ((40 : Int32) &&& 0x3f).toInt64)) ||| (((c3.toInt64) &&& (255 : Int64)) <<< ((32 : Int32) &&& 0x3f).toInt64)) ||| (((c4.toInt64) &&& (255 : Int64)) <<< ((24 : Int32) &&& 0x3f).toInt64)))])) _
    refine XS.aloadN X0.here hx rfl (hb hby d3_67) rfl rfl ?_
    show Steps p.tables e below (s₁.setTop (mkF m 68 #[.val (.ref a0), .val (.int (24 : Int32))] [(.ref a0), (.long (((((((c0.toInt64) &&& (255 : Int64)) <<< ((56 : Int32) &&& 0x3f).toInt64) ||| (((c1.toInt64) &&& (255 : Int64)) <<< ((48 : Int32) &&& 0x3f).toInt64)) ||| (((c2.toInt64) &&& (255 : Int64)) <<< ((40 : Int32) &&& 0x3f).toInt64)) ||| (((c3.toInt64) &&& (255 : Int64)) <<< ((32 : Int32) &&& 0x3f).toInt64)) ||| (((c4.toInt64) &&& (255 : Int64)) <<< ((24 : Int32) &&& 0x3f).toInt64)))])) _
    refine XS.iloadN X0.here hx rfl (hb hby d3_68) rfl ?_
    show Steps p.tables e below (s₁.setTop (mkF m 69 #[.val (.ref a0), .val (.int (24 : Int32))] [(.int (24 : Int32)), (.ref a0), (.long (((((((c0.toInt64) &&& (255 : Int64)) <<< ((56 : Int32) &&& 0x3f).toInt64) ||| (((c1.toInt64) &&& (255 : Int64)) <<< ((48 : Int32) &&& 0x3f).toInt64)) ||| (((c2.toInt64) &&& (255 : Int64)) <<< ((40 : Int32) &&& 0x3f).toInt64)) ||| (((c3.toInt64) &&& (255 : Int64)) <<< ((32 : Int32) &&& 0x3f).toInt64)) ||| (((c4.toInt64) &&& (255 : Int64)) <<< ((24 : Int32) &&& 0x3f).toInt64)))])) _
    refine XS.iconst X0.here hx rfl (hb hby d3_69) ?_
    show Steps p.tables e below (s₁.setTop (mkF m 70 #[.val (.ref a0), .val (.int (24 : Int32))] [(.int (5 : Int32)), (.int (24 : Int32)), (.ref a0), (.long (((((((c0.toInt64) &&& (255 : Int64)) <<< ((56 : Int32) &&& 0x3f).toInt64) ||| (((c1.toInt64) &&& (255 : Int64)) <<< ((48 : Int32) &&& 0x3f).toInt64)) ||| (((c2.toInt64) &&& (255 : Int64)) <<< ((40 : Int32) &&& 0x3f).toInt64)) ||| (((c3.toInt64) &&& (255 : Int64)) <<< ((32 : Int32) &&& 0x3f).toInt64)) ||| (((c4.toInt64) &&& (255 : Int64)) <<< ((24 : Int32) &&& 0x3f).toInt64)))])) _
    refine XS.iadd X0.here hx rfl (hb hby d3_70) rfl ?_
    show Steps p.tables e below (s₁.setTop (mkF m 71 #[.val (.ref a0), .val (.int (24 : Int32))] [(.int (29 : Int32)), (.ref a0), (.long (((((((c0.toInt64) &&& (255 : Int64)) <<< ((56 : Int32) &&& 0x3f).toInt64) ||| (((c1.toInt64) &&& (255 : Int64)) <<< ((48 : Int32) &&& 0x3f).toInt64)) ||| (((c2.toInt64) &&& (255 : Int64)) <<< ((40 : Int32) &&& 0x3f).toInt64)) ||| (((c3.toInt64) &&& (255 : Int64)) <<< ((32 : Int32) &&& 0x3f).toInt64)) ||| (((c4.toInt64) &&& (255 : Int64)) <<< ((24 : Int32) &&& 0x3f).toInt64)))])) _
    have hin106 : ¬ ((29 : Int32) < 0 ∨ cl106.slots.size ≤ ((29 : Int32)).toNatClampNeg) := (inb_of S106 ⟨by decide, by decide⟩)
    refine X0.baloadBytes hx (j := (29 : Int32)) (v := (.int c5)) (by rw [e0]; exact Ar106.1) (State.isArrayOf_alike hZ.alike Ar106.2.1) Ar106.2.2 hin106 (H106.at hin106 hb5) (g := (mkF m 71 #[.val (.ref a0), .val (.int (24 : Int32))] [(.int (29 : Int32)), (.ref a0), (.long (((((((c0.toInt64) &&& (255 : Int64)) <<< ((56 : Int32) &&& 0x3f).toInt64) ||| (((c1.toInt64) &&& (255 : Int64)) <<< ((48 : Int32) &&& 0x3f).toInt64)) ||| (((c2.toInt64) &&& (255 : Int64)) <<< ((40 : Int32) &&& 0x3f).toInt64)) ||| (((c3.toInt64) &&& (255 : Int64)) <<< ((32 : Int32) &&& 0x3f).toInt64)) ||| (((c4.toInt64) &&& (255 : Int64)) <<< ((24 : Int32) &&& 0x3f).toInt64)))])) rfl rfl (hb hby d3_71) _ ?_
    show Steps p.tables e below (s₁.setTop (mkF m 72 #[.val (.ref a0), .val (.int (24 : Int32))] [(.int c5), (.long (((((((c0.toInt64) &&& (255 : Int64)) <<< ((56 : Int32) &&& 0x3f).toInt64) ||| (((c1.toInt64) &&& (255 : Int64)) <<< ((48 : Int32) &&& 0x3f).toInt64)) ||| (((c2.toInt64) &&& (255 : Int64)) <<< ((40 : Int32) &&& 0x3f).toInt64)) ||| (((c3.toInt64) &&& (255 : Int64)) <<< ((32 : Int32) &&& 0x3f).toInt64)) ||| (((c4.toInt64) &&& (255 : Int64)) <<< ((24 : Int32) &&& 0x3f).toInt64)))])) _
    refine XS.i2l X0.here hx rfl (hb hby d3_72) rfl ?_
    show Steps p.tables e below (s₁.setTop (mkF m 73 #[.val (.ref a0), .val (.int (24 : Int32))] [(.long (c5.toInt64)), (.long (((((((c0.toInt64) &&& (255 : Int64)) <<< ((56 : Int32) &&& 0x3f).toInt64) ||| (((c1.toInt64) &&& (255 : Int64)) <<< ((48 : Int32) &&& 0x3f).toInt64)) ||| (((c2.toInt64) &&& (255 : Int64)) <<< ((40 : Int32) &&& 0x3f).toInt64)) ||| (((c3.toInt64) &&& (255 : Int64)) <<< ((32 : Int32) &&& 0x3f).toInt64)) ||| (((c4.toInt64) &&& (255 : Int64)) <<< ((24 : Int32) &&& 0x3f).toInt64)))])) _
    refine X0.ldc2Long hx hown (mvT hZ (hw _ (List.mem_of_getElem? (i := 12) rfl))) (g := (mkF m 73 #[.val (.ref a0), .val (.int (24 : Int32))] [(.long (c5.toInt64)), (.long (((((((c0.toInt64) &&& (255 : Int64)) <<< ((56 : Int32) &&& 0x3f).toInt64) ||| (((c1.toInt64) &&& (255 : Int64)) <<< ((48 : Int32) &&& 0x3f).toInt64)) ||| (((c2.toInt64) &&& (255 : Int64)) <<< ((40 : Int32) &&& 0x3f).toInt64)) ||| (((c3.toInt64) &&& (255 : Int64)) <<< ((32 : Int32) &&& 0x3f).toInt64)) ||| (((c4.toInt64) &&& (255 : Int64)) <<< ((24 : Int32) &&& 0x3f).toInt64)))])) rfl (hb hby d3_73) _ ?_
    show Steps p.tables e below (s₁.setTop (mkF m 76 #[.val (.ref a0), .val (.int (24 : Int32))] [(.long (255 : Int64)), (.long (c5.toInt64)), (.long (((((((c0.toInt64) &&& (255 : Int64)) <<< ((56 : Int32) &&& 0x3f).toInt64) ||| (((c1.toInt64) &&& (255 : Int64)) <<< ((48 : Int32) &&& 0x3f).toInt64)) ||| (((c2.toInt64) &&& (255 : Int64)) <<< ((40 : Int32) &&& 0x3f).toInt64)) ||| (((c3.toInt64) &&& (255 : Int64)) <<< ((32 : Int32) &&& 0x3f).toInt64)) ||| (((c4.toInt64) &&& (255 : Int64)) <<< ((24 : Int32) &&& 0x3f).toInt64)))])) _
    refine XS.land X0.here hx rfl (hb hby d3_76) rfl ?_
    show Steps p.tables e below (s₁.setTop (mkF m 77 #[.val (.ref a0), .val (.int (24 : Int32))] [(.long ((c5.toInt64) &&& (255 : Int64))), (.long (((((((c0.toInt64) &&& (255 : Int64)) <<< ((56 : Int32) &&& 0x3f).toInt64) ||| (((c1.toInt64) &&& (255 : Int64)) <<< ((48 : Int32) &&& 0x3f).toInt64)) ||| (((c2.toInt64) &&& (255 : Int64)) <<< ((40 : Int32) &&& 0x3f).toInt64)) ||| (((c3.toInt64) &&& (255 : Int64)) <<< ((32 : Int32) &&& 0x3f).toInt64)) ||| (((c4.toInt64) &&& (255 : Int64)) <<< ((24 : Int32) &&& 0x3f).toInt64)))])) _
    refine XS.bipush X0.here hx rfl (hb hby d3_77) ?_
    show Steps p.tables e below (s₁.setTop (mkF m 79 #[.val (.ref a0), .val (.int (24 : Int32))] [(.int (16 : Int32)), (.long ((c5.toInt64) &&& (255 : Int64))), (.long (((((((c0.toInt64) &&& (255 : Int64)) <<< ((56 : Int32) &&& 0x3f).toInt64) ||| (((c1.toInt64) &&& (255 : Int64)) <<< ((48 : Int32) &&& 0x3f).toInt64)) ||| (((c2.toInt64) &&& (255 : Int64)) <<< ((40 : Int32) &&& 0x3f).toInt64)) ||| (((c3.toInt64) &&& (255 : Int64)) <<< ((32 : Int32) &&& 0x3f).toInt64)) ||| (((c4.toInt64) &&& (255 : Int64)) <<< ((24 : Int32) &&& 0x3f).toInt64)))])) _
    refine XS.lshl X0.here hx rfl (hb hby d3_79) rfl ?_
    show Steps p.tables e below (s₁.setTop (mkF m 80 #[.val (.ref a0), .val (.int (24 : Int32))] [(.long (((c5.toInt64) &&& (255 : Int64)) <<< ((16 : Int32) &&& 0x3f).toInt64)), (.long (((((((c0.toInt64) &&& (255 : Int64)) <<< ((56 : Int32) &&& 0x3f).toInt64) ||| (((c1.toInt64) &&& (255 : Int64)) <<< ((48 : Int32) &&& 0x3f).toInt64)) ||| (((c2.toInt64) &&& (255 : Int64)) <<< ((40 : Int32) &&& 0x3f).toInt64)) ||| (((c3.toInt64) &&& (255 : Int64)) <<< ((32 : Int32) &&& 0x3f).toInt64)) ||| (((c4.toInt64) &&& (255 : Int64)) <<< ((24 : Int32) &&& 0x3f).toInt64)))])) _
    refine XS.lor X0.here hx rfl (hb hby d3_80) rfl ?_
    show Steps p.tables e below (s₁.setTop (mkF m 81 #[.val (.ref a0), .val (.int (24 : Int32))] [(.long ((((((((c0.toInt64) &&& (255 : Int64)) <<< ((56 : Int32) &&& 0x3f).toInt64) ||| (((c1.toInt64) &&& (255 : Int64)) <<< ((48 : Int32) &&& 0x3f).toInt64)) ||| (((c2.toInt64) &&& (255 : Int64)) <<< ((40 : Int32) &&& 0x3f).toInt64)) ||| (((c3.toInt64) &&& (255 : Int64)) <<< ((32 : Int32) &&& 0x3f).toInt64)) ||| (((c4.toInt64) &&& (255 : Int64)) <<< ((24 : Int32) &&& 0x3f).toInt64)) ||| (((c5.toInt64) &&& (255 : Int64)) <<< ((16 : Int32) &&& 0x3f).toInt64)))])) _
    refine XS.aloadN X0.here hx rfl (hb hby d3_81) rfl rfl ?_
    show Steps p.tables e below (s₁.setTop (mkF m 82 #[.val (.ref a0), .val (.int (24 : Int32))] [(.ref a0), (.long ((((((((c0.toInt64) &&& (255 : Int64)) <<< ((56 : Int32) &&& 0x3f).toInt64) ||| (((c1.toInt64) &&& (255 : Int64)) <<< ((48 : Int32) &&& 0x3f).toInt64)) ||| (((c2.toInt64) &&& (255 : Int64)) <<< ((40 : Int32) &&& 0x3f).toInt64)) ||| (((c3.toInt64) &&& (255 : Int64)) <<< ((32 : Int32) &&& 0x3f).toInt64)) ||| (((c4.toInt64) &&& (255 : Int64)) <<< ((24 : Int32) &&& 0x3f).toInt64)) ||| (((c5.toInt64) &&& (255 : Int64)) <<< ((16 : Int32) &&& 0x3f).toInt64)))])) _
    refine XS.iloadN X0.here hx rfl (hb hby d3_82) rfl ?_
    show Steps p.tables e below (s₁.setTop (mkF m 83 #[.val (.ref a0), .val (.int (24 : Int32))] [(.int (24 : Int32)), (.ref a0), (.long ((((((((c0.toInt64) &&& (255 : Int64)) <<< ((56 : Int32) &&& 0x3f).toInt64) ||| (((c1.toInt64) &&& (255 : Int64)) <<< ((48 : Int32) &&& 0x3f).toInt64)) ||| (((c2.toInt64) &&& (255 : Int64)) <<< ((40 : Int32) &&& 0x3f).toInt64)) ||| (((c3.toInt64) &&& (255 : Int64)) <<< ((32 : Int32) &&& 0x3f).toInt64)) ||| (((c4.toInt64) &&& (255 : Int64)) <<< ((24 : Int32) &&& 0x3f).toInt64)) ||| (((c5.toInt64) &&& (255 : Int64)) <<< ((16 : Int32) &&& 0x3f).toInt64)))])) _
    refine XS.bipush X0.here hx rfl (hb hby d3_83) ?_
    show Steps p.tables e below (s₁.setTop (mkF m 85 #[.val (.ref a0), .val (.int (24 : Int32))] [(.int (6 : Int32)), (.int (24 : Int32)), (.ref a0), (.long ((((((((c0.toInt64) &&& (255 : Int64)) <<< ((56 : Int32) &&& 0x3f).toInt64) ||| (((c1.toInt64) &&& (255 : Int64)) <<< ((48 : Int32) &&& 0x3f).toInt64)) ||| (((c2.toInt64) &&& (255 : Int64)) <<< ((40 : Int32) &&& 0x3f).toInt64)) ||| (((c3.toInt64) &&& (255 : Int64)) <<< ((32 : Int32) &&& 0x3f).toInt64)) ||| (((c4.toInt64) &&& (255 : Int64)) <<< ((24 : Int32) &&& 0x3f).toInt64)) ||| (((c5.toInt64) &&& (255 : Int64)) <<< ((16 : Int32) &&& 0x3f).toInt64)))])) _
    refine XS.iadd X0.here hx rfl (hb hby d3_85) rfl ?_
    show Steps p.tables e below (s₁.setTop (mkF m 86 #[.val (.ref a0), .val (.int (24 : Int32))] [(.int (30 : Int32)), (.ref a0), (.long ((((((((c0.toInt64) &&& (255 : Int64)) <<< ((56 : Int32) &&& 0x3f).toInt64) ||| (((c1.toInt64) &&& (255 : Int64)) <<< ((48 : Int32) &&& 0x3f).toInt64)) ||| (((c2.toInt64) &&& (255 : Int64)) <<< ((40 : Int32) &&& 0x3f).toInt64)) ||| (((c3.toInt64) &&& (255 : Int64)) <<< ((32 : Int32) &&& 0x3f).toInt64)) ||| (((c4.toInt64) &&& (255 : Int64)) <<< ((24 : Int32) &&& 0x3f).toInt64)) ||| (((c5.toInt64) &&& (255 : Int64)) <<< ((16 : Int32) &&& 0x3f).toInt64)))])) _
    have hin107 : ¬ ((30 : Int32) < 0 ∨ cl107.slots.size ≤ ((30 : Int32)).toNatClampNeg) := (inb_of S107 ⟨by decide, by decide⟩)
    refine X0.baloadBytes hx (j := (30 : Int32)) (v := (.int c6)) (by rw [e0]; exact Ar107.1) (State.isArrayOf_alike hZ.alike Ar107.2.1) Ar107.2.2 hin107 (H107.at hin107 hb6) (g := (mkF m 86 #[.val (.ref a0), .val (.int (24 : Int32))] [(.int (30 : Int32)), (.ref a0), (.long ((((((((c0.toInt64) &&& (255 : Int64)) <<< ((56 : Int32) &&& 0x3f).toInt64) ||| (((c1.toInt64) &&& (255 : Int64)) <<< ((48 : Int32) &&& 0x3f).toInt64)) ||| (((c2.toInt64) &&& (255 : Int64)) <<< ((40 : Int32) &&& 0x3f).toInt64)) ||| (((c3.toInt64) &&& (255 : Int64)) <<< ((32 : Int32) &&& 0x3f).toInt64)) ||| (((c4.toInt64) &&& (255 : Int64)) <<< ((24 : Int32) &&& 0x3f).toInt64)) ||| (((c5.toInt64) &&& (255 : Int64)) <<< ((16 : Int32) &&& 0x3f).toInt64)))])) rfl rfl (hb hby d3_86) _ ?_
    show Steps p.tables e below (s₁.setTop (mkF m 87 #[.val (.ref a0), .val (.int (24 : Int32))] [(.int c6), (.long ((((((((c0.toInt64) &&& (255 : Int64)) <<< ((56 : Int32) &&& 0x3f).toInt64) ||| (((c1.toInt64) &&& (255 : Int64)) <<< ((48 : Int32) &&& 0x3f).toInt64)) ||| (((c2.toInt64) &&& (255 : Int64)) <<< ((40 : Int32) &&& 0x3f).toInt64)) ||| (((c3.toInt64) &&& (255 : Int64)) <<< ((32 : Int32) &&& 0x3f).toInt64)) ||| (((c4.toInt64) &&& (255 : Int64)) <<< ((24 : Int32) &&& 0x3f).toInt64)) ||| (((c5.toInt64) &&& (255 : Int64)) <<< ((16 : Int32) &&& 0x3f).toInt64)))])) _
    refine XS.i2l X0.here hx rfl (hb hby d3_87) rfl ?_
    show Steps p.tables e below (s₁.setTop (mkF m 88 #[.val (.ref a0), .val (.int (24 : Int32))] [(.long (c6.toInt64)), (.long ((((((((c0.toInt64) &&& (255 : Int64)) <<< ((56 : Int32) &&& 0x3f).toInt64) ||| (((c1.toInt64) &&& (255 : Int64)) <<< ((48 : Int32) &&& 0x3f).toInt64)) ||| (((c2.toInt64) &&& (255 : Int64)) <<< ((40 : Int32) &&& 0x3f).toInt64)) ||| (((c3.toInt64) &&& (255 : Int64)) <<< ((32 : Int32) &&& 0x3f).toInt64)) ||| (((c4.toInt64) &&& (255 : Int64)) <<< ((24 : Int32) &&& 0x3f).toInt64)) ||| (((c5.toInt64) &&& (255 : Int64)) <<< ((16 : Int32) &&& 0x3f).toInt64)))])) _
    refine X0.ldc2Long hx hown (mvT hZ (hw _ (List.mem_of_getElem? (i := 12) rfl))) (g := (mkF m 88 #[.val (.ref a0), .val (.int (24 : Int32))] [(.long (c6.toInt64)), (.long ((((((((c0.toInt64) &&& (255 : Int64)) <<< ((56 : Int32) &&& 0x3f).toInt64) ||| (((c1.toInt64) &&& (255 : Int64)) <<< ((48 : Int32) &&& 0x3f).toInt64)) ||| (((c2.toInt64) &&& (255 : Int64)) <<< ((40 : Int32) &&& 0x3f).toInt64)) ||| (((c3.toInt64) &&& (255 : Int64)) <<< ((32 : Int32) &&& 0x3f).toInt64)) ||| (((c4.toInt64) &&& (255 : Int64)) <<< ((24 : Int32) &&& 0x3f).toInt64)) ||| (((c5.toInt64) &&& (255 : Int64)) <<< ((16 : Int32) &&& 0x3f).toInt64)))])) rfl (hb hby d3_88) _ ?_
    show Steps p.tables e below (s₁.setTop (mkF m 91 #[.val (.ref a0), .val (.int (24 : Int32))] [(.long (255 : Int64)), (.long (c6.toInt64)), (.long ((((((((c0.toInt64) &&& (255 : Int64)) <<< ((56 : Int32) &&& 0x3f).toInt64) ||| (((c1.toInt64) &&& (255 : Int64)) <<< ((48 : Int32) &&& 0x3f).toInt64)) ||| (((c2.toInt64) &&& (255 : Int64)) <<< ((40 : Int32) &&& 0x3f).toInt64)) ||| (((c3.toInt64) &&& (255 : Int64)) <<< ((32 : Int32) &&& 0x3f).toInt64)) ||| (((c4.toInt64) &&& (255 : Int64)) <<< ((24 : Int32) &&& 0x3f).toInt64)) ||| (((c5.toInt64) &&& (255 : Int64)) <<< ((16 : Int32) &&& 0x3f).toInt64)))])) _
    refine XS.land X0.here hx rfl (hb hby d3_91) rfl ?_
    show Steps p.tables e below (s₁.setTop (mkF m 92 #[.val (.ref a0), .val (.int (24 : Int32))] [(.long ((c6.toInt64) &&& (255 : Int64))), (.long ((((((((c0.toInt64) &&& (255 : Int64)) <<< ((56 : Int32) &&& 0x3f).toInt64) ||| (((c1.toInt64) &&& (255 : Int64)) <<< ((48 : Int32) &&& 0x3f).toInt64)) ||| (((c2.toInt64) &&& (255 : Int64)) <<< ((40 : Int32) &&& 0x3f).toInt64)) ||| (((c3.toInt64) &&& (255 : Int64)) <<< ((32 : Int32) &&& 0x3f).toInt64)) ||| (((c4.toInt64) &&& (255 : Int64)) <<< ((24 : Int32) &&& 0x3f).toInt64)) ||| (((c5.toInt64) &&& (255 : Int64)) <<< ((16 : Int32) &&& 0x3f).toInt64)))])) _
    refine XS.bipush X0.here hx rfl (hb hby d3_92) ?_
    show Steps p.tables e below (s₁.setTop (mkF m 94 #[.val (.ref a0), .val (.int (24 : Int32))] [(.int (8 : Int32)), (.long ((c6.toInt64) &&& (255 : Int64))), (.long ((((((((c0.toInt64) &&& (255 : Int64)) <<< ((56 : Int32) &&& 0x3f).toInt64) ||| (((c1.toInt64) &&& (255 : Int64)) <<< ((48 : Int32) &&& 0x3f).toInt64)) ||| (((c2.toInt64) &&& (255 : Int64)) <<< ((40 : Int32) &&& 0x3f).toInt64)) ||| (((c3.toInt64) &&& (255 : Int64)) <<< ((32 : Int32) &&& 0x3f).toInt64)) ||| (((c4.toInt64) &&& (255 : Int64)) <<< ((24 : Int32) &&& 0x3f).toInt64)) ||| (((c5.toInt64) &&& (255 : Int64)) <<< ((16 : Int32) &&& 0x3f).toInt64)))])) _
    refine XS.lshl X0.here hx rfl (hb hby d3_94) rfl ?_
    show Steps p.tables e below (s₁.setTop (mkF m 95 #[.val (.ref a0), .val (.int (24 : Int32))] [(.long (((c6.toInt64) &&& (255 : Int64)) <<< ((8 : Int32) &&& 0x3f).toInt64)), (.long ((((((((c0.toInt64) &&& (255 : Int64)) <<< ((56 : Int32) &&& 0x3f).toInt64) ||| (((c1.toInt64) &&& (255 : Int64)) <<< ((48 : Int32) &&& 0x3f).toInt64)) ||| (((c2.toInt64) &&& (255 : Int64)) <<< ((40 : Int32) &&& 0x3f).toInt64)) ||| (((c3.toInt64) &&& (255 : Int64)) <<< ((32 : Int32) &&& 0x3f).toInt64)) ||| (((c4.toInt64) &&& (255 : Int64)) <<< ((24 : Int32) &&& 0x3f).toInt64)) ||| (((c5.toInt64) &&& (255 : Int64)) <<< ((16 : Int32) &&& 0x3f).toInt64)))])) _
    refine XS.lor X0.here hx rfl (hb hby d3_95) rfl ?_
    show Steps p.tables e below (s₁.setTop (mkF m 96 #[.val (.ref a0), .val (.int (24 : Int32))] [(.long (((((((((c0.toInt64) &&& (255 : Int64)) <<< ((56 : Int32) &&& 0x3f).toInt64) ||| (((c1.toInt64) &&& (255 : Int64)) <<< ((48 : Int32) &&& 0x3f).toInt64)) ||| (((c2.toInt64) &&& (255 : Int64)) <<< ((40 : Int32) &&& 0x3f).toInt64)) ||| (((c3.toInt64) &&& (255 : Int64)) <<< ((32 : Int32) &&& 0x3f).toInt64)) ||| (((c4.toInt64) &&& (255 : Int64)) <<< ((24 : Int32) &&& 0x3f).toInt64)) ||| (((c5.toInt64) &&& (255 : Int64)) <<< ((16 : Int32) &&& 0x3f).toInt64)) ||| (((c6.toInt64) &&& (255 : Int64)) <<< ((8 : Int32) &&& 0x3f).toInt64)))])) _
    refine XS.aloadN X0.here hx rfl (hb hby d3_96) rfl rfl ?_
    show Steps p.tables e below (s₁.setTop (mkF m 97 #[.val (.ref a0), .val (.int (24 : Int32))] [(.ref a0), (.long (((((((((c0.toInt64) &&& (255 : Int64)) <<< ((56 : Int32) &&& 0x3f).toInt64) ||| (((c1.toInt64) &&& (255 : Int64)) <<< ((48 : Int32) &&& 0x3f).toInt64)) ||| (((c2.toInt64) &&& (255 : Int64)) <<< ((40 : Int32) &&& 0x3f).toInt64)) ||| (((c3.toInt64) &&& (255 : Int64)) <<< ((32 : Int32) &&& 0x3f).toInt64)) ||| (((c4.toInt64) &&& (255 : Int64)) <<< ((24 : Int32) &&& 0x3f).toInt64)) ||| (((c5.toInt64) &&& (255 : Int64)) <<< ((16 : Int32) &&& 0x3f).toInt64)) ||| (((c6.toInt64) &&& (255 : Int64)) <<< ((8 : Int32) &&& 0x3f).toInt64)))])) _
    refine XS.iloadN X0.here hx rfl (hb hby d3_97) rfl ?_
    show Steps p.tables e below (s₁.setTop (mkF m 98 #[.val (.ref a0), .val (.int (24 : Int32))] [(.int (24 : Int32)), (.ref a0), (.long (((((((((c0.toInt64) &&& (255 : Int64)) <<< ((56 : Int32) &&& 0x3f).toInt64) ||| (((c1.toInt64) &&& (255 : Int64)) <<< ((48 : Int32) &&& 0x3f).toInt64)) ||| (((c2.toInt64) &&& (255 : Int64)) <<< ((40 : Int32) &&& 0x3f).toInt64)) ||| (((c3.toInt64) &&& (255 : Int64)) <<< ((32 : Int32) &&& 0x3f).toInt64)) ||| (((c4.toInt64) &&& (255 : Int64)) <<< ((24 : Int32) &&& 0x3f).toInt64)) ||| (((c5.toInt64) &&& (255 : Int64)) <<< ((16 : Int32) &&& 0x3f).toInt64)) ||| (((c6.toInt64) &&& (255 : Int64)) <<< ((8 : Int32) &&& 0x3f).toInt64)))])) _
    refine XS.bipush X0.here hx rfl (hb hby d3_98) ?_
    show Steps p.tables e below (s₁.setTop (mkF m 100 #[.val (.ref a0), .val (.int (24 : Int32))] [(.int (7 : Int32)), (.int (24 : Int32)), (.ref a0), (.long (((((((((c0.toInt64) &&& (255 : Int64)) <<< ((56 : Int32) &&& 0x3f).toInt64) ||| (((c1.toInt64) &&& (255 : Int64)) <<< ((48 : Int32) &&& 0x3f).toInt64)) ||| (((c2.toInt64) &&& (255 : Int64)) <<< ((40 : Int32) &&& 0x3f).toInt64)) ||| (((c3.toInt64) &&& (255 : Int64)) <<< ((32 : Int32) &&& 0x3f).toInt64)) ||| (((c4.toInt64) &&& (255 : Int64)) <<< ((24 : Int32) &&& 0x3f).toInt64)) ||| (((c5.toInt64) &&& (255 : Int64)) <<< ((16 : Int32) &&& 0x3f).toInt64)) ||| (((c6.toInt64) &&& (255 : Int64)) <<< ((8 : Int32) &&& 0x3f).toInt64)))])) _
    refine XS.iadd X0.here hx rfl (hb hby d3_100) rfl ?_
    show Steps p.tables e below (s₁.setTop (mkF m 101 #[.val (.ref a0), .val (.int (24 : Int32))] [(.int (31 : Int32)), (.ref a0), (.long (((((((((c0.toInt64) &&& (255 : Int64)) <<< ((56 : Int32) &&& 0x3f).toInt64) ||| (((c1.toInt64) &&& (255 : Int64)) <<< ((48 : Int32) &&& 0x3f).toInt64)) ||| (((c2.toInt64) &&& (255 : Int64)) <<< ((40 : Int32) &&& 0x3f).toInt64)) ||| (((c3.toInt64) &&& (255 : Int64)) <<< ((32 : Int32) &&& 0x3f).toInt64)) ||| (((c4.toInt64) &&& (255 : Int64)) <<< ((24 : Int32) &&& 0x3f).toInt64)) ||| (((c5.toInt64) &&& (255 : Int64)) <<< ((16 : Int32) &&& 0x3f).toInt64)) ||| (((c6.toInt64) &&& (255 : Int64)) <<< ((8 : Int32) &&& 0x3f).toInt64)))])) _
    have hin108 : ¬ ((31 : Int32) < 0 ∨ cl108.slots.size ≤ ((31 : Int32)).toNatClampNeg) := (inb_of S108 ⟨by decide, by decide⟩)
    refine X0.baloadBytes hx (j := (31 : Int32)) (v := (.int c7)) (by rw [e0]; exact Ar108.1) (State.isArrayOf_alike hZ.alike Ar108.2.1) Ar108.2.2 hin108 (H108.at hin108 hb7) (g := (mkF m 101 #[.val (.ref a0), .val (.int (24 : Int32))] [(.int (31 : Int32)), (.ref a0), (.long (((((((((c0.toInt64) &&& (255 : Int64)) <<< ((56 : Int32) &&& 0x3f).toInt64) ||| (((c1.toInt64) &&& (255 : Int64)) <<< ((48 : Int32) &&& 0x3f).toInt64)) ||| (((c2.toInt64) &&& (255 : Int64)) <<< ((40 : Int32) &&& 0x3f).toInt64)) ||| (((c3.toInt64) &&& (255 : Int64)) <<< ((32 : Int32) &&& 0x3f).toInt64)) ||| (((c4.toInt64) &&& (255 : Int64)) <<< ((24 : Int32) &&& 0x3f).toInt64)) ||| (((c5.toInt64) &&& (255 : Int64)) <<< ((16 : Int32) &&& 0x3f).toInt64)) ||| (((c6.toInt64) &&& (255 : Int64)) <<< ((8 : Int32) &&& 0x3f).toInt64)))])) rfl rfl (hb hby d3_101) _ ?_
    show Steps p.tables e below (s₁.setTop (mkF m 102 #[.val (.ref a0), .val (.int (24 : Int32))] [(.int c7), (.long (((((((((c0.toInt64) &&& (255 : Int64)) <<< ((56 : Int32) &&& 0x3f).toInt64) ||| (((c1.toInt64) &&& (255 : Int64)) <<< ((48 : Int32) &&& 0x3f).toInt64)) ||| (((c2.toInt64) &&& (255 : Int64)) <<< ((40 : Int32) &&& 0x3f).toInt64)) ||| (((c3.toInt64) &&& (255 : Int64)) <<< ((32 : Int32) &&& 0x3f).toInt64)) ||| (((c4.toInt64) &&& (255 : Int64)) <<< ((24 : Int32) &&& 0x3f).toInt64)) ||| (((c5.toInt64) &&& (255 : Int64)) <<< ((16 : Int32) &&& 0x3f).toInt64)) ||| (((c6.toInt64) &&& (255 : Int64)) <<< ((8 : Int32) &&& 0x3f).toInt64)))])) _
    refine XS.i2l X0.here hx rfl (hb hby d3_102) rfl ?_
    show Steps p.tables e below (s₁.setTop (mkF m 103 #[.val (.ref a0), .val (.int (24 : Int32))] [(.long (c7.toInt64)), (.long (((((((((c0.toInt64) &&& (255 : Int64)) <<< ((56 : Int32) &&& 0x3f).toInt64) ||| (((c1.toInt64) &&& (255 : Int64)) <<< ((48 : Int32) &&& 0x3f).toInt64)) ||| (((c2.toInt64) &&& (255 : Int64)) <<< ((40 : Int32) &&& 0x3f).toInt64)) ||| (((c3.toInt64) &&& (255 : Int64)) <<< ((32 : Int32) &&& 0x3f).toInt64)) ||| (((c4.toInt64) &&& (255 : Int64)) <<< ((24 : Int32) &&& 0x3f).toInt64)) ||| (((c5.toInt64) &&& (255 : Int64)) <<< ((16 : Int32) &&& 0x3f).toInt64)) ||| (((c6.toInt64) &&& (255 : Int64)) <<< ((8 : Int32) &&& 0x3f).toInt64)))])) _
    refine X0.ldc2Long hx hown (mvT hZ (hw _ (List.mem_of_getElem? (i := 12) rfl))) (g := (mkF m 103 #[.val (.ref a0), .val (.int (24 : Int32))] [(.long (c7.toInt64)), (.long (((((((((c0.toInt64) &&& (255 : Int64)) <<< ((56 : Int32) &&& 0x3f).toInt64) ||| (((c1.toInt64) &&& (255 : Int64)) <<< ((48 : Int32) &&& 0x3f).toInt64)) ||| (((c2.toInt64) &&& (255 : Int64)) <<< ((40 : Int32) &&& 0x3f).toInt64)) ||| (((c3.toInt64) &&& (255 : Int64)) <<< ((32 : Int32) &&& 0x3f).toInt64)) ||| (((c4.toInt64) &&& (255 : Int64)) <<< ((24 : Int32) &&& 0x3f).toInt64)) ||| (((c5.toInt64) &&& (255 : Int64)) <<< ((16 : Int32) &&& 0x3f).toInt64)) ||| (((c6.toInt64) &&& (255 : Int64)) <<< ((8 : Int32) &&& 0x3f).toInt64)))])) rfl (hb hby d3_103) _ ?_
    show Steps p.tables e below (s₁.setTop (mkF m 106 #[.val (.ref a0), .val (.int (24 : Int32))] [(.long (255 : Int64)), (.long (c7.toInt64)), (.long (((((((((c0.toInt64) &&& (255 : Int64)) <<< ((56 : Int32) &&& 0x3f).toInt64) ||| (((c1.toInt64) &&& (255 : Int64)) <<< ((48 : Int32) &&& 0x3f).toInt64)) ||| (((c2.toInt64) &&& (255 : Int64)) <<< ((40 : Int32) &&& 0x3f).toInt64)) ||| (((c3.toInt64) &&& (255 : Int64)) <<< ((32 : Int32) &&& 0x3f).toInt64)) ||| (((c4.toInt64) &&& (255 : Int64)) <<< ((24 : Int32) &&& 0x3f).toInt64)) ||| (((c5.toInt64) &&& (255 : Int64)) <<< ((16 : Int32) &&& 0x3f).toInt64)) ||| (((c6.toInt64) &&& (255 : Int64)) <<< ((8 : Int32) &&& 0x3f).toInt64)))])) _
    refine XS.land X0.here hx rfl (hb hby d3_106) rfl ?_
    show Steps p.tables e below (s₁.setTop (mkF m 107 #[.val (.ref a0), .val (.int (24 : Int32))] [(.long ((c7.toInt64) &&& (255 : Int64))), (.long (((((((((c0.toInt64) &&& (255 : Int64)) <<< ((56 : Int32) &&& 0x3f).toInt64) ||| (((c1.toInt64) &&& (255 : Int64)) <<< ((48 : Int32) &&& 0x3f).toInt64)) ||| (((c2.toInt64) &&& (255 : Int64)) <<< ((40 : Int32) &&& 0x3f).toInt64)) ||| (((c3.toInt64) &&& (255 : Int64)) <<< ((32 : Int32) &&& 0x3f).toInt64)) ||| (((c4.toInt64) &&& (255 : Int64)) <<< ((24 : Int32) &&& 0x3f).toInt64)) ||| (((c5.toInt64) &&& (255 : Int64)) <<< ((16 : Int32) &&& 0x3f).toInt64)) ||| (((c6.toInt64) &&& (255 : Int64)) <<< ((8 : Int32) &&& 0x3f).toInt64)))])) _
    refine XS.lor X0.here hx rfl (hb hby d3_107) rfl ?_
    show Steps p.tables e below (s₁.setTop (mkF m 108 #[.val (.ref a0), .val (.int (24 : Int32))] [(.long ((((((((((c0.toInt64) &&& (255 : Int64)) <<< ((56 : Int32) &&& 0x3f).toInt64) ||| (((c1.toInt64) &&& (255 : Int64)) <<< ((48 : Int32) &&& 0x3f).toInt64)) ||| (((c2.toInt64) &&& (255 : Int64)) <<< ((40 : Int32) &&& 0x3f).toInt64)) ||| (((c3.toInt64) &&& (255 : Int64)) <<< ((32 : Int32) &&& 0x3f).toInt64)) ||| (((c4.toInt64) &&& (255 : Int64)) <<< ((24 : Int32) &&& 0x3f).toInt64)) ||| (((c5.toInt64) &&& (255 : Int64)) <<< ((16 : Int32) &&& 0x3f).toInt64)) ||| (((c6.toInt64) &&& (255 : Int64)) <<< ((8 : Int32) &&& 0x3f).toInt64)) ||| ((c7.toInt64) &&& (255 : Int64))))])) _
    exact retOut X0 hx (t := .long) Bd.returns rfl (Or.inr (Or.inl ⟨rfl, rfl, _, rfl⟩)) (hb hby d3_108) hr
  · show Q_rmg32_24 Z a0 kk vs c0 c1 c2 c3 c4 c5 c6 c7 h0 n0 _ s₁.heap _
    rw [e0]
    exact ⟨rfl, N0, rfl⟩
theorem ef_rmg16_0 (m : MethodId) (x0 : Addr) (x1 : Int32) : entryFrame m #[(.ref x0), (.int x1)] 2 = mkF m 0 #[.val (.ref x0), .val (.int x1)] [] := by first | (simp [entryFrame, mkF, argsToLocals, Value.category]; done) | rfl
def Q_rmg16_0 (Z : State) (a0 : Addr) (kk : ClassId) (vs : List Value) (c0 : Int32) (c1 : Int32) (c2 : Int32) (c3 : Int32) (c4 : Int32) (c5 : Int32) (c6 : Int32) (c7 : Int32) (h0 : Heap) (n0 : Nat) (v : Option Value) (h : Heap) (L : List Loc) : Prop := v = some (.long (own_get c0 c1 c2 c3 c4 c5 c6 c7)) ∧ Fr n0 L ∧ h = h0
set_option maxRecDepth 65536 in
set_option maxHeartbeats 40000000 in
theorem rmg16_0 (l : Launch) (Z : State) (aw : Array Value) (hw : ∀ d ∈ tables_1, d.before aw Z = true) (ws : List Jvm.Cond) (a0 : Addr) (kk : ClassId) (vs : List Value) (c0 : Int32) (c1 : Int32) (c2 : Int32) (c3 : Int32) (c4 : Int32) (c5 : Int32) (c6 : Int32) (c7 : Int32) (h0 : Heap) (n0 : Nat) (Z0 : n0 ≤ h0.size) (V0 : Arv Z h0 a0 kk .byte (16 : Int32) vs (.int (0 : Int32))) (hb0 : vs.getD 0 (.int (0 : Int32)) = .int c0) (hb1 : vs.getD 1 (.int (0 : Int32)) = .int c1) (hb2 : vs.getD 2 (.int (0 : Int32)) = .int c2) (hb3 : vs.getD 3 (.int (0 : Int32)) = .int c3) (hb4 : vs.getD 4 (.int (0 : Int32)) = .int c4) (hb5 : vs.getD 5 (.int (0 : Int32)) = .int c5) (hb6 : vs.getD 6 (.int (0 : Int32)) = .int c6) (hb7 : vs.getD 7 (.int (0 : Int32)) = .int c7) :
    MetFree l (⟨"com/example/countersign/countersign/protocol/PrimitivesFoldPinLaw", "get", "([BI)J"⟩ : MethodName) (head1 (Jvm.Cond.code (⟨"com/example/countersign/countersign/protocol/PrimitivesFoldPinLaw", "get", "([BI)J"⟩ : MethodName) method_4_code 2 (some .long) :: ws) ({ frames := 0, cells := 0, slots := 0, locals := 0 } : Room)) (fun a U => a = #[(.ref a0), (.int (0 : Int32))] ∧ Z.Warmed39 U.vm ∧ U.heap = h0) (fun _ _ _ _ _ => True) (fun _ U oc U' => ∃ v L, oc = .returned v ∧ Q_rmg16_0 Z a0 kk vs c0 c1 c2 c3 c4 c5 c6 c7 h0 n0 v U'.heap L ∧ FrameEnd U oc U' L ({ frames := 0, cells := 0, slots := 0, locals := 0 } : Room).cells ({ frames := 0, cells := 0, slots := 0, locals := 0 } : Room).slots) := by
  refine MetFree.of_bodySF (plainFor_of_name pn_0) hisR ?_
  intro p e s m args below meth c s₁ Bd hml0 hP hK
  obtain ⟨rfl, hZ, hh⟩ := hP
  have hx := Bd.exec
  have hby := Bd.bytes
  have hml : c.maxLocals = 2 := hml0
  have hown : s.vm.findClass "com/example/countersign/countersign/protocol/PrimitivesFoldPinLaw" = some m.cls := findClass_of_methodNamed Bd.named
  have hnm := (name_of_methodNamed Bd.named Bd.method).1
  have X0 : Stand p l e ({ frames := 0, cells := 0, slots := 0, locals := 0 } : Room) s m #[(.ref a0), (.int (0 : Int32))] below meth c s₁ [] 0 0 := Stand.of_body Bd
  have e0 : s₁.heap = h0 := by rw [← hh, Bd.state]; rfl
  have N0 := Fr.nil n0
  have pre0 : ∀ t, Steps p.tables e below (s₁.setTop (mkF m 0 #[.val (.ref a0), .val (.int (0 : Int32))] [])) t → Steps p.tables e below (s₁.setTop (entryFrame m #[(.ref a0), (.int (0 : Int32))] 2)) t := fun t k => castTop (ef_rmg16_0 m a0 (0 : Int32)) k
  obtain ⟨cl101, Ar101, q101, S101, M101, H101, G101⟩ := id V0
  obtain ⟨cl102, Ar102, q102, S102, M102, H102, G102⟩ := id V0
  obtain ⟨cl103, Ar103, q103, S103, M103, H103, G103⟩ := id V0
  obtain ⟨cl104, Ar104, q104, S104, M104, H104, G104⟩ := id V0
  obtain ⟨cl105, Ar105, q105, S105, M105, H105, G105⟩ := id V0
  obtain ⟨cl106, Ar106, q106, S106, M106, H106, G106⟩ := id V0
  obtain ⟨cl107, Ar107, q107, S107, M107, H107, G107⟩ := id V0
  obtain ⟨cl108, Ar108, q108, S108, M108, H108, G108⟩ := id V0
  obtain ⟨fs, hr, hrun, hended, hW, hsame⟩ := X0.leave (v := some (.long ((((((((((c0.toInt64) &&& (255 : Int64)) <<< ((56 : Int32) &&& 0x3f).toInt64) ||| (((c1.toInt64) &&& (255 : Int64)) <<< ((48 : Int32) &&& 0x3f).toInt64)) ||| (((c2.toInt64) &&& (255 : Int64)) <<< ((40 : Int32) &&& 0x3f).toInt64)) ||| (((c3.toInt64) &&& (255 : Int64)) <<< ((32 : Int32) &&& 0x3f).toInt64)) ||| (((c4.toInt64) &&& (255 : Int64)) <<< ((24 : Int32) &&& 0x3f).toInt64)) ||| (((c5.toInt64) &&& (255 : Int64)) <<< ((16 : Int32) &&& 0x3f).toInt64)) ||| (((c6.toInt64) &&& (255 : Int64)) <<< ((8 : Int32) &&& 0x3f).toInt64)) ||| ((c7.toInt64) &&& (255 : Int64))))) (fun h => by rw [Bd.returns] at h; cases h)
  refine ⟨_, _, pre0 _ ?_, hrun, hended, _, _, rfl, ?_, ⟨_, rfl⟩, hW, hsame.mono (by decide) (by decide)⟩
  · show Steps p.tables e below (s₁.setTop (mkF m 0 #[.val (.ref a0), .val (.int (0 : Int32))] [])) _
    refine XS.aloadN X0.here hx rfl (hb hby d3_0) rfl rfl ?_
    show Steps p.tables e below (s₁.setTop (mkF m 1 #[.val (.ref a0), .val (.int (0 : Int32))] [(.ref a0)])) _
    refine XS.iloadN X0.here hx rfl (hb hby d3_1) rfl ?_
    show Steps p.tables e below (s₁.setTop (mkF m 2 #[.val (.ref a0), .val (.int (0 : Int32))] [(.int (0 : Int32)), (.ref a0)])) _
    have hin101 : ¬ ((0 : Int32) < 0 ∨ cl101.slots.size ≤ ((0 : Int32)).toNatClampNeg) := (inb_of S101 ⟨by decide, by decide⟩)
    refine X0.baloadBytes hx (j := (0 : Int32)) (v := (.int c0)) (by rw [e0]; exact Ar101.1) (State.isArrayOf_alike hZ.alike Ar101.2.1) Ar101.2.2 hin101 (H101.at hin101 hb0) (g := (mkF m 2 #[.val (.ref a0), .val (.int (0 : Int32))] [(.int (0 : Int32)), (.ref a0)])) rfl rfl (hb hby d3_2) _ ?_
    show Steps p.tables e below (s₁.setTop (mkF m 3 #[.val (.ref a0), .val (.int (0 : Int32))] [(.int c0)])) _
    refine XS.i2l X0.here hx rfl (hb hby d3_3) rfl ?_
    show Steps p.tables e below (s₁.setTop (mkF m 4 #[.val (.ref a0), .val (.int (0 : Int32))] [(.long (c0.toInt64))])) _
    refine X0.ldc2Long hx hown (mvT hZ (hw _ (List.mem_of_getElem? (i := 12) rfl))) (g := (mkF m 4 #[.val (.ref a0), .val (.int (0 : Int32))] [(.long (c0.toInt64))])) rfl (hb hby d3_4) _ ?_
    show Steps p.tables e below (s₁.setTop (mkF m 7 #[.val (.ref a0), .val (.int (0 : Int32))] [(.long (255 : Int64)), (.long (c0.toInt64))])) _
    refine XS.land X0.here hx rfl (hb hby d3_7) rfl ?_
    show Steps p.tables e below (s₁.setTop (mkF m 8 #[.val (.ref a0), .val (.int (0 : Int32))] [(.long ((c0.toInt64) &&& (255 : Int64)))])) _
    refine XS.bipush X0.here hx rfl (hb hby d3_8) ?_
    show Steps p.tables e below (s₁.setTop (mkF m 10 #[.val (.ref a0), .val (.int (0 : Int32))] [(.int (56 : Int32)), (.long ((c0.toInt64) &&& (255 : Int64)))])) _
    refine XS.lshl X0.here hx rfl (hb hby d3_10) rfl ?_
    show Steps p.tables e below (s₁.setTop (mkF m 11 #[.val (.ref a0), .val (.int (0 : Int32))] [(.long (((c0.toInt64) &&& (255 : Int64)) <<< ((56 : Int32) &&& 0x3f).toInt64))])) _
    refine XS.aloadN X0.here hx rfl (hb hby d3_11) rfl rfl ?_
    show Steps p.tables e below (s₁.setTop (mkF m 12 #[.val (.ref a0), .val (.int (0 : Int32))] [(.ref a0), (.long (((c0.toInt64) &&& (255 : Int64)) <<< ((56 : Int32) &&& 0x3f).toInt64))])) _
    refine XS.iloadN X0.here hx rfl (hb hby d3_12) rfl ?_
    show Steps p.tables e below (s₁.setTop (mkF m 13 #[.val (.ref a0), .val (.int (0 : Int32))] [(.int (0 : Int32)), (.ref a0), (.long (((c0.toInt64) &&& (255 : Int64)) <<< ((56 : Int32) &&& 0x3f).toInt64))])) _
    refine XS.iconst X0.here hx rfl (hb hby d3_13) ?_
    show Steps p.tables e below (s₁.setTop (mkF m 14 #[.val (.ref a0), .val (.int (0 : Int32))] [(.int (1 : Int32)), (.int (0 : Int32)), (.ref a0), (.long (((c0.toInt64) &&& (255 : Int64)) <<< ((56 : Int32) &&& 0x3f).toInt64))])) _
    refine XS.iadd X0.here hx rfl (hb hby d3_14) rfl ?_
    show Steps p.tables e below (s₁.setTop (mkF m 15 #[.val (.ref a0), .val (.int (0 : Int32))] [(.int (1 : Int32)), (.ref a0), (.long (((c0.toInt64) &&& (255 : Int64)) <<< ((56 : Int32) &&& 0x3f).toInt64))])) _
    have hin102 : ¬ ((1 : Int32) < 0 ∨ cl102.slots.size ≤ ((1 : Int32)).toNatClampNeg) := (inb_of S102 ⟨by decide, by decide⟩)
    refine X0.baloadBytes hx (j := (1 : Int32)) (v := (.int c1)) (by rw [e0]; exact Ar102.1) (State.isArrayOf_alike hZ.alike Ar102.2.1) Ar102.2.2 hin102 (H102.at hin102 hb1) (g := (mkF m 15 #[.val (.ref a0), .val (.int (0 : Int32))] [(.int (1 : Int32)), (.ref a0), (.long (((c0.toInt64) &&& (255 : Int64)) <<< ((56 : Int32) &&& 0x3f).toInt64))])) rfl rfl (hb hby d3_15) _ ?_
    show Steps p.tables e below (s₁.setTop (mkF m 16 #[.val (.ref a0), .val (.int (0 : Int32))] [(.int c1), (.long (((c0.toInt64) &&& (255 : Int64)) <<< ((56 : Int32) &&& 0x3f).toInt64))])) _
    refine XS.i2l X0.here hx rfl (hb hby d3_16) rfl ?_
    show Steps p.tables e below (s₁.setTop (mkF m 17 #[.val (.ref a0), .val (.int (0 : Int32))] [(.long (c1.toInt64)), (.long (((c0.toInt64) &&& (255 : Int64)) <<< ((56 : Int32) &&& 0x3f).toInt64))])) _
    refine X0.ldc2Long hx hown (mvT hZ (hw _ (List.mem_of_getElem? (i := 12) rfl))) (g := (mkF m 17 #[.val (.ref a0), .val (.int (0 : Int32))] [(.long (c1.toInt64)), (.long (((c0.toInt64) &&& (255 : Int64)) <<< ((56 : Int32) &&& 0x3f).toInt64))])) rfl (hb hby d3_17) _ ?_
    show Steps p.tables e below (s₁.setTop (mkF m 20 #[.val (.ref a0), .val (.int (0 : Int32))] [(.long (255 : Int64)), (.long (c1.toInt64)), (.long (((c0.toInt64) &&& (255 : Int64)) <<< ((56 : Int32) &&& 0x3f).toInt64))])) _
    refine XS.land X0.here hx rfl (hb hby d3_20) rfl ?_
    show Steps p.tables e below (s₁.setTop (mkF m 21 #[.val (.ref a0), .val (.int (0 : Int32))] [(.long ((c1.toInt64) &&& (255 : Int64))), (.long (((c0.toInt64) &&& (255 : Int64)) <<< ((56 : Int32) &&& 0x3f).toInt64))])) _
    refine XS.bipush X0.here hx rfl (hb hby d3_21) ?_
    show Steps p.tables e below (s₁.setTop (mkF m 23 #[.val (.ref a0), .val (.int (0 : Int32))] [(.int (48 : Int32)), (.long ((c1.toInt64) &&& (255 : Int64))), (.long (((c0.toInt64) &&& (255 : Int64)) <<< ((56 : Int32) &&& 0x3f).toInt64))])) _
    refine XS.lshl X0.here hx rfl (hb hby d3_23) rfl ?_
    show Steps p.tables e below (s₁.setTop (mkF m 24 #[.val (.ref a0), .val (.int (0 : Int32))] [(.long (((c1.toInt64) &&& (255 : Int64)) <<< ((48 : Int32) &&& 0x3f).toInt64)), (.long (((c0.toInt64) &&& (255 : Int64)) <<< ((56 : Int32) &&& 0x3f).toInt64))])) _
    refine XS.lor X0.here hx rfl (hb hby d3_24) rfl ?_
    show Steps p.tables e below (s₁.setTop (mkF m 25 #[.val (.ref a0), .val (.int (0 : Int32))] [(.long ((((c0.toInt64) &&& (255 : Int64)) <<< ((56 : Int32) &&& 0x3f).toInt64) ||| (((c1.toInt64) &&& (255 : Int64)) <<< ((48 : Int32) &&& 0x3f).toInt64)))])) _
    refine XS.aloadN X0.here hx rfl (hb hby d3_25) rfl rfl ?_
    show Steps p.tables e below (s₁.setTop (mkF m 26 #[.val (.ref a0), .val (.int (0 : Int32))] [(.ref a0), (.long ((((c0.toInt64) &&& (255 : Int64)) <<< ((56 : Int32) &&& 0x3f).toInt64) ||| (((c1.toInt64) &&& (255 : Int64)) <<< ((48 : Int32) &&& 0x3f).toInt64)))])) _
    refine XS.iloadN X0.here hx rfl (hb hby d3_26) rfl ?_
    show Steps p.tables e below (s₁.setTop (mkF m 27 #[.val (.ref a0), .val (.int (0 : Int32))] [(.int (0 : Int32)), (.ref a0), (.long ((((c0.toInt64) &&& (255 : Int64)) <<< ((56 : Int32) &&& 0x3f).toInt64) ||| (((c1.toInt64) &&& (255 : Int64)) <<< ((48 : Int32) &&& 0x3f).toInt64)))])) _
    refine XS.iconst X0.here hx rfl (hb hby d3_27) ?_
    show Steps p.tables e below (s₁.setTop (mkF m 28 #[.val (.ref a0), .val (.int (0 : Int32))] [(.int (2 : Int32)), (.int (0 : Int32)), (.ref a0), (.long ((((c0.toInt64) &&& (255 : Int64)) <<< ((56 : Int32) &&& 0x3f).toInt64) ||| (((c1.toInt64) &&& (255 : Int64)) <<< ((48 : Int32) &&& 0x3f).toInt64)))])) _
    refine XS.iadd X0.here hx rfl (hb hby d3_28) rfl ?_
    show Steps p.tables e below (s₁.setTop (mkF m 29 #[.val (.ref a0), .val (.int (0 : Int32))] [(.int (2 : Int32)), (.ref a0), (.long ((((c0.toInt64) &&& (255 : Int64)) <<< ((56 : Int32) &&& 0x3f).toInt64) ||| (((c1.toInt64) &&& (255 : Int64)) <<< ((48 : Int32) &&& 0x3f).toInt64)))])) _
    have hin103 : ¬ ((2 : Int32) < 0 ∨ cl103.slots.size ≤ ((2 : Int32)).toNatClampNeg) := (inb_of S103 ⟨by decide, by decide⟩)
    refine X0.baloadBytes hx (j := (2 : Int32)) (v := (.int c2)) (by rw [e0]; exact Ar103.1) (State.isArrayOf_alike hZ.alike Ar103.2.1) Ar103.2.2 hin103 (H103.at hin103 hb2) (g := (mkF m 29 #[.val (.ref a0), .val (.int (0 : Int32))] [(.int (2 : Int32)), (.ref a0), (.long ((((c0.toInt64) &&& (255 : Int64)) <<< ((56 : Int32) &&& 0x3f).toInt64) ||| (((c1.toInt64) &&& (255 : Int64)) <<< ((48 : Int32) &&& 0x3f).toInt64)))])) rfl rfl (hb hby d3_29) _ ?_
    show Steps p.tables e below (s₁.setTop (mkF m 30 #[.val (.ref a0), .val (.int (0 : Int32))] [(.int c2), (.long ((((c0.toInt64) &&& (255 : Int64)) <<< ((56 : Int32) &&& 0x3f).toInt64) ||| (((c1.toInt64) &&& (255 : Int64)) <<< ((48 : Int32) &&& 0x3f).toInt64)))])) _
    refine XS.i2l X0.here hx rfl (hb hby d3_30) rfl ?_
    show Steps p.tables e below (s₁.setTop (mkF m 31 #[.val (.ref a0), .val (.int (0 : Int32))] [(.long (c2.toInt64)), (.long ((((c0.toInt64) &&& (255 : Int64)) <<< ((56 : Int32) &&& 0x3f).toInt64) ||| (((c1.toInt64) &&& (255 : Int64)) <<< ((48 : Int32) &&& 0x3f).toInt64)))])) _
    refine X0.ldc2Long hx hown (mvT hZ (hw _ (List.mem_of_getElem? (i := 12) rfl))) (g := (mkF m 31 #[.val (.ref a0), .val (.int (0 : Int32))] [(.long (c2.toInt64)), (.long ((((c0.toInt64) &&& (255 : Int64)) <<< ((56 : Int32) &&& 0x3f).toInt64) ||| (((c1.toInt64) &&& (255 : Int64)) <<< ((48 : Int32) &&& 0x3f).toInt64)))])) rfl (hb hby d3_31) _ ?_
    show Steps p.tables e below (s₁.setTop (mkF m 34 #[.val (.ref a0), .val (.int (0 : Int32))] [(.long (255 : Int64)), (.long (c2.toInt64)), (.long ((((c0.toInt64) &&& (255 : Int64)) <<< ((56 : Int32) &&& 0x3f).toInt64) ||| (((c1.toInt64) &&& (255 : Int64)) <<< ((48 : Int32) &&& 0x3f).toInt64)))])) _
    refine XS.land X0.here hx rfl (hb hby d3_34) rfl ?_
    show Steps p.tables e below (s₁.setTop (mkF m 35 #[.val (.ref a0), .val (.int (0 : Int32))] [(.long ((c2.toInt64) &&& (255 : Int64))), (.long ((((c0.toInt64) &&& (255 : Int64)) <<< ((56 : Int32) &&& 0x3f).toInt64) ||| (((c1.toInt64) &&& (255 : Int64)) <<< ((48 : Int32) &&& 0x3f).toInt64)))])) _
    refine XS.bipush X0.here hx rfl (hb hby d3_35) ?_
    show Steps p.tables e below (s₁.setTop (mkF m 37 #[.val (.ref a0), .val (.int (0 : Int32))] [(.int (40 : Int32)), (.long ((c2.toInt64) &&& (255 : Int64))), (.long ((((c0.toInt64) &&& (255 : Int64)) <<< ((56 : Int32) &&& 0x3f).toInt64) ||| (((c1.toInt64) &&& (255 : Int64)) <<< ((48 : Int32) &&& 0x3f).toInt64)))])) _
    refine XS.lshl X0.here hx rfl (hb hby d3_37) rfl ?_
    show Steps p.tables e below (s₁.setTop (mkF m 38 #[.val (.ref a0), .val (.int (0 : Int32))] [(.long (((c2.toInt64) &&& (255 : Int64)) <<< ((40 : Int32) &&& 0x3f).toInt64)), (.long ((((c0.toInt64) &&& (255 : Int64)) <<< ((56 : Int32) &&& 0x3f).toInt64) ||| (((c1.toInt64) &&& (255 : Int64)) <<< ((48 : Int32) &&& 0x3f).toInt64)))])) _
    refine XS.lor X0.here hx rfl (hb hby d3_38) rfl ?_
    show Steps p.tables e below (s₁.setTop (mkF m 39 #[.val (.ref a0), .val (.int (0 : Int32))] [(.long (((((c0.toInt64) &&& (255 : Int64)) <<< ((56 : Int32) &&& 0x3f).toInt64) ||| (((c1.toInt64) &&& (255 : Int64)) <<< ((48 : Int32) &&& 0x3f).toInt64)) ||| (((c2.toInt64) &&& (255 : Int64)) <<< ((40 : Int32) &&& 0x3f).toInt64)))])) _
    refine XS.aloadN X0.here hx rfl (hb hby d3_39) rfl rfl ?_
    show Steps p.tables e below (s₁.setTop (mkF m 40 #[.val (.ref a0), .val (.int (0 : Int32))] [(.ref a0), (.long (((((c0.toInt64) &&& (255 : Int64)) <<< ((56 : Int32) &&& 0x3f).toInt64) ||| (((c1.toInt64) &&& (255 : Int64)) <<< ((48 : Int32) &&& 0x3f).toInt64)) ||| (((c2.toInt64) &&& (255 : Int64)) <<< ((40 : Int32) &&& 0x3f).toInt64)))])) _
    refine XS.iloadN X0.here hx rfl (hb hby d3_40) rfl ?_
    show Steps p.tables e below (s₁.setTop (mkF m 41 #[.val (.ref a0), .val (.int (0 : Int32))] [(.int (0 : Int32)), (.ref a0), (.long (((((c0.toInt64) &&& (255 : Int64)) <<< ((56 : Int32) &&& 0x3f).toInt64) ||| (((c1.toInt64) &&& (255 : Int64)) <<< ((48 : Int32) &&& 0x3f).toInt64)) ||| (((c2.toInt64) &&& (255 : Int64)) <<< ((40 : Int32) &&& 0x3f).toInt64)))])) _
    refine XS.iconst X0.here hx rfl (hb hby d3_41) ?_
    show Steps p.tables e below (s₁.setTop (mkF m 42 #[.val (.ref a0), .val (.int (0 : Int32))] [(.int (3 : Int32)), (.int (0 : Int32)), (.ref a0), (.long (((((c0.toInt64) &&& (255 : Int64)) <<< ((56 : Int32) &&& 0x3f).toInt64) ||| (((c1.toInt64) &&& (255 : Int64)) <<< ((48 : Int32) &&& 0x3f).toInt64)) ||| (((c2.toInt64) &&& (255 : Int64)) <<< ((40 : Int32) &&& 0x3f).toInt64)))])) _
    refine XS.iadd X0.here hx rfl (hb hby d3_42) rfl ?_
    show Steps p.tables e below (s₁.setTop (mkF m 43 #[.val (.ref a0), .val (.int (0 : Int32))] [(.int (3 : Int32)), (.ref a0), (.long (((((c0.toInt64) &&& (255 : Int64)) <<< ((56 : Int32) &&& 0x3f).toInt64) ||| (((c1.toInt64) &&& (255 : Int64)) <<< ((48 : Int32) &&& 0x3f).toInt64)) ||| (((c2.toInt64) &&& (255 : Int64)) <<< ((40 : Int32) &&& 0x3f).toInt64)))])) _
    have hin104 : ¬ ((3 : Int32) < 0 ∨ cl104.slots.size ≤ ((3 : Int32)).toNatClampNeg) := (inb_of S104 ⟨by decide, by decide⟩)
    refine X0.baloadBytes hx (j := (3 : Int32)) (v := (.int c3)) (by rw [e0]; exact Ar104.1) (State.isArrayOf_alike hZ.alike Ar104.2.1) Ar104.2.2 hin104 (H104.at hin104 hb3) (g := (mkF m 43 #[.val (.ref a0), .val (.int (0 : Int32))] [(.int (3 : Int32)), (.ref a0), (.long (((((c0.toInt64) &&& (255 : Int64)) <<< ((56 : Int32) &&& 0x3f).toInt64) ||| (((c1.toInt64) &&& (255 : Int64)) <<< ((48 : Int32) &&& 0x3f).toInt64)) ||| (((c2.toInt64) &&& (255 : Int64)) <<< ((40 : Int32) &&& 0x3f).toInt64)))])) rfl rfl (hb hby d3_43) _ ?_
    show Steps p.tables e below (s₁.setTop (mkF m 44 #[.val (.ref a0), .val (.int (0 : Int32))] [(.int c3), (.long (((((c0.toInt64) &&& (255 : Int64)) <<< ((56 : Int32) &&& 0x3f).toInt64) ||| (((c1.toInt64) &&& (255 : Int64)) <<< ((48 : Int32) &&& 0x3f).toInt64)) ||| (((c2.toInt64) &&& (255 : Int64)) <<< ((40 : Int32) &&& 0x3f).toInt64)))])) _
    refine XS.i2l X0.here hx rfl (hb hby d3_44) rfl ?_
    show Steps p.tables e below (s₁.setTop (mkF m 45 #[.val (.ref a0), .val (.int (0 : Int32))] [(.long (c3.toInt64)), (.long (((((c0.toInt64) &&& (255 : Int64)) <<< ((56 : Int32) &&& 0x3f).toInt64) ||| (((c1.toInt64) &&& (255 : Int64)) <<< ((48 : Int32) &&& 0x3f).toInt64)) ||| (((c2.toInt64) &&& (255 : Int64)) <<< ((40 : Int32) &&& 0x3f).toInt64)))])) _
    refine X0.ldc2Long hx hown (mvT hZ (hw _ (List.mem_of_getElem? (i := 12) rfl))) (g := (mkF m 45 #[.val (.ref a0), .val (.int (0 : Int32))] [(.long (c3.toInt64)), (.long (((((c0.toInt64) &&& (255 : Int64)) <<< ((56 : Int32) &&& 0x3f).toInt64) ||| (((c1.toInt64) &&& (255 : Int64)) <<< ((48 : Int32) &&& 0x3f).toInt64)) ||| (((c2.toInt64) &&& (255 : Int64)) <<< ((40 : Int32) &&& 0x3f).toInt64)))])) rfl (hb hby d3_45) _ ?_
    show Steps p.tables e below (s₁.setTop (mkF m 48 #[.val (.ref a0), .val (.int (0 : Int32))] [(.long (255 : Int64)), (.long (c3.toInt64)), (.long (((((c0.toInt64) &&& (255 : Int64)) <<< ((56 : Int32) &&& 0x3f).toInt64) ||| (((c1.toInt64) &&& (255 : Int64)) <<< ((48 : Int32) &&& 0x3f).toInt64)) ||| (((c2.toInt64) &&& (255 : Int64)) <<< ((40 : Int32) &&& 0x3f).toInt64)))])) _
    refine XS.land X0.here hx rfl (hb hby d3_48) rfl ?_
    show Steps p.tables e below (s₁.setTop (mkF m 49 #[.val (.ref a0), .val (.int (0 : Int32))] [(.long ((c3.toInt64) &&& (255 : Int64))), (.long (((((c0.toInt64) &&& (255 : Int64)) <<< ((56 : Int32) &&& 0x3f).toInt64) ||| (((c1.toInt64) &&& (255 : Int64)) <<< ((48 : Int32) &&& 0x3f).toInt64)) ||| (((c2.toInt64) &&& (255 : Int64)) <<< ((40 : Int32) &&& 0x3f).toInt64)))])) _
    refine XS.bipush X0.here hx rfl (hb hby d3_49) ?_
    show Steps p.tables e below (s₁.setTop (mkF m 51 #[.val (.ref a0), .val (.int (0 : Int32))] [(.int (32 : Int32)), (.long ((c3.toInt64) &&& (255 : Int64))), (.long (((((c0.toInt64) &&& (255 : Int64)) <<< ((56 : Int32) &&& 0x3f).toInt64) ||| (((c1.toInt64) &&& (255 : Int64)) <<< ((48 : Int32) &&& 0x3f).toInt64)) ||| (((c2.toInt64) &&& (255 : Int64)) <<< ((40 : Int32) &&& 0x3f).toInt64)))])) _
    refine XS.lshl X0.here hx rfl (hb hby d3_51) rfl ?_
    show Steps p.tables e below (s₁.setTop (mkF m 52 #[.val (.ref a0), .val (.int (0 : Int32))] [(.long (((c3.toInt64) &&& (255 : Int64)) <<< ((32 : Int32) &&& 0x3f).toInt64)), (.long (((((c0.toInt64) &&& (255 : Int64)) <<< ((56 : Int32) &&& 0x3f).toInt64) ||| (((c1.toInt64) &&& (255 : Int64)) <<< ((48 : Int32) &&& 0x3f).toInt64)) ||| (((c2.toInt64) &&& (255 : Int64)) <<< ((40 : Int32) &&& 0x3f).toInt64)))])) _
    refine XS.lor X0.here hx rfl (hb hby d3_52) rfl ?_
    show Steps p.tables e below (s₁.setTop (mkF m 53 #[.val (.ref a0), .val (.int (0 : Int32))] [(.long ((((((c0.toInt64) &&& (255 : Int64)) <<< ((56 : Int32) &&& 0x3f).toInt64) ||| (((c1.toInt64) &&& (255 : Int64)) <<< ((48 : Int32) &&& 0x3f).toInt64)) ||| (((c2.toInt64) &&& (255 : Int64)) <<< ((40 : Int32) &&& 0x3f).toInt64)) ||| (((c3.toInt64) &&& (255 : Int64)) <<< ((32 : Int32) &&& 0x3f).toInt64)))])) _
    refine XS.aloadN X0.here hx rfl (hb hby d3_53) rfl rfl ?_
    show Steps p.tables e below (s₁.setTop (mkF m 54 #[.val (.ref a0), .val (.int (0 : Int32))] [(.ref a0), (.long ((((((c0.toInt64) &&& (255 : Int64)) <<< ((56 : Int32) &&& 0x3f).toInt64) ||| (((c1.toInt64) &&& (255 : Int64)) <<< ((48 : Int32) &&& 0x3f).toInt64)) ||| (((c2.toInt64) &&& (255 : Int64)) <<< ((40 : Int32) &&& 0x3f).toInt64)) ||| (((c3.toInt64) &&& (255 : Int64)) <<< ((32 : Int32) &&& 0x3f).toInt64)))])) _
    refine XS.iloadN X0.here hx rfl (hb hby d3_54) rfl ?_
    show Steps p.tables e below (s₁.setTop (mkF m 55 #[.val (.ref a0), .val (.int (0 : Int32))] [(.int (0 : Int32)), (.ref a0), (.long ((((((c0.toInt64) &&& (255 : Int64)) <<< ((56 : Int32) &&& 0x3f).toInt64) ||| (((c1.toInt64) &&& (255 : Int64)) <<< ((48 : Int32) &&& 0x3f).toInt64)) ||| (((c2.toInt64) &&& (255 : Int64)) <<< ((40 : Int32) &&& 0x3f).toInt64)) ||| (((c3.toInt64) &&& (255 : Int64)) <<< ((32 : Int32) &&& 0x3f).toInt64)))])) _
    refine XS.iconst X0.here hx rfl (hb hby d3_55) ?_
    show Steps p.tables e below (s₁.setTop (mkF m 56 #[.val (.ref a0), .val (.int (0 : Int32))] [(.int (4 : Int32)), (.int (0 : Int32)), (.ref a0), (.long ((((((c0.toInt64) &&& (255 : Int64)) <<< ((56 : Int32) &&& 0x3f).toInt64) ||| (((c1.toInt64) &&& (255 : Int64)) <<< ((48 : Int32) &&& 0x3f).toInt64)) ||| (((c2.toInt64) &&& (255 : Int64)) <<< ((40 : Int32) &&& 0x3f).toInt64)) ||| (((c3.toInt64) &&& (255 : Int64)) <<< ((32 : Int32) &&& 0x3f).toInt64)))])) _
    refine XS.iadd X0.here hx rfl (hb hby d3_56) rfl ?_
    show Steps p.tables e below (s₁.setTop (mkF m 57 #[.val (.ref a0), .val (.int (0 : Int32))] [(.int (4 : Int32)), (.ref a0), (.long ((((((c0.toInt64) &&& (255 : Int64)) <<< ((56 : Int32) &&& 0x3f).toInt64) ||| (((c1.toInt64) &&& (255 : Int64)) <<< ((48 : Int32) &&& 0x3f).toInt64)) ||| (((c2.toInt64) &&& (255 : Int64)) <<< ((40 : Int32) &&& 0x3f).toInt64)) ||| (((c3.toInt64) &&& (255 : Int64)) <<< ((32 : Int32) &&& 0x3f).toInt64)))])) _
    have hin105 : ¬ ((4 : Int32) < 0 ∨ cl105.slots.size ≤ ((4 : Int32)).toNatClampNeg) := (inb_of S105 ⟨by decide, by decide⟩)
    refine X0.baloadBytes hx (j := (4 : Int32)) (v := (.int c4)) (by rw [e0]; exact Ar105.1) (State.isArrayOf_alike hZ.alike Ar105.2.1) Ar105.2.2 hin105 (H105.at hin105 hb4) (g := (mkF m 57 #[.val (.ref a0), .val (.int (0 : Int32))] [(.int (4 : Int32)), (.ref a0), (.long ((((((c0.toInt64) &&& (255 : Int64)) <<< ((56 : Int32) &&& 0x3f).toInt64) ||| (((c1.toInt64) &&& (255 : Int64)) <<< ((48 : Int32) &&& 0x3f).toInt64)) ||| (((c2.toInt64) &&& (255 : Int64)) <<< ((40 : Int32) &&& 0x3f).toInt64)) ||| (((c3.toInt64) &&& (255 : Int64)) <<< ((32 : Int32) &&& 0x3f).toInt64)))])) rfl rfl (hb hby d3_57) _ ?_
    show Steps p.tables e below (s₁.setTop (mkF m 58 #[.val (.ref a0), .val (.int (0 : Int32))] [(.int c4), (.long ((((((c0.toInt64) &&& (255 : Int64)) <<< ((56 : Int32) &&& 0x3f).toInt64) ||| (((c1.toInt64) &&& (255 : Int64)) <<< ((48 : Int32) &&& 0x3f).toInt64)) ||| (((c2.toInt64) &&& (255 : Int64)) <<< ((40 : Int32) &&& 0x3f).toInt64)) ||| (((c3.toInt64) &&& (255 : Int64)) <<< ((32 : Int32) &&& 0x3f).toInt64)))])) _
    refine XS.i2l X0.here hx rfl (hb hby d3_58) rfl ?_
    show Steps p.tables e below (s₁.setTop (mkF m 59 #[.val (.ref a0), .val (.int (0 : Int32))] [(.long (c4.toInt64)), (.long ((((((c0.toInt64) &&& (255 : Int64)) <<< ((56 : Int32) &&& 0x3f).toInt64) ||| (((c1.toInt64) &&& (255 : Int64)) <<< ((48 : Int32) &&& 0x3f).toInt64)) ||| (((c2.toInt64) &&& (255 : Int64)) <<< ((40 : Int32) &&& 0x3f).toInt64)) ||| (((c3.toInt64) &&& (255 : Int64)) <<< ((32 : Int32) &&& 0x3f).toInt64)))])) _
    refine X0.ldc2Long hx hown (mvT hZ (hw _ (List.mem_of_getElem? (i := 12) rfl))) (g := (mkF m 59 #[.val (.ref a0), .val (.int (0 : Int32))] [(.long (c4.toInt64)), (.long ((((((c0.toInt64) &&& (255 : Int64)) <<< ((56 : Int32) &&& 0x3f).toInt64) ||| (((c1.toInt64) &&& (255 : Int64)) <<< ((48 : Int32) &&& 0x3f).toInt64)) ||| (((c2.toInt64) &&& (255 : Int64)) <<< ((40 : Int32) &&& 0x3f).toInt64)) ||| (((c3.toInt64) &&& (255 : Int64)) <<< ((32 : Int32) &&& 0x3f).toInt64)))])) rfl (hb hby d3_59) _ ?_
    show Steps p.tables e below (s₁.setTop (mkF m 62 #[.val (.ref a0), .val (.int (0 : Int32))] [(.long (255 : Int64)), (.long (c4.toInt64)), (.long ((((((c0.toInt64) &&& (255 : Int64)) <<< ((56 : Int32) &&& 0x3f).toInt64) ||| (((c1.toInt64) &&& (255 : Int64)) <<< ((48 : Int32) &&& 0x3f).toInt64)) ||| (((c2.toInt64) &&& (255 : Int64)) <<< ((40 : Int32) &&& 0x3f).toInt64)) ||| (((c3.toInt64) &&& (255 : Int64)) <<< ((32 : Int32) &&& 0x3f).toInt64)))])) _
    refine XS.land X0.here hx rfl (hb hby d3_62) rfl ?_
    show Steps p.tables e below (s₁.setTop (mkF m 63 #[.val (.ref a0), .val (.int (0 : Int32))] [(.long ((c4.toInt64) &&& (255 : Int64))), (.long ((((((c0.toInt64) &&& (255 : Int64)) <<< ((56 : Int32) &&& 0x3f).toInt64) ||| (((c1.toInt64) &&& (255 : Int64)) <<< ((48 : Int32) &&& 0x3f).toInt64)) ||| (((c2.toInt64) &&& (255 : Int64)) <<< ((40 : Int32) &&& 0x3f).toInt64)) ||| (((c3.toInt64) &&& (255 : Int64)) <<< ((32 : Int32) &&& 0x3f).toInt64)))])) _
    refine XS.bipush X0.here hx rfl (hb hby d3_63) ?_
    show Steps p.tables e below (s₁.setTop (mkF m 65 #[.val (.ref a0), .val (.int (0 : Int32))] [(.int (24 : Int32)), (.long ((c4.toInt64) &&& (255 : Int64))), (.long ((((((c0.toInt64) &&& (255 : Int64)) <<< ((56 : Int32) &&& 0x3f).toInt64) ||| (((c1.toInt64) &&& (255 : Int64)) <<< ((48 : Int32) &&& 0x3f).toInt64)) ||| (((c2.toInt64) &&& (255 : Int64)) <<< ((40 : Int32) &&& 0x3f).toInt64)) ||| (((c3.toInt64) &&& (255 : Int64)) <<< ((32 : Int32) &&& 0x3f).toInt64)))])) _
    refine XS.lshl X0.here hx rfl (hb hby d3_65) rfl ?_
    show Steps p.tables e below (s₁.setTop (mkF m 66 #[.val (.ref a0), .val (.int (0 : Int32))] [(.long (((c4.toInt64) &&& (255 : Int64)) <<< ((24 : Int32) &&& 0x3f).toInt64)), (.long ((((((c0.toInt64) &&& (255 : Int64)) <<< ((56 : Int32) &&& 0x3f).toInt64) ||| (((c1.toInt64) &&& (255 : Int64)) <<< ((48 : Int32) &&& 0x3f).toInt64)) ||| (((c2.toInt64) &&& (255 : Int64)) <<< ((40 : Int32) &&& 0x3f).toInt64)) ||| (((c3.toInt64) &&& (255 : Int64)) <<< ((32 : Int32) &&& 0x3f).toInt64)))])) _
    refine XS.lor X0.here hx rfl (hb hby d3_66) rfl ?_
    show Steps p.tables e below (s₁.setTop (mkF m 67 #[.val (.ref a0), .val (.int (0 : Int32))] [(.long (((((((c0.toInt64) &&& (255 : Int64)) <<< ((56 : Int32) &&& 0x3f).toInt64) ||| (((c1.toInt64) &&& (255 : Int64)) <<< ((48 : Int32) &&& 0x3f).toInt64)) ||| (((c2.toInt64) &&& (255 : Int64)) <<< ((40 : Int32) &&& 0x3f).toInt64)) ||| (((c3.toInt64) &&& (255 : Int64)) <<< ((32 : Int32) &&& 0x3f).toInt64)) ||| (((c4.toInt64) &&& (255 : Int64)) <<< ((24 : Int32) &&& 0x3f).toInt64)))])) _
    refine XS.aloadN X0.here hx rfl (hb hby d3_67) rfl rfl ?_
    show Steps p.tables e below (s₁.setTop (mkF m 68 #[.val (.ref a0), .val (.int (0 : Int32))] [(.ref a0), (.long (((((((c0.toInt64) &&& (255 : Int64)) <<< ((56 : Int32) &&& 0x3f).toInt64) ||| (((c1.toInt64) &&& (255 : Int64)) <<< ((48 : Int32) &&& 0x3f).toInt64)) ||| (((c2.toInt64) &&& (255 : Int64)) <<< ((40 : Int32) &&& 0x3f).toInt64)) ||| (((c3.toInt64) &&& (255 : Int64)) <<< ((32 : Int32) &&& 0x3f).toInt64)) ||| (((c4.toInt64) &&& (255 : Int64)) <<< ((24 : Int32) &&& 0x3f).toInt64)))])) _
    refine XS.iloadN X0.here hx rfl (hb hby d3_68) rfl ?_
    show Steps p.tables e below (s₁.setTop (mkF m 69 #[.val (.ref a0), .val (.int (0 : Int32))] [(.int (0 : Int32)), (.ref a0), (.long (((((((c0.toInt64) &&& (255 : Int64)) <<< ((56 : Int32) &&& 0x3f).toInt64) ||| (((c1.toInt64) &&& (255 : Int64)) <<< ((48 : Int32) &&& 0x3f).toInt64)) ||| (((c2.toInt64) &&& (255 : Int64)) <<< ((40 : Int32) &&& 0x3f).toInt64)) ||| (((c3.toInt64) &&& (255 : Int64)) <<< ((32 : Int32) &&& 0x3f).toInt64)) ||| (((c4.toInt64) &&& (255 : Int64)) <<< ((24 : Int32) &&& 0x3f).toInt64)))])) _
    refine XS.iconst X0.here hx rfl (hb hby d3_69) ?_
    show Steps p.tables e below (s₁.setTop (mkF m 70 #[.val (.ref a0), .val (.int (0 : Int32))] [(.int (5 : Int32)), (.int (0 : Int32)), (.ref a0), (.long (((((((c0.toInt64) &&& (255 : Int64)) <<< ((56 : Int32) &&& 0x3f).toInt64) ||| (((c1.toInt64) &&& (255 : Int64)) <<< ((48 : Int32) &&& 0x3f).toInt64)) ||| (((c2.toInt64) &&& (255 : Int64)) <<< ((40 : Int32) &&& 0x3f).toInt64)) ||| (((c3.toInt64) &&& (255 : Int64)) <<< ((32 : Int32) &&& 0x3f).toInt64)) ||| (((c4.toInt64) &&& (255 : Int64)) <<< ((24 : Int32) &&& 0x3f).toInt64)))])) _
    refine XS.iadd X0.here hx rfl (hb hby d3_70) rfl ?_
    show Steps p.tables e below (s₁.setTop (mkF m 71 #[.val (.ref a0), .val (.int (0 : Int32))] [(.int (5 : Int32)), (.ref a0), (.long (((((((c0.toInt64) &&& (255 : Int64)) <<< ((56 : Int32) &&& 0x3f).toInt64) ||| (((c1.toInt64) &&& (255 : Int64)) <<< ((48 : Int32) &&& 0x3f).toInt64)) ||| (((c2.toInt64) &&& (255 : Int64)) <<< ((40 : Int32) &&& 0x3f).toInt64)) ||| (((c3.toInt64) &&& (255 : Int64)) <<< ((32 : Int32) &&& 0x3f).toInt64)) ||| (((c4.toInt64) &&& (255 : Int64)) <<< ((24 : Int32) &&& 0x3f).toInt64)))])) _
    have hin106 : ¬ ((5 : Int32) < 0 ∨ cl106.slots.size ≤ ((5 : Int32)).toNatClampNeg) := (inb_of S106 ⟨by decide, by decide⟩)
    refine X0.baloadBytes hx (j := (5 : Int32)) (v := (.int c5)) (by rw [e0]; exact Ar106.1) (State.isArrayOf_alike hZ.alike Ar106.2.1) Ar106.2.2 hin106 (H106.at hin106 hb5) (g := (mkF m 71 #[.val (.ref a0), .val (.int (0 : Int32))] [(.int (5 : Int32)), (.ref a0), (.long (((((((c0.toInt64) &&& (255 : Int64)) <<< ((56 : Int32) &&& 0x3f).toInt64) ||| (((c1.toInt64) &&& (255 : Int64)) <<< ((48 : Int32) &&& 0x3f).toInt64)) ||| (((c2.toInt64) &&& (255 : Int64)) <<< ((40 : Int32) &&& 0x3f).toInt64)) ||| (((c3.toInt64) &&& (255 : Int64)) <<< ((32 : Int32) &&& 0x3f).toInt64)) ||| (((c4.toInt64) &&& (255 : Int64)) <<< ((24 : Int32) &&& 0x3f).toInt64)))])) rfl rfl (hb hby d3_71) _ ?_
    show Steps p.tables e below (s₁.setTop (mkF m 72 #[.val (.ref a0), .val (.int (0 : Int32))] [(.int c5), (.long (((((((c0.toInt64) &&& (255 : Int64)) <<< ((56 : Int32) &&& 0x3f).toInt64) ||| (((c1.toInt64) &&& (255 : Int64)) <<< ((48 : Int32) &&& 0x3f).toInt64)) ||| (((c2.toInt64) &&& (255 : Int64)) <<< ((40 : Int32) &&& 0x3f).toInt64)) ||| (((c3.toInt64) &&& (255 : Int64)) <<< ((32 : Int32) &&& 0x3f).toInt64)) ||| (((c4.toInt64) &&& (255 : Int64)) <<< ((24 : Int32) &&& 0x3f).toInt64)))])) _
    refine XS.i2l X0.here hx rfl (hb hby d3_72) rfl ?_
    show Steps p.tables e below (s₁.setTop (mkF m 73 #[.val (.ref a0), .val (.int (0 : Int32))] [(.long (c5.toInt64)), (.long (((((((c0.toInt64) &&& (255 : Int64)) <<< ((56 : Int32) &&& 0x3f).toInt64) ||| (((c1.toInt64) &&& (255 : Int64)) <<< ((48 : Int32) &&& 0x3f).toInt64)) ||| (((c2.toInt64) &&& (255 : Int64)) <<< ((40 : Int32) &&& 0x3f).toInt64)) ||| (((c3.toInt64) &&& (255 : Int64)) <<< ((32 : Int32) &&& 0x3f).toInt64)) ||| (((c4.toInt64) &&& (255 : Int64)) <<< ((24 : Int32) &&& 0x3f).toInt64)))])) _
    refine X0.ldc2Long hx hown (mvT hZ (hw _ (List.mem_of_getElem? (i := 12) rfl))) (g := (mkF m 73 #[.val (.ref a0), .val (.int (0 : Int32))] [(.long (c5.toInt64)), (.long (((((((c0.toInt64) &&& (255 : Int64)) <<< ((56 : Int32) &&& 0x3f).toInt64) ||| (((c1.toInt64) &&& (255 : Int64)) <<< ((48 : Int32) &&& 0x3f).toInt64)) ||| (((c2.toInt64) &&& (255 : Int64)) <<< ((40 : Int32) &&& 0x3f).toInt64)) ||| (((c3.toInt64) &&& (255 : Int64)) <<< ((32 : Int32) &&& 0x3f).toInt64)) ||| (((c4.toInt64) &&& (255 : Int64)) <<< ((24 : Int32) &&& 0x3f).toInt64)))])) rfl (hb hby d3_73) _ ?_
    show Steps p.tables e below (s₁.setTop (mkF m 76 #[.val (.ref a0), .val (.int (0 : Int32))] [(.long (255 : Int64)), (.long (c5.toInt64)), (.long (((((((c0.toInt64) &&& (255 : Int64)) <<< ((56 : Int32) &&& 0x3f).toInt64) ||| (((c1.toInt64) &&& (255 : Int64)) <<< ((48 : Int32) &&& 0x3f).toInt64)) ||| (((c2.toInt64) &&& (255 : Int64)) <<< ((40 : Int32) &&& 0x3f).toInt64)) ||| (((c3.toInt64) &&& (255 : Int64)) <<< ((32 : Int32) &&& 0x3f).toInt64)) ||| (((c4.toInt64) &&& (255 : Int64)) <<< ((24 : Int32) &&& 0x3f).toInt64)))])) _
    refine XS.land X0.here hx rfl (hb hby d3_76) rfl ?_
    show Steps p.tables e below (s₁.setTop (mkF m 77 #[.val (.ref a0), .val (.int (0 : Int32))] [(.long ((c5.toInt64) &&& (255 : Int64))), (.long (((((((c0.toInt64) &&& (255 : Int64)) <<< ((56 : Int32) &&& 0x3f).toInt64) ||| (((c1.toInt64) &&& (255 : Int64)) <<< ((48 : Int32) &&& 0x3f).toInt64)) ||| (((c2.toInt64) &&& (255 : Int64)) <<< ((40 : Int32) &&& 0x3f).toInt64)) ||| (((c3.toInt64) &&& (255 : Int64)) <<< ((32 : Int32) &&& 0x3f).toInt64)) ||| (((c4.toInt64) &&& (255 : Int64)) <<< ((24 : Int32) &&& 0x3f).toInt64)))])) _
    refine XS.bipush X0.here hx rfl (hb hby d3_77) ?_
    show Steps p.tables e below (s₁.setTop (mkF m 79 #[.val (.ref a0), .val (.int (0 : Int32))] [(.int (16 : Int32)), (.long ((c5.toInt64) &&& (255 : Int64))), (.long (((((((c0.toInt64) &&& (255 : Int64)) <<< ((56 : Int32) &&& 0x3f).toInt64) ||| (((c1.toInt64) &&& (255 : Int64)) <<< ((48 : Int32) &&& 0x3f).toInt64)) ||| (((c2.toInt64) &&& (255 : Int64)) <<< ((40 : Int32) &&& 0x3f).toInt64)) ||| (((c3.toInt64) &&& (255 : Int64)) <<< ((32 : Int32) &&& 0x3f).toInt64)) ||| (((c4.toInt64) &&& (255 : Int64)) <<< ((24 : Int32) &&& 0x3f).toInt64)))])) _
    refine XS.lshl X0.here hx rfl (hb hby d3_79) rfl ?_
    show Steps p.tables e below (s₁.setTop (mkF m 80 #[.val (.ref a0), .val (.int (0 : Int32))] [(.long (((c5.toInt64) &&& (255 : Int64)) <<< ((16 : Int32) &&& 0x3f).toInt64)), (.long (((((((c0.toInt64) &&& (255 : Int64)) <<< ((56 : Int32) &&& 0x3f).toInt64) ||| (((c1.toInt64) &&& (255 : Int64)) <<< ((48 : Int32) &&& 0x3f).toInt64)) ||| (((c2.toInt64) &&& (255 : Int64)) <<< ((40 : Int32) &&& 0x3f).toInt64)) ||| (((c3.toInt64) &&& (255 : Int64)) <<< ((32 : Int32) &&& 0x3f).toInt64)) ||| (((c4.toInt64) &&& (255 : Int64)) <<< ((24 : Int32) &&& 0x3f).toInt64)))])) _
    refine XS.lor X0.here hx rfl (hb hby d3_80) rfl ?_
    show Steps p.tables e below (s₁.setTop (mkF m 81 #[.val (.ref a0), .val (.int (0 : Int32))] [(.long ((((((((c0.toInt64) &&& (255 : Int64)) <<< ((56 : Int32) &&& 0x3f).toInt64) ||| (((c1.toInt64) &&& (255 : Int64)) <<< ((48 : Int32) &&& 0x3f).toInt64)) ||| (((c2.toInt64) &&& (255 : Int64)) <<< ((40 : Int32) &&& 0x3f).toInt64)) ||| (((c3.toInt64) &&& (255 : Int64)) <<< ((32 : Int32) &&& 0x3f).toInt64)) ||| (((c4.toInt64) &&& (255 : Int64)) <<< ((24 : Int32) &&& 0x3f).toInt64)) ||| (((c5.toInt64) &&& (255 : Int64)) <<< ((16 : Int32) &&& 0x3f).toInt64)))])) _
    refine XS.aloadN X0.here hx rfl (hb hby d3_81) rfl rfl ?_
    show Steps p.tables e below (s₁.setTop (mkF m 82 #[.val (.ref a0), .val (.int (0 : Int32))] [(.ref a0), (.long ((((((((c0.toInt64) &&& (255 : Int64)) <<< ((56 : Int32) &&& 0x3f).toInt64) ||| (((c1.toInt64) &&& (255 : Int64)) <<< ((48 : Int32) &&& 0x3f).toInt64)) ||| (((c2.toInt64) &&& (255 : Int64)) <<< ((40 : Int32) &&& 0x3f).toInt64)) ||| (((c3.toInt64) &&& (255 : Int64)) <<< ((32 : Int32) &&& 0x3f).toInt64)) ||| (((c4.toInt64) &&& (255 : Int64)) <<< ((24 : Int32) &&& 0x3f).toInt64)) ||| (((c5.toInt64) &&& (255 : Int64)) <<< ((16 : Int32) &&& 0x3f).toInt64)))])) _
    refine XS.iloadN X0.here hx rfl (hb hby d3_82) rfl ?_
    show Steps p.tables e below (s₁.setTop (mkF m 83 #[.val (.ref a0), .val (.int (0 : Int32))] [(.int (0 : Int32)), (.ref a0), (.long ((((((((c0.toInt64) &&& (255 : Int64)) <<< ((56 : Int32) &&& 0x3f).toInt64) ||| (((c1.toInt64) &&& (255 : Int64)) <<< ((48 : Int32) &&& 0x3f).toInt64)) ||| (((c2.toInt64) &&& (255 : Int64)) <<< ((40 : Int32) &&& 0x3f).toInt64)) ||| (((c3.toInt64) &&& (255 : Int64)) <<< ((32 : Int32) &&& 0x3f).toInt64)) ||| (((c4.toInt64) &&& (255 : Int64)) <<< ((24 : Int32) &&& 0x3f).toInt64)) ||| (((c5.toInt64) &&& (255 : Int64)) <<< ((16 : Int32) &&& 0x3f).toInt64)))])) _
    refine XS.bipush X0.here hx rfl (hb hby d3_83) ?_
    show Steps p.tables e below (s₁.setTop (mkF m 85 #[.val (.ref a0), .val (.int (0 : Int32))] [(.int (6 : Int32)), (.int (0 : Int32)), (.ref a0), (.long ((((((((c0.toInt64) &&& (255 : Int64)) <<< ((56 : Int32) &&& 0x3f).toInt64) ||| (((c1.toInt64) &&& (255 : Int64)) <<< ((48 : Int32) &&& 0x3f).toInt64)) ||| (((c2.toInt64) &&& (255 : Int64)) <<< ((40 : Int32) &&& 0x3f).toInt64)) ||| (((c3.toInt64) &&& (255 : Int64)) <<< ((32 : Int32) &&& 0x3f).toInt64)) ||| (((c4.toInt64) &&& (255 : Int64)) <<< ((24 : Int32) &&& 0x3f).toInt64)) ||| (((c5.toInt64) &&& (255 : Int64)) <<< ((16 : Int32) &&& 0x3f).toInt64)))])) _
    refine XS.iadd X0.here hx rfl (hb hby d3_85) rfl ?_
    show Steps p.tables e below (s₁.setTop (mkF m 86 #[.val (.ref a0), .val (.int (0 : Int32))] [(.int (6 : Int32)), (.ref a0), (.long ((((((((c0.toInt64) &&& (255 : Int64)) <<< ((56 : Int32) &&& 0x3f).toInt64) ||| (((c1.toInt64) &&& (255 : Int64)) <<< ((48 : Int32) &&& 0x3f).toInt64)) ||| (((c2.toInt64) &&& (255 : Int64)) <<< ((40 : Int32) &&& 0x3f).toInt64)) ||| (((c3.toInt64) &&& (255 : Int64)) <<< ((32 : Int32) &&& 0x3f).toInt64)) ||| (((c4.toInt64) &&& (255 : Int64)) <<< ((24 : Int32) &&& 0x3f).toInt64)) ||| (((c5.toInt64) &&& (255 : Int64)) <<< ((16 : Int32) &&& 0x3f).toInt64)))])) _
    have hin107 : ¬ ((6 : Int32) < 0 ∨ cl107.slots.size ≤ ((6 : Int32)).toNatClampNeg) := (inb_of S107 ⟨by decide, by decide⟩)
    refine X0.baloadBytes hx (j := (6 : Int32)) (v := (.int c6)) (by rw [e0]; exact Ar107.1) (State.isArrayOf_alike hZ.alike Ar107.2.1) Ar107.2.2 hin107 (H107.at hin107 hb6) (g := (mkF m 86 #[.val (.ref a0), .val (.int (0 : Int32))] [(.int (6 : Int32)), (.ref a0), (.long ((((((((c0.toInt64) &&& (255 : Int64)) <<< ((56 : Int32) &&& 0x3f).toInt64) ||| (((c1.toInt64) &&& (255 : Int64)) <<< ((48 : Int32) &&& 0x3f).toInt64)) ||| (((c2.toInt64) &&& (255 : Int64)) <<< ((40 : Int32) &&& 0x3f).toInt64)) ||| (((c3.toInt64) &&& (255 : Int64)) <<< ((32 : Int32) &&& 0x3f).toInt64)) ||| (((c4.toInt64) &&& (255 : Int64)) <<< ((24 : Int32) &&& 0x3f).toInt64)) ||| (((c5.toInt64) &&& (255 : Int64)) <<< ((16 : Int32) &&& 0x3f).toInt64)))])) rfl rfl (hb hby d3_86) _ ?_
    show Steps p.tables e below (s₁.setTop (mkF m 87 #[.val (.ref a0), .val (.int (0 : Int32))] [(.int c6), (.long ((((((((c0.toInt64) &&& (255 : Int64)) <<< ((56 : Int32) &&& 0x3f).toInt64) ||| (((c1.toInt64) &&& (255 : Int64)) <<< ((48 : Int32) &&& 0x3f).toInt64)) ||| (((c2.toInt64) &&& (255 : Int64)) <<< ((40 : Int32) &&& 0x3f).toInt64)) ||| (((c3.toInt64) &&& (255 : Int64)) <<< ((32 : Int32) &&& 0x3f).toInt64)) ||| (((c4.toInt64) &&& (255 : Int64)) <<< ((24 : Int32) &&& 0x3f).toInt64)) ||| (((c5.toInt64) &&& (255 : Int64)) <<< ((16 : Int32) &&& 0x3f).toInt64)))])) _
    refine XS.i2l X0.here hx rfl (hb hby d3_87) rfl ?_
    show Steps p.tables e below (s₁.setTop (mkF m 88 #[.val (.ref a0), .val (.int (0 : Int32))] [(.long (c6.toInt64)), (.long ((((((((c0.toInt64) &&& (255 : Int64)) <<< ((56 : Int32) &&& 0x3f).toInt64) ||| (((c1.toInt64) &&& (255 : Int64)) <<< ((48 : Int32) &&& 0x3f).toInt64)) ||| (((c2.toInt64) &&& (255 : Int64)) <<< ((40 : Int32) &&& 0x3f).toInt64)) ||| (((c3.toInt64) &&& (255 : Int64)) <<< ((32 : Int32) &&& 0x3f).toInt64)) ||| (((c4.toInt64) &&& (255 : Int64)) <<< ((24 : Int32) &&& 0x3f).toInt64)) ||| (((c5.toInt64) &&& (255 : Int64)) <<< ((16 : Int32) &&& 0x3f).toInt64)))])) _
    refine X0.ldc2Long hx hown (mvT hZ (hw _ (List.mem_of_getElem? (i := 12) rfl))) (g := (mkF m 88 #[.val (.ref a0), .val (.int (0 : Int32))] [(.long (c6.toInt64)), (.long ((((((((c0.toInt64) &&& (255 : Int64)) <<< ((56 : Int32) &&& 0x3f).toInt64) ||| (((c1.toInt64) &&& (255 : Int64)) <<< ((48 : Int32) &&& 0x3f).toInt64)) ||| (((c2.toInt64) &&& (255 : Int64)) <<< ((40 : Int32) &&& 0x3f).toInt64)) ||| (((c3.toInt64) &&& (255 : Int64)) <<< ((32 : Int32) &&& 0x3f).toInt64)) ||| (((c4.toInt64) &&& (255 : Int64)) <<< ((24 : Int32) &&& 0x3f).toInt64)) ||| (((c5.toInt64) &&& (255 : Int64)) <<< ((16 : Int32) &&& 0x3f).toInt64)))])) rfl (hb hby d3_88) _ ?_
    show Steps p.tables e below (s₁.setTop (mkF m 91 #[.val (.ref a0), .val (.int (0 : Int32))] [(.long (255 : Int64)), (.long (c6.toInt64)), (.long ((((((((c0.toInt64) &&& (255 : Int64)) <<< ((56 : Int32) &&& 0x3f).toInt64) ||| (((c1.toInt64) &&& (255 : Int64)) <<< ((48 : Int32) &&& 0x3f).toInt64)) ||| (((c2.toInt64) &&& (255 : Int64)) <<< ((40 : Int32) &&& 0x3f).toInt64)) ||| (((c3.toInt64) &&& (255 : Int64)) <<< ((32 : Int32) &&& 0x3f).toInt64)) ||| (((c4.toInt64) &&& (255 : Int64)) <<< ((24 : Int32) &&& 0x3f).toInt64)) ||| (((c5.toInt64) &&& (255 : Int64)) <<< ((16 : Int32) &&& 0x3f).toInt64)))])) _
    refine XS.land X0.here hx rfl (hb hby d3_91) rfl ?_
    show Steps p.tables e below (s₁.setTop (mkF m 92 #[.val (.ref a0), .val (.int (0 : Int32))] [(.long ((c6.toInt64) &&& (255 : Int64))), (.long ((((((((c0.toInt64) &&& (255 : Int64)) <<< ((56 : Int32) &&& 0x3f).toInt64) ||| (((c1.toInt64) &&& (255 : Int64)) <<< ((48 : Int32) &&& 0x3f).toInt64)) ||| (((c2.toInt64) &&& (255 : Int64)) <<< ((40 : Int32) &&& 0x3f).toInt64)) ||| (((c3.toInt64) &&& (255 : Int64)) <<< ((32 : Int32) &&& 0x3f).toInt64)) ||| (((c4.toInt64) &&& (255 : Int64)) <<< ((24 : Int32) &&& 0x3f).toInt64)) ||| (((c5.toInt64) &&& (255 : Int64)) <<< ((16 : Int32) &&& 0x3f).toInt64)))])) _
    refine XS.bipush X0.here hx rfl (hb hby d3_92) ?_
    show Steps p.tables e below (s₁.setTop (mkF m 94 #[.val (.ref a0), .val (.int (0 : Int32))] [(.int (8 : Int32)), (.long ((c6.toInt64) &&& (255 : Int64))), (.long ((((((((c0.toInt64) &&& (255 : Int64)) <<< ((56 : Int32) &&& 0x3f).toInt64) ||| (((c1.toInt64) &&& (255 : Int64)) <<< ((48 : Int32) &&& 0x3f).toInt64)) ||| (((c2.toInt64) &&& (255 : Int64)) <<< ((40 : Int32) &&& 0x3f).toInt64)) ||| (((c3.toInt64) &&& (255 : Int64)) <<< ((32 : Int32) &&& 0x3f).toInt64)) ||| (((c4.toInt64) &&& (255 : Int64)) <<< ((24 : Int32) &&& 0x3f).toInt64)) ||| (((c5.toInt64) &&& (255 : Int64)) <<< ((16 : Int32) &&& 0x3f).toInt64)))])) _
    refine XS.lshl X0.here hx rfl (hb hby d3_94) rfl ?_
    show Steps p.tables e below (s₁.setTop (mkF m 95 #[.val (.ref a0), .val (.int (0 : Int32))] [(.long (((c6.toInt64) &&& (255 : Int64)) <<< ((8 : Int32) &&& 0x3f).toInt64)), (.long ((((((((c0.toInt64) &&& (255 : Int64)) <<< ((56 : Int32) &&& 0x3f).toInt64) ||| (((c1.toInt64) &&& (255 : Int64)) <<< ((48 : Int32) &&& 0x3f).toInt64)) ||| (((c2.toInt64) &&& (255 : Int64)) <<< ((40 : Int32) &&& 0x3f).toInt64)) ||| (((c3.toInt64) &&& (255 : Int64)) <<< ((32 : Int32) &&& 0x3f).toInt64)) ||| (((c4.toInt64) &&& (255 : Int64)) <<< ((24 : Int32) &&& 0x3f).toInt64)) ||| (((c5.toInt64) &&& (255 : Int64)) <<< ((16 : Int32) &&& 0x3f).toInt64)))])) _
    refine XS.lor X0.here hx rfl (hb hby d3_95) rfl ?_
    show Steps p.tables e below (s₁.setTop (mkF m 96 #[.val (.ref a0), .val (.int (0 : Int32))] [(.long (((((((((c0.toInt64) &&& (255 : Int64)) <<< ((56 : Int32) &&& 0x3f).toInt64) ||| (((c1.toInt64) &&& (255 : Int64)) <<< ((48 : Int32) &&& 0x3f).toInt64)) ||| (((c2.toInt64) &&& (255 : Int64)) <<< ((40 : Int32) &&& 0x3f).toInt64)) ||| (((c3.toInt64) &&& (255 : Int64)) <<< ((32 : Int32) &&& 0x3f).toInt64)) ||| (((c4.toInt64) &&& (255 : Int64)) <<< ((24 : Int32) &&& 0x3f).toInt64)) ||| (((c5.toInt64) &&& (255 : Int64)) <<< ((16 : Int32) &&& 0x3f).toInt64)) ||| (((c6.toInt64) &&& (255 : Int64)) <<< ((8 : Int32) &&& 0x3f).toInt64)))])) _
    refine XS.aloadN X0.here hx rfl (hb hby d3_96) rfl rfl ?_
    show Steps p.tables e below (s₁.setTop (mkF m 97 #[.val (.ref a0), .val (.int (0 : Int32))] [(.ref a0), (.long (((((((((c0.toInt64) &&& (255 : Int64)) <<< ((56 : Int32) &&& 0x3f).toInt64) ||| (((c1.toInt64) &&& (255 : Int64)) <<< ((48 : Int32) &&& 0x3f).toInt64)) ||| (((c2.toInt64) &&& (255 : Int64)) <<< ((40 : Int32) &&& 0x3f).toInt64)) ||| (((c3.toInt64) &&& (255 : Int64)) <<< ((32 : Int32) &&& 0x3f).toInt64)) ||| (((c4.toInt64) &&& (255 : Int64)) <<< ((24 : Int32) &&& 0x3f).toInt64)) ||| (((c5.toInt64) &&& (255 : Int64)) <<< ((16 : Int32) &&& 0x3f).toInt64)) ||| (((c6.toInt64) &&& (255 : Int64)) <<< ((8 : Int32) &&& 0x3f).toInt64)))])) _
    refine XS.iloadN X0.here hx rfl (hb hby d3_97) rfl ?_
    show Steps p.tables e below (s₁.setTop (mkF m 98 #[.val (.ref a0), .val (.int (0 : Int32))] [(.int (0 : Int32)), (.ref a0), (.long (((((((((c0.toInt64) &&& (255 : Int64)) <<< ((56 : Int32) &&& 0x3f).toInt64) ||| (((c1.toInt64) &&& (255 : Int64)) <<< ((48 : Int32) &&& 0x3f).toInt64)) ||| (((c2.toInt64) &&& (255 : Int64)) <<< ((40 : Int32) &&& 0x3f).toInt64)) ||| (((c3.toInt64) &&& (255 : Int64)) <<< ((32 : Int32) &&& 0x3f).toInt64)) ||| (((c4.toInt64) &&& (255 : Int64)) <<< ((24 : Int32) &&& 0x3f).toInt64)) ||| (((c5.toInt64) &&& (255 : Int64)) <<< ((16 : Int32) &&& 0x3f).toInt64)) ||| (((c6.toInt64) &&& (255 : Int64)) <<< ((8 : Int32) &&& 0x3f).toInt64)))])) _
    refine XS.bipush X0.here hx rfl (hb hby d3_98) ?_
    show Steps p.tables e below (s₁.setTop (mkF m 100 #[.val (.ref a0), .val (.int (0 : Int32))] [(.int (7 : Int32)), (.int (0 : Int32)), (.ref a0), (.long (((((((((c0.toInt64) &&& (255 : Int64)) <<< ((56 : Int32) &&& 0x3f).toInt64) ||| (((c1.toInt64) &&& (255 : Int64)) <<< ((48 : Int32) &&& 0x3f).toInt64)) ||| (((c2.toInt64) &&& (255 : Int64)) <<< ((40 : Int32) &&& 0x3f).toInt64)) ||| (((c3.toInt64) &&& (255 : Int64)) <<< ((32 : Int32) &&& 0x3f).toInt64)) ||| (((c4.toInt64) &&& (255 : Int64)) <<< ((24 : Int32) &&& 0x3f).toInt64)) ||| (((c5.toInt64) &&& (255 : Int64)) <<< ((16 : Int32) &&& 0x3f).toInt64)) ||| (((c6.toInt64) &&& (255 : Int64)) <<< ((8 : Int32) &&& 0x3f).toInt64)))])) _
    refine XS.iadd X0.here hx rfl (hb hby d3_100) rfl ?_
    show Steps p.tables e below (s₁.setTop (mkF m 101 #[.val (.ref a0), .val (.int (0 : Int32))] [(.int (7 : Int32)), (.ref a0), (.long (((((((((c0.toInt64) &&& (255 : Int64)) <<< ((56 : Int32) &&& 0x3f).toInt64) ||| (((c1.toInt64) &&& (255 : Int64)) <<< ((48 : Int32) &&& 0x3f).toInt64)) ||| (((c2.toInt64) &&& (255 : Int64)) <<< ((40 : Int32) &&& 0x3f).toInt64)) ||| (((c3.toInt64) &&& (255 : Int64)) <<< ((32 : Int32) &&& 0x3f).toInt64)) ||| (((c4.toInt64) &&& (255 : Int64)) <<< ((24 : Int32) &&& 0x3f).toInt64)) ||| (((c5.toInt64) &&& (255 : Int64)) <<< ((16 : Int32) &&& 0x3f).toInt64)) ||| (((c6.toInt64) &&& (255 : Int64)) <<< ((8 : Int32) &&& 0x3f).toInt64)))])) _
    have hin108 : ¬ ((7 : Int32) < 0 ∨ cl108.slots.size ≤ ((7 : Int32)).toNatClampNeg) := (inb_of S108 ⟨by decide, by decide⟩)
    refine X0.baloadBytes hx (j := (7 : Int32)) (v := (.int c7)) (by rw [e0]; exact Ar108.1) (State.isArrayOf_alike hZ.alike Ar108.2.1) Ar108.2.2 hin108 (H108.at hin108 hb7) (g := (mkF m 101 #[.val (.ref a0), .val (.int (0 : Int32))] [(.int (7 : Int32)), (.ref a0), (.long (((((((((c0.toInt64) &&& (255 : Int64)) <<< ((56 : Int32) &&& 0x3f).toInt64) ||| (((c1.toInt64) &&& (255 : Int64)) <<< ((48 : Int32) &&& 0x3f).toInt64)) ||| (((c2.toInt64) &&& (255 : Int64)) <<< ((40 : Int32) &&& 0x3f).toInt64)) ||| (((c3.toInt64) &&& (255 : Int64)) <<< ((32 : Int32) &&& 0x3f).toInt64)) ||| (((c4.toInt64) &&& (255 : Int64)) <<< ((24 : Int32) &&& 0x3f).toInt64)) ||| (((c5.toInt64) &&& (255 : Int64)) <<< ((16 : Int32) &&& 0x3f).toInt64)) ||| (((c6.toInt64) &&& (255 : Int64)) <<< ((8 : Int32) &&& 0x3f).toInt64)))])) rfl rfl (hb hby d3_101) _ ?_
    show Steps p.tables e below (s₁.setTop (mkF m 102 #[.val (.ref a0), .val (.int (0 : Int32))] [(.int c7), (.long (((((((((c0.toInt64) &&& (255 : Int64)) <<< ((56 : Int32) &&& 0x3f).toInt64) ||| (((c1.toInt64) &&& (255 : Int64)) <<< ((48 : Int32) &&& 0x3f).toInt64)) ||| (((c2.toInt64) &&& (255 : Int64)) <<< ((40 : Int32) &&& 0x3f).toInt64)) ||| (((c3.toInt64) &&& (255 : Int64)) <<< ((32 : Int32) &&& 0x3f).toInt64)) ||| (((c4.toInt64) &&& (255 : Int64)) <<< ((24 : Int32) &&& 0x3f).toInt64)) ||| (((c5.toInt64) &&& (255 : Int64)) <<< ((16 : Int32) &&& 0x3f).toInt64)) ||| (((c6.toInt64) &&& (255 : Int64)) <<< ((8 : Int32) &&& 0x3f).toInt64)))])) _
    refine XS.i2l X0.here hx rfl (hb hby d3_102) rfl ?_
    show Steps p.tables e below (s₁.setTop (mkF m 103 #[.val (.ref a0), .val (.int (0 : Int32))] [(.long (c7.toInt64)), (.long (((((((((c0.toInt64) &&& (255 : Int64)) <<< ((56 : Int32) &&& 0x3f).toInt64) ||| (((c1.toInt64) &&& (255 : Int64)) <<< ((48 : Int32) &&& 0x3f).toInt64)) ||| (((c2.toInt64) &&& (255 : Int64)) <<< ((40 : Int32) &&& 0x3f).toInt64)) ||| (((c3.toInt64) &&& (255 : Int64)) <<< ((32 : Int32) &&& 0x3f).toInt64)) ||| (((c4.toInt64) &&& (255 : Int64)) <<< ((24 : Int32) &&& 0x3f).toInt64)) ||| (((c5.toInt64) &&& (255 : Int64)) <<< ((16 : Int32) &&& 0x3f).toInt64)) ||| (((c6.toInt64) &&& (255 : Int64)) <<< ((8 : Int32) &&& 0x3f).toInt64)))])) _
    refine X0.ldc2Long hx hown (mvT hZ (hw _ (List.mem_of_getElem? (i := 12) rfl))) (g := (mkF m 103 #[.val (.ref a0), .val (.int (0 : Int32))] [(.long (c7.toInt64)), (.long (((((((((c0.toInt64) &&& (255 : Int64)) <<< ((56 : Int32) &&& 0x3f).toInt64) ||| (((c1.toInt64) &&& (255 : Int64)) <<< ((48 : Int32) &&& 0x3f).toInt64)) ||| (((c2.toInt64) &&& (255 : Int64)) <<< ((40 : Int32) &&& 0x3f).toInt64)) ||| (((c3.toInt64) &&& (255 : Int64)) <<< ((32 : Int32) &&& 0x3f).toInt64)) ||| (((c4.toInt64) &&& (255 : Int64)) <<< ((24 : Int32) &&& 0x3f).toInt64)) ||| (((c5.toInt64) &&& (255 : Int64)) <<< ((16 : Int32) &&& 0x3f).toInt64)) ||| (((c6.toInt64) &&& (255 : Int64)) <<< ((8 : Int32) &&& 0x3f).toInt64)))])) rfl (hb hby d3_103) _ ?_
    show Steps p.tables e below (s₁.setTop (mkF m 106 #[.val (.ref a0), .val (.int (0 : Int32))] [(.long (255 : Int64)), (.long (c7.toInt64)), (.long (((((((((c0.toInt64) &&& (255 : Int64)) <<< ((56 : Int32) &&& 0x3f).toInt64) ||| (((c1.toInt64) &&& (255 : Int64)) <<< ((48 : Int32) &&& 0x3f).toInt64)) ||| (((c2.toInt64) &&& (255 : Int64)) <<< ((40 : Int32) &&& 0x3f).toInt64)) ||| (((c3.toInt64) &&& (255 : Int64)) <<< ((32 : Int32) &&& 0x3f).toInt64)) ||| (((c4.toInt64) &&& (255 : Int64)) <<< ((24 : Int32) &&& 0x3f).toInt64)) ||| (((c5.toInt64) &&& (255 : Int64)) <<< ((16 : Int32) &&& 0x3f).toInt64)) ||| (((c6.toInt64) &&& (255 : Int64)) <<< ((8 : Int32) &&& 0x3f).toInt64)))])) _
    refine XS.land X0.here hx rfl (hb hby d3_106) rfl ?_
    show Steps p.tables e below (s₁.setTop (mkF m 107 #[.val (.ref a0), .val (.int (0 : Int32))] [(.long ((c7.toInt64) &&& (255 : Int64))), (.long (((((((((c0.toInt64) &&& (255 : Int64)) <<< ((56 : Int32) &&& 0x3f).toInt64) ||| (((c1.toInt64) &&& (255 : Int64)) <<< ((48 : Int32) &&& 0x3f).toInt64)) ||| (((c2.toInt64) &&& (255 : Int64)) <<< ((40 : Int32) &&& 0x3f).toInt64)) ||| (((c3.toInt64) &&& (255 : Int64)) <<< ((32 : Int32) &&& 0x3f).toInt64)) ||| (((c4.toInt64) &&& (255 : Int64)) <<< ((24 : Int32) &&& 0x3f).toInt64)) ||| (((c5.toInt64) &&& (255 : Int64)) <<< ((16 : Int32) &&& 0x3f).toInt64)) ||| (((c6.toInt64) &&& (255 : Int64)) <<< ((8 : Int32) &&& 0x3f).toInt64)))])) _
    refine XS.lor X0.here hx rfl (hb hby d3_107) rfl ?_
    show Steps p.tables e below (s₁.setTop (mkF m 108 #[.val (.ref a0), .val (.int (0 : Int32))] [(.long ((((((((((c0.toInt64) &&& (255 : Int64)) <<< ((56 : Int32) &&& 0x3f).toInt64) ||| (((c1.toInt64) &&& (255 : Int64)) <<< ((48 : Int32) &&& 0x3f).toInt64)) ||| (((c2.toInt64) &&& (255 : Int64)) <<< ((40 : Int32) &&& 0x3f).toInt64)) ||| (((c3.toInt64) &&& (255 : Int64)) <<< ((32 : Int32) &&& 0x3f).toInt64)) ||| (((c4.toInt64) &&& (255 : Int64)) <<< ((24 : Int32) &&& 0x3f).toInt64)) ||| (((c5.toInt64) &&& (255 : Int64)) <<< ((16 : Int32) &&& 0x3f).toInt64)) ||| (((c6.toInt64) &&& (255 : Int64)) <<< ((8 : Int32) &&& 0x3f).toInt64)) ||| ((c7.toInt64) &&& (255 : Int64))))])) _
    exact retOut X0 hx (t := .long) Bd.returns rfl (Or.inr (Or.inl ⟨rfl, rfl, _, rfl⟩)) (hb hby d3_108) hr
  · show Q_rmg16_0 Z a0 kk vs c0 c1 c2 c3 c4 c5 c6 c7 h0 n0 _ s₁.heap _
    rw [e0]
    exact ⟨rfl, N0, rfl⟩
theorem ef_rmg16_8 (m : MethodId) (x0 : Addr) (x1 : Int32) : entryFrame m #[(.ref x0), (.int x1)] 2 = mkF m 0 #[.val (.ref x0), .val (.int x1)] [] := by first | (simp [entryFrame, mkF, argsToLocals, Value.category]; done) | rfl
def Q_rmg16_8 (Z : State) (a0 : Addr) (kk : ClassId) (vs : List Value) (c0 : Int32) (c1 : Int32) (c2 : Int32) (c3 : Int32) (c4 : Int32) (c5 : Int32) (c6 : Int32) (c7 : Int32) (h0 : Heap) (n0 : Nat) (v : Option Value) (h : Heap) (L : List Loc) : Prop := v = some (.long (own_get c0 c1 c2 c3 c4 c5 c6 c7)) ∧ Fr n0 L ∧ h = h0
set_option maxRecDepth 65536 in
set_option maxHeartbeats 40000000 in
theorem rmg16_8 (l : Launch) (Z : State) (aw : Array Value) (hw : ∀ d ∈ tables_1, d.before aw Z = true) (ws : List Jvm.Cond) (a0 : Addr) (kk : ClassId) (vs : List Value) (c0 : Int32) (c1 : Int32) (c2 : Int32) (c3 : Int32) (c4 : Int32) (c5 : Int32) (c6 : Int32) (c7 : Int32) (h0 : Heap) (n0 : Nat) (Z0 : n0 ≤ h0.size) (V0 : Arv Z h0 a0 kk .byte (16 : Int32) vs (.int (0 : Int32))) (hb0 : vs.getD 8 (.int (0 : Int32)) = .int c0) (hb1 : vs.getD 9 (.int (0 : Int32)) = .int c1) (hb2 : vs.getD 10 (.int (0 : Int32)) = .int c2) (hb3 : vs.getD 11 (.int (0 : Int32)) = .int c3) (hb4 : vs.getD 12 (.int (0 : Int32)) = .int c4) (hb5 : vs.getD 13 (.int (0 : Int32)) = .int c5) (hb6 : vs.getD 14 (.int (0 : Int32)) = .int c6) (hb7 : vs.getD 15 (.int (0 : Int32)) = .int c7) :
    MetFree l (⟨"com/example/countersign/countersign/protocol/PrimitivesFoldPinLaw", "get", "([BI)J"⟩ : MethodName) (head1 (Jvm.Cond.code (⟨"com/example/countersign/countersign/protocol/PrimitivesFoldPinLaw", "get", "([BI)J"⟩ : MethodName) method_4_code 2 (some .long) :: ws) ({ frames := 0, cells := 0, slots := 0, locals := 0 } : Room)) (fun a U => a = #[(.ref a0), (.int (8 : Int32))] ∧ Z.Warmed39 U.vm ∧ U.heap = h0) (fun _ _ _ _ _ => True) (fun _ U oc U' => ∃ v L, oc = .returned v ∧ Q_rmg16_8 Z a0 kk vs c0 c1 c2 c3 c4 c5 c6 c7 h0 n0 v U'.heap L ∧ FrameEnd U oc U' L ({ frames := 0, cells := 0, slots := 0, locals := 0 } : Room).cells ({ frames := 0, cells := 0, slots := 0, locals := 0 } : Room).slots) := by
  refine MetFree.of_bodySF (plainFor_of_name pn_0) hisR ?_
  intro p e s m args below meth c s₁ Bd hml0 hP hK
  obtain ⟨rfl, hZ, hh⟩ := hP
  have hx := Bd.exec
  have hby := Bd.bytes
  have hml : c.maxLocals = 2 := hml0
  have hown : s.vm.findClass "com/example/countersign/countersign/protocol/PrimitivesFoldPinLaw" = some m.cls := findClass_of_methodNamed Bd.named
  have hnm := (name_of_methodNamed Bd.named Bd.method).1
  have X0 : Stand p l e ({ frames := 0, cells := 0, slots := 0, locals := 0 } : Room) s m #[(.ref a0), (.int (8 : Int32))] below meth c s₁ [] 0 0 := Stand.of_body Bd
  have e0 : s₁.heap = h0 := by rw [← hh, Bd.state]; rfl
  have N0 := Fr.nil n0
  have pre0 : ∀ t, Steps p.tables e below (s₁.setTop (mkF m 0 #[.val (.ref a0), .val (.int (8 : Int32))] [])) t → Steps p.tables e below (s₁.setTop (entryFrame m #[(.ref a0), (.int (8 : Int32))] 2)) t := fun t k => castTop (ef_rmg16_8 m a0 (8 : Int32)) k
  obtain ⟨cl101, Ar101, q101, S101, M101, H101, G101⟩ := id V0
  obtain ⟨cl102, Ar102, q102, S102, M102, H102, G102⟩ := id V0
  obtain ⟨cl103, Ar103, q103, S103, M103, H103, G103⟩ := id V0
  obtain ⟨cl104, Ar104, q104, S104, M104, H104, G104⟩ := id V0
  obtain ⟨cl105, Ar105, q105, S105, M105, H105, G105⟩ := id V0
  obtain ⟨cl106, Ar106, q106, S106, M106, H106, G106⟩ := id V0
  obtain ⟨cl107, Ar107, q107, S107, M107, H107, G107⟩ := id V0
  obtain ⟨cl108, Ar108, q108, S108, M108, H108, G108⟩ := id V0
  obtain ⟨fs, hr, hrun, hended, hW, hsame⟩ := X0.leave (v := some (.long ((((((((((c0.toInt64) &&& (255 : Int64)) <<< ((56 : Int32) &&& 0x3f).toInt64) ||| (((c1.toInt64) &&& (255 : Int64)) <<< ((48 : Int32) &&& 0x3f).toInt64)) ||| (((c2.toInt64) &&& (255 : Int64)) <<< ((40 : Int32) &&& 0x3f).toInt64)) ||| (((c3.toInt64) &&& (255 : Int64)) <<< ((32 : Int32) &&& 0x3f).toInt64)) ||| (((c4.toInt64) &&& (255 : Int64)) <<< ((24 : Int32) &&& 0x3f).toInt64)) ||| (((c5.toInt64) &&& (255 : Int64)) <<< ((16 : Int32) &&& 0x3f).toInt64)) ||| (((c6.toInt64) &&& (255 : Int64)) <<< ((8 : Int32) &&& 0x3f).toInt64)) ||| ((c7.toInt64) &&& (255 : Int64))))) (fun h => by rw [Bd.returns] at h; cases h)
  refine ⟨_, _, pre0 _ ?_, hrun, hended, _, _, rfl, ?_, ⟨_, rfl⟩, hW, hsame.mono (by decide) (by decide)⟩
  · show Steps p.tables e below (s₁.setTop (mkF m 0 #[.val (.ref a0), .val (.int (8 : Int32))] [])) _
    refine XS.aloadN X0.here hx rfl (hb hby d3_0) rfl rfl ?_
    show Steps p.tables e below (s₁.setTop (mkF m 1 #[.val (.ref a0), .val (.int (8 : Int32))] [(.ref a0)])) _
    refine XS.iloadN X0.here hx rfl (hb hby d3_1) rfl ?_
    show Steps p.tables e below (s₁.setTop (mkF m 2 #[.val (.ref a0), .val (.int (8 : Int32))] [(.int (8 : Int32)), (.ref a0)])) _
    have hin101 : ¬ ((8 : Int32) < 0 ∨ cl101.slots.size ≤ ((8 : Int32)).toNatClampNeg) := (inb_of S101 ⟨by decide, by decide⟩)
    refine X0.baloadBytes hx (j := (8 : Int32)) (v := (.int c0)) (by rw [e0]; exact Ar101.1) (State.isArrayOf_alike hZ.alike Ar101.2.1) Ar101.2.2 hin101 (H101.at hin101 hb0) (g := (mkF m 2 #[.val (.ref a0), .val (.int (8 : Int32))] [(.int (8 : Int32)), (.ref a0)])) rfl rfl (hb hby d3_2) _ ?_
    show Steps p.tables e below (s₁.setTop (mkF m 3 #[.val (.ref a0), .val (.int (8 : Int32))] [(.int c0)])) _
    refine XS.i2l X0.here hx rfl (hb hby d3_3) rfl ?_
    show Steps p.tables e below (s₁.setTop (mkF m 4 #[.val (.ref a0), .val (.int (8 : Int32))] [(.long (c0.toInt64))])) _
    refine X0.ldc2Long hx hown (mvT hZ (hw _ (List.mem_of_getElem? (i := 12) rfl))) (g := (mkF m 4 #[.val (.ref a0), .val (.int (8 : Int32))] [(.long (c0.toInt64))])) rfl (hb hby d3_4) _ ?_
    show Steps p.tables e below (s₁.setTop (mkF m 7 #[.val (.ref a0), .val (.int (8 : Int32))] [(.long (255 : Int64)), (.long (c0.toInt64))])) _
    refine XS.land X0.here hx rfl (hb hby d3_7) rfl ?_
    show Steps p.tables e below (s₁.setTop (mkF m 8 #[.val (.ref a0), .val (.int (8 : Int32))] [(.long ((c0.toInt64) &&& (255 : Int64)))])) _
    refine XS.bipush X0.here hx rfl (hb hby d3_8) ?_
    show Steps p.tables e below (s₁.setTop (mkF m 10 #[.val (.ref a0), .val (.int (8 : Int32))] [(.int (56 : Int32)), (.long ((c0.toInt64) &&& (255 : Int64)))])) _
    refine XS.lshl X0.here hx rfl (hb hby d3_10) rfl ?_
    show Steps p.tables e below (s₁.setTop (mkF m 11 #[.val (.ref a0), .val (.int (8 : Int32))] [(.long (((c0.toInt64) &&& (255 : Int64)) <<< ((56 : Int32) &&& 0x3f).toInt64))])) _
    refine XS.aloadN X0.here hx rfl (hb hby d3_11) rfl rfl ?_
    show Steps p.tables e below (s₁.setTop (mkF m 12 #[.val (.ref a0), .val (.int (8 : Int32))] [(.ref a0), (.long (((c0.toInt64) &&& (255 : Int64)) <<< ((56 : Int32) &&& 0x3f).toInt64))])) _
    refine XS.iloadN X0.here hx rfl (hb hby d3_12) rfl ?_
    show Steps p.tables e below (s₁.setTop (mkF m 13 #[.val (.ref a0), .val (.int (8 : Int32))] [(.int (8 : Int32)), (.ref a0), (.long (((c0.toInt64) &&& (255 : Int64)) <<< ((56 : Int32) &&& 0x3f).toInt64))])) _
    refine XS.iconst X0.here hx rfl (hb hby d3_13) ?_
    show Steps p.tables e below (s₁.setTop (mkF m 14 #[.val (.ref a0), .val (.int (8 : Int32))] [(.int (1 : Int32)), (.int (8 : Int32)), (.ref a0), (.long (((c0.toInt64) &&& (255 : Int64)) <<< ((56 : Int32) &&& 0x3f).toInt64))])) _
    refine XS.iadd X0.here hx rfl (hb hby d3_14) rfl ?_
    show Steps p.tables e below (s₁.setTop (mkF m 15 #[.val (.ref a0), .val (.int (8 : Int32))] [(.int (9 : Int32)), (.ref a0), (.long (((c0.toInt64) &&& (255 : Int64)) <<< ((56 : Int32) &&& 0x3f).toInt64))])) _
    have hin102 : ¬ ((9 : Int32) < 0 ∨ cl102.slots.size ≤ ((9 : Int32)).toNatClampNeg) := (inb_of S102 ⟨by decide, by decide⟩)
    refine X0.baloadBytes hx (j := (9 : Int32)) (v := (.int c1)) (by rw [e0]; exact Ar102.1) (State.isArrayOf_alike hZ.alike Ar102.2.1) Ar102.2.2 hin102 (H102.at hin102 hb1) (g := (mkF m 15 #[.val (.ref a0), .val (.int (8 : Int32))] [(.int (9 : Int32)), (.ref a0), (.long (((c0.toInt64) &&& (255 : Int64)) <<< ((56 : Int32) &&& 0x3f).toInt64))])) rfl rfl (hb hby d3_15) _ ?_
    show Steps p.tables e below (s₁.setTop (mkF m 16 #[.val (.ref a0), .val (.int (8 : Int32))] [(.int c1), (.long (((c0.toInt64) &&& (255 : Int64)) <<< ((56 : Int32) &&& 0x3f).toInt64))])) _
    refine XS.i2l X0.here hx rfl (hb hby d3_16) rfl ?_
    show Steps p.tables e below (s₁.setTop (mkF m 17 #[.val (.ref a0), .val (.int (8 : Int32))] [(.long (c1.toInt64)), (.long (((c0.toInt64) &&& (255 : Int64)) <<< ((56 : Int32) &&& 0x3f).toInt64))])) _
    refine X0.ldc2Long hx hown (mvT hZ (hw _ (List.mem_of_getElem? (i := 12) rfl))) (g := (mkF m 17 #[.val (.ref a0), .val (.int (8 : Int32))] [(.long (c1.toInt64)), (.long (((c0.toInt64) &&& (255 : Int64)) <<< ((56 : Int32) &&& 0x3f).toInt64))])) rfl (hb hby d3_17) _ ?_
    show Steps p.tables e below (s₁.setTop (mkF m 20 #[.val (.ref a0), .val (.int (8 : Int32))] [(.long (255 : Int64)), (.long (c1.toInt64)), (.long (((c0.toInt64) &&& (255 : Int64)) <<< ((56 : Int32) &&& 0x3f).toInt64))])) _
    refine XS.land X0.here hx rfl (hb hby d3_20) rfl ?_
    show Steps p.tables e below (s₁.setTop (mkF m 21 #[.val (.ref a0), .val (.int (8 : Int32))] [(.long ((c1.toInt64) &&& (255 : Int64))), (.long (((c0.toInt64) &&& (255 : Int64)) <<< ((56 : Int32) &&& 0x3f).toInt64))])) _
    refine XS.bipush X0.here hx rfl (hb hby d3_21) ?_
    show Steps p.tables e below (s₁.setTop (mkF m 23 #[.val (.ref a0), .val (.int (8 : Int32))] [(.int (48 : Int32)), (.long ((c1.toInt64) &&& (255 : Int64))), (.long (((c0.toInt64) &&& (255 : Int64)) <<< ((56 : Int32) &&& 0x3f).toInt64))])) _
    refine XS.lshl X0.here hx rfl (hb hby d3_23) rfl ?_
    show Steps p.tables e below (s₁.setTop (mkF m 24 #[.val (.ref a0), .val (.int (8 : Int32))] [(.long (((c1.toInt64) &&& (255 : Int64)) <<< ((48 : Int32) &&& 0x3f).toInt64)), (.long (((c0.toInt64) &&& (255 : Int64)) <<< ((56 : Int32) &&& 0x3f).toInt64))])) _
    refine XS.lor X0.here hx rfl (hb hby d3_24) rfl ?_
    show Steps p.tables e below (s₁.setTop (mkF m 25 #[.val (.ref a0), .val (.int (8 : Int32))] [(.long ((((c0.toInt64) &&& (255 : Int64)) <<< ((56 : Int32) &&& 0x3f).toInt64) ||| (((c1.toInt64) &&& (255 : Int64)) <<< ((48 : Int32) &&& 0x3f).toInt64)))])) _
    refine XS.aloadN X0.here hx rfl (hb hby d3_25) rfl rfl ?_
    show Steps p.tables e below (s₁.setTop (mkF m 26 #[.val (.ref a0), .val (.int (8 : Int32))] [(.ref a0), (.long ((((c0.toInt64) &&& (255 : Int64)) <<< ((56 : Int32) &&& 0x3f).toInt64) ||| (((c1.toInt64) &&& (255 : Int64)) <<< ((48 : Int32) &&& 0x3f).toInt64)))])) _
    refine XS.iloadN X0.here hx rfl (hb hby d3_26) rfl ?_
    show Steps p.tables e below (s₁.setTop (mkF m 27 #[.val (.ref a0), .val (.int (8 : Int32))] [(.int (8 : Int32)), (.ref a0), (.long ((((c0.toInt64) &&& (255 : Int64)) <<< ((56 : Int32) &&& 0x3f).toInt64) ||| (((c1.toInt64) &&& (255 : Int64)) <<< ((48 : Int32) &&& 0x3f).toInt64)))])) _
    refine XS.iconst X0.here hx rfl (hb hby d3_27) ?_
    show Steps p.tables e below (s₁.setTop (mkF m 28 #[.val (.ref a0), .val (.int (8 : Int32))] [(.int (2 : Int32)), (.int (8 : Int32)), (.ref a0), (.long ((((c0.toInt64) &&& (255 : Int64)) <<< ((56 : Int32) &&& 0x3f).toInt64) ||| (((c1.toInt64) &&& (255 : Int64)) <<< ((48 : Int32) &&& 0x3f).toInt64)))])) _
    refine XS.iadd X0.here hx rfl (hb hby d3_28) rfl ?_
    show Steps p.tables e below (s₁.setTop (mkF m 29 #[.val (.ref a0), .val (.int (8 : Int32))] [(.int (10 : Int32)), (.ref a0), (.long ((((c0.toInt64) &&& (255 : Int64)) <<< ((56 : Int32) &&& 0x3f).toInt64) ||| (((c1.toInt64) &&& (255 : Int64)) <<< ((48 : Int32) &&& 0x3f).toInt64)))])) _
    have hin103 : ¬ ((10 : Int32) < 0 ∨ cl103.slots.size ≤ ((10 : Int32)).toNatClampNeg) := (inb_of S103 ⟨by decide, by decide⟩)
    refine X0.baloadBytes hx (j := (10 : Int32)) (v := (.int c2)) (by rw [e0]; exact Ar103.1) (State.isArrayOf_alike hZ.alike Ar103.2.1) Ar103.2.2 hin103 (H103.at hin103 hb2) (g := (mkF m 29 #[.val (.ref a0), .val (.int (8 : Int32))] [(.int (10 : Int32)), (.ref a0), (.long ((((c0.toInt64) &&& (255 : Int64)) <<< ((56 : Int32) &&& 0x3f).toInt64) ||| (((c1.toInt64) &&& (255 : Int64)) <<< ((48 : Int32) &&& 0x3f).toInt64)))])) rfl rfl (hb hby d3_29) _ ?_
    show Steps p.tables e below (s₁.setTop (mkF m 30 #[.val (.ref a0), .val (.int (8 : Int32))] [(.int c2), (.long ((((c0.toInt64) &&& (255 : Int64)) <<< ((56 : Int32) &&& 0x3f).toInt64) ||| (((c1.toInt64) &&& (255 : Int64)) <<< ((48 : Int32) &&& 0x3f).toInt64)))])) _
    refine XS.i2l X0.here hx rfl (hb hby d3_30) rfl ?_
    show Steps p.tables e below (s₁.setTop (mkF m 31 #[.val (.ref a0), .val (.int (8 : Int32))] [(.long (c2.toInt64)), (.long ((((c0.toInt64) &&& (255 : Int64)) <<< ((56 : Int32) &&& 0x3f).toInt64) ||| (((c1.toInt64) &&& (255 : Int64)) <<< ((48 : Int32) &&& 0x3f).toInt64)))])) _
    refine X0.ldc2Long hx hown (mvT hZ (hw _ (List.mem_of_getElem? (i := 12) rfl))) (g := (mkF m 31 #[.val (.ref a0), .val (.int (8 : Int32))] [(.long (c2.toInt64)), (.long ((((c0.toInt64) &&& (255 : Int64)) <<< ((56 : Int32) &&& 0x3f).toInt64) ||| (((c1.toInt64) &&& (255 : Int64)) <<< ((48 : Int32) &&& 0x3f).toInt64)))])) rfl (hb hby d3_31) _ ?_
    show Steps p.tables e below (s₁.setTop (mkF m 34 #[.val (.ref a0), .val (.int (8 : Int32))] [(.long (255 : Int64)), (.long (c2.toInt64)), (.long ((((c0.toInt64) &&& (255 : Int64)) <<< ((56 : Int32) &&& 0x3f).toInt64) ||| (((c1.toInt64) &&& (255 : Int64)) <<< ((48 : Int32) &&& 0x3f).toInt64)))])) _
    refine XS.land X0.here hx rfl (hb hby d3_34) rfl ?_
    show Steps p.tables e below (s₁.setTop (mkF m 35 #[.val (.ref a0), .val (.int (8 : Int32))] [(.long ((c2.toInt64) &&& (255 : Int64))), (.long ((((c0.toInt64) &&& (255 : Int64)) <<< ((56 : Int32) &&& 0x3f).toInt64) ||| (((c1.toInt64) &&& (255 : Int64)) <<< ((48 : Int32) &&& 0x3f).toInt64)))])) _
    refine XS.bipush X0.here hx rfl (hb hby d3_35) ?_
    show Steps p.tables e below (s₁.setTop (mkF m 37 #[.val (.ref a0), .val (.int (8 : Int32))] [(.int (40 : Int32)), (.long ((c2.toInt64) &&& (255 : Int64))), (.long ((((c0.toInt64) &&& (255 : Int64)) <<< ((56 : Int32) &&& 0x3f).toInt64) ||| (((c1.toInt64) &&& (255 : Int64)) <<< ((48 : Int32) &&& 0x3f).toInt64)))])) _
    refine XS.lshl X0.here hx rfl (hb hby d3_37) rfl ?_
    show Steps p.tables e below (s₁.setTop (mkF m 38 #[.val (.ref a0), .val (.int (8 : Int32))] [(.long (((c2.toInt64) &&& (255 : Int64)) <<< ((40 : Int32) &&& 0x3f).toInt64)), (.long ((((c0.toInt64) &&& (255 : Int64)) <<< ((56 : Int32) &&& 0x3f).toInt64) ||| (((c1.toInt64) &&& (255 : Int64)) <<< ((48 : Int32) &&& 0x3f).toInt64)))])) _
    refine XS.lor X0.here hx rfl (hb hby d3_38) rfl ?_
    show Steps p.tables e below (s₁.setTop (mkF m 39 #[.val (.ref a0), .val (.int (8 : Int32))] [(.long (((((c0.toInt64) &&& (255 : Int64)) <<< ((56 : Int32) &&& 0x3f).toInt64) ||| (((c1.toInt64) &&& (255 : Int64)) <<< ((48 : Int32) &&& 0x3f).toInt64)) ||| (((c2.toInt64) &&& (255 : Int64)) <<< ((40 : Int32) &&& 0x3f).toInt64)))])) _
    refine XS.aloadN X0.here hx rfl (hb hby d3_39) rfl rfl ?_
    show Steps p.tables e below (s₁.setTop (mkF m 40 #[.val (.ref a0), .val (.int (8 : Int32))] [(.ref a0), (.long (((((c0.toInt64) &&& (255 : Int64)) <<< ((56 : Int32) &&& 0x3f).toInt64) ||| (((c1.toInt64) &&& (255 : Int64)) <<< ((48 : Int32) &&& 0x3f).toInt64)) ||| (((c2.toInt64) &&& (255 : Int64)) <<< ((40 : Int32) &&& 0x3f).toInt64)))])) _
    refine XS.iloadN X0.here hx rfl (hb hby d3_40) rfl ?_
    show Steps p.tables e below (s₁.setTop (mkF m 41 #[.val (.ref a0), .val (.int (8 : Int32))] [(.int (8 : Int32)), (.ref a0), (.long (((((c0.toInt64) &&& (255 : Int64)) <<< ((56 : Int32) &&& 0x3f).toInt64) ||| (((c1.toInt64) &&& (255 : Int64)) <<< ((48 : Int32) &&& 0x3f).toInt64)) ||| (((c2.toInt64) &&& (255 : Int64)) <<< ((40 : Int32) &&& 0x3f).toInt64)))])) _
    refine XS.iconst X0.here hx rfl (hb hby d3_41) ?_
    show Steps p.tables e below (s₁.setTop (mkF m 42 #[.val (.ref a0), .val (.int (8 : Int32))] [(.int (3 : Int32)), (.int (8 : Int32)), (.ref a0), (.long (((((c0.toInt64) &&& (255 : Int64)) <<< ((56 : Int32) &&& 0x3f).toInt64) ||| (((c1.toInt64) &&& (255 : Int64)) <<< ((48 : Int32) &&& 0x3f).toInt64)) ||| (((c2.toInt64) &&& (255 : Int64)) <<< ((40 : Int32) &&& 0x3f).toInt64)))])) _
    refine XS.iadd X0.here hx rfl (hb hby d3_42) rfl ?_
    show Steps p.tables e below (s₁.setTop (mkF m 43 #[.val (.ref a0), .val (.int (8 : Int32))] [(.int (11 : Int32)), (.ref a0), (.long (((((c0.toInt64) &&& (255 : Int64)) <<< ((56 : Int32) &&& 0x3f).toInt64) ||| (((c1.toInt64) &&& (255 : Int64)) <<< ((48 : Int32) &&& 0x3f).toInt64)) ||| (((c2.toInt64) &&& (255 : Int64)) <<< ((40 : Int32) &&& 0x3f).toInt64)))])) _
    have hin104 : ¬ ((11 : Int32) < 0 ∨ cl104.slots.size ≤ ((11 : Int32)).toNatClampNeg) := (inb_of S104 ⟨by decide, by decide⟩)
    refine X0.baloadBytes hx (j := (11 : Int32)) (v := (.int c3)) (by rw [e0]; exact Ar104.1) (State.isArrayOf_alike hZ.alike Ar104.2.1) Ar104.2.2 hin104 (H104.at hin104 hb3) (g := (mkF m 43 #[.val (.ref a0), .val (.int (8 : Int32))] [(.int (11 : Int32)), (.ref a0), (.long (((((c0.toInt64) &&& (255 : Int64)) <<< ((56 : Int32) &&& 0x3f).toInt64) ||| (((c1.toInt64) &&& (255 : Int64)) <<< ((48 : Int32) &&& 0x3f).toInt64)) ||| (((c2.toInt64) &&& (255 : Int64)) <<< ((40 : Int32) &&& 0x3f).toInt64)))])) rfl rfl (hb hby d3_43) _ ?_
    show Steps p.tables e below (s₁.setTop (mkF m 44 #[.val (.ref a0), .val (.int (8 : Int32))] [(.int c3), (.long (((((c0.toInt64) &&& (255 : Int64)) <<< ((56 : Int32) &&& 0x3f).toInt64) ||| (((c1.toInt64) &&& (255 : Int64)) <<< ((48 : Int32) &&& 0x3f).toInt64)) ||| (((c2.toInt64) &&& (255 : Int64)) <<< ((40 : Int32) &&& 0x3f).toInt64)))])) _
    refine XS.i2l X0.here hx rfl (hb hby d3_44) rfl ?_
    show Steps p.tables e below (s₁.setTop (mkF m 45 #[.val (.ref a0), .val (.int (8 : Int32))] [(.long (c3.toInt64)), (.long (((((c0.toInt64) &&& (255 : Int64)) <<< ((56 : Int32) &&& 0x3f).toInt64) ||| (((c1.toInt64) &&& (255 : Int64)) <<< ((48 : Int32) &&& 0x3f).toInt64)) ||| (((c2.toInt64) &&& (255 : Int64)) <<< ((40 : Int32) &&& 0x3f).toInt64)))])) _
    refine X0.ldc2Long hx hown (mvT hZ (hw _ (List.mem_of_getElem? (i := 12) rfl))) (g := (mkF m 45 #[.val (.ref a0), .val (.int (8 : Int32))] [(.long (c3.toInt64)), (.long (((((c0.toInt64) &&& (255 : Int64)) <<< ((56 : Int32) &&& 0x3f).toInt64) ||| (((c1.toInt64) &&& (255 : Int64)) <<< ((48 : Int32) &&& 0x3f).toInt64)) ||| (((c2.toInt64) &&& (255 : Int64)) <<< ((40 : Int32) &&& 0x3f).toInt64)))])) rfl (hb hby d3_45) _ ?_
    show Steps p.tables e below (s₁.setTop (mkF m 48 #[.val (.ref a0), .val (.int (8 : Int32))] [(.long (255 : Int64)), (.long (c3.toInt64)), (.long (((((c0.toInt64) &&& (255 : Int64)) <<< ((56 : Int32) &&& 0x3f).toInt64) ||| (((c1.toInt64) &&& (255 : Int64)) <<< ((48 : Int32) &&& 0x3f).toInt64)) ||| (((c2.toInt64) &&& (255 : Int64)) <<< ((40 : Int32) &&& 0x3f).toInt64)))])) _
    refine XS.land X0.here hx rfl (hb hby d3_48) rfl ?_
    show Steps p.tables e below (s₁.setTop (mkF m 49 #[.val (.ref a0), .val (.int (8 : Int32))] [(.long ((c3.toInt64) &&& (255 : Int64))), (.long (((((c0.toInt64) &&& (255 : Int64)) <<< ((56 : Int32) &&& 0x3f).toInt64) ||| (((c1.toInt64) &&& (255 : Int64)) <<< ((48 : Int32) &&& 0x3f).toInt64)) ||| (((c2.toInt64) &&& (255 : Int64)) <<< ((40 : Int32) &&& 0x3f).toInt64)))])) _
    refine XS.bipush X0.here hx rfl (hb hby d3_49) ?_
    show Steps p.tables e below (s₁.setTop (mkF m 51 #[.val (.ref a0), .val (.int (8 : Int32))] [(.int (32 : Int32)), (.long ((c3.toInt64) &&& (255 : Int64))), (.long (((((c0.toInt64) &&& (255 : Int64)) <<< ((56 : Int32) &&& 0x3f).toInt64) ||| (((c1.toInt64) &&& (255 : Int64)) <<< ((48 : Int32) &&& 0x3f).toInt64)) ||| (((c2.toInt64) &&& (255 : Int64)) <<< ((40 : Int32) &&& 0x3f).toInt64)))])) _
    refine XS.lshl X0.here hx rfl (hb hby d3_51) rfl ?_
    show Steps p.tables e below (s₁.setTop (mkF m 52 #[.val (.ref a0), .val (.int (8 : Int32))] [(.long (((c3.toInt64) &&& (255 : Int64)) <<< ((32 : Int32) &&& 0x3f).toInt64)), (.long (((((c0.toInt64) &&& (255 : Int64)) <<< ((56 : Int32) &&& 0x3f).toInt64) ||| (((c1.toInt64) &&& (255 : Int64)) <<< ((48 : Int32) &&& 0x3f).toInt64)) ||| (((c2.toInt64) &&& (255 : Int64)) <<< ((40 : Int32) &&& 0x3f).toInt64)))])) _
    refine XS.lor X0.here hx rfl (hb hby d3_52) rfl ?_
    show Steps p.tables e below (s₁.setTop (mkF m 53 #[.val (.ref a0), .val (.int (8 : Int32))] [(.long ((((((c0.toInt64) &&& (255 : Int64)) <<< ((56 : Int32) &&& 0x3f).toInt64) ||| (((c1.toInt64) &&& (255 : Int64)) <<< ((48 : Int32) &&& 0x3f).toInt64)) ||| (((c2.toInt64) &&& (255 : Int64)) <<< ((40 : Int32) &&& 0x3f).toInt64)) ||| (((c3.toInt64) &&& (255 : Int64)) <<< ((32 : Int32) &&& 0x3f).toInt64)))])) _
    refine XS.aloadN X0.here hx rfl (hb hby d3_53) rfl rfl ?_
    show Steps p.tables e below (s₁.setTop (mkF m 54 #[.val (.ref a0), .val (.int (8 : Int32))] [(.ref a0), (.long ((((((c0.toInt64) &&& (255 : Int64)) <<< ((56 : Int32) &&& 0x3f).toInt64) ||| (((c1.toInt64) &&& (255 : Int64)) <<< ((48 : Int32) &&& 0x3f).toInt64)) ||| (((c2.toInt64) &&& (255 : Int64)) <<< ((40 : Int32) &&& 0x3f).toInt64)) ||| (((c3.toInt64) &&& (255 : Int64)) <<< ((32 : Int32) &&& 0x3f).toInt64)))])) _
    refine XS.iloadN X0.here hx rfl (hb hby d3_54) rfl ?_
    show Steps p.tables e below (s₁.setTop (mkF m 55 #[.val (.ref a0), .val (.int (8 : Int32))] [(.int (8 : Int32)), (.ref a0), (.long ((((((c0.toInt64) &&& (255 : Int64)) <<< ((56 : Int32) &&& 0x3f).toInt64) ||| (((c1.toInt64) &&& (255 : Int64)) <<< ((48 : Int32) &&& 0x3f).toInt64)) ||| (((c2.toInt64) &&& (255 : Int64)) <<< ((40 : Int32) &&& 0x3f).toInt64)) ||| (((c3.toInt64) &&& (255 : Int64)) <<< ((32 : Int32) &&& 0x3f).toInt64)))])) _
    refine XS.iconst X0.here hx rfl (hb hby d3_55) ?_
    show Steps p.tables e below (s₁.setTop (mkF m 56 #[.val (.ref a0), .val (.int (8 : Int32))] [(.int (4 : Int32)), (.int (8 : Int32)), (.ref a0), (.long ((((((c0.toInt64) &&& (255 : Int64)) <<< ((56 : Int32) &&& 0x3f).toInt64) ||| (((c1.toInt64) &&& (255 : Int64)) <<< ((48 : Int32) &&& 0x3f).toInt64)) ||| (((c2.toInt64) &&& (255 : Int64)) <<< ((40 : Int32) &&& 0x3f).toInt64)) ||| (((c3.toInt64) &&& (255 : Int64)) <<< ((32 : Int32) &&& 0x3f).toInt64)))])) _
    refine XS.iadd X0.here hx rfl (hb hby d3_56) rfl ?_
    show Steps p.tables e below (s₁.setTop (mkF m 57 #[.val (.ref a0), .val (.int (8 : Int32))] [(.int (12 : Int32)), (.ref a0), (.long ((((((c0.toInt64) &&& (255 : Int64)) <<< ((56 : Int32) &&& 0x3f).toInt64) ||| (((c1.toInt64) &&& (255 : Int64)) <<< ((48 : Int32) &&& 0x3f).toInt64)) ||| (((c2.toInt64) &&& (255 : Int64)) <<< ((40 : Int32) &&& 0x3f).toInt64)) ||| (((c3.toInt64) &&& (255 : Int64)) <<< ((32 : Int32) &&& 0x3f).toInt64)))])) _
    have hin105 : ¬ ((12 : Int32) < 0 ∨ cl105.slots.size ≤ ((12 : Int32)).toNatClampNeg) := (inb_of S105 ⟨by decide, by decide⟩)
    refine X0.baloadBytes hx (j := (12 : Int32)) (v := (.int c4)) (by rw [e0]; exact Ar105.1) (State.isArrayOf_alike hZ.alike Ar105.2.1) Ar105.2.2 hin105 (H105.at hin105 hb4) (g := (mkF m 57 #[.val (.ref a0), .val (.int (8 : Int32))] [(.int (12 : Int32)), (.ref a0), (.long ((((((c0.toInt64) &&& (255 : Int64)) <<< ((56 : Int32) &&& 0x3f).toInt64) ||| (((c1.toInt64) &&& (255 : Int64)) <<< ((48 : Int32) &&& 0x3f).toInt64)) ||| (((c2.toInt64) &&& (255 : Int64)) <<< ((40 : Int32) &&& 0x3f).toInt64)) ||| (((c3.toInt64) &&& (255 : Int64)) <<< ((32 : Int32) &&& 0x3f).toInt64)))])) rfl rfl (hb hby d3_57) _ ?_
    show Steps p.tables e below (s₁.setTop (mkF m 58 #[.val (.ref a0), .val (.int (8 : Int32))] [(.int c4), (.long ((((((c0.toInt64) &&& (255 : Int64)) <<< ((56 : Int32) &&& 0x3f).toInt64) ||| (((c1.toInt64) &&& (255 : Int64)) <<< ((48 : Int32) &&& 0x3f).toInt64)) ||| (((c2.toInt64) &&& (255 : Int64)) <<< ((40 : Int32) &&& 0x3f).toInt64)) ||| (((c3.toInt64) &&& (255 : Int64)) <<< ((32 : Int32) &&& 0x3f).toInt64)))])) _
    refine XS.i2l X0.here hx rfl (hb hby d3_58) rfl ?_
    show Steps p.tables e below (s₁.setTop (mkF m 59 #[.val (.ref a0), .val (.int (8 : Int32))] [(.long (c4.toInt64)), (.long ((((((c0.toInt64) &&& (255 : Int64)) <<< ((56 : Int32) &&& 0x3f).toInt64) ||| (((c1.toInt64) &&& (255 : Int64)) <<< ((48 : Int32) &&& 0x3f).toInt64)) ||| (((c2.toInt64) &&& (255 : Int64)) <<< ((40 : Int32) &&& 0x3f).toInt64)) ||| (((c3.toInt64) &&& (255 : Int64)) <<< ((32 : Int32) &&& 0x3f).toInt64)))])) _
    refine X0.ldc2Long hx hown (mvT hZ (hw _ (List.mem_of_getElem? (i := 12) rfl))) (g := (mkF m 59 #[.val (.ref a0), .val (.int (8 : Int32))] [(.long (c4.toInt64)), (.long ((((((c0.toInt64) &&& (255 : Int64)) <<< ((56 : Int32) &&& 0x3f).toInt64) ||| (((c1.toInt64) &&& (255 : Int64)) <<< ((48 : Int32) &&& 0x3f).toInt64)) ||| (((c2.toInt64) &&& (255 : Int64)) <<< ((40 : Int32) &&& 0x3f).toInt64)) ||| (((c3.toInt64) &&& (255 : Int64)) <<< ((32 : Int32) &&& 0x3f).toInt64)))])) rfl (hb hby d3_59) _ ?_
    show Steps p.tables e below (s₁.setTop (mkF m 62 #[.val (.ref a0), .val (.int (8 : Int32))] [(.long (255 : Int64)), (.long (c4.toInt64)), (.long ((((((c0.toInt64) &&& (255 : Int64)) <<< ((56 : Int32) &&& 0x3f).toInt64) ||| (((c1.toInt64) &&& (255 : Int64)) <<< ((48 : Int32) &&& 0x3f).toInt64)) ||| (((c2.toInt64) &&& (255 : Int64)) <<< ((40 : Int32) &&& 0x3f).toInt64)) ||| (((c3.toInt64) &&& (255 : Int64)) <<< ((32 : Int32) &&& 0x3f).toInt64)))])) _
    refine XS.land X0.here hx rfl (hb hby d3_62) rfl ?_
    show Steps p.tables e below (s₁.setTop (mkF m 63 #[.val (.ref a0), .val (.int (8 : Int32))] [(.long ((c4.toInt64) &&& (255 : Int64))), (.long ((((((c0.toInt64) &&& (255 : Int64)) <<< ((56 : Int32) &&& 0x3f).toInt64) ||| (((c1.toInt64) &&& (255 : Int64)) <<< ((48 : Int32) &&& 0x3f).toInt64)) ||| (((c2.toInt64) &&& (255 : Int64)) <<< ((40 : Int32) &&& 0x3f).toInt64)) ||| (((c3.toInt64) &&& (255 : Int64)) <<< ((32 : Int32) &&& 0x3f).toInt64)))])) _
    refine XS.bipush X0.here hx rfl (hb hby d3_63) ?_
    show Steps p.tables e below (s₁.setTop (mkF m 65 #[.val (.ref a0), .val (.int (8 : Int32))] [(.int (24 : Int32)), (.long ((c4.toInt64) &&& (255 : Int64))), (.long ((((((c0.toInt64) &&& (255 : Int64)) <<< ((56 : Int32) &&& 0x3f).toInt64) ||| (((c1.toInt64) &&& (255 : Int64)) <<< ((48 : Int32) &&& 0x3f).toInt64)) ||| (((c2.toInt64) &&& (255 : Int64)) <<< ((40 : Int32) &&& 0x3f).toInt64)) ||| (((c3.toInt64) &&& (255 : Int64)) <<< ((32 : Int32) &&& 0x3f).toInt64)))])) _
    refine XS.lshl X0.here hx rfl (hb hby d3_65) rfl ?_
    show Steps p.tables e below (s₁.setTop (mkF m 66 #[.val (.ref a0), .val (.int (8 : Int32))] [(.long (((c4.toInt64) &&& (255 : Int64)) <<< ((24 : Int32) &&& 0x3f).toInt64)), (.long ((((((c0.toInt64) &&& (255 : Int64)) <<< ((56 : Int32) &&& 0x3f).toInt64) ||| (((c1.toInt64) &&& (255 : Int64)) <<< ((48 : Int32) &&& 0x3f).toInt64)) ||| (((c2.toInt64) &&& (255 : Int64)) <<< ((40 : Int32) &&& 0x3f).toInt64)) ||| (((c3.toInt64) &&& (255 : Int64)) <<< ((32 : Int32) &&& 0x3f).toInt64)))])) _
    refine XS.lor X0.here hx rfl (hb hby d3_66) rfl ?_
    show Steps p.tables e below (s₁.setTop (mkF m 67 #[.val (.ref a0), .val (.int (8 : Int32))] [(.long (((((((c0.toInt64) &&& (255 : Int64)) <<< ((56 : Int32) &&& 0x3f).toInt64) ||| (((c1.toInt64) &&& (255 : Int64)) <<< ((48 : Int32) &&& 0x3f).toInt64)) ||| (((c2.toInt64) &&& (255 : Int64)) <<< ((40 : Int32) &&& 0x3f).toInt64)) ||| (((c3.toInt64) &&& (255 : Int64)) <<< ((32 : Int32) &&& 0x3f).toInt64)) ||| (((c4.toInt64) &&& (255 : Int64)) <<< ((24 : Int32) &&& 0x3f).toInt64)))])) _
    refine XS.aloadN X0.here hx rfl (hb hby d3_67) rfl rfl ?_
    show Steps p.tables e below (s₁.setTop (mkF m 68 #[.val (.ref a0), .val (.int (8 : Int32))] [(.ref a0), (.long (((((((c0.toInt64) &&& (255 : Int64)) <<< ((56 : Int32) &&& 0x3f).toInt64) ||| (((c1.toInt64) &&& (255 : Int64)) <<< ((48 : Int32) &&& 0x3f).toInt64)) ||| (((c2.toInt64) &&& (255 : Int64)) <<< ((40 : Int32) &&& 0x3f).toInt64)) ||| (((c3.toInt64) &&& (255 : Int64)) <<< ((32 : Int32) &&& 0x3f).toInt64)) ||| (((c4.toInt64) &&& (255 : Int64)) <<< ((24 : Int32) &&& 0x3f).toInt64)))])) _
    refine XS.iloadN X0.here hx rfl (hb hby d3_68) rfl ?_
    show Steps p.tables e below (s₁.setTop (mkF m 69 #[.val (.ref a0), .val (.int (8 : Int32))] [(.int (8 : Int32)), (.ref a0), (.long (((((((c0.toInt64) &&& (255 : Int64)) <<< ((56 : Int32) &&& 0x3f).toInt64) ||| (((c1.toInt64) &&& (255 : Int64)) <<< ((48 : Int32) &&& 0x3f).toInt64)) ||| (((c2.toInt64) &&& (255 : Int64)) <<< ((40 : Int32) &&& 0x3f).toInt64)) ||| (((c3.toInt64) &&& (255 : Int64)) <<< ((32 : Int32) &&& 0x3f).toInt64)) ||| (((c4.toInt64) &&& (255 : Int64)) <<< ((24 : Int32) &&& 0x3f).toInt64)))])) _
    refine XS.iconst X0.here hx rfl (hb hby d3_69) ?_
    show Steps p.tables e below (s₁.setTop (mkF m 70 #[.val (.ref a0), .val (.int (8 : Int32))] [(.int (5 : Int32)), (.int (8 : Int32)), (.ref a0), (.long (((((((c0.toInt64) &&& (255 : Int64)) <<< ((56 : Int32) &&& 0x3f).toInt64) ||| (((c1.toInt64) &&& (255 : Int64)) <<< ((48 : Int32) &&& 0x3f).toInt64)) ||| (((c2.toInt64) &&& (255 : Int64)) <<< ((40 : Int32) &&& 0x3f).toInt64)) ||| (((c3.toInt64) &&& (255 : Int64)) <<< ((32 : Int32) &&& 0x3f).toInt64)) ||| (((c4.toInt64) &&& (255 : Int64)) <<< ((24 : Int32) &&& 0x3f).toInt64)))])) _
    refine XS.iadd X0.here hx rfl (hb hby d3_70) rfl ?_
    show Steps p.tables e below (s₁.setTop (mkF m 71 #[.val (.ref a0), .val (.int (8 : Int32))] [(.int (13 : Int32)), (.ref a0), (.long (((((((c0.toInt64) &&& (255 : Int64)) <<< ((56 : Int32) &&& 0x3f).toInt64) ||| (((c1.toInt64) &&& (255 : Int64)) <<< ((48 : Int32) &&& 0x3f).toInt64)) ||| (((c2.toInt64) &&& (255 : Int64)) <<< ((40 : Int32) &&& 0x3f).toInt64)) ||| (((c3.toInt64) &&& (255 : Int64)) <<< ((32 : Int32) &&& 0x3f).toInt64)) ||| (((c4.toInt64) &&& (255 : Int64)) <<< ((24 : Int32) &&& 0x3f).toInt64)))])) _
    have hin106 : ¬ ((13 : Int32) < 0 ∨ cl106.slots.size ≤ ((13 : Int32)).toNatClampNeg) := (inb_of S106 ⟨by decide, by decide⟩)
    refine X0.baloadBytes hx (j := (13 : Int32)) (v := (.int c5)) (by rw [e0]; exact Ar106.1) (State.isArrayOf_alike hZ.alike Ar106.2.1) Ar106.2.2 hin106 (H106.at hin106 hb5) (g := (mkF m 71 #[.val (.ref a0), .val (.int (8 : Int32))] [(.int (13 : Int32)), (.ref a0), (.long (((((((c0.toInt64) &&& (255 : Int64)) <<< ((56 : Int32) &&& 0x3f).toInt64) ||| (((c1.toInt64) &&& (255 : Int64)) <<< ((48 : Int32) &&& 0x3f).toInt64)) ||| (((c2.toInt64) &&& (255 : Int64)) <<< ((40 : Int32) &&& 0x3f).toInt64)) ||| (((c3.toInt64) &&& (255 : Int64)) <<< ((32 : Int32) &&& 0x3f).toInt64)) ||| (((c4.toInt64) &&& (255 : Int64)) <<< ((24 : Int32) &&& 0x3f).toInt64)))])) rfl rfl (hb hby d3_71) _ ?_
    show Steps p.tables e below (s₁.setTop (mkF m 72 #[.val (.ref a0), .val (.int (8 : Int32))] [(.int c5), (.long (((((((c0.toInt64) &&& (255 : Int64)) <<< ((56 : Int32) &&& 0x3f).toInt64) ||| (((c1.toInt64) &&& (255 : Int64)) <<< ((48 : Int32) &&& 0x3f).toInt64)) ||| (((c2.toInt64) &&& (255 : Int64)) <<< ((40 : Int32) &&& 0x3f).toInt64)) ||| (((c3.toInt64) &&& (255 : Int64)) <<< ((32 : Int32) &&& 0x3f).toInt64)) ||| (((c4.toInt64) &&& (255 : Int64)) <<< ((24 : Int32) &&& 0x3f).toInt64)))])) _
    refine XS.i2l X0.here hx rfl (hb hby d3_72) rfl ?_
    show Steps p.tables e below (s₁.setTop (mkF m 73 #[.val (.ref a0), .val (.int (8 : Int32))] [(.long (c5.toInt64)), (.long (((((((c0.toInt64) &&& (255 : Int64)) <<< ((56 : Int32) &&& 0x3f).toInt64) ||| (((c1.toInt64) &&& (255 : Int64)) <<< ((48 : Int32) &&& 0x3f).toInt64)) ||| (((c2.toInt64) &&& (255 : Int64)) <<< ((40 : Int32) &&& 0x3f).toInt64)) ||| (((c3.toInt64) &&& (255 : Int64)) <<< ((32 : Int32) &&& 0x3f).toInt64)) ||| (((c4.toInt64) &&& (255 : Int64)) <<< ((24 : Int32) &&& 0x3f).toInt64)))])) _
    refine X0.ldc2Long hx hown (mvT hZ (hw _ (List.mem_of_getElem? (i := 12) rfl))) (g := (mkF m 73 #[.val (.ref a0), .val (.int (8 : Int32))] [(.long (c5.toInt64)), (.long (((((((c0.toInt64) &&& (255 : Int64)) <<< ((56 : Int32) &&& 0x3f).toInt64) ||| (((c1.toInt64) &&& (255 : Int64)) <<< ((48 : Int32) &&& 0x3f).toInt64)) ||| (((c2.toInt64) &&& (255 : Int64)) <<< ((40 : Int32) &&& 0x3f).toInt64)) ||| (((c3.toInt64) &&& (255 : Int64)) <<< ((32 : Int32) &&& 0x3f).toInt64)) ||| (((c4.toInt64) &&& (255 : Int64)) <<< ((24 : Int32) &&& 0x3f).toInt64)))])) rfl (hb hby d3_73) _ ?_
    show Steps p.tables e below (s₁.setTop (mkF m 76 #[.val (.ref a0), .val (.int (8 : Int32))] [(.long (255 : Int64)), (.long (c5.toInt64)), (.long (((((((c0.toInt64) &&& (255 : Int64)) <<< ((56 : Int32) &&& 0x3f).toInt64) ||| (((c1.toInt64) &&& (255 : Int64)) <<< ((48 : Int32) &&& 0x3f).toInt64)) ||| (((c2.toInt64) &&& (255 : Int64)) <<< ((40 : Int32) &&& 0x3f).toInt64)) ||| (((c3.toInt64) &&& (255 : Int64)) <<< ((32 : Int32) &&& 0x3f).toInt64)) ||| (((c4.toInt64) &&& (255 : Int64)) <<< ((24 : Int32) &&& 0x3f).toInt64)))])) _
    refine XS.land X0.here hx rfl (hb hby d3_76) rfl ?_
    show Steps p.tables e below (s₁.setTop (mkF m 77 #[.val (.ref a0), .val (.int (8 : Int32))] [(.long ((c5.toInt64) &&& (255 : Int64))), (.long (((((((c0.toInt64) &&& (255 : Int64)) <<< ((56 : Int32) &&& 0x3f).toInt64) ||| (((c1.toInt64) &&& (255 : Int64)) <<< ((48 : Int32) &&& 0x3f).toInt64)) ||| (((c2.toInt64) &&& (255 : Int64)) <<< ((40 : Int32) &&& 0x3f).toInt64)) ||| (((c3.toInt64) &&& (255 : Int64)) <<< ((32 : Int32) &&& 0x3f).toInt64)) ||| (((c4.toInt64) &&& (255 : Int64)) <<< ((24 : Int32) &&& 0x3f).toInt64)))])) _
    refine XS.bipush X0.here hx rfl (hb hby d3_77) ?_
    show Steps p.tables e below (s₁.setTop (mkF m 79 #[.val (.ref a0), .val (.int (8 : Int32))] [(.int (16 : Int32)), (.long ((c5.toInt64) &&& (255 : Int64))), (.long (((((((c0.toInt64) &&& (255 : Int64)) <<< ((56 : Int32) &&& 0x3f).toInt64) ||| (((c1.toInt64) &&& (255 : Int64)) <<< ((48 : Int32) &&& 0x3f).toInt64)) ||| (((c2.toInt64) &&& (255 : Int64)) <<< ((40 : Int32) &&& 0x3f).toInt64)) ||| (((c3.toInt64) &&& (255 : Int64)) <<< ((32 : Int32) &&& 0x3f).toInt64)) ||| (((c4.toInt64) &&& (255 : Int64)) <<< ((24 : Int32) &&& 0x3f).toInt64)))])) _
    refine XS.lshl X0.here hx rfl (hb hby d3_79) rfl ?_
    show Steps p.tables e below (s₁.setTop (mkF m 80 #[.val (.ref a0), .val (.int (8 : Int32))] [(.long (((c5.toInt64) &&& (255 : Int64)) <<< ((16 : Int32) &&& 0x3f).toInt64)), (.long (((((((c0.toInt64) &&& (255 : Int64)) <<< ((56 : Int32) &&& 0x3f).toInt64) ||| (((c1.toInt64) &&& (255 : Int64)) <<< ((48 : Int32) &&& 0x3f).toInt64)) ||| (((c2.toInt64) &&& (255 : Int64)) <<< ((40 : Int32) &&& 0x3f).toInt64)) ||| (((c3.toInt64) &&& (255 : Int64)) <<< ((32 : Int32) &&& 0x3f).toInt64)) ||| (((c4.toInt64) &&& (255 : Int64)) <<< ((24 : Int32) &&& 0x3f).toInt64)))])) _
    refine XS.lor X0.here hx rfl (hb hby d3_80) rfl ?_
    show Steps p.tables e below (s₁.setTop (mkF m 81 #[.val (.ref a0), .val (.int (8 : Int32))] [(.long ((((((((c0.toInt64) &&& (255 : Int64)) <<< ((56 : Int32) &&& 0x3f).toInt64) ||| (((c1.toInt64) &&& (255 : Int64)) <<< ((48 : Int32) &&& 0x3f).toInt64)) ||| (((c2.toInt64) &&& (255 : Int64)) <<< ((40 : Int32) &&& 0x3f).toInt64)) ||| (((c3.toInt64) &&& (255 : Int64)) <<< ((32 : Int32) &&& 0x3f).toInt64)) ||| (((c4.toInt64) &&& (255 : Int64)) <<< ((24 : Int32) &&& 0x3f).toInt64)) ||| (((c5.toInt64) &&& (255 : Int64)) <<< ((16 : Int32) &&& 0x3f).toInt64)))])) _
    refine XS.aloadN X0.here hx rfl (hb hby d3_81) rfl rfl ?_
    show Steps p.tables e below (s₁.setTop (mkF m 82 #[.val (.ref a0), .val (.int (8 : Int32))] [(.ref a0), (.long ((((((((c0.toInt64) &&& (255 : Int64)) <<< ((56 : Int32) &&& 0x3f).toInt64) ||| (((c1.toInt64) &&& (255 : Int64)) <<< ((48 : Int32) &&& 0x3f).toInt64)) ||| (((c2.toInt64) &&& (255 : Int64)) <<< ((40 : Int32) &&& 0x3f).toInt64)) ||| (((c3.toInt64) &&& (255 : Int64)) <<< ((32 : Int32) &&& 0x3f).toInt64)) ||| (((c4.toInt64) &&& (255 : Int64)) <<< ((24 : Int32) &&& 0x3f).toInt64)) ||| (((c5.toInt64) &&& (255 : Int64)) <<< ((16 : Int32) &&& 0x3f).toInt64)))])) _
    refine XS.iloadN X0.here hx rfl (hb hby d3_82) rfl ?_
    show Steps p.tables e below (s₁.setTop (mkF m 83 #[.val (.ref a0), .val (.int (8 : Int32))] [(.int (8 : Int32)), (.ref a0), (.long ((((((((c0.toInt64) &&& (255 : Int64)) <<< ((56 : Int32) &&& 0x3f).toInt64) ||| (((c1.toInt64) &&& (255 : Int64)) <<< ((48 : Int32) &&& 0x3f).toInt64)) ||| (((c2.toInt64) &&& (255 : Int64)) <<< ((40 : Int32) &&& 0x3f).toInt64)) ||| (((c3.toInt64) &&& (255 : Int64)) <<< ((32 : Int32) &&& 0x3f).toInt64)) ||| (((c4.toInt64) &&& (255 : Int64)) <<< ((24 : Int32) &&& 0x3f).toInt64)) ||| (((c5.toInt64) &&& (255 : Int64)) <<< ((16 : Int32) &&& 0x3f).toInt64)))])) _
    refine XS.bipush X0.here hx rfl (hb hby d3_83) ?_
    show Steps p.tables e below (s₁.setTop (mkF m 85 #[.val (.ref a0), .val (.int (8 : Int32))] [(.int (6 : Int32)), (.int (8 : Int32)), (.ref a0), (.long ((((((((c0.toInt64) &&& (255 : Int64)) <<< ((56 : Int32) &&& 0x3f).toInt64) ||| (((c1.toInt64) &&& (255 : Int64)) <<< ((48 : Int32) &&& 0x3f).toInt64)) ||| (((c2.toInt64) &&& (255 : Int64)) <<< ((40 : Int32) &&& 0x3f).toInt64)) ||| (((c3.toInt64) &&& (255 : Int64)) <<< ((32 : Int32) &&& 0x3f).toInt64)) ||| (((c4.toInt64) &&& (255 : Int64)) <<< ((24 : Int32) &&& 0x3f).toInt64)) ||| (((c5.toInt64) &&& (255 : Int64)) <<< ((16 : Int32) &&& 0x3f).toInt64)))])) _
    refine XS.iadd X0.here hx rfl (hb hby d3_85) rfl ?_
    show Steps p.tables e below (s₁.setTop (mkF m 86 #[.val (.ref a0), .val (.int (8 : Int32))] [(.int (14 : Int32)), (.ref a0), (.long ((((((((c0.toInt64) &&& (255 : Int64)) <<< ((56 : Int32) &&& 0x3f).toInt64) ||| (((c1.toInt64) &&& (255 : Int64)) <<< ((48 : Int32) &&& 0x3f).toInt64)) ||| (((c2.toInt64) &&& (255 : Int64)) <<< ((40 : Int32) &&& 0x3f).toInt64)) ||| (((c3.toInt64) &&& (255 : Int64)) <<< ((32 : Int32) &&& 0x3f).toInt64)) ||| (((c4.toInt64) &&& (255 : Int64)) <<< ((24 : Int32) &&& 0x3f).toInt64)) ||| (((c5.toInt64) &&& (255 : Int64)) <<< ((16 : Int32) &&& 0x3f).toInt64)))])) _
    have hin107 : ¬ ((14 : Int32) < 0 ∨ cl107.slots.size ≤ ((14 : Int32)).toNatClampNeg) := (inb_of S107 ⟨by decide, by decide⟩)
    refine X0.baloadBytes hx (j := (14 : Int32)) (v := (.int c6)) (by rw [e0]; exact Ar107.1) (State.isArrayOf_alike hZ.alike Ar107.2.1) Ar107.2.2 hin107 (H107.at hin107 hb6) (g := (mkF m 86 #[.val (.ref a0), .val (.int (8 : Int32))] [(.int (14 : Int32)), (.ref a0), (.long ((((((((c0.toInt64) &&& (255 : Int64)) <<< ((56 : Int32) &&& 0x3f).toInt64) ||| (((c1.toInt64) &&& (255 : Int64)) <<< ((48 : Int32) &&& 0x3f).toInt64)) ||| (((c2.toInt64) &&& (255 : Int64)) <<< ((40 : Int32) &&& 0x3f).toInt64)) ||| (((c3.toInt64) &&& (255 : Int64)) <<< ((32 : Int32) &&& 0x3f).toInt64)) ||| (((c4.toInt64) &&& (255 : Int64)) <<< ((24 : Int32) &&& 0x3f).toInt64)) ||| (((c5.toInt64) &&& (255 : Int64)) <<< ((16 : Int32) &&& 0x3f).toInt64)))])) rfl rfl (hb hby d3_86) _ ?_
    show Steps p.tables e below (s₁.setTop (mkF m 87 #[.val (.ref a0), .val (.int (8 : Int32))] [(.int c6), (.long ((((((((c0.toInt64) &&& (255 : Int64)) <<< ((56 : Int32) &&& 0x3f).toInt64) ||| (((c1.toInt64) &&& (255 : Int64)) <<< ((48 : Int32) &&& 0x3f).toInt64)) ||| (((c2.toInt64) &&& (255 : Int64)) <<< ((40 : Int32) &&& 0x3f).toInt64)) ||| (((c3.toInt64) &&& (255 : Int64)) <<< ((32 : Int32) &&& 0x3f).toInt64)) ||| (((c4.toInt64) &&& (255 : Int64)) <<< ((24 : Int32) &&& 0x3f).toInt64)) ||| (((c5.toInt64) &&& (255 : Int64)) <<< ((16 : Int32) &&& 0x3f).toInt64)))])) _
    refine XS.i2l X0.here hx rfl (hb hby d3_87) rfl ?_
    show Steps p.tables e below (s₁.setTop (mkF m 88 #[.val (.ref a0), .val (.int (8 : Int32))] [(.long (c6.toInt64)), (.long ((((((((c0.toInt64) &&& (255 : Int64)) <<< ((56 : Int32) &&& 0x3f).toInt64) ||| (((c1.toInt64) &&& (255 : Int64)) <<< ((48 : Int32) &&& 0x3f).toInt64)) ||| (((c2.toInt64) &&& (255 : Int64)) <<< ((40 : Int32) &&& 0x3f).toInt64)) ||| (((c3.toInt64) &&& (255 : Int64)) <<< ((32 : Int32) &&& 0x3f).toInt64)) ||| (((c4.toInt64) &&& (255 : Int64)) <<< ((24 : Int32) &&& 0x3f).toInt64)) ||| (((c5.toInt64) &&& (255 : Int64)) <<< ((16 : Int32) &&& 0x3f).toInt64)))])) _
    refine X0.ldc2Long hx hown (mvT hZ (hw _ (List.mem_of_getElem? (i := 12) rfl))) (g := (mkF m 88 #[.val (.ref a0), .val (.int (8 : Int32))] [(.long (c6.toInt64)), (.long ((((((((c0.toInt64) &&& (255 : Int64)) <<< ((56 : Int32) &&& 0x3f).toInt64) ||| (((c1.toInt64) &&& (255 : Int64)) <<< ((48 : Int32) &&& 0x3f).toInt64)) ||| (((c2.toInt64) &&& (255 : Int64)) <<< ((40 : Int32) &&& 0x3f).toInt64)) ||| (((c3.toInt64) &&& (255 : Int64)) <<< ((32 : Int32) &&& 0x3f).toInt64)) ||| (((c4.toInt64) &&& (255 : Int64)) <<< ((24 : Int32) &&& 0x3f).toInt64)) ||| (((c5.toInt64) &&& (255 : Int64)) <<< ((16 : Int32) &&& 0x3f).toInt64)))])) rfl (hb hby d3_88) _ ?_
    show Steps p.tables e below (s₁.setTop (mkF m 91 #[.val (.ref a0), .val (.int (8 : Int32))] [(.long (255 : Int64)), (.long (c6.toInt64)), (.long ((((((((c0.toInt64) &&& (255 : Int64)) <<< ((56 : Int32) &&& 0x3f).toInt64) ||| (((c1.toInt64) &&& (255 : Int64)) <<< ((48 : Int32) &&& 0x3f).toInt64)) ||| (((c2.toInt64) &&& (255 : Int64)) <<< ((40 : Int32) &&& 0x3f).toInt64)) ||| (((c3.toInt64) &&& (255 : Int64)) <<< ((32 : Int32) &&& 0x3f).toInt64)) ||| (((c4.toInt64) &&& (255 : Int64)) <<< ((24 : Int32) &&& 0x3f).toInt64)) ||| (((c5.toInt64) &&& (255 : Int64)) <<< ((16 : Int32) &&& 0x3f).toInt64)))])) _
    refine XS.land X0.here hx rfl (hb hby d3_91) rfl ?_
    show Steps p.tables e below (s₁.setTop (mkF m 92 #[.val (.ref a0), .val (.int (8 : Int32))] [(.long ((c6.toInt64) &&& (255 : Int64))), (.long ((((((((c0.toInt64) &&& (255 : Int64)) <<< ((56 : Int32) &&& 0x3f).toInt64) ||| (((c1.toInt64) &&& (255 : Int64)) <<< ((48 : Int32) &&& 0x3f).toInt64)) ||| (((c2.toInt64) &&& (255 : Int64)) <<< ((40 : Int32) &&& 0x3f).toInt64)) ||| (((c3.toInt64) &&& (255 : Int64)) <<< ((32 : Int32) &&& 0x3f).toInt64)) ||| (((c4.toInt64) &&& (255 : Int64)) <<< ((24 : Int32) &&& 0x3f).toInt64)) ||| (((c5.toInt64) &&& (255 : Int64)) <<< ((16 : Int32) &&& 0x3f).toInt64)))])) _
    refine XS.bipush X0.here hx rfl (hb hby d3_92) ?_
    show Steps p.tables e below (s₁.setTop (mkF m 94 #[.val (.ref a0), .val (.int (8 : Int32))] [(.int (8 : Int32)), (.long ((c6.toInt64) &&& (255 : Int64))), (.long ((((((((c0.toInt64) &&& (255 : Int64)) <<< ((56 : Int32) &&& 0x3f).toInt64) ||| (((c1.toInt64) &&& (255 : Int64)) <<< ((48 : Int32) &&& 0x3f).toInt64)) ||| (((c2.toInt64) &&& (255 : Int64)) <<< ((40 : Int32) &&& 0x3f).toInt64)) ||| (((c3.toInt64) &&& (255 : Int64)) <<< ((32 : Int32) &&& 0x3f).toInt64)) ||| (((c4.toInt64) &&& (255 : Int64)) <<< ((24 : Int32) &&& 0x3f).toInt64)) ||| (((c5.toInt64) &&& (255 : Int64)) <<< ((16 : Int32) &&& 0x3f).toInt64)))])) _
    refine XS.lshl X0.here hx rfl (hb hby d3_94) rfl ?_
    show Steps p.tables e below (s₁.setTop (mkF m 95 #[.val (.ref a0), .val (.int (8 : Int32))] [(.long (((c6.toInt64) &&& (255 : Int64)) <<< ((8 : Int32) &&& 0x3f).toInt64)), (.long ((((((((c0.toInt64) &&& (255 : Int64)) <<< ((56 : Int32) &&& 0x3f).toInt64) ||| (((c1.toInt64) &&& (255 : Int64)) <<< ((48 : Int32) &&& 0x3f).toInt64)) ||| (((c2.toInt64) &&& (255 : Int64)) <<< ((40 : Int32) &&& 0x3f).toInt64)) ||| (((c3.toInt64) &&& (255 : Int64)) <<< ((32 : Int32) &&& 0x3f).toInt64)) ||| (((c4.toInt64) &&& (255 : Int64)) <<< ((24 : Int32) &&& 0x3f).toInt64)) ||| (((c5.toInt64) &&& (255 : Int64)) <<< ((16 : Int32) &&& 0x3f).toInt64)))])) _
    refine XS.lor X0.here hx rfl (hb hby d3_95) rfl ?_
    show Steps p.tables e below (s₁.setTop (mkF m 96 #[.val (.ref a0), .val (.int (8 : Int32))] [(.long (((((((((c0.toInt64) &&& (255 : Int64)) <<< ((56 : Int32) &&& 0x3f).toInt64) ||| (((c1.toInt64) &&& (255 : Int64)) <<< ((48 : Int32) &&& 0x3f).toInt64)) ||| (((c2.toInt64) &&& (255 : Int64)) <<< ((40 : Int32) &&& 0x3f).toInt64)) ||| (((c3.toInt64) &&& (255 : Int64)) <<< ((32 : Int32) &&& 0x3f).toInt64)) ||| (((c4.toInt64) &&& (255 : Int64)) <<< ((24 : Int32) &&& 0x3f).toInt64)) ||| (((c5.toInt64) &&& (255 : Int64)) <<< ((16 : Int32) &&& 0x3f).toInt64)) ||| (((c6.toInt64) &&& (255 : Int64)) <<< ((8 : Int32) &&& 0x3f).toInt64)))])) _
    refine XS.aloadN X0.here hx rfl (hb hby d3_96) rfl rfl ?_
    show Steps p.tables e below (s₁.setTop (mkF m 97 #[.val (.ref a0), .val (.int (8 : Int32))] [(.ref a0), (.long (((((((((c0.toInt64) &&& (255 : Int64)) <<< ((56 : Int32) &&& 0x3f).toInt64) ||| (((c1.toInt64) &&& (255 : Int64)) <<< ((48 : Int32) &&& 0x3f).toInt64)) ||| (((c2.toInt64) &&& (255 : Int64)) <<< ((40 : Int32) &&& 0x3f).toInt64)) ||| (((c3.toInt64) &&& (255 : Int64)) <<< ((32 : Int32) &&& 0x3f).toInt64)) ||| (((c4.toInt64) &&& (255 : Int64)) <<< ((24 : Int32) &&& 0x3f).toInt64)) ||| (((c5.toInt64) &&& (255 : Int64)) <<< ((16 : Int32) &&& 0x3f).toInt64)) ||| (((c6.toInt64) &&& (255 : Int64)) <<< ((8 : Int32) &&& 0x3f).toInt64)))])) _
    refine XS.iloadN X0.here hx rfl (hb hby d3_97) rfl ?_
    show Steps p.tables e below (s₁.setTop (mkF m 98 #[.val (.ref a0), .val (.int (8 : Int32))] [(.int (8 : Int32)), (.ref a0), (.long (((((((((c0.toInt64) &&& (255 : Int64)) <<< ((56 : Int32) &&& 0x3f).toInt64) ||| (((c1.toInt64) &&& (255 : Int64)) <<< ((48 : Int32) &&& 0x3f).toInt64)) ||| (((c2.toInt64) &&& (255 : Int64)) <<< ((40 : Int32) &&& 0x3f).toInt64)) ||| (((c3.toInt64) &&& (255 : Int64)) <<< ((32 : Int32) &&& 0x3f).toInt64)) ||| (((c4.toInt64) &&& (255 : Int64)) <<< ((24 : Int32) &&& 0x3f).toInt64)) ||| (((c5.toInt64) &&& (255 : Int64)) <<< ((16 : Int32) &&& 0x3f).toInt64)) ||| (((c6.toInt64) &&& (255 : Int64)) <<< ((8 : Int32) &&& 0x3f).toInt64)))])) _
    refine XS.bipush X0.here hx rfl (hb hby d3_98) ?_
    show Steps p.tables e below (s₁.setTop (mkF m 100 #[.val (.ref a0), .val (.int (8 : Int32))] [(.int (7 : Int32)), (.int (8 : Int32)), (.ref a0), (.long (((((((((c0.toInt64) &&& (255 : Int64)) <<< ((56 : Int32) &&& 0x3f).toInt64) ||| (((c1.toInt64) &&& (255 : Int64)) <<< ((48 : Int32) &&& 0x3f).toInt64)) ||| (((c2.toInt64) &&& (255 : Int64)) <<< ((40 : Int32) &&& 0x3f).toInt64)) ||| (((c3.toInt64) &&& (255 : Int64)) <<< ((32 : Int32) &&& 0x3f).toInt64)) ||| (((c4.toInt64) &&& (255 : Int64)) <<< ((24 : Int32) &&& 0x3f).toInt64)) ||| (((c5.toInt64) &&& (255 : Int64)) <<< ((16 : Int32) &&& 0x3f).toInt64)) ||| (((c6.toInt64) &&& (255 : Int64)) <<< ((8 : Int32) &&& 0x3f).toInt64)))])) _
    refine XS.iadd X0.here hx rfl (hb hby d3_100) rfl ?_
    show Steps p.tables e below (s₁.setTop (mkF m 101 #[.val (.ref a0), .val (.int (8 : Int32))] [(.int (15 : Int32)), (.ref a0), (.long (((((((((c0.toInt64) &&& (255 : Int64)) <<< ((56 : Int32) &&& 0x3f).toInt64) ||| (((c1.toInt64) &&& (255 : Int64)) <<< ((48 : Int32) &&& 0x3f).toInt64)) ||| (((c2.toInt64) &&& (255 : Int64)) <<< ((40 : Int32) &&& 0x3f).toInt64)) ||| (((c3.toInt64) &&& (255 : Int64)) <<< ((32 : Int32) &&& 0x3f).toInt64)) ||| (((c4.toInt64) &&& (255 : Int64)) <<< ((24 : Int32) &&& 0x3f).toInt64)) ||| (((c5.toInt64) &&& (255 : Int64)) <<< ((16 : Int32) &&& 0x3f).toInt64)) ||| (((c6.toInt64) &&& (255 : Int64)) <<< ((8 : Int32) &&& 0x3f).toInt64)))])) _
    have hin108 : ¬ ((15 : Int32) < 0 ∨ cl108.slots.size ≤ ((15 : Int32)).toNatClampNeg) := (inb_of S108 ⟨by decide, by decide⟩)
    refine X0.baloadBytes hx (j := (15 : Int32)) (v := (.int c7)) (by rw [e0]; exact Ar108.1) (State.isArrayOf_alike hZ.alike Ar108.2.1) Ar108.2.2 hin108 (H108.at hin108 hb7) (g := (mkF m 101 #[.val (.ref a0), .val (.int (8 : Int32))] [(.int (15 : Int32)), (.ref a0), (.long (((((((((c0.toInt64) &&& (255 : Int64)) <<< ((56 : Int32) &&& 0x3f).toInt64) ||| (((c1.toInt64) &&& (255 : Int64)) <<< ((48 : Int32) &&& 0x3f).toInt64)) ||| (((c2.toInt64) &&& (255 : Int64)) <<< ((40 : Int32) &&& 0x3f).toInt64)) ||| (((c3.toInt64) &&& (255 : Int64)) <<< ((32 : Int32) &&& 0x3f).toInt64)) ||| (((c4.toInt64) &&& (255 : Int64)) <<< ((24 : Int32) &&& 0x3f).toInt64)) ||| (((c5.toInt64) &&& (255 : Int64)) <<< ((16 : Int32) &&& 0x3f).toInt64)) ||| (((c6.toInt64) &&& (255 : Int64)) <<< ((8 : Int32) &&& 0x3f).toInt64)))])) rfl rfl (hb hby d3_101) _ ?_
    show Steps p.tables e below (s₁.setTop (mkF m 102 #[.val (.ref a0), .val (.int (8 : Int32))] [(.int c7), (.long (((((((((c0.toInt64) &&& (255 : Int64)) <<< ((56 : Int32) &&& 0x3f).toInt64) ||| (((c1.toInt64) &&& (255 : Int64)) <<< ((48 : Int32) &&& 0x3f).toInt64)) ||| (((c2.toInt64) &&& (255 : Int64)) <<< ((40 : Int32) &&& 0x3f).toInt64)) ||| (((c3.toInt64) &&& (255 : Int64)) <<< ((32 : Int32) &&& 0x3f).toInt64)) ||| (((c4.toInt64) &&& (255 : Int64)) <<< ((24 : Int32) &&& 0x3f).toInt64)) ||| (((c5.toInt64) &&& (255 : Int64)) <<< ((16 : Int32) &&& 0x3f).toInt64)) ||| (((c6.toInt64) &&& (255 : Int64)) <<< ((8 : Int32) &&& 0x3f).toInt64)))])) _
    refine XS.i2l X0.here hx rfl (hb hby d3_102) rfl ?_
    show Steps p.tables e below (s₁.setTop (mkF m 103 #[.val (.ref a0), .val (.int (8 : Int32))] [(.long (c7.toInt64)), (.long (((((((((c0.toInt64) &&& (255 : Int64)) <<< ((56 : Int32) &&& 0x3f).toInt64) ||| (((c1.toInt64) &&& (255 : Int64)) <<< ((48 : Int32) &&& 0x3f).toInt64)) ||| (((c2.toInt64) &&& (255 : Int64)) <<< ((40 : Int32) &&& 0x3f).toInt64)) ||| (((c3.toInt64) &&& (255 : Int64)) <<< ((32 : Int32) &&& 0x3f).toInt64)) ||| (((c4.toInt64) &&& (255 : Int64)) <<< ((24 : Int32) &&& 0x3f).toInt64)) ||| (((c5.toInt64) &&& (255 : Int64)) <<< ((16 : Int32) &&& 0x3f).toInt64)) ||| (((c6.toInt64) &&& (255 : Int64)) <<< ((8 : Int32) &&& 0x3f).toInt64)))])) _
    refine X0.ldc2Long hx hown (mvT hZ (hw _ (List.mem_of_getElem? (i := 12) rfl))) (g := (mkF m 103 #[.val (.ref a0), .val (.int (8 : Int32))] [(.long (c7.toInt64)), (.long (((((((((c0.toInt64) &&& (255 : Int64)) <<< ((56 : Int32) &&& 0x3f).toInt64) ||| (((c1.toInt64) &&& (255 : Int64)) <<< ((48 : Int32) &&& 0x3f).toInt64)) ||| (((c2.toInt64) &&& (255 : Int64)) <<< ((40 : Int32) &&& 0x3f).toInt64)) ||| (((c3.toInt64) &&& (255 : Int64)) <<< ((32 : Int32) &&& 0x3f).toInt64)) ||| (((c4.toInt64) &&& (255 : Int64)) <<< ((24 : Int32) &&& 0x3f).toInt64)) ||| (((c5.toInt64) &&& (255 : Int64)) <<< ((16 : Int32) &&& 0x3f).toInt64)) ||| (((c6.toInt64) &&& (255 : Int64)) <<< ((8 : Int32) &&& 0x3f).toInt64)))])) rfl (hb hby d3_103) _ ?_
    show Steps p.tables e below (s₁.setTop (mkF m 106 #[.val (.ref a0), .val (.int (8 : Int32))] [(.long (255 : Int64)), (.long (c7.toInt64)), (.long (((((((((c0.toInt64) &&& (255 : Int64)) <<< ((56 : Int32) &&& 0x3f).toInt64) ||| (((c1.toInt64) &&& (255 : Int64)) <<< ((48 : Int32) &&& 0x3f).toInt64)) ||| (((c2.toInt64) &&& (255 : Int64)) <<< ((40 : Int32) &&& 0x3f).toInt64)) ||| (((c3.toInt64) &&& (255 : Int64)) <<< ((32 : Int32) &&& 0x3f).toInt64)) ||| (((c4.toInt64) &&& (255 : Int64)) <<< ((24 : Int32) &&& 0x3f).toInt64)) ||| (((c5.toInt64) &&& (255 : Int64)) <<< ((16 : Int32) &&& 0x3f).toInt64)) ||| (((c6.toInt64) &&& (255 : Int64)) <<< ((8 : Int32) &&& 0x3f).toInt64)))])) _
    refine XS.land X0.here hx rfl (hb hby d3_106) rfl ?_
    show Steps p.tables e below (s₁.setTop (mkF m 107 #[.val (.ref a0), .val (.int (8 : Int32))] [(.long ((c7.toInt64) &&& (255 : Int64))), (.long (((((((((c0.toInt64) &&& (255 : Int64)) <<< ((56 : Int32) &&& 0x3f).toInt64) ||| (((c1.toInt64) &&& (255 : Int64)) <<< ((48 : Int32) &&& 0x3f).toInt64)) ||| (((c2.toInt64) &&& (255 : Int64)) <<< ((40 : Int32) &&& 0x3f).toInt64)) ||| (((c3.toInt64) &&& (255 : Int64)) <<< ((32 : Int32) &&& 0x3f).toInt64)) ||| (((c4.toInt64) &&& (255 : Int64)) <<< ((24 : Int32) &&& 0x3f).toInt64)) ||| (((c5.toInt64) &&& (255 : Int64)) <<< ((16 : Int32) &&& 0x3f).toInt64)) ||| (((c6.toInt64) &&& (255 : Int64)) <<< ((8 : Int32) &&& 0x3f).toInt64)))])) _
    refine XS.lor X0.here hx rfl (hb hby d3_107) rfl ?_
    show Steps p.tables e below (s₁.setTop (mkF m 108 #[.val (.ref a0), .val (.int (8 : Int32))] [(.long ((((((((((c0.toInt64) &&& (255 : Int64)) <<< ((56 : Int32) &&& 0x3f).toInt64) ||| (((c1.toInt64) &&& (255 : Int64)) <<< ((48 : Int32) &&& 0x3f).toInt64)) ||| (((c2.toInt64) &&& (255 : Int64)) <<< ((40 : Int32) &&& 0x3f).toInt64)) ||| (((c3.toInt64) &&& (255 : Int64)) <<< ((32 : Int32) &&& 0x3f).toInt64)) ||| (((c4.toInt64) &&& (255 : Int64)) <<< ((24 : Int32) &&& 0x3f).toInt64)) ||| (((c5.toInt64) &&& (255 : Int64)) <<< ((16 : Int32) &&& 0x3f).toInt64)) ||| (((c6.toInt64) &&& (255 : Int64)) <<< ((8 : Int32) &&& 0x3f).toInt64)) ||| ((c7.toInt64) &&& (255 : Int64))))])) _
    exact retOut X0 hx (t := .long) Bd.returns rfl (Or.inr (Or.inl ⟨rfl, rfl, _, rfl⟩)) (hb hby d3_108) hr
  · show Q_rmg16_8 Z a0 kk vs c0 c1 c2 c3 c4 c5 c6 c7 h0 n0 _ s₁.heap _
    rw [e0]
    exact ⟨rfl, N0, rfl⟩
theorem d2_0 : decode prog_20_method_10_code 0 = .ok (.aload_n 0, 1) := by decide +kernel
theorem d2_1 : decode prog_20_method_10_code 1 = .ok (.arraylength, 1) := by decide +kernel
theorem d2_2 : decode prog_20_method_10_code 2 = .ok (.bipush 32, 2) := by decide +kernel
theorem d2_4 : decode prog_20_method_10_code 4 = .ok (.if_icmp .eq 18, 3) := by decide +kernel
theorem d2_22 : decode prog_20_method_10_code 22 = .ok (.bipush 16, 2) := by decide +kernel
theorem d2_24 : decode prog_20_method_10_code 24 = .ok (.newarray .byte, 2) := by decide +kernel
theorem d2_26 : decode prog_20_method_10_code 26 = .ok (.astore_n 1, 1) := by decide +kernel
theorem d2_27 : decode prog_20_method_10_code 27 = .ok (.iconst 0, 1) := by decide +kernel
theorem d2_28 : decode prog_20_method_10_code 28 = .ok (.istore_n 2, 1) := by decide +kernel
theorem d2_29 : decode prog_20_method_10_code 29 = .ok (.iload_n 2, 1) := by decide +kernel
theorem d2_30 : decode prog_20_method_10_code 30 = .ok (.aload_n 1, 1) := by decide +kernel
theorem d2_31 : decode prog_20_method_10_code 31 = .ok (.arraylength, 1) := by decide +kernel
theorem d2_32 : decode prog_20_method_10_code 32 = .ok (.if_icmp .ge 23, 3) := by decide +kernel
theorem d2_35 : decode prog_20_method_10_code 35 = .ok (.aload_n 1, 1) := by decide +kernel
theorem d2_36 : decode prog_20_method_10_code 36 = .ok (.iload_n 2, 1) := by decide +kernel
theorem d2_37 : decode prog_20_method_10_code 37 = .ok (.aload_n 0, 1) := by decide +kernel
theorem d2_38 : decode prog_20_method_10_code 38 = .ok (.iload_n 2, 1) := by decide +kernel
theorem d2_39 : decode prog_20_method_10_code 39 = .ok (.baload, 1) := by decide +kernel
theorem d2_40 : decode prog_20_method_10_code 40 = .ok (.aload_n 0, 1) := by decide +kernel
theorem d2_41 : decode prog_20_method_10_code 41 = .ok (.iload_n 2, 1) := by decide +kernel
theorem d2_42 : decode prog_20_method_10_code 42 = .ok (.bipush 16, 2) := by decide +kernel
theorem d2_44 : decode prog_20_method_10_code 44 = .ok (.iadd, 1) := by decide +kernel
theorem d2_45 : decode prog_20_method_10_code 45 = .ok (.baload, 1) := by decide +kernel
theorem d2_46 : decode prog_20_method_10_code 46 = .ok (.ixor, 1) := by decide +kernel
theorem d2_47 : decode prog_20_method_10_code 47 = .ok (.i2b, 1) := by decide +kernel
theorem d2_48 : decode prog_20_method_10_code 48 = .ok (.bastore, 1) := by decide +kernel
theorem d2_49 : decode prog_20_method_10_code 49 = .ok (.iinc 2 1, 3) := by decide +kernel
theorem d2_52 : decode prog_20_method_10_code 52 = .ok (.goto (-23), 3) := by decide +kernel
theorem d2_55 : decode prog_20_method_10_code 55 = .ok (.aload_n 1, 1) := by decide +kernel
theorem d2_56 : decode prog_20_method_10_code 56 = .ok (.areturn, 1) := by decide +kernel
theorem ef_rm2 (m : MethodId) (x0 : Addr) : entryFrame m #[(.ref x0)] 3 = mkF m 0 #[.val (.ref x0), .unset, .unset] [] := by first | (simp [entryFrame, mkF, argsToLocals, Value.category]; done) | rfl
theorem pn_1 : plainName "com/example/countersign/countersign/protocol/Primitives" = true := by first | (simp [plainName, overriddenIn]; done) | decide +kernel
def Q2 (Z : State) (a0 : Addr) (kk : ClassId) (c0 : Int32) (c1 : Int32) (c2 : Int32) (c3 : Int32) (c4 : Int32) (c5 : Int32) (c6 : Int32) (c7 : Int32) (c8 : Int32) (c9 : Int32) (c10 : Int32) (c11 : Int32) (c12 : Int32) (c13 : Int32) (c14 : Int32) (c15 : Int32) (c16 : Int32) (c17 : Int32) (c18 : Int32) (c19 : Int32) (c20 : Int32) (c21 : Int32) (c22 : Int32) (c23 : Int32) (c24 : Int32) (c25 : Int32) (c26 : Int32) (c27 : Int32) (c28 : Int32) (c29 : Int32) (c30 : Int32) (c31 : Int32) (h0 : Heap) (n0 : Nat) (v : Option Value) (h : Heap) (L : List Loc) : Prop := ∃ b k, v = some (.ref b) ∧ Fr n0 L ∧ Keep h0 h [] ∧ h0.size ≤ b ∧ Arv Z h b k .byte (16 : Int32) [(.int (nar .byte ((c0 ^^^ c16).toInt8.toInt32))), (.int (nar .byte ((c1 ^^^ c17).toInt8.toInt32))), (.int (nar .byte ((c2 ^^^ c18).toInt8.toInt32))), (.int (nar .byte ((c3 ^^^ c19).toInt8.toInt32))), (.int (nar .byte ((c4 ^^^ c20).toInt8.toInt32))), (.int (nar .byte ((c5 ^^^ c21).toInt8.toInt32))), (.int (nar .byte ((c6 ^^^ c22).toInt8.toInt32))), (.int (nar .byte ((c7 ^^^ c23).toInt8.toInt32))), (.int (nar .byte ((c8 ^^^ c24).toInt8.toInt32))), (.int (nar .byte ((c9 ^^^ c25).toInt8.toInt32))), (.int (nar .byte ((c10 ^^^ c26).toInt8.toInt32))), (.int (nar .byte ((c11 ^^^ c27).toInt8.toInt32))), (.int (nar .byte ((c12 ^^^ c28).toInt8.toInt32))), (.int (nar .byte ((c13 ^^^ c29).toInt8.toInt32))), (.int (nar .byte ((c14 ^^^ c30).toInt8.toInt32))), (.int (nar .byte ((c15 ^^^ c31).toInt8.toInt32)))] (.int (0 : Int32))
set_option maxRecDepth 65536 in
set_option maxHeartbeats 40000000 in
theorem rm2 (l : Launch) (Z : State) (aw : Array Value) (hw : ∀ d ∈ tables_1, d.before aw Z = true) (ws : List Jvm.Cond) (a0 : Addr) (kk : ClassId) (c0 : Int32) (c1 : Int32) (c2 : Int32) (c3 : Int32) (c4 : Int32) (c5 : Int32) (c6 : Int32) (c7 : Int32) (c8 : Int32) (c9 : Int32) (c10 : Int32) (c11 : Int32) (c12 : Int32) (c13 : Int32) (c14 : Int32) (c15 : Int32) (c16 : Int32) (c17 : Int32) (c18 : Int32) (c19 : Int32) (c20 : Int32) (c21 : Int32) (c22 : Int32) (c23 : Int32) (c24 : Int32) (c25 : Int32) (c26 : Int32) (c27 : Int32) (c28 : Int32) (c29 : Int32) (c30 : Int32) (c31 : Int32) (h0 : Heap) (n0 : Nat) (Z0 : n0 ≤ h0.size) (V0 : Arv Z h0 a0 kk .byte (32 : Int32) [(.int c0), (.int c1), (.int c2), (.int c3), (.int c4), (.int c5), (.int c6), (.int c7), (.int c8), (.int c9), (.int c10), (.int c11), (.int c12), (.int c13), (.int c14), (.int c15), (.int c16), (.int c17), (.int c18), (.int c19), (.int c20), (.int c21), (.int c22), (.int c23), (.int c24), (.int c25), (.int c26), (.int c27), (.int c28), (.int c29), (.int c30), (.int c31)] (.int (0 : Int32))) :
    MetFree l (⟨"com/example/countersign/countersign/protocol/Primitives", "fold", "([B)[B"⟩ : MethodName) (head1 (Jvm.Cond.code (⟨"com/example/countersign/countersign/protocol/Primitives", "fold", "([B)[B"⟩ : MethodName) prog_20_method_10_code 3 (some (.array .byte)) :: ws) ({ frames := 0, cells := 1, slots := 16, locals := 0 } : Room)) (fun a U => a = #[(.ref a0)] ∧ Z.Warmed39 U.vm ∧ U.heap = h0) (fun _ _ _ _ _ => True) (fun _ U oc U' => ∃ v L, oc = .returned v ∧ Q2 Z a0 kk c0 c1 c2 c3 c4 c5 c6 c7 c8 c9 c10 c11 c12 c13 c14 c15 c16 c17 c18 c19 c20 c21 c22 c23 c24 c25 c26 c27 c28 c29 c30 c31 h0 n0 v U'.heap L ∧ FrameEnd U oc U' L ({ frames := 0, cells := 1, slots := 16, locals := 0 } : Room).cells ({ frames := 0, cells := 1, slots := 16, locals := 0 } : Room).slots) := by
  refine MetFree.of_bodySF (plainFor_of_name pn_1) hisR ?_
  intro p e s m args below meth c s₁ Bd hml0 hP hK
  obtain ⟨rfl, hZ, hh⟩ := hP
  have hx := Bd.exec
  have hby := Bd.bytes
  have hml : c.maxLocals = 3 := hml0
  have hown : s.vm.findClass "com/example/countersign/countersign/protocol/Primitives" = some m.cls := findClass_of_methodNamed Bd.named
  have hnm := (name_of_methodNamed Bd.named Bd.method).1
  have X0 : Stand p l e ({ frames := 0, cells := 1, slots := 16, locals := 0 } : Room) s m #[(.ref a0)] below meth c s₁ [] 0 0 := Stand.of_body Bd
  have e0 : s₁.heap = h0 := by rw [← hh, Bd.state]; rfl
  have N0 := Fr.nil n0
  have pre0 : ∀ t, Steps p.tables e below (s₁.setTop (mkF m 0 #[.val (.ref a0), .unset, .unset] [])) t → Steps p.tables e below (s₁.setTop (entryFrame m #[(.ref a0)] 3)) t := fun t k => castTop (ef_rm2 m a0) k
  obtain ⟨cl101, Ar101, q101, S101, M101, H101, G101⟩ := id V0
  obtain ⟨T102, h102, k102, X102, e102, E102, A102, st102⟩ := newP X0 hx hZ (hw _ (List.mem_of_getElem? (i := 0) rfl)) e0 (g := (mkF m 24 #[.val (.ref a0), .unset, .unset] [(.int (16 : Int32))])) rfl (hb hby d2_24) rfl (by decide) (cap := 16) (by decide) (by decide) (by decide) (by decide)
  obtain ⟨b102, g102⟩ : ∃ z, z = h0.size := ⟨_, rfl⟩
  rw [← g102] at A102 st102
  have ne103 : a0 ≠ b102 := Nat.ne_of_lt (Nat.lt_of_lt_of_le V0.lt (Nat.le_of_eq g102.symm))
  have ge102 : n0 ≤ b102 := Nat.le_trans Z0 (Nat.le_of_eq g102.symm)
  have sz102 : h0.size ≤ b102 := Nat.le_of_eq g102.symm
  have f104 := V0.ext E102
  have Z102 : n0 ≤ h102.size := Nat.le_trans Z0 E102.1
  have K102 : Keep h0 h102 [] := (Keep.refl h0 []).ext E102
  have V102 : Arv Z h102 b102 k102 .byte (16 : Int32) [(.int (0 : Int32)), (.int (0 : Int32)), (.int (0 : Int32)), (.int (0 : Int32)), (.int (0 : Int32)), (.int (0 : Int32)), (.int (0 : Int32)), (.int (0 : Int32)), (.int (0 : Int32)), (.int (0 : Int32)), (.int (0 : Int32)), (.int (0 : Int32)), (.int (0 : Int32)), (.int (0 : Int32)), (.int (0 : Int32)), (.int (0 : Int32))] (.int (0 : Int32)) := (Arv.new A102 (by decide)).pad (pad_rep [] (.int (0 : Int32)) 16)
  obtain ⟨cl105, Ar105, q105, S105, M105, H105, G105⟩ := id V102
  obtain ⟨cl106, Ar106, q106, S106, M106, H106, G106⟩ := id f104
  obtain ⟨cl107, Ar107, q107, S107, M107, H107, G107⟩ := id f104
  obtain ⟨cl108, Ar108, q108, S108, M108, H108, G108⟩ := id V102
  obtain ⟨T109, h109, X109, e109, W109, st109⟩ := stB X102 hx hZ e102 Ar108 (j := (0 : Int32)) (inb_of S108 ⟨by decide, by decide⟩) (g := (mkF m 48 #[.val (.ref a0), .val (.ref b102), .val (.int (0 : Int32))] [(.int ((c0 ^^^ c16).toInt8.toInt32)), (.int (0 : Int32)), (.ref b102)])) rfl rfl (hb hby d2_48)
  have V109 := Arv.set Ar108 q108 S108 M108 H108 G108 (fits_nar_byte _) W109 0 rfl (Nat.le_of_ble_eq_true rfl)
  have f110 := f104.other W109 ne103
  have K109 : Keep h0 h109 [] := K102.wr W109 (Or.inr sz102)
  have N109 := Fr.snoc X109 N0 ge102
  have Z109 : n0 ≤ h109.size := Nat.le_trans Z102 (Keep.of_wr W109).1
  have V109b : Arv Z h109 b102 k102 .byte (16 : Int32) [(.int (nar .byte ((c0 ^^^ c16).toInt8.toInt32))), (.int (0 : Int32)), (.int (0 : Int32)), (.int (0 : Int32)), (.int (0 : Int32)), (.int (0 : Int32)), (.int (0 : Int32)), (.int (0 : Int32)), (.int (0 : Int32)), (.int (0 : Int32)), (.int (0 : Int32)), (.int (0 : Int32)), (.int (0 : Int32)), (.int (0 : Int32)), (.int (0 : Int32)), (.int (0 : Int32))] (.int (0 : Int32)) := V109
  obtain ⟨cl111, Ar111, q111, S111, M111, H111, G111⟩ := id V109b
  obtain ⟨cl112, Ar112, q112, S112, M112, H112, G112⟩ := id f110
  obtain ⟨cl113, Ar113, q113, S113, M113, H113, G113⟩ := id f110
  obtain ⟨cl114, Ar114, q114, S114, M114, H114, G114⟩ := id V109b
  obtain ⟨T115, h115, X115, e115, W115, st115⟩ := stB X109 hx hZ e109 Ar114 (j := (1 : Int32)) (inb_of S114 ⟨by decide, by decide⟩) (g := (mkF m 48 #[.val (.ref a0), .val (.ref b102), .val (.int (1 : Int32))] [(.int ((c1 ^^^ c17).toInt8.toInt32)), (.int (1 : Int32)), (.ref b102)])) rfl rfl (hb hby d2_48)
  have V115 := Arv.set Ar114 q114 S114 M114 H114 G114 (fits_nar_byte _) W115 1 rfl (Nat.le_of_ble_eq_true rfl)
  have f116 := f110.other W115 ne103
  have K115 : Keep h0 h115 [] := K109.wr W115 (Or.inr sz102)
  have N115 := Fr.snoc X115 N109 ge102
  have Z115 : n0 ≤ h115.size := Nat.le_trans Z109 (Keep.of_wr W115).1
  have V115b : Arv Z h115 b102 k102 .byte (16 : Int32) [(.int (nar .byte ((c0 ^^^ c16).toInt8.toInt32))), (.int (nar .byte ((c1 ^^^ c17).toInt8.toInt32))), (.int (0 : Int32)), (.int (0 : Int32)), (.int (0 : Int32)), (.int (0 : Int32)), (.int (0 : Int32)), (.int (0 : Int32)), (.int (0 : Int32)), (.int (0 : Int32)), (.int (0 : Int32)), (.int (0 : Int32)), (.int (0 : Int32)), (.int (0 : Int32)), (.int (0 : Int32)), (.int (0 : Int32))] (.int (0 : Int32)) := V115
  obtain ⟨cl117, Ar117, q117, S117, M117, H117, G117⟩ := id V115b
  obtain ⟨cl118, Ar118, q118, S118, M118, H118, G118⟩ := id f116
  obtain ⟨cl119, Ar119, q119, S119, M119, H119, G119⟩ := id f116
  obtain ⟨cl120, Ar120, q120, S120, M120, H120, G120⟩ := id V115b
  obtain ⟨T121, h121, X121, e121, W121, st121⟩ := stB X115 hx hZ e115 Ar120 (j := (2 : Int32)) (inb_of S120 ⟨by decide, by decide⟩) (g := (mkF m 48 #[.val (.ref a0), .val (.ref b102), .val (.int (2 : Int32))] [(.int ((c2 ^^^ c18).toInt8.toInt32)), (.int (2 : Int32)), (.ref b102)])) rfl rfl (hb hby d2_48)
  have V121 := Arv.set Ar120 q120 S120 M120 H120 G120 (fits_nar_byte _) W121 2 rfl (Nat.le_of_ble_eq_true rfl)
  have f122 := f116.other W121 ne103
  have K121 : Keep h0 h121 [] := K115.wr W121 (Or.inr sz102)
  have N121 := Fr.snoc X121 N115 ge102
  have Z121 : n0 ≤ h121.size := Nat.le_trans Z115 (Keep.of_wr W121).1
  have V121b : Arv Z h121 b102 k102 .byte (16 : Int32) [(.int (nar .byte ((c0 ^^^ c16).toInt8.toInt32))), (.int (nar .byte ((c1 ^^^ c17).toInt8.toInt32))), (.int (nar .byte ((c2 ^^^ c18).toInt8.toInt32))), (.int (0 : Int32)), (.int (0 : Int32)), (.int (0 : Int32)), (.int (0 : Int32)), (.int (0 : Int32)), (.int (0 : Int32)), (.int (0 : Int32)), (.int (0 : Int32)), (.int (0 : Int32)), (.int (0 : Int32)), (.int (0 : Int32)), (.int (0 : Int32)), (.int (0 : Int32))] (.int (0 : Int32)) := V121
  obtain ⟨cl123, Ar123, q123, S123, M123, H123, G123⟩ := id V121b
  obtain ⟨cl124, Ar124, q124, S124, M124, H124, G124⟩ := id f122
  obtain ⟨cl125, Ar125, q125, S125, M125, H125, G125⟩ := id f122
  obtain ⟨cl126, Ar126, q126, S126, M126, H126, G126⟩ := id V121b
  obtain ⟨T127, h127, X127, e127, W127, st127⟩ := stB X121 hx hZ e121 Ar126 (j := (3 : Int32)) (inb_of S126 ⟨by decide, by decide⟩) (g := (mkF m 48 #[.val (.ref a0), .val (.ref b102), .val (.int (3 : Int32))] [(.int ((c3 ^^^ c19).toInt8.toInt32)), (.int (3 : Int32)), (.ref b102)])) rfl rfl (hb hby d2_48)
  have V127 := Arv.set Ar126 q126 S126 M126 H126 G126 (fits_nar_byte _) W127 3 rfl (Nat.le_of_ble_eq_true rfl)
  have f128 := f122.other W127 ne103
  have K127 : Keep h0 h127 [] := K121.wr W127 (Or.inr sz102)
  have N127 := Fr.snoc X127 N121 ge102
  have Z127 : n0 ≤ h127.size := Nat.le_trans Z121 (Keep.of_wr W127).1
  have V127b : Arv Z h127 b102 k102 .byte (16 : Int32) [(.int (nar .byte ((c0 ^^^ c16).toInt8.toInt32))), (.int (nar .byte ((c1 ^^^ c17).toInt8.toInt32))), (.int (nar .byte ((c2 ^^^ c18).toInt8.toInt32))), (.int (nar .byte ((c3 ^^^ c19).toInt8.toInt32))), (.int (0 : Int32)), (.int (0 : Int32)), (.int (0 : Int32)), (.int (0 : Int32)), (.int (0 : Int32)), (.int (0 : Int32)), (.int (0 : Int32)), (.int (0 : Int32)), (.int (0 : Int32)), (.int (0 : Int32)), (.int (0 : Int32)), (.int (0 : Int32))] (.int (0 : Int32)) := V127
  obtain ⟨cl129, Ar129, q129, S129, M129, H129, G129⟩ := id V127b
  obtain ⟨cl130, Ar130, q130, S130, M130, H130, G130⟩ := id f128
  obtain ⟨cl131, Ar131, q131, S131, M131, H131, G131⟩ := id f128
  obtain ⟨cl132, Ar132, q132, S132, M132, H132, G132⟩ := id V127b
  obtain ⟨T133, h133, X133, e133, W133, st133⟩ := stB X127 hx hZ e127 Ar132 (j := (4 : Int32)) (inb_of S132 ⟨by decide, by decide⟩) (g := (mkF m 48 #[.val (.ref a0), .val (.ref b102), .val (.int (4 : Int32))] [(.int ((c4 ^^^ c20).toInt8.toInt32)), (.int (4 : Int32)), (.ref b102)])) rfl rfl (hb hby d2_48)
  have V133 := Arv.set Ar132 q132 S132 M132 H132 G132 (fits_nar_byte _) W133 4 rfl (Nat.le_of_ble_eq_true rfl)
  have f134 := f128.other W133 ne103
  have K133 : Keep h0 h133 [] := K127.wr W133 (Or.inr sz102)
  have N133 := Fr.snoc X133 N127 ge102
  have Z133 : n0 ≤ h133.size := Nat.le_trans Z127 (Keep.of_wr W133).1
  have V133b : Arv Z h133 b102 k102 .byte (16 : Int32) [(.int (nar .byte ((c0 ^^^ c16).toInt8.toInt32))), (.int (nar .byte ((c1 ^^^ c17).toInt8.toInt32))), (.int (nar .byte ((c2 ^^^ c18).toInt8.toInt32))), (.int (nar .byte ((c3 ^^^ c19).toInt8.toInt32))), (.int (nar .byte ((c4 ^^^ c20).toInt8.toInt32))), (.int (0 : Int32)), (.int (0 : Int32)), (.int (0 : Int32)), (.int (0 : Int32)), (.int (0 : Int32)), (.int (0 : Int32)), (.int (0 : Int32)), (.int (0 : Int32)), (.int (0 : Int32)), (.int (0 : Int32)), (.int (0 : Int32))] (.int (0 : Int32)) := V133
  obtain ⟨cl135, Ar135, q135, S135, M135, H135, G135⟩ := id V133b
  obtain ⟨cl136, Ar136, q136, S136, M136, H136, G136⟩ := id f134
  obtain ⟨cl137, Ar137, q137, S137, M137, H137, G137⟩ := id f134
  obtain ⟨cl138, Ar138, q138, S138, M138, H138, G138⟩ := id V133b
  obtain ⟨T139, h139, X139, e139, W139, st139⟩ := stB X133 hx hZ e133 Ar138 (j := (5 : Int32)) (inb_of S138 ⟨by decide, by decide⟩) (g := (mkF m 48 #[.val (.ref a0), .val (.ref b102), .val (.int (5 : Int32))] [(.int ((c5 ^^^ c21).toInt8.toInt32)), (.int (5 : Int32)), (.ref b102)])) rfl rfl (hb hby d2_48)
  have V139 := Arv.set Ar138 q138 S138 M138 H138 G138 (fits_nar_byte _) W139 5 rfl (Nat.le_of_ble_eq_true rfl)
  have f140 := f134.other W139 ne103
  have K139 : Keep h0 h139 [] := K133.wr W139 (Or.inr sz102)
  have N139 := Fr.snoc X139 N133 ge102
  have Z139 : n0 ≤ h139.size := Nat.le_trans Z133 (Keep.of_wr W139).1
  have V139b : Arv Z h139 b102 k102 .byte (16 : Int32) [(.int (nar .byte ((c0 ^^^ c16).toInt8.toInt32))), (.int (nar .byte ((c1 ^^^ c17).toInt8.toInt32))), (.int (nar .byte ((c2 ^^^ c18).toInt8.toInt32))), (.int (nar .byte ((c3 ^^^ c19).toInt8.toInt32))), (.int (nar .byte ((c4 ^^^ c20).toInt8.toInt32))), (.int (nar .byte ((c5 ^^^ c21).toInt8.toInt32))), (.int (0 : Int32)), (.int (0 : Int32)), (.int (0 : Int32)), (.int (0 : Int32)), (.int (0 : Int32)), (.int (0 : Int32)), (.int (0 : Int32)), (.int (0 : Int32)), (.int (0 : Int32)), (.int (0 : Int32))] (.int (0 : Int32)) := V139
  obtain ⟨cl141, Ar141, q141, S141, M141, H141, G141⟩ := id V139b
  obtain ⟨cl142, Ar142, q142, S142, M142, H142, G142⟩ := id f140
  obtain ⟨cl143, Ar143, q143, S143, M143, H143, G143⟩ := id f140
  obtain ⟨cl144, Ar144, q144, S144, M144, H144, G144⟩ := id V139b
  obtain ⟨T145, h145, X145, e145, W145, st145⟩ := stB X139 hx hZ e139 Ar144 (j := (6 : Int32)) (inb_of S144 ⟨by decide, by decide⟩) (g := (mkF m 48 #[.val (.ref a0), .val (.ref b102), .val (.int (6 : Int32))] [(.int ((c6 ^^^ c22).toInt8.toInt32)), (.int (6 : Int32)), (.ref b102)])) rfl rfl (hb hby d2_48)
  have V145 := Arv.set Ar144 q144 S144 M144 H144 G144 (fits_nar_byte _) W145 6 rfl (Nat.le_of_ble_eq_true rfl)
  have f146 := f140.other W145 ne103
  have K145 : Keep h0 h145 [] := K139.wr W145 (Or.inr sz102)
  have N145 := Fr.snoc X145 N139 ge102
  have Z145 : n0 ≤ h145.size := Nat.le_trans Z139 (Keep.of_wr W145).1
  have V145b : Arv Z h145 b102 k102 .byte (16 : Int32) [(.int (nar .byte ((c0 ^^^ c16).toInt8.toInt32))), (.int (nar .byte ((c1 ^^^ c17).toInt8.toInt32))), (.int (nar .byte ((c2 ^^^ c18).toInt8.toInt32))), (.int (nar .byte ((c3 ^^^ c19).toInt8.toInt32))), (.int (nar .byte ((c4 ^^^ c20).toInt8.toInt32))), (.int (nar .byte ((c5 ^^^ c21).toInt8.toInt32))), (.int (nar .byte ((c6 ^^^ c22).toInt8.toInt32))), (.int (0 : Int32)), (.int (0 : Int32)), (.int (0 : Int32)), (.int (0 : Int32)), (.int (0 : Int32)), (.int (0 : Int32)), (.int (0 : Int32)), (.int (0 : Int32)), (.int (0 : Int32))] (.int (0 : Int32)) := V145
  obtain ⟨cl147, Ar147, q147, S147, M147, H147, G147⟩ := id V145b
  obtain ⟨cl148, Ar148, q148, S148, M148, H148, G148⟩ := id f146
  obtain ⟨cl149, Ar149, q149, S149, M149, H149, G149⟩ := id f146
  obtain ⟨cl150, Ar150, q150, S150, M150, H150, G150⟩ := id V145b
  obtain ⟨T151, h151, X151, e151, W151, st151⟩ := stB X145 hx hZ e145 Ar150 (j := (7 : Int32)) (inb_of S150 ⟨by decide, by decide⟩) (g := (mkF m 48 #[.val (.ref a0), .val (.ref b102), .val (.int (7 : Int32))] [(.int ((c7 ^^^ c23).toInt8.toInt32)), (.int (7 : Int32)), (.ref b102)])) rfl rfl (hb hby d2_48)
  have V151 := Arv.set Ar150 q150 S150 M150 H150 G150 (fits_nar_byte _) W151 7 rfl (Nat.le_of_ble_eq_true rfl)
  have f152 := f146.other W151 ne103
  have K151 : Keep h0 h151 [] := K145.wr W151 (Or.inr sz102)
  have N151 := Fr.snoc X151 N145 ge102
  have Z151 : n0 ≤ h151.size := Nat.le_trans Z145 (Keep.of_wr W151).1
  have V151b : Arv Z h151 b102 k102 .byte (16 : Int32) [(.int (nar .byte ((c0 ^^^ c16).toInt8.toInt32))), (.int (nar .byte ((c1 ^^^ c17).toInt8.toInt32))), (.int (nar .byte ((c2 ^^^ c18).toInt8.toInt32))), (.int (nar .byte ((c3 ^^^ c19).toInt8.toInt32))), (.int (nar .byte ((c4 ^^^ c20).toInt8.toInt32))), (.int (nar .byte ((c5 ^^^ c21).toInt8.toInt32))), (.int (nar .byte ((c6 ^^^ c22).toInt8.toInt32))), (.int (nar .byte ((c7 ^^^ c23).toInt8.toInt32))), (.int (0 : Int32)), (.int (0 : Int32)), (.int (0 : Int32)), (.int (0 : Int32)), (.int (0 : Int32)), (.int (0 : Int32)), (.int (0 : Int32)), (.int (0 : Int32))] (.int (0 : Int32)) := V151
  obtain ⟨cl153, Ar153, q153, S153, M153, H153, G153⟩ := id V151b
  obtain ⟨cl154, Ar154, q154, S154, M154, H154, G154⟩ := id f152
  obtain ⟨cl155, Ar155, q155, S155, M155, H155, G155⟩ := id f152
  obtain ⟨cl156, Ar156, q156, S156, M156, H156, G156⟩ := id V151b
  obtain ⟨T157, h157, X157, e157, W157, st157⟩ := stB X151 hx hZ e151 Ar156 (j := (8 : Int32)) (inb_of S156 ⟨by decide, by decide⟩) (g := (mkF m 48 #[.val (.ref a0), .val (.ref b102), .val (.int (8 : Int32))] [(.int ((c8 ^^^ c24).toInt8.toInt32)), (.int (8 : Int32)), (.ref b102)])) rfl rfl (hb hby d2_48)
  have V157 := Arv.set Ar156 q156 S156 M156 H156 G156 (fits_nar_byte _) W157 8 rfl (Nat.le_of_ble_eq_true rfl)
  have f158 := f152.other W157 ne103
  have K157 : Keep h0 h157 [] := K151.wr W157 (Or.inr sz102)
  have N157 := Fr.snoc X157 N151 ge102
  have Z157 : n0 ≤ h157.size := Nat.le_trans Z151 (Keep.of_wr W157).1
  have V157b : Arv Z h157 b102 k102 .byte (16 : Int32) [(.int (nar .byte ((c0 ^^^ c16).toInt8.toInt32))), (.int (nar .byte ((c1 ^^^ c17).toInt8.toInt32))), (.int (nar .byte ((c2 ^^^ c18).toInt8.toInt32))), (.int (nar .byte ((c3 ^^^ c19).toInt8.toInt32))), (.int (nar .byte ((c4 ^^^ c20).toInt8.toInt32))), (.int (nar .byte ((c5 ^^^ c21).toInt8.toInt32))), (.int (nar .byte ((c6 ^^^ c22).toInt8.toInt32))), (.int (nar .byte ((c7 ^^^ c23).toInt8.toInt32))), (.int (nar .byte ((c8 ^^^ c24).toInt8.toInt32))), (.int (0 : Int32)), (.int (0 : Int32)), (.int (0 : Int32)), (.int (0 : Int32)), (.int (0 : Int32)), (.int (0 : Int32)), (.int (0 : Int32))] (.int (0 : Int32)) := V157
  obtain ⟨cl159, Ar159, q159, S159, M159, H159, G159⟩ := id V157b
  obtain ⟨cl160, Ar160, q160, S160, M160, H160, G160⟩ := id f158
  obtain ⟨cl161, Ar161, q161, S161, M161, H161, G161⟩ := id f158
  obtain ⟨cl162, Ar162, q162, S162, M162, H162, G162⟩ := id V157b
  obtain ⟨T163, h163, X163, e163, W163, st163⟩ := stB X157 hx hZ e157 Ar162 (j := (9 : Int32)) (inb_of S162 ⟨by decide, by decide⟩) (g := (mkF m 48 #[.val (.ref a0), .val (.ref b102), .val (.int (9 : Int32))] [(.int ((c9 ^^^ c25).toInt8.toInt32)), (.int (9 : Int32)), (.ref b102)])) rfl rfl (hb hby d2_48)
  have V163 := Arv.set Ar162 q162 S162 M162 H162 G162 (fits_nar_byte _) W163 9 rfl (Nat.le_of_ble_eq_true rfl)
  have f164 := f158.other W163 ne103
  have K163 : Keep h0 h163 [] := K157.wr W163 (Or.inr sz102)
  have N163 := Fr.snoc X163 N157 ge102
  have Z163 : n0 ≤ h163.size := Nat.le_trans Z157 (Keep.of_wr W163).1
  have V163b : Arv Z h163 b102 k102 .byte (16 : Int32) [(.int (nar .byte ((c0 ^^^ c16).toInt8.toInt32))), (.int (nar .byte ((c1 ^^^ c17).toInt8.toInt32))), (.int (nar .byte ((c2 ^^^ c18).toInt8.toInt32))), (.int (nar .byte ((c3 ^^^ c19).toInt8.toInt32))), (.int (nar .byte ((c4 ^^^ c20).toInt8.toInt32))), (.int (nar .byte ((c5 ^^^ c21).toInt8.toInt32))), (.int (nar .byte ((c6 ^^^ c22).toInt8.toInt32))), (.int (nar .byte ((c7 ^^^ c23).toInt8.toInt32))), (.int (nar .byte ((c8 ^^^ c24).toInt8.toInt32))), (.int (nar .byte ((c9 ^^^ c25).toInt8.toInt32))), (.int (0 : Int32)), (.int (0 : Int32)), (.int (0 : Int32)), (.int (0 : Int32)), (.int (0 : Int32)), (.int (0 : Int32))] (.int (0 : Int32)) := V163
  obtain ⟨cl165, Ar165, q165, S165, M165, H165, G165⟩ := id V163b
  obtain ⟨cl166, Ar166, q166, S166, M166, H166, G166⟩ := id f164
  obtain ⟨cl167, Ar167, q167, S167, M167, H167, G167⟩ := id f164
  obtain ⟨cl168, Ar168, q168, S168, M168, H168, G168⟩ := id V163b
  obtain ⟨T169, h169, X169, e169, W169, st169⟩ := stB X163 hx hZ e163 Ar168 (j := (10 : Int32)) (inb_of S168 ⟨by decide, by decide⟩) (g := (mkF m 48 #[.val (.ref a0), .val (.ref b102), .val (.int (10 : Int32))] [(.int ((c10 ^^^ c26).toInt8.toInt32)), (.int (10 : Int32)), (.ref b102)])) rfl rfl (hb hby d2_48)
  have V169 := Arv.set Ar168 q168 S168 M168 H168 G168 (fits_nar_byte _) W169 10 rfl (Nat.le_of_ble_eq_true rfl)
  have f170 := f164.other W169 ne103
  have K169 : Keep h0 h169 [] := K163.wr W169 (Or.inr sz102)
  have N169 := Fr.snoc X169 N163 ge102
  have Z169 : n0 ≤ h169.size := Nat.le_trans Z163 (Keep.of_wr W169).1
  have V169b : Arv Z h169 b102 k102 .byte (16 : Int32) [(.int (nar .byte ((c0 ^^^ c16).toInt8.toInt32))), (.int (nar .byte ((c1 ^^^ c17).toInt8.toInt32))), (.int (nar .byte ((c2 ^^^ c18).toInt8.toInt32))), (.int (nar .byte ((c3 ^^^ c19).toInt8.toInt32))), (.int (nar .byte ((c4 ^^^ c20).toInt8.toInt32))), (.int (nar .byte ((c5 ^^^ c21).toInt8.toInt32))), (.int (nar .byte ((c6 ^^^ c22).toInt8.toInt32))), (.int (nar .byte ((c7 ^^^ c23).toInt8.toInt32))), (.int (nar .byte ((c8 ^^^ c24).toInt8.toInt32))), (.int (nar .byte ((c9 ^^^ c25).toInt8.toInt32))), (.int (nar .byte ((c10 ^^^ c26).toInt8.toInt32))), (.int (0 : Int32)), (.int (0 : Int32)), (.int (0 : Int32)), (.int (0 : Int32)), (.int (0 : Int32))] (.int (0 : Int32)) := V169
  obtain ⟨cl171, Ar171, q171, S171, M171, H171, G171⟩ := id V169b
  obtain ⟨cl172, Ar172, q172, S172, M172, H172, G172⟩ := id f170
  obtain ⟨cl173, Ar173, q173, S173, M173, H173, G173⟩ := id f170
  obtain ⟨cl174, Ar174, q174, S174, M174, H174, G174⟩ := id V169b
  obtain ⟨T175, h175, X175, e175, W175, st175⟩ := stB X169 hx hZ e169 Ar174 (j := (11 : Int32)) (inb_of S174 ⟨by decide, by decide⟩) (g := (mkF m 48 #[.val (.ref a0), .val (.ref b102), .val (.int (11 : Int32))] [(.int ((c11 ^^^ c27).toInt8.toInt32)), (.int (11 : Int32)), (.ref b102)])) rfl rfl (hb hby d2_48)
  have V175 := Arv.set Ar174 q174 S174 M174 H174 G174 (fits_nar_byte _) W175 11 rfl (Nat.le_of_ble_eq_true rfl)
  have f176 := f170.other W175 ne103
  have K175 : Keep h0 h175 [] := K169.wr W175 (Or.inr sz102)
  have N175 := Fr.snoc X175 N169 ge102
  have Z175 : n0 ≤ h175.size := Nat.le_trans Z169 (Keep.of_wr W175).1
  have V175b : Arv Z h175 b102 k102 .byte (16 : Int32) [(.int (nar .byte ((c0 ^^^ c16).toInt8.toInt32))), (.int (nar .byte ((c1 ^^^ c17).toInt8.toInt32))), (.int (nar .byte ((c2 ^^^ c18).toInt8.toInt32))), (.int (nar .byte ((c3 ^^^ c19).toInt8.toInt32))), (.int (nar .byte ((c4 ^^^ c20).toInt8.toInt32))), (.int (nar .byte ((c5 ^^^ c21).toInt8.toInt32))), (.int (nar .byte ((c6 ^^^ c22).toInt8.toInt32))), (.int (nar .byte ((c7 ^^^ c23).toInt8.toInt32))), (.int (nar .byte ((c8 ^^^ c24).toInt8.toInt32))), (.int (nar .byte ((c9 ^^^ c25).toInt8.toInt32))), (.int (nar .byte ((c10 ^^^ c26).toInt8.toInt32))), (.int (nar .byte ((c11 ^^^ c27).toInt8.toInt32))), (.int (0 : Int32)), (.int (0 : Int32)), (.int (0 : Int32)), (.int (0 : Int32))] (.int (0 : Int32)) := V175
  obtain ⟨cl177, Ar177, q177, S177, M177, H177, G177⟩ := id V175b
  obtain ⟨cl178, Ar178, q178, S178, M178, H178, G178⟩ := id f176
  obtain ⟨cl179, Ar179, q179, S179, M179, H179, G179⟩ := id f176
  obtain ⟨cl180, Ar180, q180, S180, M180, H180, G180⟩ := id V175b
  obtain ⟨T181, h181, X181, e181, W181, st181⟩ := stB X175 hx hZ e175 Ar180 (j := (12 : Int32)) (inb_of S180 ⟨by decide, by decide⟩) (g := (mkF m 48 #[.val (.ref a0), .val (.ref b102), .val (.int (12 : Int32))] [(.int ((c12 ^^^ c28).toInt8.toInt32)), (.int (12 : Int32)), (.ref b102)])) rfl rfl (hb hby d2_48)
  have V181 := Arv.set Ar180 q180 S180 M180 H180 G180 (fits_nar_byte _) W181 12 rfl (Nat.le_of_ble_eq_true rfl)
  have f182 := f176.other W181 ne103
  have K181 : Keep h0 h181 [] := K175.wr W181 (Or.inr sz102)
  have N181 := Fr.snoc X181 N175 ge102
  have Z181 : n0 ≤ h181.size := Nat.le_trans Z175 (Keep.of_wr W181).1
  have V181b : Arv Z h181 b102 k102 .byte (16 : Int32) [(.int (nar .byte ((c0 ^^^ c16).toInt8.toInt32))), (.int (nar .byte ((c1 ^^^ c17).toInt8.toInt32))), (.int (nar .byte ((c2 ^^^ c18).toInt8.toInt32))), (.int (nar .byte ((c3 ^^^ c19).toInt8.toInt32))), (.int (nar .byte ((c4 ^^^ c20).toInt8.toInt32))), (.int (nar .byte ((c5 ^^^ c21).toInt8.toInt32))), (.int (nar .byte ((c6 ^^^ c22).toInt8.toInt32))), (.int (nar .byte ((c7 ^^^ c23).toInt8.toInt32))), (.int (nar .byte ((c8 ^^^ c24).toInt8.toInt32))), (.int (nar .byte ((c9 ^^^ c25).toInt8.toInt32))), (.int (nar .byte ((c10 ^^^ c26).toInt8.toInt32))), (.int (nar .byte ((c11 ^^^ c27).toInt8.toInt32))), (.int (nar .byte ((c12 ^^^ c28).toInt8.toInt32))), (.int (0 : Int32)), (.int (0 : Int32)), (.int (0 : Int32))] (.int (0 : Int32)) := V181
  obtain ⟨cl183, Ar183, q183, S183, M183, H183, G183⟩ := id V181b
  obtain ⟨cl184, Ar184, q184, S184, M184, H184, G184⟩ := id f182
  obtain ⟨cl185, Ar185, q185, S185, M185, H185, G185⟩ := id f182
  obtain ⟨cl186, Ar186, q186, S186, M186, H186, G186⟩ := id V181b
  obtain ⟨T187, h187, X187, e187, W187, st187⟩ := stB X181 hx hZ e181 Ar186 (j := (13 : Int32)) (inb_of S186 ⟨by decide, by decide⟩) (g := (mkF m 48 #[.val (.ref a0), .val (.ref b102), .val (.int (13 : Int32))] [(.int ((c13 ^^^ c29).toInt8.toInt32)), (.int (13 : Int32)), (.ref b102)])) rfl rfl (hb hby d2_48)
  have V187 := Arv.set Ar186 q186 S186 M186 H186 G186 (fits_nar_byte _) W187 13 rfl (Nat.le_of_ble_eq_true rfl)
  have f188 := f182.other W187 ne103
  have K187 : Keep h0 h187 [] := K181.wr W187 (Or.inr sz102)
  have N187 := Fr.snoc X187 N181 ge102
  have Z187 : n0 ≤ h187.size := Nat.le_trans Z181 (Keep.of_wr W187).1
  have V187b : Arv Z h187 b102 k102 .byte (16 : Int32) [(.int (nar .byte ((c0 ^^^ c16).toInt8.toInt32))), (.int (nar .byte ((c1 ^^^ c17).toInt8.toInt32))), (.int (nar .byte ((c2 ^^^ c18).toInt8.toInt32))), (.int (nar .byte ((c3 ^^^ c19).toInt8.toInt32))), (.int (nar .byte ((c4 ^^^ c20).toInt8.toInt32))), (.int (nar .byte ((c5 ^^^ c21).toInt8.toInt32))), (.int (nar .byte ((c6 ^^^ c22).toInt8.toInt32))), (.int (nar .byte ((c7 ^^^ c23).toInt8.toInt32))), (.int (nar .byte ((c8 ^^^ c24).toInt8.toInt32))), (.int (nar .byte ((c9 ^^^ c25).toInt8.toInt32))), (.int (nar .byte ((c10 ^^^ c26).toInt8.toInt32))), (.int (nar .byte ((c11 ^^^ c27).toInt8.toInt32))), (.int (nar .byte ((c12 ^^^ c28).toInt8.toInt32))), (.int (nar .byte ((c13 ^^^ c29).toInt8.toInt32))), (.int (0 : Int32)), (.int (0 : Int32))] (.int (0 : Int32)) := V187
  obtain ⟨cl189, Ar189, q189, S189, M189, H189, G189⟩ := id V187b
  obtain ⟨cl190, Ar190, q190, S190, M190, H190, G190⟩ := id f188
  obtain ⟨cl191, Ar191, q191, S191, M191, H191, G191⟩ := id f188
  obtain ⟨cl192, Ar192, q192, S192, M192, H192, G192⟩ := id V187b
  obtain ⟨T193, h193, X193, e193, W193, st193⟩ := stB X187 hx hZ e187 Ar192 (j := (14 : Int32)) (inb_of S192 ⟨by decide, by decide⟩) (g := (mkF m 48 #[.val (.ref a0), .val (.ref b102), .val (.int (14 : Int32))] [(.int ((c14 ^^^ c30).toInt8.toInt32)), (.int (14 : Int32)), (.ref b102)])) rfl rfl (hb hby d2_48)
  have V193 := Arv.set Ar192 q192 S192 M192 H192 G192 (fits_nar_byte _) W193 14 rfl (Nat.le_of_ble_eq_true rfl)
  have f194 := f188.other W193 ne103
  have K193 : Keep h0 h193 [] := K187.wr W193 (Or.inr sz102)
  have N193 := Fr.snoc X193 N187 ge102
  have Z193 : n0 ≤ h193.size := Nat.le_trans Z187 (Keep.of_wr W193).1
  have V193b : Arv Z h193 b102 k102 .byte (16 : Int32) [(.int (nar .byte ((c0 ^^^ c16).toInt8.toInt32))), (.int (nar .byte ((c1 ^^^ c17).toInt8.toInt32))), (.int (nar .byte ((c2 ^^^ c18).toInt8.toInt32))), (.int (nar .byte ((c3 ^^^ c19).toInt8.toInt32))), (.int (nar .byte ((c4 ^^^ c20).toInt8.toInt32))), (.int (nar .byte ((c5 ^^^ c21).toInt8.toInt32))), (.int (nar .byte ((c6 ^^^ c22).toInt8.toInt32))), (.int (nar .byte ((c7 ^^^ c23).toInt8.toInt32))), (.int (nar .byte ((c8 ^^^ c24).toInt8.toInt32))), (.int (nar .byte ((c9 ^^^ c25).toInt8.toInt32))), (.int (nar .byte ((c10 ^^^ c26).toInt8.toInt32))), (.int (nar .byte ((c11 ^^^ c27).toInt8.toInt32))), (.int (nar .byte ((c12 ^^^ c28).toInt8.toInt32))), (.int (nar .byte ((c13 ^^^ c29).toInt8.toInt32))), (.int (nar .byte ((c14 ^^^ c30).toInt8.toInt32))), (.int (0 : Int32))] (.int (0 : Int32)) := V193
  obtain ⟨cl195, Ar195, q195, S195, M195, H195, G195⟩ := id V193b
  obtain ⟨cl196, Ar196, q196, S196, M196, H196, G196⟩ := id f194
  obtain ⟨cl197, Ar197, q197, S197, M197, H197, G197⟩ := id f194
  obtain ⟨cl198, Ar198, q198, S198, M198, H198, G198⟩ := id V193b
  obtain ⟨T199, h199, X199, e199, W199, st199⟩ := stB X193 hx hZ e193 Ar198 (j := (15 : Int32)) (inb_of S198 ⟨by decide, by decide⟩) (g := (mkF m 48 #[.val (.ref a0), .val (.ref b102), .val (.int (15 : Int32))] [(.int ((c15 ^^^ c31).toInt8.toInt32)), (.int (15 : Int32)), (.ref b102)])) rfl rfl (hb hby d2_48)
  have V199 := Arv.set Ar198 q198 S198 M198 H198 G198 (fits_nar_byte _) W199 15 rfl (Nat.le_of_ble_eq_true rfl)
  have f200 := f194.other W199 ne103
  have K199 : Keep h0 h199 [] := K193.wr W199 (Or.inr sz102)
  have N199 := Fr.snoc X199 N193 ge102
  have Z199 : n0 ≤ h199.size := Nat.le_trans Z193 (Keep.of_wr W199).1
  have V199b : Arv Z h199 b102 k102 .byte (16 : Int32) [(.int (nar .byte ((c0 ^^^ c16).toInt8.toInt32))), (.int (nar .byte ((c1 ^^^ c17).toInt8.toInt32))), (.int (nar .byte ((c2 ^^^ c18).toInt8.toInt32))), (.int (nar .byte ((c3 ^^^ c19).toInt8.toInt32))), (.int (nar .byte ((c4 ^^^ c20).toInt8.toInt32))), (.int (nar .byte ((c5 ^^^ c21).toInt8.toInt32))), (.int (nar .byte ((c6 ^^^ c22).toInt8.toInt32))), (.int (nar .byte ((c7 ^^^ c23).toInt8.toInt32))), (.int (nar .byte ((c8 ^^^ c24).toInt8.toInt32))), (.int (nar .byte ((c9 ^^^ c25).toInt8.toInt32))), (.int (nar .byte ((c10 ^^^ c26).toInt8.toInt32))), (.int (nar .byte ((c11 ^^^ c27).toInt8.toInt32))), (.int (nar .byte ((c12 ^^^ c28).toInt8.toInt32))), (.int (nar .byte ((c13 ^^^ c29).toInt8.toInt32))), (.int (nar .byte ((c14 ^^^ c30).toInt8.toInt32))), (.int (nar .byte ((c15 ^^^ c31).toInt8.toInt32)))] (.int (0 : Int32)) := V199
  obtain ⟨cl201, Ar201, q201, S201, M201, H201, G201⟩ := id V199b
  obtain ⟨fs, hr, hrun, hended, hW, hsame⟩ := X199.leave (v := some (.ref b102)) (fun h => by rw [Bd.returns] at h; cases h)
  refine ⟨_, _, pre0 _ ?_, hrun, hended, _, _, rfl, ?_, ⟨_, rfl⟩, hW, hsame.mono (by decide) (by decide)⟩
  · show Steps p.tables e below (s₁.setTop (mkF m 0 #[.val (.ref a0), .unset, .unset] [])) _
    refine XS.aloadN X0.here hx rfl (hb hby d2_0) rfl rfl ?_
    show Steps p.tables e below (s₁.setTop (mkF m 1 #[.val (.ref a0), .unset, .unset] [(.ref a0)])) _
    refine X0.arraylength hx (by rw [e0]; exact Ar101.1) (State.isArrayOf_alike hZ.alike Ar101.2.1) (g := (mkF m 1 #[.val (.ref a0), .unset, .unset] [(.ref a0)])) rfl rfl (hb hby d2_1) _ ?_
    rw [len_of S101 M101]
    show Steps p.tables e below (s₁.setTop (mkF m 2 #[.val (.ref a0), .unset, .unset] [(.int (32 : Int32))])) _
    refine XS.bipush X0.here hx rfl (hb hby d2_2) ?_
    show Steps p.tables e below (s₁.setTop (mkF m 4 #[.val (.ref a0), .unset, .unset] [(.int (32 : Int32)), (.int (32 : Int32))])) _
    refine XS.icmpYes X0.here hx rfl (pc0 := 4) (pc' := 22) rfl (hb hby d2_4) rfl (teq (by decide : (32 : Int32) = (32 : Int32))).1 (by decide) (by decide) ?_
    show Steps p.tables e below (s₁.setTop (mkF m 22 #[.val (.ref a0), .unset, .unset] [])) _
    refine XS.bipush X0.here hx rfl (hb hby d2_22) ?_
    show Steps p.tables e below (s₁.setTop (mkF m 24 #[.val (.ref a0), .unset, .unset] [(.int (16 : Int32))])) _
    refine st102 _ ?_
    show Steps p.tables e below (T102.setTop (mkF m 26 #[.val (.ref a0), .unset, .unset] [(.ref b102)])) _
    refine XS.astoreN X102.here hx rfl (hb hby d2_26) rfl rfl (l' := #[.val (.ref a0), .val (.ref b102), .unset]) rfl ?_
    show Steps p.tables e below (T102.setTop (mkF m 27 #[.val (.ref a0), .val (.ref b102), .unset] [])) _
    refine XS.iconst X102.here hx rfl (hb hby d2_27) ?_
    show Steps p.tables e below (T102.setTop (mkF m 28 #[.val (.ref a0), .val (.ref b102), .unset] [(.int (0 : Int32))])) _
    refine XS.istoreN X102.here hx rfl (hb hby d2_28) rfl (l' := #[.val (.ref a0), .val (.ref b102), .val (.int (0 : Int32))]) rfl ?_
    show Steps p.tables e below (T102.setTop (mkF m 29 #[.val (.ref a0), .val (.ref b102), .val (.int (0 : Int32))] [])) _
    refine XS.iloadN X102.here hx rfl (hb hby d2_29) rfl ?_
    show Steps p.tables e below (T102.setTop (mkF m 30 #[.val (.ref a0), .val (.ref b102), .val (.int (0 : Int32))] [(.int (0 : Int32))])) _
    refine XS.aloadN X102.here hx rfl (hb hby d2_30) rfl rfl ?_
    show Steps p.tables e below (T102.setTop (mkF m 31 #[.val (.ref a0), .val (.ref b102), .val (.int (0 : Int32))] [(.ref b102), (.int (0 : Int32))])) _
    refine X102.arraylength hx (by rw [e102]; exact Ar105.1) (State.isArrayOf_alike hZ.alike Ar105.2.1) (g := (mkF m 31 #[.val (.ref a0), .val (.ref b102), .val (.int (0 : Int32))] [(.ref b102), (.int (0 : Int32))])) rfl rfl (hb hby d2_31) _ ?_
    rw [len_of S105 M105]
    show Steps p.tables e below (T102.setTop (mkF m 32 #[.val (.ref a0), .val (.ref b102), .val (.int (0 : Int32))] [(.int (16 : Int32)), (.int (0 : Int32))])) _
    refine XS.icmpNo X102.here hx rfl (hb hby d2_32) rfl (tlt (by decide : (0 : Int32) < (16 : Int32))).2.1 ?_
    show Steps p.tables e below (T102.setTop (mkF m 35 #[.val (.ref a0), .val (.ref b102), .val (.int (0 : Int32))] [])) _
    refine XS.aloadN X102.here hx rfl (hb hby d2_35) rfl rfl ?_
    show Steps p.tables e below (T102.setTop (mkF m 36 #[.val (.ref a0), .val (.ref b102), .val (.int (0 : Int32))] [(.ref b102)])) _
    refine XS.iloadN X102.here hx rfl (hb hby d2_36) rfl ?_
    show Steps p.tables e below (T102.setTop (mkF m 37 #[.val (.ref a0), .val (.ref b102), .val (.int (0 : Int32))] [(.int (0 : Int32)), (.ref b102)])) _
    refine XS.aloadN X102.here hx rfl (hb hby d2_37) rfl rfl ?_
    show Steps p.tables e below (T102.setTop (mkF m 38 #[.val (.ref a0), .val (.ref b102), .val (.int (0 : Int32))] [(.ref a0), (.int (0 : Int32)), (.ref b102)])) _
    refine XS.iloadN X102.here hx rfl (hb hby d2_38) rfl ?_
    show Steps p.tables e below (T102.setTop (mkF m 39 #[.val (.ref a0), .val (.ref b102), .val (.int (0 : Int32))] [(.int (0 : Int32)), (.ref a0), (.int (0 : Int32)), (.ref b102)])) _
    have hin106 : ¬ ((0 : Int32) < 0 ∨ cl106.slots.size ≤ ((0 : Int32)).toNatClampNeg) := (inb_of S106 ⟨by decide, by decide⟩)
    refine X102.baloadBytes hx (j := (0 : Int32)) (v := (.int c0)) (by rw [e102]; exact Ar106.1) (State.isArrayOf_alike hZ.alike Ar106.2.1) Ar106.2.2 hin106 (H106.at hin106 rfl) (g := (mkF m 39 #[.val (.ref a0), .val (.ref b102), .val (.int (0 : Int32))] [(.int (0 : Int32)), (.ref a0), (.int (0 : Int32)), (.ref b102)])) rfl rfl (hb hby d2_39) _ ?_
    show Steps p.tables e below (T102.setTop (mkF m 40 #[.val (.ref a0), .val (.ref b102), .val (.int (0 : Int32))] [(.int c0), (.int (0 : Int32)), (.ref b102)])) _
    refine XS.aloadN X102.here hx rfl (hb hby d2_40) rfl rfl ?_
    show Steps p.tables e below (T102.setTop (mkF m 41 #[.val (.ref a0), .val (.ref b102), .val (.int (0 : Int32))] [(.ref a0), (.int c0), (.int (0 : Int32)), (.ref b102)])) _
    refine XS.iloadN X102.here hx rfl (hb hby d2_41) rfl ?_
    show Steps p.tables e below (T102.setTop (mkF m 42 #[.val (.ref a0), .val (.ref b102), .val (.int (0 : Int32))] [(.int (0 : Int32)), (.ref a0), (.int c0), (.int (0 : Int32)), (.ref b102)])) _
    refine XS.bipush X102.here hx rfl (hb hby d2_42) ?_
    show Steps p.tables e below (T102.setTop (mkF m 44 #[.val (.ref a0), .val (.ref b102), .val (.int (0 : Int32))] [(.int (16 : Int32)), (.int (0 : Int32)), (.ref a0), (.int c0), (.int (0 : Int32)), (.ref b102)])) _
    refine XS.iadd X102.here hx rfl (hb hby d2_44) rfl ?_
    show Steps p.tables e below (T102.setTop (mkF m 45 #[.val (.ref a0), .val (.ref b102), .val (.int (0 : Int32))] [(.int (16 : Int32)), (.ref a0), (.int c0), (.int (0 : Int32)), (.ref b102)])) _
    have hin107 : ¬ ((16 : Int32) < 0 ∨ cl107.slots.size ≤ ((16 : Int32)).toNatClampNeg) := (inb_of S107 ⟨by decide, by decide⟩)
    refine X102.baloadBytes hx (j := (16 : Int32)) (v := (.int c16)) (by rw [e102]; exact Ar107.1) (State.isArrayOf_alike hZ.alike Ar107.2.1) Ar107.2.2 hin107 (H107.at hin107 rfl) (g := (mkF m 45 #[.val (.ref a0), .val (.ref b102), .val (.int (0 : Int32))] [(.int (16 : Int32)), (.ref a0), (.int c0), (.int (0 : Int32)), (.ref b102)])) rfl rfl (hb hby d2_45) _ ?_
    show Steps p.tables e below (T102.setTop (mkF m 46 #[.val (.ref a0), .val (.ref b102), .val (.int (0 : Int32))] [(.int c16), (.int c0), (.int (0 : Int32)), (.ref b102)])) _
    refine XS.ixor X102.here hx rfl (hb hby d2_46) rfl ?_
    show Steps p.tables e below (T102.setTop (mkF m 47 #[.val (.ref a0), .val (.ref b102), .val (.int (0 : Int32))] [(.int (c0 ^^^ c16)), (.int (0 : Int32)), (.ref b102)])) _
    refine XS.i2b X102.here hx rfl (hb hby d2_47) rfl ?_
    show Steps p.tables e below (T102.setTop (mkF m 48 #[.val (.ref a0), .val (.ref b102), .val (.int (0 : Int32))] [(.int ((c0 ^^^ c16).toInt8.toInt32)), (.int (0 : Int32)), (.ref b102)])) _
    refine st109 _ ?_
    show Steps p.tables e below (T109.setTop (mkF m 49 #[.val (.ref a0), .val (.ref b102), .val (.int (0 : Int32))] [])) _
    refine XS.iinc X109.here hx rfl (hb hby d2_49) rfl (l' := #[.val (.ref a0), .val (.ref b102), .val (.int (1 : Int32))]) rfl ?_
    show Steps p.tables e below (T109.setTop (mkF m 52 #[.val (.ref a0), .val (.ref b102), .val (.int (1 : Int32))] [])) _
    refine XS.goto X109.here hx rfl (pc0 := 52) (pc' := 29) rfl (hb hby d2_52) (by decide) (by decide) ?_
    show Steps p.tables e below (T109.setTop (mkF m 29 #[.val (.ref a0), .val (.ref b102), .val (.int (1 : Int32))] [])) _
    refine XS.iloadN X109.here hx rfl (hb hby d2_29) rfl ?_
    show Steps p.tables e below (T109.setTop (mkF m 30 #[.val (.ref a0), .val (.ref b102), .val (.int (1 : Int32))] [(.int (1 : Int32))])) _
    refine XS.aloadN X109.here hx rfl (hb hby d2_30) rfl rfl ?_
    show Steps p.tables e below (T109.setTop (mkF m 31 #[.val (.ref a0), .val (.ref b102), .val (.int (1 : Int32))] [(.ref b102), (.int (1 : Int32))])) _
    refine X109.arraylength hx (by rw [e109]; exact Ar111.1) (State.isArrayOf_alike hZ.alike Ar111.2.1) (g := (mkF m 31 #[.val (.ref a0), .val (.ref b102), .val (.int (1 : Int32))] [(.ref b102), (.int (1 : Int32))])) rfl rfl (hb hby d2_31) _ ?_
    rw [len_of S111 M111]
    show Steps p.tables e below (T109.setTop (mkF m 32 #[.val (.ref a0), .val (.ref b102), .val (.int (1 : Int32))] [(.int (16 : Int32)), (.int (1 : Int32))])) _
    refine XS.icmpNo X109.here hx rfl (hb hby d2_32) rfl (tlt (by decide : (1 : Int32) < (16 : Int32))).2.1 ?_
    show Steps p.tables e below (T109.setTop (mkF m 35 #[.val (.ref a0), .val (.ref b102), .val (.int (1 : Int32))] [])) _
    refine XS.aloadN X109.here hx rfl (hb hby d2_35) rfl rfl ?_
    show Steps p.tables e below (T109.setTop (mkF m 36 #[.val (.ref a0), .val (.ref b102), .val (.int (1 : Int32))] [(.ref b102)])) _
    refine XS.iloadN X109.here hx rfl (hb hby d2_36) rfl ?_
    show Steps p.tables e below (T109.setTop (mkF m 37 #[.val (.ref a0), .val (.ref b102), .val (.int (1 : Int32))] [(.int (1 : Int32)), (.ref b102)])) _
    refine XS.aloadN X109.here hx rfl (hb hby d2_37) rfl rfl ?_
    show Steps p.tables e below (T109.setTop (mkF m 38 #[.val (.ref a0), .val (.ref b102), .val (.int (1 : Int32))] [(.ref a0), (.int (1 : Int32)), (.ref b102)])) _
    refine XS.iloadN X109.here hx rfl (hb hby d2_38) rfl ?_
    show Steps p.tables e below (T109.setTop (mkF m 39 #[.val (.ref a0), .val (.ref b102), .val (.int (1 : Int32))] [(.int (1 : Int32)), (.ref a0), (.int (1 : Int32)), (.ref b102)])) _
    have hin112 : ¬ ((1 : Int32) < 0 ∨ cl112.slots.size ≤ ((1 : Int32)).toNatClampNeg) := (inb_of S112 ⟨by decide, by decide⟩)
    refine X109.baloadBytes hx (j := (1 : Int32)) (v := (.int c1)) (by rw [e109]; exact Ar112.1) (State.isArrayOf_alike hZ.alike Ar112.2.1) Ar112.2.2 hin112 (H112.at hin112 rfl) (g := (mkF m 39 #[.val (.ref a0), .val (.ref b102), .val (.int (1 : Int32))] [(.int (1 : Int32)), (.ref a0), (.int (1 : Int32)), (.ref b102)])) rfl rfl (hb hby d2_39) _ ?_
    show Steps p.tables e below (T109.setTop (mkF m 40 #[.val (.ref a0), .val (.ref b102), .val (.int (1 : Int32))] [(.int c1), (.int (1 : Int32)), (.ref b102)])) _
    refine XS.aloadN X109.here hx rfl (hb hby d2_40) rfl rfl ?_
    show Steps p.tables e below (T109.setTop (mkF m 41 #[.val (.ref a0), .val (.ref b102), .val (.int (1 : Int32))] [(.ref a0), (.int c1), (.int (1 : Int32)), (.ref b102)])) _
    refine XS.iloadN X109.here hx rfl (hb hby d2_41) rfl ?_
    show Steps p.tables e below (T109.setTop (mkF m 42 #[.val (.ref a0), .val (.ref b102), .val (.int (1 : Int32))] [(.int (1 : Int32)), (.ref a0), (.int c1), (.int (1 : Int32)), (.ref b102)])) _
    refine XS.bipush X109.here hx rfl (hb hby d2_42) ?_
    show Steps p.tables e below (T109.setTop (mkF m 44 #[.val (.ref a0), .val (.ref b102), .val (.int (1 : Int32))] [(.int (16 : Int32)), (.int (1 : Int32)), (.ref a0), (.int c1), (.int (1 : Int32)), (.ref b102)])) _
    refine XS.iadd X109.here hx rfl (hb hby d2_44) rfl ?_
    show Steps p.tables e below (T109.setTop (mkF m 45 #[.val (.ref a0), .val (.ref b102), .val (.int (1 : Int32))] [(.int (17 : Int32)), (.ref a0), (.int c1), (.int (1 : Int32)), (.ref b102)])) _
    have hin113 : ¬ ((17 : Int32) < 0 ∨ cl113.slots.size ≤ ((17 : Int32)).toNatClampNeg) := (inb_of S113 ⟨by decide, by decide⟩)
    refine X109.baloadBytes hx (j := (17 : Int32)) (v := (.int c17)) (by rw [e109]; exact Ar113.1) (State.isArrayOf_alike hZ.alike Ar113.2.1) Ar113.2.2 hin113 (H113.at hin113 rfl) (g := (mkF m 45 #[.val (.ref a0), .val (.ref b102), .val (.int (1 : Int32))] [(.int (17 : Int32)), (.ref a0), (.int c1), (.int (1 : Int32)), (.ref b102)])) rfl rfl (hb hby d2_45) _ ?_
    show Steps p.tables e below (T109.setTop (mkF m 46 #[.val (.ref a0), .val (.ref b102), .val (.int (1 : Int32))] [(.int c17), (.int c1), (.int (1 : Int32)), (.ref b102)])) _
    refine XS.ixor X109.here hx rfl (hb hby d2_46) rfl ?_
    show Steps p.tables e below (T109.setTop (mkF m 47 #[.val (.ref a0), .val (.ref b102), .val (.int (1 : Int32))] [(.int (c1 ^^^ c17)), (.int (1 : Int32)), (.ref b102)])) _
    refine XS.i2b X109.here hx rfl (hb hby d2_47) rfl ?_
    show Steps p.tables e below (T109.setTop (mkF m 48 #[.val (.ref a0), .val (.ref b102), .val (.int (1 : Int32))] [(.int ((c1 ^^^ c17).toInt8.toInt32)), (.int (1 : Int32)), (.ref b102)])) _
    refine st115 _ ?_
    show Steps p.tables e below (T115.setTop (mkF m 49 #[.val (.ref a0), .val (.ref b102), .val (.int (1 : Int32))] [])) _
    refine XS.iinc X115.here hx rfl (hb hby d2_49) rfl (l' := #[.val (.ref a0), .val (.ref b102), .val (.int (2 : Int32))]) rfl ?_
    show Steps p.tables e below (T115.setTop (mkF m 52 #[.val (.ref a0), .val (.ref b102), .val (.int (2 : Int32))] [])) _
    refine XS.goto X115.here hx rfl (pc0 := 52) (pc' := 29) rfl (hb hby d2_52) (by decide) (by decide) ?_
    show Steps p.tables e below (T115.setTop (mkF m 29 #[.val (.ref a0), .val (.ref b102), .val (.int (2 : Int32))] [])) _
    refine XS.iloadN X115.here hx rfl (hb hby d2_29) rfl ?_
    show Steps p.tables e below (T115.setTop (mkF m 30 #[.val (.ref a0), .val (.ref b102), .val (.int (2 : Int32))] [(.int (2 : Int32))])) _
    refine XS.aloadN X115.here hx rfl (hb hby d2_30) rfl rfl ?_
    show Steps p.tables e below (T115.setTop (mkF m 31 #[.val (.ref a0), .val (.ref b102), .val (.int (2 : Int32))] [(.ref b102), (.int (2 : Int32))])) _
    refine X115.arraylength hx (by rw [e115]; exact Ar117.1) (State.isArrayOf_alike hZ.alike Ar117.2.1) (g := (mkF m 31 #[.val (.ref a0), .val (.ref b102), .val (.int (2 : Int32))] [(.ref b102), (.int (2 : Int32))])) rfl rfl (hb hby d2_31) _ ?_
    rw [len_of S117 M117]
    show Steps p.tables e below (T115.setTop (mkF m 32 #[.val (.ref a0), .val (.ref b102), .val (.int (2 : Int32))] [(.int (16 : Int32)), (.int (2 : Int32))])) _
    refine XS.icmpNo X115.here hx rfl (hb hby d2_32) rfl (tlt (by decide : (2 : Int32) < (16 : Int32))).2.1 ?_
    show Steps p.tables e below (T115.setTop (mkF m 35 #[.val (.ref a0), .val (.ref b102), .val (.int (2 : Int32))] [])) _
    refine XS.aloadN X115.here hx rfl (hb hby d2_35) rfl rfl ?_
    show Steps p.tables e below (T115.setTop (mkF m 36 #[.val (.ref a0), .val (.ref b102), .val (.int (2 : Int32))] [(.ref b102)])) _
    refine XS.iloadN X115.here hx rfl (hb hby d2_36) rfl ?_
    show Steps p.tables e below (T115.setTop (mkF m 37 #[.val (.ref a0), .val (.ref b102), .val (.int (2 : Int32))] [(.int (2 : Int32)), (.ref b102)])) _
    refine XS.aloadN X115.here hx rfl (hb hby d2_37) rfl rfl ?_
    show Steps p.tables e below (T115.setTop (mkF m 38 #[.val (.ref a0), .val (.ref b102), .val (.int (2 : Int32))] [(.ref a0), (.int (2 : Int32)), (.ref b102)])) _
    refine XS.iloadN X115.here hx rfl (hb hby d2_38) rfl ?_
    show Steps p.tables e below (T115.setTop (mkF m 39 #[.val (.ref a0), .val (.ref b102), .val (.int (2 : Int32))] [(.int (2 : Int32)), (.ref a0), (.int (2 : Int32)), (.ref b102)])) _
    have hin118 : ¬ ((2 : Int32) < 0 ∨ cl118.slots.size ≤ ((2 : Int32)).toNatClampNeg) := (inb_of S118 ⟨by decide, by decide⟩)
    refine X115.baloadBytes hx (j := (2 : Int32)) (v := (.int c2)) (by rw [e115]; exact Ar118.1) (State.isArrayOf_alike hZ.alike Ar118.2.1) Ar118.2.2 hin118 (H118.at hin118 rfl) (g := (mkF m 39 #[.val (.ref a0), .val (.ref b102), .val (.int (2 : Int32))] [(.int (2 : Int32)), (.ref a0), (.int (2 : Int32)), (.ref b102)])) rfl rfl (hb hby d2_39) _ ?_
    show Steps p.tables e below (T115.setTop (mkF m 40 #[.val (.ref a0), .val (.ref b102), .val (.int (2 : Int32))] [(.int c2), (.int (2 : Int32)), (.ref b102)])) _
    refine XS.aloadN X115.here hx rfl (hb hby d2_40) rfl rfl ?_
    show Steps p.tables e below (T115.setTop (mkF m 41 #[.val (.ref a0), .val (.ref b102), .val (.int (2 : Int32))] [(.ref a0), (.int c2), (.int (2 : Int32)), (.ref b102)])) _
    refine XS.iloadN X115.here hx rfl (hb hby d2_41) rfl ?_
    show Steps p.tables e below (T115.setTop (mkF m 42 #[.val (.ref a0), .val (.ref b102), .val (.int (2 : Int32))] [(.int (2 : Int32)), (.ref a0), (.int c2), (.int (2 : Int32)), (.ref b102)])) _
    refine XS.bipush X115.here hx rfl (hb hby d2_42) ?_
    show Steps p.tables e below (T115.setTop (mkF m 44 #[.val (.ref a0), .val (.ref b102), .val (.int (2 : Int32))] [(.int (16 : Int32)), (.int (2 : Int32)), (.ref a0), (.int c2), (.int (2 : Int32)), (.ref b102)])) _
    refine XS.iadd X115.here hx rfl (hb hby d2_44) rfl ?_
    show Steps p.tables e below (T115.setTop (mkF m 45 #[.val (.ref a0), .val (.ref b102), .val (.int (2 : Int32))] [(.int (18 : Int32)), (.ref a0), (.int c2), (.int (2 : Int32)), (.ref b102)])) _
    have hin119 : ¬ ((18 : Int32) < 0 ∨ cl119.slots.size ≤ ((18 : Int32)).toNatClampNeg) := (inb_of S119 ⟨by decide, by decide⟩)
    refine X115.baloadBytes hx (j := (18 : Int32)) (v := (.int c18)) (by rw [e115]; exact Ar119.1) (State.isArrayOf_alike hZ.alike Ar119.2.1) Ar119.2.2 hin119 (H119.at hin119 rfl) (g := (mkF m 45 #[.val (.ref a0), .val (.ref b102), .val (.int (2 : Int32))] [(.int (18 : Int32)), (.ref a0), (.int c2), (.int (2 : Int32)), (.ref b102)])) rfl rfl (hb hby d2_45) _ ?_
    show Steps p.tables e below (T115.setTop (mkF m 46 #[.val (.ref a0), .val (.ref b102), .val (.int (2 : Int32))] [(.int c18), (.int c2), (.int (2 : Int32)), (.ref b102)])) _
    refine XS.ixor X115.here hx rfl (hb hby d2_46) rfl ?_
    show Steps p.tables e below (T115.setTop (mkF m 47 #[.val (.ref a0), .val (.ref b102), .val (.int (2 : Int32))] [(.int (c2 ^^^ c18)), (.int (2 : Int32)), (.ref b102)])) _
    refine XS.i2b X115.here hx rfl (hb hby d2_47) rfl ?_
    show Steps p.tables e below (T115.setTop (mkF m 48 #[.val (.ref a0), .val (.ref b102), .val (.int (2 : Int32))] [(.int ((c2 ^^^ c18).toInt8.toInt32)), (.int (2 : Int32)), (.ref b102)])) _
    refine st121 _ ?_
    show Steps p.tables e below (T121.setTop (mkF m 49 #[.val (.ref a0), .val (.ref b102), .val (.int (2 : Int32))] [])) _
    refine XS.iinc X121.here hx rfl (hb hby d2_49) rfl (l' := #[.val (.ref a0), .val (.ref b102), .val (.int (3 : Int32))]) rfl ?_
    show Steps p.tables e below (T121.setTop (mkF m 52 #[.val (.ref a0), .val (.ref b102), .val (.int (3 : Int32))] [])) _
    refine XS.goto X121.here hx rfl (pc0 := 52) (pc' := 29) rfl (hb hby d2_52) (by decide) (by decide) ?_
    show Steps p.tables e below (T121.setTop (mkF m 29 #[.val (.ref a0), .val (.ref b102), .val (.int (3 : Int32))] [])) _
    refine XS.iloadN X121.here hx rfl (hb hby d2_29) rfl ?_
    show Steps p.tables e below (T121.setTop (mkF m 30 #[.val (.ref a0), .val (.ref b102), .val (.int (3 : Int32))] [(.int (3 : Int32))])) _
    refine XS.aloadN X121.here hx rfl (hb hby d2_30) rfl rfl ?_
    show Steps p.tables e below (T121.setTop (mkF m 31 #[.val (.ref a0), .val (.ref b102), .val (.int (3 : Int32))] [(.ref b102), (.int (3 : Int32))])) _
    refine X121.arraylength hx (by rw [e121]; exact Ar123.1) (State.isArrayOf_alike hZ.alike Ar123.2.1) (g := (mkF m 31 #[.val (.ref a0), .val (.ref b102), .val (.int (3 : Int32))] [(.ref b102), (.int (3 : Int32))])) rfl rfl (hb hby d2_31) _ ?_
    rw [len_of S123 M123]
    show Steps p.tables e below (T121.setTop (mkF m 32 #[.val (.ref a0), .val (.ref b102), .val (.int (3 : Int32))] [(.int (16 : Int32)), (.int (3 : Int32))])) _
    refine XS.icmpNo X121.here hx rfl (hb hby d2_32) rfl (tlt (by decide : (3 : Int32) < (16 : Int32))).2.1 ?_
    show Steps p.tables e below (T121.setTop (mkF m 35 #[.val (.ref a0), .val (.ref b102), .val (.int (3 : Int32))] [])) _
    refine XS.aloadN X121.here hx rfl (hb hby d2_35) rfl rfl ?_
    show Steps p.tables e below (T121.setTop (mkF m 36 #[.val (.ref a0), .val (.ref b102), .val (.int (3 : Int32))] [(.ref b102)])) _
    refine XS.iloadN X121.here hx rfl (hb hby d2_36) rfl ?_
    show Steps p.tables e below (T121.setTop (mkF m 37 #[.val (.ref a0), .val (.ref b102), .val (.int (3 : Int32))] [(.int (3 : Int32)), (.ref b102)])) _
    refine XS.aloadN X121.here hx rfl (hb hby d2_37) rfl rfl ?_
    show Steps p.tables e below (T121.setTop (mkF m 38 #[.val (.ref a0), .val (.ref b102), .val (.int (3 : Int32))] [(.ref a0), (.int (3 : Int32)), (.ref b102)])) _
    refine XS.iloadN X121.here hx rfl (hb hby d2_38) rfl ?_
    show Steps p.tables e below (T121.setTop (mkF m 39 #[.val (.ref a0), .val (.ref b102), .val (.int (3 : Int32))] [(.int (3 : Int32)), (.ref a0), (.int (3 : Int32)), (.ref b102)])) _
    have hin124 : ¬ ((3 : Int32) < 0 ∨ cl124.slots.size ≤ ((3 : Int32)).toNatClampNeg) := (inb_of S124 ⟨by decide, by decide⟩)
    refine X121.baloadBytes hx (j := (3 : Int32)) (v := (.int c3)) (by rw [e121]; exact Ar124.1) (State.isArrayOf_alike hZ.alike Ar124.2.1) Ar124.2.2 hin124 (H124.at hin124 rfl) (g := (mkF m 39 #[.val (.ref a0), .val (.ref b102), .val (.int (3 : Int32))] [(.int (3 : Int32)), (.ref a0), (.int (3 : Int32)), (.ref b102)])) rfl rfl (hb hby d2_39) _ ?_
    show Steps p.tables e below (T121.setTop (mkF m 40 #[.val (.ref a0), .val (.ref b102), .val (.int (3 : Int32))] [(.int c3), (.int (3 : Int32)), (.ref b102)])) _
    refine XS.aloadN X121.here hx rfl (hb hby d2_40) rfl rfl ?_
    show Steps p.tables e below (T121.setTop (mkF m 41 #[.val (.ref a0), .val (.ref b102), .val (.int (3 : Int32))] [(.ref a0), (.int c3), (.int (3 : Int32)), (.ref b102)])) _
    refine XS.iloadN X121.here hx rfl (hb hby d2_41) rfl ?_
    show Steps p.tables e below (T121.setTop (mkF m 42 #[.val (.ref a0), .val (.ref b102), .val (.int (3 : Int32))] [(.int (3 : Int32)), (.ref a0), (.int c3), (.int (3 : Int32)), (.ref b102)])) _
    refine XS.bipush X121.here hx rfl (hb hby d2_42) ?_
    show Steps p.tables e below (T121.setTop (mkF m 44 #[.val (.ref a0), .val (.ref b102), .val (.int (3 : Int32))] [(.int (16 : Int32)), (.int (3 : Int32)), (.ref a0), (.int c3), (.int (3 : Int32)), (.ref b102)])) _
    refine XS.iadd X121.here hx rfl (hb hby d2_44) rfl ?_
    show Steps p.tables e below (T121.setTop (mkF m 45 #[.val (.ref a0), .val (.ref b102), .val (.int (3 : Int32))] [(.int (19 : Int32)), (.ref a0), (.int c3), (.int (3 : Int32)), (.ref b102)])) _
    have hin125 : ¬ ((19 : Int32) < 0 ∨ cl125.slots.size ≤ ((19 : Int32)).toNatClampNeg) := (inb_of S125 ⟨by decide, by decide⟩)
    refine X121.baloadBytes hx (j := (19 : Int32)) (v := (.int c19)) (by rw [e121]; exact Ar125.1) (State.isArrayOf_alike hZ.alike Ar125.2.1) Ar125.2.2 hin125 (H125.at hin125 rfl) (g := (mkF m 45 #[.val (.ref a0), .val (.ref b102), .val (.int (3 : Int32))] [(.int (19 : Int32)), (.ref a0), (.int c3), (.int (3 : Int32)), (.ref b102)])) rfl rfl (hb hby d2_45) _ ?_
    show Steps p.tables e below (T121.setTop (mkF m 46 #[.val (.ref a0), .val (.ref b102), .val (.int (3 : Int32))] [(.int c19), (.int c3), (.int (3 : Int32)), (.ref b102)])) _
    refine XS.ixor X121.here hx rfl (hb hby d2_46) rfl ?_
    show Steps p.tables e below (T121.setTop (mkF m 47 #[.val (.ref a0), .val (.ref b102), .val (.int (3 : Int32))] [(.int (c3 ^^^ c19)), (.int (3 : Int32)), (.ref b102)])) _
    refine XS.i2b X121.here hx rfl (hb hby d2_47) rfl ?_
    show Steps p.tables e below (T121.setTop (mkF m 48 #[.val (.ref a0), .val (.ref b102), .val (.int (3 : Int32))] [(.int ((c3 ^^^ c19).toInt8.toInt32)), (.int (3 : Int32)), (.ref b102)])) _
    refine st127 _ ?_
    show Steps p.tables e below (T127.setTop (mkF m 49 #[.val (.ref a0), .val (.ref b102), .val (.int (3 : Int32))] [])) _
    refine XS.iinc X127.here hx rfl (hb hby d2_49) rfl (l' := #[.val (.ref a0), .val (.ref b102), .val (.int (4 : Int32))]) rfl ?_
    show Steps p.tables e below (T127.setTop (mkF m 52 #[.val (.ref a0), .val (.ref b102), .val (.int (4 : Int32))] [])) _
    refine XS.goto X127.here hx rfl (pc0 := 52) (pc' := 29) rfl (hb hby d2_52) (by decide) (by decide) ?_
    show Steps p.tables e below (T127.setTop (mkF m 29 #[.val (.ref a0), .val (.ref b102), .val (.int (4 : Int32))] [])) _
    refine XS.iloadN X127.here hx rfl (hb hby d2_29) rfl ?_
    show Steps p.tables e below (T127.setTop (mkF m 30 #[.val (.ref a0), .val (.ref b102), .val (.int (4 : Int32))] [(.int (4 : Int32))])) _
    refine XS.aloadN X127.here hx rfl (hb hby d2_30) rfl rfl ?_
    show Steps p.tables e below (T127.setTop (mkF m 31 #[.val (.ref a0), .val (.ref b102), .val (.int (4 : Int32))] [(.ref b102), (.int (4 : Int32))])) _
    refine X127.arraylength hx (by rw [e127]; exact Ar129.1) (State.isArrayOf_alike hZ.alike Ar129.2.1) (g := (mkF m 31 #[.val (.ref a0), .val (.ref b102), .val (.int (4 : Int32))] [(.ref b102), (.int (4 : Int32))])) rfl rfl (hb hby d2_31) _ ?_
    rw [len_of S129 M129]
    show Steps p.tables e below (T127.setTop (mkF m 32 #[.val (.ref a0), .val (.ref b102), .val (.int (4 : Int32))] [(.int (16 : Int32)), (.int (4 : Int32))])) _
    refine XS.icmpNo X127.here hx rfl (hb hby d2_32) rfl (tlt (by decide : (4 : Int32) < (16 : Int32))).2.1 ?_
    show Steps p.tables e below (T127.setTop (mkF m 35 #[.val (.ref a0), .val (.ref b102), .val (.int (4 : Int32))] [])) _
    refine XS.aloadN X127.here hx rfl (hb hby d2_35) rfl rfl ?_
    show Steps p.tables e below (T127.setTop (mkF m 36 #[.val (.ref a0), .val (.ref b102), .val (.int (4 : Int32))] [(.ref b102)])) _
    refine XS.iloadN X127.here hx rfl (hb hby d2_36) rfl ?_
    show Steps p.tables e below (T127.setTop (mkF m 37 #[.val (.ref a0), .val (.ref b102), .val (.int (4 : Int32))] [(.int (4 : Int32)), (.ref b102)])) _
    refine XS.aloadN X127.here hx rfl (hb hby d2_37) rfl rfl ?_
    show Steps p.tables e below (T127.setTop (mkF m 38 #[.val (.ref a0), .val (.ref b102), .val (.int (4 : Int32))] [(.ref a0), (.int (4 : Int32)), (.ref b102)])) _
    refine XS.iloadN X127.here hx rfl (hb hby d2_38) rfl ?_
    show Steps p.tables e below (T127.setTop (mkF m 39 #[.val (.ref a0), .val (.ref b102), .val (.int (4 : Int32))] [(.int (4 : Int32)), (.ref a0), (.int (4 : Int32)), (.ref b102)])) _
    have hin130 : ¬ ((4 : Int32) < 0 ∨ cl130.slots.size ≤ ((4 : Int32)).toNatClampNeg) := (inb_of S130 ⟨by decide, by decide⟩)
    refine X127.baloadBytes hx (j := (4 : Int32)) (v := (.int c4)) (by rw [e127]; exact Ar130.1) (State.isArrayOf_alike hZ.alike Ar130.2.1) Ar130.2.2 hin130 (H130.at hin130 rfl) (g := (mkF m 39 #[.val (.ref a0), .val (.ref b102), .val (.int (4 : Int32))] [(.int (4 : Int32)), (.ref a0), (.int (4 : Int32)), (.ref b102)])) rfl rfl (hb hby d2_39) _ ?_
    show Steps p.tables e below (T127.setTop (mkF m 40 #[.val (.ref a0), .val (.ref b102), .val (.int (4 : Int32))] [(.int c4), (.int (4 : Int32)), (.ref b102)])) _
    refine XS.aloadN X127.here hx rfl (hb hby d2_40) rfl rfl ?_
    show Steps p.tables e below (T127.setTop (mkF m 41 #[.val (.ref a0), .val (.ref b102), .val (.int (4 : Int32))] [(.ref a0), (.int c4), (.int (4 : Int32)), (.ref b102)])) _
    refine XS.iloadN X127.here hx rfl (hb hby d2_41) rfl ?_
    show Steps p.tables e below (T127.setTop (mkF m 42 #[.val (.ref a0), .val (.ref b102), .val (.int (4 : Int32))] [(.int (4 : Int32)), (.ref a0), (.int c4), (.int (4 : Int32)), (.ref b102)])) _
    refine XS.bipush X127.here hx rfl (hb hby d2_42) ?_
    show Steps p.tables e below (T127.setTop (mkF m 44 #[.val (.ref a0), .val (.ref b102), .val (.int (4 : Int32))] [(.int (16 : Int32)), (.int (4 : Int32)), (.ref a0), (.int c4), (.int (4 : Int32)), (.ref b102)])) _
    refine XS.iadd X127.here hx rfl (hb hby d2_44) rfl ?_
    show Steps p.tables e below (T127.setTop (mkF m 45 #[.val (.ref a0), .val (.ref b102), .val (.int (4 : Int32))] [(.int (20 : Int32)), (.ref a0), (.int c4), (.int (4 : Int32)), (.ref b102)])) _
    have hin131 : ¬ ((20 : Int32) < 0 ∨ cl131.slots.size ≤ ((20 : Int32)).toNatClampNeg) := (inb_of S131 ⟨by decide, by decide⟩)
    refine X127.baloadBytes hx (j := (20 : Int32)) (v := (.int c20)) (by rw [e127]; exact Ar131.1) (State.isArrayOf_alike hZ.alike Ar131.2.1) Ar131.2.2 hin131 (H131.at hin131 rfl) (g := (mkF m 45 #[.val (.ref a0), .val (.ref b102), .val (.int (4 : Int32))] [(.int (20 : Int32)), (.ref a0), (.int c4), (.int (4 : Int32)), (.ref b102)])) rfl rfl (hb hby d2_45) _ ?_
    show Steps p.tables e below (T127.setTop (mkF m 46 #[.val (.ref a0), .val (.ref b102), .val (.int (4 : Int32))] [(.int c20), (.int c4), (.int (4 : Int32)), (.ref b102)])) _
    refine XS.ixor X127.here hx rfl (hb hby d2_46) rfl ?_
    show Steps p.tables e below (T127.setTop (mkF m 47 #[.val (.ref a0), .val (.ref b102), .val (.int (4 : Int32))] [(.int (c4 ^^^ c20)), (.int (4 : Int32)), (.ref b102)])) _
    refine XS.i2b X127.here hx rfl (hb hby d2_47) rfl ?_
    show Steps p.tables e below (T127.setTop (mkF m 48 #[.val (.ref a0), .val (.ref b102), .val (.int (4 : Int32))] [(.int ((c4 ^^^ c20).toInt8.toInt32)), (.int (4 : Int32)), (.ref b102)])) _
    refine st133 _ ?_
    show Steps p.tables e below (T133.setTop (mkF m 49 #[.val (.ref a0), .val (.ref b102), .val (.int (4 : Int32))] [])) _
    refine XS.iinc X133.here hx rfl (hb hby d2_49) rfl (l' := #[.val (.ref a0), .val (.ref b102), .val (.int (5 : Int32))]) rfl ?_
    show Steps p.tables e below (T133.setTop (mkF m 52 #[.val (.ref a0), .val (.ref b102), .val (.int (5 : Int32))] [])) _
    refine XS.goto X133.here hx rfl (pc0 := 52) (pc' := 29) rfl (hb hby d2_52) (by decide) (by decide) ?_
    show Steps p.tables e below (T133.setTop (mkF m 29 #[.val (.ref a0), .val (.ref b102), .val (.int (5 : Int32))] [])) _
    refine XS.iloadN X133.here hx rfl (hb hby d2_29) rfl ?_
    show Steps p.tables e below (T133.setTop (mkF m 30 #[.val (.ref a0), .val (.ref b102), .val (.int (5 : Int32))] [(.int (5 : Int32))])) _
    refine XS.aloadN X133.here hx rfl (hb hby d2_30) rfl rfl ?_
    show Steps p.tables e below (T133.setTop (mkF m 31 #[.val (.ref a0), .val (.ref b102), .val (.int (5 : Int32))] [(.ref b102), (.int (5 : Int32))])) _
    refine X133.arraylength hx (by rw [e133]; exact Ar135.1) (State.isArrayOf_alike hZ.alike Ar135.2.1) (g := (mkF m 31 #[.val (.ref a0), .val (.ref b102), .val (.int (5 : Int32))] [(.ref b102), (.int (5 : Int32))])) rfl rfl (hb hby d2_31) _ ?_
    rw [len_of S135 M135]
    show Steps p.tables e below (T133.setTop (mkF m 32 #[.val (.ref a0), .val (.ref b102), .val (.int (5 : Int32))] [(.int (16 : Int32)), (.int (5 : Int32))])) _
    refine XS.icmpNo X133.here hx rfl (hb hby d2_32) rfl (tlt (by decide : (5 : Int32) < (16 : Int32))).2.1 ?_
    show Steps p.tables e below (T133.setTop (mkF m 35 #[.val (.ref a0), .val (.ref b102), .val (.int (5 : Int32))] [])) _
    refine XS.aloadN X133.here hx rfl (hb hby d2_35) rfl rfl ?_
    show Steps p.tables e below (T133.setTop (mkF m 36 #[.val (.ref a0), .val (.ref b102), .val (.int (5 : Int32))] [(.ref b102)])) _
    refine XS.iloadN X133.here hx rfl (hb hby d2_36) rfl ?_
    show Steps p.tables e below (T133.setTop (mkF m 37 #[.val (.ref a0), .val (.ref b102), .val (.int (5 : Int32))] [(.int (5 : Int32)), (.ref b102)])) _
    refine XS.aloadN X133.here hx rfl (hb hby d2_37) rfl rfl ?_
    show Steps p.tables e below (T133.setTop (mkF m 38 #[.val (.ref a0), .val (.ref b102), .val (.int (5 : Int32))] [(.ref a0), (.int (5 : Int32)), (.ref b102)])) _
    refine XS.iloadN X133.here hx rfl (hb hby d2_38) rfl ?_
    show Steps p.tables e below (T133.setTop (mkF m 39 #[.val (.ref a0), .val (.ref b102), .val (.int (5 : Int32))] [(.int (5 : Int32)), (.ref a0), (.int (5 : Int32)), (.ref b102)])) _
    have hin136 : ¬ ((5 : Int32) < 0 ∨ cl136.slots.size ≤ ((5 : Int32)).toNatClampNeg) := (inb_of S136 ⟨by decide, by decide⟩)
    refine X133.baloadBytes hx (j := (5 : Int32)) (v := (.int c5)) (by rw [e133]; exact Ar136.1) (State.isArrayOf_alike hZ.alike Ar136.2.1) Ar136.2.2 hin136 (H136.at hin136 rfl) (g := (mkF m 39 #[.val (.ref a0), .val (.ref b102), .val (.int (5 : Int32))] [(.int (5 : Int32)), (.ref a0), (.int (5 : Int32)), (.ref b102)])) rfl rfl (hb hby d2_39) _ ?_
    show Steps p.tables e below (T133.setTop (mkF m 40 #[.val (.ref a0), .val (.ref b102), .val (.int (5 : Int32))] [(.int c5), (.int (5 : Int32)), (.ref b102)])) _
    refine XS.aloadN X133.here hx rfl (hb hby d2_40) rfl rfl ?_
    show Steps p.tables e below (T133.setTop (mkF m 41 #[.val (.ref a0), .val (.ref b102), .val (.int (5 : Int32))] [(.ref a0), (.int c5), (.int (5 : Int32)), (.ref b102)])) _
    refine XS.iloadN X133.here hx rfl (hb hby d2_41) rfl ?_
    show Steps p.tables e below (T133.setTop (mkF m 42 #[.val (.ref a0), .val (.ref b102), .val (.int (5 : Int32))] [(.int (5 : Int32)), (.ref a0), (.int c5), (.int (5 : Int32)), (.ref b102)])) _
    refine XS.bipush X133.here hx rfl (hb hby d2_42) ?_
    show Steps p.tables e below (T133.setTop (mkF m 44 #[.val (.ref a0), .val (.ref b102), .val (.int (5 : Int32))] [(.int (16 : Int32)), (.int (5 : Int32)), (.ref a0), (.int c5), (.int (5 : Int32)), (.ref b102)])) _
    refine XS.iadd X133.here hx rfl (hb hby d2_44) rfl ?_
    show Steps p.tables e below (T133.setTop (mkF m 45 #[.val (.ref a0), .val (.ref b102), .val (.int (5 : Int32))] [(.int (21 : Int32)), (.ref a0), (.int c5), (.int (5 : Int32)), (.ref b102)])) _
    have hin137 : ¬ ((21 : Int32) < 0 ∨ cl137.slots.size ≤ ((21 : Int32)).toNatClampNeg) := (inb_of S137 ⟨by decide, by decide⟩)
    refine X133.baloadBytes hx (j := (21 : Int32)) (v := (.int c21)) (by rw [e133]; exact Ar137.1) (State.isArrayOf_alike hZ.alike Ar137.2.1) Ar137.2.2 hin137 (H137.at hin137 rfl) (g := (mkF m 45 #[.val (.ref a0), .val (.ref b102), .val (.int (5 : Int32))] [(.int (21 : Int32)), (.ref a0), (.int c5), (.int (5 : Int32)), (.ref b102)])) rfl rfl (hb hby d2_45) _ ?_
    show Steps p.tables e below (T133.setTop (mkF m 46 #[.val (.ref a0), .val (.ref b102), .val (.int (5 : Int32))] [(.int c21), (.int c5), (.int (5 : Int32)), (.ref b102)])) _
    refine XS.ixor X133.here hx rfl (hb hby d2_46) rfl ?_
    show Steps p.tables e below (T133.setTop (mkF m 47 #[.val (.ref a0), .val (.ref b102), .val (.int (5 : Int32))] [(.int (c5 ^^^ c21)), (.int (5 : Int32)), (.ref b102)])) _
    refine XS.i2b X133.here hx rfl (hb hby d2_47) rfl ?_
    show Steps p.tables e below (T133.setTop (mkF m 48 #[.val (.ref a0), .val (.ref b102), .val (.int (5 : Int32))] [(.int ((c5 ^^^ c21).toInt8.toInt32)), (.int (5 : Int32)), (.ref b102)])) _
    refine st139 _ ?_
    show Steps p.tables e below (T139.setTop (mkF m 49 #[.val (.ref a0), .val (.ref b102), .val (.int (5 : Int32))] [])) _
    refine XS.iinc X139.here hx rfl (hb hby d2_49) rfl (l' := #[.val (.ref a0), .val (.ref b102), .val (.int (6 : Int32))]) rfl ?_
    show Steps p.tables e below (T139.setTop (mkF m 52 #[.val (.ref a0), .val (.ref b102), .val (.int (6 : Int32))] [])) _
    refine XS.goto X139.here hx rfl (pc0 := 52) (pc' := 29) rfl (hb hby d2_52) (by decide) (by decide) ?_
    show Steps p.tables e below (T139.setTop (mkF m 29 #[.val (.ref a0), .val (.ref b102), .val (.int (6 : Int32))] [])) _
    refine XS.iloadN X139.here hx rfl (hb hby d2_29) rfl ?_
    show Steps p.tables e below (T139.setTop (mkF m 30 #[.val (.ref a0), .val (.ref b102), .val (.int (6 : Int32))] [(.int (6 : Int32))])) _
    refine XS.aloadN X139.here hx rfl (hb hby d2_30) rfl rfl ?_
    show Steps p.tables e below (T139.setTop (mkF m 31 #[.val (.ref a0), .val (.ref b102), .val (.int (6 : Int32))] [(.ref b102), (.int (6 : Int32))])) _
    refine X139.arraylength hx (by rw [e139]; exact Ar141.1) (State.isArrayOf_alike hZ.alike Ar141.2.1) (g := (mkF m 31 #[.val (.ref a0), .val (.ref b102), .val (.int (6 : Int32))] [(.ref b102), (.int (6 : Int32))])) rfl rfl (hb hby d2_31) _ ?_
    rw [len_of S141 M141]
    show Steps p.tables e below (T139.setTop (mkF m 32 #[.val (.ref a0), .val (.ref b102), .val (.int (6 : Int32))] [(.int (16 : Int32)), (.int (6 : Int32))])) _
    refine XS.icmpNo X139.here hx rfl (hb hby d2_32) rfl (tlt (by decide : (6 : Int32) < (16 : Int32))).2.1 ?_
    show Steps p.tables e below (T139.setTop (mkF m 35 #[.val (.ref a0), .val (.ref b102), .val (.int (6 : Int32))] [])) _
    refine XS.aloadN X139.here hx rfl (hb hby d2_35) rfl rfl ?_
    show Steps p.tables e below (T139.setTop (mkF m 36 #[.val (.ref a0), .val (.ref b102), .val (.int (6 : Int32))] [(.ref b102)])) _
    refine XS.iloadN X139.here hx rfl (hb hby d2_36) rfl ?_
    show Steps p.tables e below (T139.setTop (mkF m 37 #[.val (.ref a0), .val (.ref b102), .val (.int (6 : Int32))] [(.int (6 : Int32)), (.ref b102)])) _
    refine XS.aloadN X139.here hx rfl (hb hby d2_37) rfl rfl ?_
    show Steps p.tables e below (T139.setTop (mkF m 38 #[.val (.ref a0), .val (.ref b102), .val (.int (6 : Int32))] [(.ref a0), (.int (6 : Int32)), (.ref b102)])) _
    refine XS.iloadN X139.here hx rfl (hb hby d2_38) rfl ?_
    show Steps p.tables e below (T139.setTop (mkF m 39 #[.val (.ref a0), .val (.ref b102), .val (.int (6 : Int32))] [(.int (6 : Int32)), (.ref a0), (.int (6 : Int32)), (.ref b102)])) _
    have hin142 : ¬ ((6 : Int32) < 0 ∨ cl142.slots.size ≤ ((6 : Int32)).toNatClampNeg) := (inb_of S142 ⟨by decide, by decide⟩)
    refine X139.baloadBytes hx (j := (6 : Int32)) (v := (.int c6)) (by rw [e139]; exact Ar142.1) (State.isArrayOf_alike hZ.alike Ar142.2.1) Ar142.2.2 hin142 (H142.at hin142 rfl) (g := (mkF m 39 #[.val (.ref a0), .val (.ref b102), .val (.int (6 : Int32))] [(.int (6 : Int32)), (.ref a0), (.int (6 : Int32)), (.ref b102)])) rfl rfl (hb hby d2_39) _ ?_
    show Steps p.tables e below (T139.setTop (mkF m 40 #[.val (.ref a0), .val (.ref b102), .val (.int (6 : Int32))] [(.int c6), (.int (6 : Int32)), (.ref b102)])) _
    refine XS.aloadN X139.here hx rfl (hb hby d2_40) rfl rfl ?_
    show Steps p.tables e below (T139.setTop (mkF m 41 #[.val (.ref a0), .val (.ref b102), .val (.int (6 : Int32))] [(.ref a0), (.int c6), (.int (6 : Int32)), (.ref b102)])) _
    refine XS.iloadN X139.here hx rfl (hb hby d2_41) rfl ?_
    show Steps p.tables e below (T139.setTop (mkF m 42 #[.val (.ref a0), .val (.ref b102), .val (.int (6 : Int32))] [(.int (6 : Int32)), (.ref a0), (.int c6), (.int (6 : Int32)), (.ref b102)])) _
    refine XS.bipush X139.here hx rfl (hb hby d2_42) ?_
    show Steps p.tables e below (T139.setTop (mkF m 44 #[.val (.ref a0), .val (.ref b102), .val (.int (6 : Int32))] [(.int (16 : Int32)), (.int (6 : Int32)), (.ref a0), (.int c6), (.int (6 : Int32)), (.ref b102)])) _
    refine XS.iadd X139.here hx rfl (hb hby d2_44) rfl ?_
    show Steps p.tables e below (T139.setTop (mkF m 45 #[.val (.ref a0), .val (.ref b102), .val (.int (6 : Int32))] [(.int (22 : Int32)), (.ref a0), (.int c6), (.int (6 : Int32)), (.ref b102)])) _
    have hin143 : ¬ ((22 : Int32) < 0 ∨ cl143.slots.size ≤ ((22 : Int32)).toNatClampNeg) := (inb_of S143 ⟨by decide, by decide⟩)
    refine X139.baloadBytes hx (j := (22 : Int32)) (v := (.int c22)) (by rw [e139]; exact Ar143.1) (State.isArrayOf_alike hZ.alike Ar143.2.1) Ar143.2.2 hin143 (H143.at hin143 rfl) (g := (mkF m 45 #[.val (.ref a0), .val (.ref b102), .val (.int (6 : Int32))] [(.int (22 : Int32)), (.ref a0), (.int c6), (.int (6 : Int32)), (.ref b102)])) rfl rfl (hb hby d2_45) _ ?_
    show Steps p.tables e below (T139.setTop (mkF m 46 #[.val (.ref a0), .val (.ref b102), .val (.int (6 : Int32))] [(.int c22), (.int c6), (.int (6 : Int32)), (.ref b102)])) _
    refine XS.ixor X139.here hx rfl (hb hby d2_46) rfl ?_
    show Steps p.tables e below (T139.setTop (mkF m 47 #[.val (.ref a0), .val (.ref b102), .val (.int (6 : Int32))] [(.int (c6 ^^^ c22)), (.int (6 : Int32)), (.ref b102)])) _
    refine XS.i2b X139.here hx rfl (hb hby d2_47) rfl ?_
    show Steps p.tables e below (T139.setTop (mkF m 48 #[.val (.ref a0), .val (.ref b102), .val (.int (6 : Int32))] [(.int ((c6 ^^^ c22).toInt8.toInt32)), (.int (6 : Int32)), (.ref b102)])) _
    refine st145 _ ?_
    show Steps p.tables e below (T145.setTop (mkF m 49 #[.val (.ref a0), .val (.ref b102), .val (.int (6 : Int32))] [])) _
    refine XS.iinc X145.here hx rfl (hb hby d2_49) rfl (l' := #[.val (.ref a0), .val (.ref b102), .val (.int (7 : Int32))]) rfl ?_
    show Steps p.tables e below (T145.setTop (mkF m 52 #[.val (.ref a0), .val (.ref b102), .val (.int (7 : Int32))] [])) _
    refine XS.goto X145.here hx rfl (pc0 := 52) (pc' := 29) rfl (hb hby d2_52) (by decide) (by decide) ?_
    show Steps p.tables e below (T145.setTop (mkF m 29 #[.val (.ref a0), .val (.ref b102), .val (.int (7 : Int32))] [])) _
    refine XS.iloadN X145.here hx rfl (hb hby d2_29) rfl ?_
    show Steps p.tables e below (T145.setTop (mkF m 30 #[.val (.ref a0), .val (.ref b102), .val (.int (7 : Int32))] [(.int (7 : Int32))])) _
    refine XS.aloadN X145.here hx rfl (hb hby d2_30) rfl rfl ?_
    show Steps p.tables e below (T145.setTop (mkF m 31 #[.val (.ref a0), .val (.ref b102), .val (.int (7 : Int32))] [(.ref b102), (.int (7 : Int32))])) _
    refine X145.arraylength hx (by rw [e145]; exact Ar147.1) (State.isArrayOf_alike hZ.alike Ar147.2.1) (g := (mkF m 31 #[.val (.ref a0), .val (.ref b102), .val (.int (7 : Int32))] [(.ref b102), (.int (7 : Int32))])) rfl rfl (hb hby d2_31) _ ?_
    rw [len_of S147 M147]
    show Steps p.tables e below (T145.setTop (mkF m 32 #[.val (.ref a0), .val (.ref b102), .val (.int (7 : Int32))] [(.int (16 : Int32)), (.int (7 : Int32))])) _
    refine XS.icmpNo X145.here hx rfl (hb hby d2_32) rfl (tlt (by decide : (7 : Int32) < (16 : Int32))).2.1 ?_
    show Steps p.tables e below (T145.setTop (mkF m 35 #[.val (.ref a0), .val (.ref b102), .val (.int (7 : Int32))] [])) _
    refine XS.aloadN X145.here hx rfl (hb hby d2_35) rfl rfl ?_
    show Steps p.tables e below (T145.setTop (mkF m 36 #[.val (.ref a0), .val (.ref b102), .val (.int (7 : Int32))] [(.ref b102)])) _
    refine XS.iloadN X145.here hx rfl (hb hby d2_36) rfl ?_
    show Steps p.tables e below (T145.setTop (mkF m 37 #[.val (.ref a0), .val (.ref b102), .val (.int (7 : Int32))] [(.int (7 : Int32)), (.ref b102)])) _
    refine XS.aloadN X145.here hx rfl (hb hby d2_37) rfl rfl ?_
    show Steps p.tables e below (T145.setTop (mkF m 38 #[.val (.ref a0), .val (.ref b102), .val (.int (7 : Int32))] [(.ref a0), (.int (7 : Int32)), (.ref b102)])) _
    refine XS.iloadN X145.here hx rfl (hb hby d2_38) rfl ?_
    show Steps p.tables e below (T145.setTop (mkF m 39 #[.val (.ref a0), .val (.ref b102), .val (.int (7 : Int32))] [(.int (7 : Int32)), (.ref a0), (.int (7 : Int32)), (.ref b102)])) _
    have hin148 : ¬ ((7 : Int32) < 0 ∨ cl148.slots.size ≤ ((7 : Int32)).toNatClampNeg) := (inb_of S148 ⟨by decide, by decide⟩)
    refine X145.baloadBytes hx (j := (7 : Int32)) (v := (.int c7)) (by rw [e145]; exact Ar148.1) (State.isArrayOf_alike hZ.alike Ar148.2.1) Ar148.2.2 hin148 (H148.at hin148 rfl) (g := (mkF m 39 #[.val (.ref a0), .val (.ref b102), .val (.int (7 : Int32))] [(.int (7 : Int32)), (.ref a0), (.int (7 : Int32)), (.ref b102)])) rfl rfl (hb hby d2_39) _ ?_
    show Steps p.tables e below (T145.setTop (mkF m 40 #[.val (.ref a0), .val (.ref b102), .val (.int (7 : Int32))] [(.int c7), (.int (7 : Int32)), (.ref b102)])) _
    refine XS.aloadN X145.here hx rfl (hb hby d2_40) rfl rfl ?_
    show Steps p.tables e below (T145.setTop (mkF m 41 #[.val (.ref a0), .val (.ref b102), .val (.int (7 : Int32))] [(.ref a0), (.int c7), (.int (7 : Int32)), (.ref b102)])) _
    refine XS.iloadN X145.here hx rfl (hb hby d2_41) rfl ?_
    show Steps p.tables e below (T145.setTop (mkF m 42 #[.val (.ref a0), .val (.ref b102), .val (.int (7 : Int32))] [(.int (7 : Int32)), (.ref a0), (.int c7), (.int (7 : Int32)), (.ref b102)])) _
    refine XS.bipush X145.here hx rfl (hb hby d2_42) ?_
    show Steps p.tables e below (T145.setTop (mkF m 44 #[.val (.ref a0), .val (.ref b102), .val (.int (7 : Int32))] [(.int (16 : Int32)), (.int (7 : Int32)), (.ref a0), (.int c7), (.int (7 : Int32)), (.ref b102)])) _
    refine XS.iadd X145.here hx rfl (hb hby d2_44) rfl ?_
    show Steps p.tables e below (T145.setTop (mkF m 45 #[.val (.ref a0), .val (.ref b102), .val (.int (7 : Int32))] [(.int (23 : Int32)), (.ref a0), (.int c7), (.int (7 : Int32)), (.ref b102)])) _
    have hin149 : ¬ ((23 : Int32) < 0 ∨ cl149.slots.size ≤ ((23 : Int32)).toNatClampNeg) := (inb_of S149 ⟨by decide, by decide⟩)
    refine X145.baloadBytes hx (j := (23 : Int32)) (v := (.int c23)) (by rw [e145]; exact Ar149.1) (State.isArrayOf_alike hZ.alike Ar149.2.1) Ar149.2.2 hin149 (H149.at hin149 rfl) (g := (mkF m 45 #[.val (.ref a0), .val (.ref b102), .val (.int (7 : Int32))] [(.int (23 : Int32)), (.ref a0), (.int c7), (.int (7 : Int32)), (.ref b102)])) rfl rfl (hb hby d2_45) _ ?_
    show Steps p.tables e below (T145.setTop (mkF m 46 #[.val (.ref a0), .val (.ref b102), .val (.int (7 : Int32))] [(.int c23), (.int c7), (.int (7 : Int32)), (.ref b102)])) _
    refine XS.ixor X145.here hx rfl (hb hby d2_46) rfl ?_
    show Steps p.tables e below (T145.setTop (mkF m 47 #[.val (.ref a0), .val (.ref b102), .val (.int (7 : Int32))] [(.int (c7 ^^^ c23)), (.int (7 : Int32)), (.ref b102)])) _
    refine XS.i2b X145.here hx rfl (hb hby d2_47) rfl ?_
    show Steps p.tables e below (T145.setTop (mkF m 48 #[.val (.ref a0), .val (.ref b102), .val (.int (7 : Int32))] [(.int ((c7 ^^^ c23).toInt8.toInt32)), (.int (7 : Int32)), (.ref b102)])) _
    refine st151 _ ?_
    show Steps p.tables e below (T151.setTop (mkF m 49 #[.val (.ref a0), .val (.ref b102), .val (.int (7 : Int32))] [])) _
    refine XS.iinc X151.here hx rfl (hb hby d2_49) rfl (l' := #[.val (.ref a0), .val (.ref b102), .val (.int (8 : Int32))]) rfl ?_
    show Steps p.tables e below (T151.setTop (mkF m 52 #[.val (.ref a0), .val (.ref b102), .val (.int (8 : Int32))] [])) _
    refine XS.goto X151.here hx rfl (pc0 := 52) (pc' := 29) rfl (hb hby d2_52) (by decide) (by decide) ?_
    show Steps p.tables e below (T151.setTop (mkF m 29 #[.val (.ref a0), .val (.ref b102), .val (.int (8 : Int32))] [])) _
    refine XS.iloadN X151.here hx rfl (hb hby d2_29) rfl ?_
    show Steps p.tables e below (T151.setTop (mkF m 30 #[.val (.ref a0), .val (.ref b102), .val (.int (8 : Int32))] [(.int (8 : Int32))])) _
    refine XS.aloadN X151.here hx rfl (hb hby d2_30) rfl rfl ?_
    show Steps p.tables e below (T151.setTop (mkF m 31 #[.val (.ref a0), .val (.ref b102), .val (.int (8 : Int32))] [(.ref b102), (.int (8 : Int32))])) _
    refine X151.arraylength hx (by rw [e151]; exact Ar153.1) (State.isArrayOf_alike hZ.alike Ar153.2.1) (g := (mkF m 31 #[.val (.ref a0), .val (.ref b102), .val (.int (8 : Int32))] [(.ref b102), (.int (8 : Int32))])) rfl rfl (hb hby d2_31) _ ?_
    rw [len_of S153 M153]
    show Steps p.tables e below (T151.setTop (mkF m 32 #[.val (.ref a0), .val (.ref b102), .val (.int (8 : Int32))] [(.int (16 : Int32)), (.int (8 : Int32))])) _
    refine XS.icmpNo X151.here hx rfl (hb hby d2_32) rfl (tlt (by decide : (8 : Int32) < (16 : Int32))).2.1 ?_
    show Steps p.tables e below (T151.setTop (mkF m 35 #[.val (.ref a0), .val (.ref b102), .val (.int (8 : Int32))] [])) _
    refine XS.aloadN X151.here hx rfl (hb hby d2_35) rfl rfl ?_
    show Steps p.tables e below (T151.setTop (mkF m 36 #[.val (.ref a0), .val (.ref b102), .val (.int (8 : Int32))] [(.ref b102)])) _
    refine XS.iloadN X151.here hx rfl (hb hby d2_36) rfl ?_
    show Steps p.tables e below (T151.setTop (mkF m 37 #[.val (.ref a0), .val (.ref b102), .val (.int (8 : Int32))] [(.int (8 : Int32)), (.ref b102)])) _
    refine XS.aloadN X151.here hx rfl (hb hby d2_37) rfl rfl ?_
    show Steps p.tables e below (T151.setTop (mkF m 38 #[.val (.ref a0), .val (.ref b102), .val (.int (8 : Int32))] [(.ref a0), (.int (8 : Int32)), (.ref b102)])) _
    refine XS.iloadN X151.here hx rfl (hb hby d2_38) rfl ?_
    show Steps p.tables e below (T151.setTop (mkF m 39 #[.val (.ref a0), .val (.ref b102), .val (.int (8 : Int32))] [(.int (8 : Int32)), (.ref a0), (.int (8 : Int32)), (.ref b102)])) _
    have hin154 : ¬ ((8 : Int32) < 0 ∨ cl154.slots.size ≤ ((8 : Int32)).toNatClampNeg) := (inb_of S154 ⟨by decide, by decide⟩)
    refine X151.baloadBytes hx (j := (8 : Int32)) (v := (.int c8)) (by rw [e151]; exact Ar154.1) (State.isArrayOf_alike hZ.alike Ar154.2.1) Ar154.2.2 hin154 (H154.at hin154 rfl) (g := (mkF m 39 #[.val (.ref a0), .val (.ref b102), .val (.int (8 : Int32))] [(.int (8 : Int32)), (.ref a0), (.int (8 : Int32)), (.ref b102)])) rfl rfl (hb hby d2_39) _ ?_
    show Steps p.tables e below (T151.setTop (mkF m 40 #[.val (.ref a0), .val (.ref b102), .val (.int (8 : Int32))] [(.int c8), (.int (8 : Int32)), (.ref b102)])) _
    refine XS.aloadN X151.here hx rfl (hb hby d2_40) rfl rfl ?_
    show Steps p.tables e below (T151.setTop (mkF m 41 #[.val (.ref a0), .val (.ref b102), .val (.int (8 : Int32))] [(.ref a0), (.int c8), (.int (8 : Int32)), (.ref b102)])) _
    refine XS.iloadN X151.here hx rfl (hb hby d2_41) rfl ?_
    show Steps p.tables e below (T151.setTop (mkF m 42 #[.val (.ref a0), .val (.ref b102), .val (.int (8 : Int32))] [(.int (8 : Int32)), (.ref a0), (.int c8), (.int (8 : Int32)), (.ref b102)])) _
    refine XS.bipush X151.here hx rfl (hb hby d2_42) ?_
    show Steps p.tables e below (T151.setTop (mkF m 44 #[.val (.ref a0), .val (.ref b102), .val (.int (8 : Int32))] [(.int (16 : Int32)), (.int (8 : Int32)), (.ref a0), (.int c8), (.int (8 : Int32)), (.ref b102)])) _
    refine XS.iadd X151.here hx rfl (hb hby d2_44) rfl ?_
    show Steps p.tables e below (T151.setTop (mkF m 45 #[.val (.ref a0), .val (.ref b102), .val (.int (8 : Int32))] [(.int (24 : Int32)), (.ref a0), (.int c8), (.int (8 : Int32)), (.ref b102)])) _
    have hin155 : ¬ ((24 : Int32) < 0 ∨ cl155.slots.size ≤ ((24 : Int32)).toNatClampNeg) := (inb_of S155 ⟨by decide, by decide⟩)
    refine X151.baloadBytes hx (j := (24 : Int32)) (v := (.int c24)) (by rw [e151]; exact Ar155.1) (State.isArrayOf_alike hZ.alike Ar155.2.1) Ar155.2.2 hin155 (H155.at hin155 rfl) (g := (mkF m 45 #[.val (.ref a0), .val (.ref b102), .val (.int (8 : Int32))] [(.int (24 : Int32)), (.ref a0), (.int c8), (.int (8 : Int32)), (.ref b102)])) rfl rfl (hb hby d2_45) _ ?_
    show Steps p.tables e below (T151.setTop (mkF m 46 #[.val (.ref a0), .val (.ref b102), .val (.int (8 : Int32))] [(.int c24), (.int c8), (.int (8 : Int32)), (.ref b102)])) _
    refine XS.ixor X151.here hx rfl (hb hby d2_46) rfl ?_
    show Steps p.tables e below (T151.setTop (mkF m 47 #[.val (.ref a0), .val (.ref b102), .val (.int (8 : Int32))] [(.int (c8 ^^^ c24)), (.int (8 : Int32)), (.ref b102)])) _
    refine XS.i2b X151.here hx rfl (hb hby d2_47) rfl ?_
    show Steps p.tables e below (T151.setTop (mkF m 48 #[.val (.ref a0), .val (.ref b102), .val (.int (8 : Int32))] [(.int ((c8 ^^^ c24).toInt8.toInt32)), (.int (8 : Int32)), (.ref b102)])) _
    refine st157 _ ?_
    show Steps p.tables e below (T157.setTop (mkF m 49 #[.val (.ref a0), .val (.ref b102), .val (.int (8 : Int32))] [])) _
    refine XS.iinc X157.here hx rfl (hb hby d2_49) rfl (l' := #[.val (.ref a0), .val (.ref b102), .val (.int (9 : Int32))]) rfl ?_
    show Steps p.tables e below (T157.setTop (mkF m 52 #[.val (.ref a0), .val (.ref b102), .val (.int (9 : Int32))] [])) _
    refine XS.goto X157.here hx rfl (pc0 := 52) (pc' := 29) rfl (hb hby d2_52) (by decide) (by decide) ?_
    show Steps p.tables e below (T157.setTop (mkF m 29 #[.val (.ref a0), .val (.ref b102), .val (.int (9 : Int32))] [])) _
    refine XS.iloadN X157.here hx rfl (hb hby d2_29) rfl ?_
    show Steps p.tables e below (T157.setTop (mkF m 30 #[.val (.ref a0), .val (.ref b102), .val (.int (9 : Int32))] [(.int (9 : Int32))])) _
    refine XS.aloadN X157.here hx rfl (hb hby d2_30) rfl rfl ?_
    show Steps p.tables e below (T157.setTop (mkF m 31 #[.val (.ref a0), .val (.ref b102), .val (.int (9 : Int32))] [(.ref b102), (.int (9 : Int32))])) _
    refine X157.arraylength hx (by rw [e157]; exact Ar159.1) (State.isArrayOf_alike hZ.alike Ar159.2.1) (g := (mkF m 31 #[.val (.ref a0), .val (.ref b102), .val (.int (9 : Int32))] [(.ref b102), (.int (9 : Int32))])) rfl rfl (hb hby d2_31) _ ?_
    rw [len_of S159 M159]
    show Steps p.tables e below (T157.setTop (mkF m 32 #[.val (.ref a0), .val (.ref b102), .val (.int (9 : Int32))] [(.int (16 : Int32)), (.int (9 : Int32))])) _
    refine XS.icmpNo X157.here hx rfl (hb hby d2_32) rfl (tlt (by decide : (9 : Int32) < (16 : Int32))).2.1 ?_
    show Steps p.tables e below (T157.setTop (mkF m 35 #[.val (.ref a0), .val (.ref b102), .val (.int (9 : Int32))] [])) _
    refine XS.aloadN X157.here hx rfl (hb hby d2_35) rfl rfl ?_
    show Steps p.tables e below (T157.setTop (mkF m 36 #[.val (.ref a0), .val (.ref b102), .val (.int (9 : Int32))] [(.ref b102)])) _
    refine XS.iloadN X157.here hx rfl (hb hby d2_36) rfl ?_
    show Steps p.tables e below (T157.setTop (mkF m 37 #[.val (.ref a0), .val (.ref b102), .val (.int (9 : Int32))] [(.int (9 : Int32)), (.ref b102)])) _
    refine XS.aloadN X157.here hx rfl (hb hby d2_37) rfl rfl ?_
    show Steps p.tables e below (T157.setTop (mkF m 38 #[.val (.ref a0), .val (.ref b102), .val (.int (9 : Int32))] [(.ref a0), (.int (9 : Int32)), (.ref b102)])) _
    refine XS.iloadN X157.here hx rfl (hb hby d2_38) rfl ?_
    show Steps p.tables e below (T157.setTop (mkF m 39 #[.val (.ref a0), .val (.ref b102), .val (.int (9 : Int32))] [(.int (9 : Int32)), (.ref a0), (.int (9 : Int32)), (.ref b102)])) _
    have hin160 : ¬ ((9 : Int32) < 0 ∨ cl160.slots.size ≤ ((9 : Int32)).toNatClampNeg) := (inb_of S160 ⟨by decide, by decide⟩)
    refine X157.baloadBytes hx (j := (9 : Int32)) (v := (.int c9)) (by rw [e157]; exact Ar160.1) (State.isArrayOf_alike hZ.alike Ar160.2.1) Ar160.2.2 hin160 (H160.at hin160 rfl) (g := (mkF m 39 #[.val (.ref a0), .val (.ref b102), .val (.int (9 : Int32))] [(.int (9 : Int32)), (.ref a0), (.int (9 : Int32)), (.ref b102)])) rfl rfl (hb hby d2_39) _ ?_
    show Steps p.tables e below (T157.setTop (mkF m 40 #[.val (.ref a0), .val (.ref b102), .val (.int (9 : Int32))] [(.int c9), (.int (9 : Int32)), (.ref b102)])) _
    refine XS.aloadN X157.here hx rfl (hb hby d2_40) rfl rfl ?_
    show Steps p.tables e below (T157.setTop (mkF m 41 #[.val (.ref a0), .val (.ref b102), .val (.int (9 : Int32))] [(.ref a0), (.int c9), (.int (9 : Int32)), (.ref b102)])) _
    refine XS.iloadN X157.here hx rfl (hb hby d2_41) rfl ?_
    show Steps p.tables e below (T157.setTop (mkF m 42 #[.val (.ref a0), .val (.ref b102), .val (.int (9 : Int32))] [(.int (9 : Int32)), (.ref a0), (.int c9), (.int (9 : Int32)), (.ref b102)])) _
    refine XS.bipush X157.here hx rfl (hb hby d2_42) ?_
    show Steps p.tables e below (T157.setTop (mkF m 44 #[.val (.ref a0), .val (.ref b102), .val (.int (9 : Int32))] [(.int (16 : Int32)), (.int (9 : Int32)), (.ref a0), (.int c9), (.int (9 : Int32)), (.ref b102)])) _
    refine XS.iadd X157.here hx rfl (hb hby d2_44) rfl ?_
    show Steps p.tables e below (T157.setTop (mkF m 45 #[.val (.ref a0), .val (.ref b102), .val (.int (9 : Int32))] [(.int (25 : Int32)), (.ref a0), (.int c9), (.int (9 : Int32)), (.ref b102)])) _
    have hin161 : ¬ ((25 : Int32) < 0 ∨ cl161.slots.size ≤ ((25 : Int32)).toNatClampNeg) := (inb_of S161 ⟨by decide, by decide⟩)
    refine X157.baloadBytes hx (j := (25 : Int32)) (v := (.int c25)) (by rw [e157]; exact Ar161.1) (State.isArrayOf_alike hZ.alike Ar161.2.1) Ar161.2.2 hin161 (H161.at hin161 rfl) (g := (mkF m 45 #[.val (.ref a0), .val (.ref b102), .val (.int (9 : Int32))] [(.int (25 : Int32)), (.ref a0), (.int c9), (.int (9 : Int32)), (.ref b102)])) rfl rfl (hb hby d2_45) _ ?_
    show Steps p.tables e below (T157.setTop (mkF m 46 #[.val (.ref a0), .val (.ref b102), .val (.int (9 : Int32))] [(.int c25), (.int c9), (.int (9 : Int32)), (.ref b102)])) _
    refine XS.ixor X157.here hx rfl (hb hby d2_46) rfl ?_
    show Steps p.tables e below (T157.setTop (mkF m 47 #[.val (.ref a0), .val (.ref b102), .val (.int (9 : Int32))] [(.int (c9 ^^^ c25)), (.int (9 : Int32)), (.ref b102)])) _
    refine XS.i2b X157.here hx rfl (hb hby d2_47) rfl ?_
    show Steps p.tables e below (T157.setTop (mkF m 48 #[.val (.ref a0), .val (.ref b102), .val (.int (9 : Int32))] [(.int ((c9 ^^^ c25).toInt8.toInt32)), (.int (9 : Int32)), (.ref b102)])) _
    refine st163 _ ?_
    show Steps p.tables e below (T163.setTop (mkF m 49 #[.val (.ref a0), .val (.ref b102), .val (.int (9 : Int32))] [])) _
    refine XS.iinc X163.here hx rfl (hb hby d2_49) rfl (l' := #[.val (.ref a0), .val (.ref b102), .val (.int (10 : Int32))]) rfl ?_
    show Steps p.tables e below (T163.setTop (mkF m 52 #[.val (.ref a0), .val (.ref b102), .val (.int (10 : Int32))] [])) _
    refine XS.goto X163.here hx rfl (pc0 := 52) (pc' := 29) rfl (hb hby d2_52) (by decide) (by decide) ?_
    show Steps p.tables e below (T163.setTop (mkF m 29 #[.val (.ref a0), .val (.ref b102), .val (.int (10 : Int32))] [])) _
    refine XS.iloadN X163.here hx rfl (hb hby d2_29) rfl ?_
    show Steps p.tables e below (T163.setTop (mkF m 30 #[.val (.ref a0), .val (.ref b102), .val (.int (10 : Int32))] [(.int (10 : Int32))])) _
    refine XS.aloadN X163.here hx rfl (hb hby d2_30) rfl rfl ?_
    show Steps p.tables e below (T163.setTop (mkF m 31 #[.val (.ref a0), .val (.ref b102), .val (.int (10 : Int32))] [(.ref b102), (.int (10 : Int32))])) _
    refine X163.arraylength hx (by rw [e163]; exact Ar165.1) (State.isArrayOf_alike hZ.alike Ar165.2.1) (g := (mkF m 31 #[.val (.ref a0), .val (.ref b102), .val (.int (10 : Int32))] [(.ref b102), (.int (10 : Int32))])) rfl rfl (hb hby d2_31) _ ?_
    rw [len_of S165 M165]
    show Steps p.tables e below (T163.setTop (mkF m 32 #[.val (.ref a0), .val (.ref b102), .val (.int (10 : Int32))] [(.int (16 : Int32)), (.int (10 : Int32))])) _
    refine XS.icmpNo X163.here hx rfl (hb hby d2_32) rfl (tlt (by decide : (10 : Int32) < (16 : Int32))).2.1 ?_
    show Steps p.tables e below (T163.setTop (mkF m 35 #[.val (.ref a0), .val (.ref b102), .val (.int (10 : Int32))] [])) _
    refine XS.aloadN X163.here hx rfl (hb hby d2_35) rfl rfl ?_
    show Steps p.tables e below (T163.setTop (mkF m 36 #[.val (.ref a0), .val (.ref b102), .val (.int (10 : Int32))] [(.ref b102)])) _
    refine XS.iloadN X163.here hx rfl (hb hby d2_36) rfl ?_
    show Steps p.tables e below (T163.setTop (mkF m 37 #[.val (.ref a0), .val (.ref b102), .val (.int (10 : Int32))] [(.int (10 : Int32)), (.ref b102)])) _
    refine XS.aloadN X163.here hx rfl (hb hby d2_37) rfl rfl ?_
    show Steps p.tables e below (T163.setTop (mkF m 38 #[.val (.ref a0), .val (.ref b102), .val (.int (10 : Int32))] [(.ref a0), (.int (10 : Int32)), (.ref b102)])) _
    refine XS.iloadN X163.here hx rfl (hb hby d2_38) rfl ?_
    show Steps p.tables e below (T163.setTop (mkF m 39 #[.val (.ref a0), .val (.ref b102), .val (.int (10 : Int32))] [(.int (10 : Int32)), (.ref a0), (.int (10 : Int32)), (.ref b102)])) _
    have hin166 : ¬ ((10 : Int32) < 0 ∨ cl166.slots.size ≤ ((10 : Int32)).toNatClampNeg) := (inb_of S166 ⟨by decide, by decide⟩)
    refine X163.baloadBytes hx (j := (10 : Int32)) (v := (.int c10)) (by rw [e163]; exact Ar166.1) (State.isArrayOf_alike hZ.alike Ar166.2.1) Ar166.2.2 hin166 (H166.at hin166 rfl) (g := (mkF m 39 #[.val (.ref a0), .val (.ref b102), .val (.int (10 : Int32))] [(.int (10 : Int32)), (.ref a0), (.int (10 : Int32)), (.ref b102)])) rfl rfl (hb hby d2_39) _ ?_
    show Steps p.tables e below (T163.setTop (mkF m 40 #[.val (.ref a0), .val (.ref b102), .val (.int (10 : Int32))] [(.int c10), (.int (10 : Int32)), (.ref b102)])) _
    refine XS.aloadN X163.here hx rfl (hb hby d2_40) rfl rfl ?_
    show Steps p.tables e below (T163.setTop (mkF m 41 #[.val (.ref a0), .val (.ref b102), .val (.int (10 : Int32))] [(.ref a0), (.int c10), (.int (10 : Int32)), (.ref b102)])) _
    refine XS.iloadN X163.here hx rfl (hb hby d2_41) rfl ?_
    show Steps p.tables e below (T163.setTop (mkF m 42 #[.val (.ref a0), .val (.ref b102), .val (.int (10 : Int32))] [(.int (10 : Int32)), (.ref a0), (.int c10), (.int (10 : Int32)), (.ref b102)])) _
    refine XS.bipush X163.here hx rfl (hb hby d2_42) ?_
    show Steps p.tables e below (T163.setTop (mkF m 44 #[.val (.ref a0), .val (.ref b102), .val (.int (10 : Int32))] [(.int (16 : Int32)), (.int (10 : Int32)), (.ref a0), (.int c10), (.int (10 : Int32)), (.ref b102)])) _
    refine XS.iadd X163.here hx rfl (hb hby d2_44) rfl ?_
    show Steps p.tables e below (T163.setTop (mkF m 45 #[.val (.ref a0), .val (.ref b102), .val (.int (10 : Int32))] [(.int (26 : Int32)), (.ref a0), (.int c10), (.int (10 : Int32)), (.ref b102)])) _
    have hin167 : ¬ ((26 : Int32) < 0 ∨ cl167.slots.size ≤ ((26 : Int32)).toNatClampNeg) := (inb_of S167 ⟨by decide, by decide⟩)
    refine X163.baloadBytes hx (j := (26 : Int32)) (v := (.int c26)) (by rw [e163]; exact Ar167.1) (State.isArrayOf_alike hZ.alike Ar167.2.1) Ar167.2.2 hin167 (H167.at hin167 rfl) (g := (mkF m 45 #[.val (.ref a0), .val (.ref b102), .val (.int (10 : Int32))] [(.int (26 : Int32)), (.ref a0), (.int c10), (.int (10 : Int32)), (.ref b102)])) rfl rfl (hb hby d2_45) _ ?_
    show Steps p.tables e below (T163.setTop (mkF m 46 #[.val (.ref a0), .val (.ref b102), .val (.int (10 : Int32))] [(.int c26), (.int c10), (.int (10 : Int32)), (.ref b102)])) _
    refine XS.ixor X163.here hx rfl (hb hby d2_46) rfl ?_
    show Steps p.tables e below (T163.setTop (mkF m 47 #[.val (.ref a0), .val (.ref b102), .val (.int (10 : Int32))] [(.int (c10 ^^^ c26)), (.int (10 : Int32)), (.ref b102)])) _
    refine XS.i2b X163.here hx rfl (hb hby d2_47) rfl ?_
    show Steps p.tables e below (T163.setTop (mkF m 48 #[.val (.ref a0), .val (.ref b102), .val (.int (10 : Int32))] [(.int ((c10 ^^^ c26).toInt8.toInt32)), (.int (10 : Int32)), (.ref b102)])) _
    refine st169 _ ?_
    show Steps p.tables e below (T169.setTop (mkF m 49 #[.val (.ref a0), .val (.ref b102), .val (.int (10 : Int32))] [])) _
    refine XS.iinc X169.here hx rfl (hb hby d2_49) rfl (l' := #[.val (.ref a0), .val (.ref b102), .val (.int (11 : Int32))]) rfl ?_
    show Steps p.tables e below (T169.setTop (mkF m 52 #[.val (.ref a0), .val (.ref b102), .val (.int (11 : Int32))] [])) _
    refine XS.goto X169.here hx rfl (pc0 := 52) (pc' := 29) rfl (hb hby d2_52) (by decide) (by decide) ?_
    show Steps p.tables e below (T169.setTop (mkF m 29 #[.val (.ref a0), .val (.ref b102), .val (.int (11 : Int32))] [])) _
    refine XS.iloadN X169.here hx rfl (hb hby d2_29) rfl ?_
    show Steps p.tables e below (T169.setTop (mkF m 30 #[.val (.ref a0), .val (.ref b102), .val (.int (11 : Int32))] [(.int (11 : Int32))])) _
    refine XS.aloadN X169.here hx rfl (hb hby d2_30) rfl rfl ?_
    show Steps p.tables e below (T169.setTop (mkF m 31 #[.val (.ref a0), .val (.ref b102), .val (.int (11 : Int32))] [(.ref b102), (.int (11 : Int32))])) _
    refine X169.arraylength hx (by rw [e169]; exact Ar171.1) (State.isArrayOf_alike hZ.alike Ar171.2.1) (g := (mkF m 31 #[.val (.ref a0), .val (.ref b102), .val (.int (11 : Int32))] [(.ref b102), (.int (11 : Int32))])) rfl rfl (hb hby d2_31) _ ?_
    rw [len_of S171 M171]
    show Steps p.tables e below (T169.setTop (mkF m 32 #[.val (.ref a0), .val (.ref b102), .val (.int (11 : Int32))] [(.int (16 : Int32)), (.int (11 : Int32))])) _
    refine XS.icmpNo X169.here hx rfl (hb hby d2_32) rfl (tlt (by decide : (11 : Int32) < (16 : Int32))).2.1 ?_
    show Steps p.tables e below (T169.setTop (mkF m 35 #[.val (.ref a0), .val (.ref b102), .val (.int (11 : Int32))] [])) _
    refine XS.aloadN X169.here hx rfl (hb hby d2_35) rfl rfl ?_
    show Steps p.tables e below (T169.setTop (mkF m 36 #[.val (.ref a0), .val (.ref b102), .val (.int (11 : Int32))] [(.ref b102)])) _
    refine XS.iloadN X169.here hx rfl (hb hby d2_36) rfl ?_
    show Steps p.tables e below (T169.setTop (mkF m 37 #[.val (.ref a0), .val (.ref b102), .val (.int (11 : Int32))] [(.int (11 : Int32)), (.ref b102)])) _
    refine XS.aloadN X169.here hx rfl (hb hby d2_37) rfl rfl ?_
    show Steps p.tables e below (T169.setTop (mkF m 38 #[.val (.ref a0), .val (.ref b102), .val (.int (11 : Int32))] [(.ref a0), (.int (11 : Int32)), (.ref b102)])) _
    refine XS.iloadN X169.here hx rfl (hb hby d2_38) rfl ?_
    show Steps p.tables e below (T169.setTop (mkF m 39 #[.val (.ref a0), .val (.ref b102), .val (.int (11 : Int32))] [(.int (11 : Int32)), (.ref a0), (.int (11 : Int32)), (.ref b102)])) _
    have hin172 : ¬ ((11 : Int32) < 0 ∨ cl172.slots.size ≤ ((11 : Int32)).toNatClampNeg) := (inb_of S172 ⟨by decide, by decide⟩)
    refine X169.baloadBytes hx (j := (11 : Int32)) (v := (.int c11)) (by rw [e169]; exact Ar172.1) (State.isArrayOf_alike hZ.alike Ar172.2.1) Ar172.2.2 hin172 (H172.at hin172 rfl) (g := (mkF m 39 #[.val (.ref a0), .val (.ref b102), .val (.int (11 : Int32))] [(.int (11 : Int32)), (.ref a0), (.int (11 : Int32)), (.ref b102)])) rfl rfl (hb hby d2_39) _ ?_
    show Steps p.tables e below (T169.setTop (mkF m 40 #[.val (.ref a0), .val (.ref b102), .val (.int (11 : Int32))] [(.int c11), (.int (11 : Int32)), (.ref b102)])) _
    refine XS.aloadN X169.here hx rfl (hb hby d2_40) rfl rfl ?_
    show Steps p.tables e below (T169.setTop (mkF m 41 #[.val (.ref a0), .val (.ref b102), .val (.int (11 : Int32))] [(.ref a0), (.int c11), (.int (11 : Int32)), (.ref b102)])) _
    refine XS.iloadN X169.here hx rfl (hb hby d2_41) rfl ?_
    show Steps p.tables e below (T169.setTop (mkF m 42 #[.val (.ref a0), .val (.ref b102), .val (.int (11 : Int32))] [(.int (11 : Int32)), (.ref a0), (.int c11), (.int (11 : Int32)), (.ref b102)])) _
    refine XS.bipush X169.here hx rfl (hb hby d2_42) ?_
    show Steps p.tables e below (T169.setTop (mkF m 44 #[.val (.ref a0), .val (.ref b102), .val (.int (11 : Int32))] [(.int (16 : Int32)), (.int (11 : Int32)), (.ref a0), (.int c11), (.int (11 : Int32)), (.ref b102)])) _
    refine XS.iadd X169.here hx rfl (hb hby d2_44) rfl ?_
    show Steps p.tables e below (T169.setTop (mkF m 45 #[.val (.ref a0), .val (.ref b102), .val (.int (11 : Int32))] [(.int (27 : Int32)), (.ref a0), (.int c11), (.int (11 : Int32)), (.ref b102)])) _
    have hin173 : ¬ ((27 : Int32) < 0 ∨ cl173.slots.size ≤ ((27 : Int32)).toNatClampNeg) := (inb_of S173 ⟨by decide, by decide⟩)
    refine X169.baloadBytes hx (j := (27 : Int32)) (v := (.int c27)) (by rw [e169]; exact Ar173.1) (State.isArrayOf_alike hZ.alike Ar173.2.1) Ar173.2.2 hin173 (H173.at hin173 rfl) (g := (mkF m 45 #[.val (.ref a0), .val (.ref b102), .val (.int (11 : Int32))] [(.int (27 : Int32)), (.ref a0), (.int c11), (.int (11 : Int32)), (.ref b102)])) rfl rfl (hb hby d2_45) _ ?_
    show Steps p.tables e below (T169.setTop (mkF m 46 #[.val (.ref a0), .val (.ref b102), .val (.int (11 : Int32))] [(.int c27), (.int c11), (.int (11 : Int32)), (.ref b102)])) _
    refine XS.ixor X169.here hx rfl (hb hby d2_46) rfl ?_
    show Steps p.tables e below (T169.setTop (mkF m 47 #[.val (.ref a0), .val (.ref b102), .val (.int (11 : Int32))] [(.int (c11 ^^^ c27)), (.int (11 : Int32)), (.ref b102)])) _
    refine XS.i2b X169.here hx rfl (hb hby d2_47) rfl ?_
    show Steps p.tables e below (T169.setTop (mkF m 48 #[.val (.ref a0), .val (.ref b102), .val (.int (11 : Int32))] [(.int ((c11 ^^^ c27).toInt8.toInt32)), (.int (11 : Int32)), (.ref b102)])) _
    refine st175 _ ?_
    show Steps p.tables e below (T175.setTop (mkF m 49 #[.val (.ref a0), .val (.ref b102), .val (.int (11 : Int32))] [])) _
    refine XS.iinc X175.here hx rfl (hb hby d2_49) rfl (l' := #[.val (.ref a0), .val (.ref b102), .val (.int (12 : Int32))]) rfl ?_
    show Steps p.tables e below (T175.setTop (mkF m 52 #[.val (.ref a0), .val (.ref b102), .val (.int (12 : Int32))] [])) _
    refine XS.goto X175.here hx rfl (pc0 := 52) (pc' := 29) rfl (hb hby d2_52) (by decide) (by decide) ?_
    show Steps p.tables e below (T175.setTop (mkF m 29 #[.val (.ref a0), .val (.ref b102), .val (.int (12 : Int32))] [])) _
    refine XS.iloadN X175.here hx rfl (hb hby d2_29) rfl ?_
    show Steps p.tables e below (T175.setTop (mkF m 30 #[.val (.ref a0), .val (.ref b102), .val (.int (12 : Int32))] [(.int (12 : Int32))])) _
    refine XS.aloadN X175.here hx rfl (hb hby d2_30) rfl rfl ?_
    show Steps p.tables e below (T175.setTop (mkF m 31 #[.val (.ref a0), .val (.ref b102), .val (.int (12 : Int32))] [(.ref b102), (.int (12 : Int32))])) _
    refine X175.arraylength hx (by rw [e175]; exact Ar177.1) (State.isArrayOf_alike hZ.alike Ar177.2.1) (g := (mkF m 31 #[.val (.ref a0), .val (.ref b102), .val (.int (12 : Int32))] [(.ref b102), (.int (12 : Int32))])) rfl rfl (hb hby d2_31) _ ?_
    rw [len_of S177 M177]
    show Steps p.tables e below (T175.setTop (mkF m 32 #[.val (.ref a0), .val (.ref b102), .val (.int (12 : Int32))] [(.int (16 : Int32)), (.int (12 : Int32))])) _
    refine XS.icmpNo X175.here hx rfl (hb hby d2_32) rfl (tlt (by decide : (12 : Int32) < (16 : Int32))).2.1 ?_
    show Steps p.tables e below (T175.setTop (mkF m 35 #[.val (.ref a0), .val (.ref b102), .val (.int (12 : Int32))] [])) _
    refine XS.aloadN X175.here hx rfl (hb hby d2_35) rfl rfl ?_
    show Steps p.tables e below (T175.setTop (mkF m 36 #[.val (.ref a0), .val (.ref b102), .val (.int (12 : Int32))] [(.ref b102)])) _
    refine XS.iloadN X175.here hx rfl (hb hby d2_36) rfl ?_
    show Steps p.tables e below (T175.setTop (mkF m 37 #[.val (.ref a0), .val (.ref b102), .val (.int (12 : Int32))] [(.int (12 : Int32)), (.ref b102)])) _
    refine XS.aloadN X175.here hx rfl (hb hby d2_37) rfl rfl ?_
    show Steps p.tables e below (T175.setTop (mkF m 38 #[.val (.ref a0), .val (.ref b102), .val (.int (12 : Int32))] [(.ref a0), (.int (12 : Int32)), (.ref b102)])) _
    refine XS.iloadN X175.here hx rfl (hb hby d2_38) rfl ?_
    show Steps p.tables e below (T175.setTop (mkF m 39 #[.val (.ref a0), .val (.ref b102), .val (.int (12 : Int32))] [(.int (12 : Int32)), (.ref a0), (.int (12 : Int32)), (.ref b102)])) _
    have hin178 : ¬ ((12 : Int32) < 0 ∨ cl178.slots.size ≤ ((12 : Int32)).toNatClampNeg) := (inb_of S178 ⟨by decide, by decide⟩)
    refine X175.baloadBytes hx (j := (12 : Int32)) (v := (.int c12)) (by rw [e175]; exact Ar178.1) (State.isArrayOf_alike hZ.alike Ar178.2.1) Ar178.2.2 hin178 (H178.at hin178 rfl) (g := (mkF m 39 #[.val (.ref a0), .val (.ref b102), .val (.int (12 : Int32))] [(.int (12 : Int32)), (.ref a0), (.int (12 : Int32)), (.ref b102)])) rfl rfl (hb hby d2_39) _ ?_
    show Steps p.tables e below (T175.setTop (mkF m 40 #[.val (.ref a0), .val (.ref b102), .val (.int (12 : Int32))] [(.int c12), (.int (12 : Int32)), (.ref b102)])) _
    refine XS.aloadN X175.here hx rfl (hb hby d2_40) rfl rfl ?_
    show Steps p.tables e below (T175.setTop (mkF m 41 #[.val (.ref a0), .val (.ref b102), .val (.int (12 : Int32))] [(.ref a0), (.int c12), (.int (12 : Int32)), (.ref b102)])) _
    refine XS.iloadN X175.here hx rfl (hb hby d2_41) rfl ?_
    show Steps p.tables e below (T175.setTop (mkF m 42 #[.val (.ref a0), .val (.ref b102), .val (.int (12 : Int32))] [(.int (12 : Int32)), (.ref a0), (.int c12), (.int (12 : Int32)), (.ref b102)])) _
    refine XS.bipush X175.here hx rfl (hb hby d2_42) ?_
    show Steps p.tables e below (T175.setTop (mkF m 44 #[.val (.ref a0), .val (.ref b102), .val (.int (12 : Int32))] [(.int (16 : Int32)), (.int (12 : Int32)), (.ref a0), (.int c12), (.int (12 : Int32)), (.ref b102)])) _
    refine XS.iadd X175.here hx rfl (hb hby d2_44) rfl ?_
    show Steps p.tables e below (T175.setTop (mkF m 45 #[.val (.ref a0), .val (.ref b102), .val (.int (12 : Int32))] [(.int (28 : Int32)), (.ref a0), (.int c12), (.int (12 : Int32)), (.ref b102)])) _
    have hin179 : ¬ ((28 : Int32) < 0 ∨ cl179.slots.size ≤ ((28 : Int32)).toNatClampNeg) := (inb_of S179 ⟨by decide, by decide⟩)
    refine X175.baloadBytes hx (j := (28 : Int32)) (v := (.int c28)) (by rw [e175]; exact Ar179.1) (State.isArrayOf_alike hZ.alike Ar179.2.1) Ar179.2.2 hin179 (H179.at hin179 rfl) (g := (mkF m 45 #[.val (.ref a0), .val (.ref b102), .val (.int (12 : Int32))] [(.int (28 : Int32)), (.ref a0), (.int c12), (.int (12 : Int32)), (.ref b102)])) rfl rfl (hb hby d2_45) _ ?_
    show Steps p.tables e below (T175.setTop (mkF m 46 #[.val (.ref a0), .val (.ref b102), .val (.int (12 : Int32))] [(.int c28), (.int c12), (.int (12 : Int32)), (.ref b102)])) _
    refine XS.ixor X175.here hx rfl (hb hby d2_46) rfl ?_
    show Steps p.tables e below (T175.setTop (mkF m 47 #[.val (.ref a0), .val (.ref b102), .val (.int (12 : Int32))] [(.int (c12 ^^^ c28)), (.int (12 : Int32)), (.ref b102)])) _
    refine XS.i2b X175.here hx rfl (hb hby d2_47) rfl ?_
    show Steps p.tables e below (T175.setTop (mkF m 48 #[.val (.ref a0), .val (.ref b102), .val (.int (12 : Int32))] [(.int ((c12 ^^^ c28).toInt8.toInt32)), (.int (12 : Int32)), (.ref b102)])) _
    refine st181 _ ?_
    show Steps p.tables e below (T181.setTop (mkF m 49 #[.val (.ref a0), .val (.ref b102), .val (.int (12 : Int32))] [])) _
    refine XS.iinc X181.here hx rfl (hb hby d2_49) rfl (l' := #[.val (.ref a0), .val (.ref b102), .val (.int (13 : Int32))]) rfl ?_
    show Steps p.tables e below (T181.setTop (mkF m 52 #[.val (.ref a0), .val (.ref b102), .val (.int (13 : Int32))] [])) _
    refine XS.goto X181.here hx rfl (pc0 := 52) (pc' := 29) rfl (hb hby d2_52) (by decide) (by decide) ?_
    show Steps p.tables e below (T181.setTop (mkF m 29 #[.val (.ref a0), .val (.ref b102), .val (.int (13 : Int32))] [])) _
    refine XS.iloadN X181.here hx rfl (hb hby d2_29) rfl ?_
    show Steps p.tables e below (T181.setTop (mkF m 30 #[.val (.ref a0), .val (.ref b102), .val (.int (13 : Int32))] [(.int (13 : Int32))])) _
    refine XS.aloadN X181.here hx rfl (hb hby d2_30) rfl rfl ?_
    show Steps p.tables e below (T181.setTop (mkF m 31 #[.val (.ref a0), .val (.ref b102), .val (.int (13 : Int32))] [(.ref b102), (.int (13 : Int32))])) _
    refine X181.arraylength hx (by rw [e181]; exact Ar183.1) (State.isArrayOf_alike hZ.alike Ar183.2.1) (g := (mkF m 31 #[.val (.ref a0), .val (.ref b102), .val (.int (13 : Int32))] [(.ref b102), (.int (13 : Int32))])) rfl rfl (hb hby d2_31) _ ?_
    rw [len_of S183 M183]
    show Steps p.tables e below (T181.setTop (mkF m 32 #[.val (.ref a0), .val (.ref b102), .val (.int (13 : Int32))] [(.int (16 : Int32)), (.int (13 : Int32))])) _
    refine XS.icmpNo X181.here hx rfl (hb hby d2_32) rfl (tlt (by decide : (13 : Int32) < (16 : Int32))).2.1 ?_
    show Steps p.tables e below (T181.setTop (mkF m 35 #[.val (.ref a0), .val (.ref b102), .val (.int (13 : Int32))] [])) _
    refine XS.aloadN X181.here hx rfl (hb hby d2_35) rfl rfl ?_
    show Steps p.tables e below (T181.setTop (mkF m 36 #[.val (.ref a0), .val (.ref b102), .val (.int (13 : Int32))] [(.ref b102)])) _
    refine XS.iloadN X181.here hx rfl (hb hby d2_36) rfl ?_
    show Steps p.tables e below (T181.setTop (mkF m 37 #[.val (.ref a0), .val (.ref b102), .val (.int (13 : Int32))] [(.int (13 : Int32)), (.ref b102)])) _
    refine XS.aloadN X181.here hx rfl (hb hby d2_37) rfl rfl ?_
    show Steps p.tables e below (T181.setTop (mkF m 38 #[.val (.ref a0), .val (.ref b102), .val (.int (13 : Int32))] [(.ref a0), (.int (13 : Int32)), (.ref b102)])) _
    refine XS.iloadN X181.here hx rfl (hb hby d2_38) rfl ?_
    show Steps p.tables e below (T181.setTop (mkF m 39 #[.val (.ref a0), .val (.ref b102), .val (.int (13 : Int32))] [(.int (13 : Int32)), (.ref a0), (.int (13 : Int32)), (.ref b102)])) _
    have hin184 : ¬ ((13 : Int32) < 0 ∨ cl184.slots.size ≤ ((13 : Int32)).toNatClampNeg) := (inb_of S184 ⟨by decide, by decide⟩)
    refine X181.baloadBytes hx (j := (13 : Int32)) (v := (.int c13)) (by rw [e181]; exact Ar184.1) (State.isArrayOf_alike hZ.alike Ar184.2.1) Ar184.2.2 hin184 (H184.at hin184 rfl) (g := (mkF m 39 #[.val (.ref a0), .val (.ref b102), .val (.int (13 : Int32))] [(.int (13 : Int32)), (.ref a0), (.int (13 : Int32)), (.ref b102)])) rfl rfl (hb hby d2_39) _ ?_
    show Steps p.tables e below (T181.setTop (mkF m 40 #[.val (.ref a0), .val (.ref b102), .val (.int (13 : Int32))] [(.int c13), (.int (13 : Int32)), (.ref b102)])) _
    refine XS.aloadN X181.here hx rfl (hb hby d2_40) rfl rfl ?_
    show Steps p.tables e below (T181.setTop (mkF m 41 #[.val (.ref a0), .val (.ref b102), .val (.int (13 : Int32))] [(.ref a0), (.int c13), (.int (13 : Int32)), (.ref b102)])) _
    refine XS.iloadN X181.here hx rfl (hb hby d2_41) rfl ?_
    show Steps p.tables e below (T181.setTop (mkF m 42 #[.val (.ref a0), .val (.ref b102), .val (.int (13 : Int32))] [(.int (13 : Int32)), (.ref a0), (.int c13), (.int (13 : Int32)), (.ref b102)])) _
    refine XS.bipush X181.here hx rfl (hb hby d2_42) ?_
    show Steps p.tables e below (T181.setTop (mkF m 44 #[.val (.ref a0), .val (.ref b102), .val (.int (13 : Int32))] [(.int (16 : Int32)), (.int (13 : Int32)), (.ref a0), (.int c13), (.int (13 : Int32)), (.ref b102)])) _
    refine XS.iadd X181.here hx rfl (hb hby d2_44) rfl ?_
    show Steps p.tables e below (T181.setTop (mkF m 45 #[.val (.ref a0), .val (.ref b102), .val (.int (13 : Int32))] [(.int (29 : Int32)), (.ref a0), (.int c13), (.int (13 : Int32)), (.ref b102)])) _
    have hin185 : ¬ ((29 : Int32) < 0 ∨ cl185.slots.size ≤ ((29 : Int32)).toNatClampNeg) := (inb_of S185 ⟨by decide, by decide⟩)
    refine X181.baloadBytes hx (j := (29 : Int32)) (v := (.int c29)) (by rw [e181]; exact Ar185.1) (State.isArrayOf_alike hZ.alike Ar185.2.1) Ar185.2.2 hin185 (H185.at hin185 rfl) (g := (mkF m 45 #[.val (.ref a0), .val (.ref b102), .val (.int (13 : Int32))] [(.int (29 : Int32)), (.ref a0), (.int c13), (.int (13 : Int32)), (.ref b102)])) rfl rfl (hb hby d2_45) _ ?_
    show Steps p.tables e below (T181.setTop (mkF m 46 #[.val (.ref a0), .val (.ref b102), .val (.int (13 : Int32))] [(.int c29), (.int c13), (.int (13 : Int32)), (.ref b102)])) _
    refine XS.ixor X181.here hx rfl (hb hby d2_46) rfl ?_
    show Steps p.tables e below (T181.setTop (mkF m 47 #[.val (.ref a0), .val (.ref b102), .val (.int (13 : Int32))] [(.int (c13 ^^^ c29)), (.int (13 : Int32)), (.ref b102)])) _
    refine XS.i2b X181.here hx rfl (hb hby d2_47) rfl ?_
    show Steps p.tables e below (T181.setTop (mkF m 48 #[.val (.ref a0), .val (.ref b102), .val (.int (13 : Int32))] [(.int ((c13 ^^^ c29).toInt8.toInt32)), (.int (13 : Int32)), (.ref b102)])) _
    refine st187 _ ?_
    show Steps p.tables e below (T187.setTop (mkF m 49 #[.val (.ref a0), .val (.ref b102), .val (.int (13 : Int32))] [])) _
    refine XS.iinc X187.here hx rfl (hb hby d2_49) rfl (l' := #[.val (.ref a0), .val (.ref b102), .val (.int (14 : Int32))]) rfl ?_
    show Steps p.tables e below (T187.setTop (mkF m 52 #[.val (.ref a0), .val (.ref b102), .val (.int (14 : Int32))] [])) _
    refine XS.goto X187.here hx rfl (pc0 := 52) (pc' := 29) rfl (hb hby d2_52) (by decide) (by decide) ?_
    show Steps p.tables e below (T187.setTop (mkF m 29 #[.val (.ref a0), .val (.ref b102), .val (.int (14 : Int32))] [])) _
    refine XS.iloadN X187.here hx rfl (hb hby d2_29) rfl ?_
    show Steps p.tables e below (T187.setTop (mkF m 30 #[.val (.ref a0), .val (.ref b102), .val (.int (14 : Int32))] [(.int (14 : Int32))])) _
    refine XS.aloadN X187.here hx rfl (hb hby d2_30) rfl rfl ?_
    show Steps p.tables e below (T187.setTop (mkF m 31 #[.val (.ref a0), .val (.ref b102), .val (.int (14 : Int32))] [(.ref b102), (.int (14 : Int32))])) _
    refine X187.arraylength hx (by rw [e187]; exact Ar189.1) (State.isArrayOf_alike hZ.alike Ar189.2.1) (g := (mkF m 31 #[.val (.ref a0), .val (.ref b102), .val (.int (14 : Int32))] [(.ref b102), (.int (14 : Int32))])) rfl rfl (hb hby d2_31) _ ?_
    rw [len_of S189 M189]
    show Steps p.tables e below (T187.setTop (mkF m 32 #[.val (.ref a0), .val (.ref b102), .val (.int (14 : Int32))] [(.int (16 : Int32)), (.int (14 : Int32))])) _
    refine XS.icmpNo X187.here hx rfl (hb hby d2_32) rfl (tlt (by decide : (14 : Int32) < (16 : Int32))).2.1 ?_
    show Steps p.tables e below (T187.setTop (mkF m 35 #[.val (.ref a0), .val (.ref b102), .val (.int (14 : Int32))] [])) _
    refine XS.aloadN X187.here hx rfl (hb hby d2_35) rfl rfl ?_
    show Steps p.tables e below (T187.setTop (mkF m 36 #[.val (.ref a0), .val (.ref b102), .val (.int (14 : Int32))] [(.ref b102)])) _
    refine XS.iloadN X187.here hx rfl (hb hby d2_36) rfl ?_
    show Steps p.tables e below (T187.setTop (mkF m 37 #[.val (.ref a0), .val (.ref b102), .val (.int (14 : Int32))] [(.int (14 : Int32)), (.ref b102)])) _
    refine XS.aloadN X187.here hx rfl (hb hby d2_37) rfl rfl ?_
    show Steps p.tables e below (T187.setTop (mkF m 38 #[.val (.ref a0), .val (.ref b102), .val (.int (14 : Int32))] [(.ref a0), (.int (14 : Int32)), (.ref b102)])) _
    refine XS.iloadN X187.here hx rfl (hb hby d2_38) rfl ?_
    show Steps p.tables e below (T187.setTop (mkF m 39 #[.val (.ref a0), .val (.ref b102), .val (.int (14 : Int32))] [(.int (14 : Int32)), (.ref a0), (.int (14 : Int32)), (.ref b102)])) _
    have hin190 : ¬ ((14 : Int32) < 0 ∨ cl190.slots.size ≤ ((14 : Int32)).toNatClampNeg) := (inb_of S190 ⟨by decide, by decide⟩)
    refine X187.baloadBytes hx (j := (14 : Int32)) (v := (.int c14)) (by rw [e187]; exact Ar190.1) (State.isArrayOf_alike hZ.alike Ar190.2.1) Ar190.2.2 hin190 (H190.at hin190 rfl) (g := (mkF m 39 #[.val (.ref a0), .val (.ref b102), .val (.int (14 : Int32))] [(.int (14 : Int32)), (.ref a0), (.int (14 : Int32)), (.ref b102)])) rfl rfl (hb hby d2_39) _ ?_
    show Steps p.tables e below (T187.setTop (mkF m 40 #[.val (.ref a0), .val (.ref b102), .val (.int (14 : Int32))] [(.int c14), (.int (14 : Int32)), (.ref b102)])) _
    refine XS.aloadN X187.here hx rfl (hb hby d2_40) rfl rfl ?_
    show Steps p.tables e below (T187.setTop (mkF m 41 #[.val (.ref a0), .val (.ref b102), .val (.int (14 : Int32))] [(.ref a0), (.int c14), (.int (14 : Int32)), (.ref b102)])) _
    refine XS.iloadN X187.here hx rfl (hb hby d2_41) rfl ?_
    show Steps p.tables e below (T187.setTop (mkF m 42 #[.val (.ref a0), .val (.ref b102), .val (.int (14 : Int32))] [(.int (14 : Int32)), (.ref a0), (.int c14), (.int (14 : Int32)), (.ref b102)])) _
    refine XS.bipush X187.here hx rfl (hb hby d2_42) ?_
    show Steps p.tables e below (T187.setTop (mkF m 44 #[.val (.ref a0), .val (.ref b102), .val (.int (14 : Int32))] [(.int (16 : Int32)), (.int (14 : Int32)), (.ref a0), (.int c14), (.int (14 : Int32)), (.ref b102)])) _
    refine XS.iadd X187.here hx rfl (hb hby d2_44) rfl ?_
    show Steps p.tables e below (T187.setTop (mkF m 45 #[.val (.ref a0), .val (.ref b102), .val (.int (14 : Int32))] [(.int (30 : Int32)), (.ref a0), (.int c14), (.int (14 : Int32)), (.ref b102)])) _
    have hin191 : ¬ ((30 : Int32) < 0 ∨ cl191.slots.size ≤ ((30 : Int32)).toNatClampNeg) := (inb_of S191 ⟨by decide, by decide⟩)
    refine X187.baloadBytes hx (j := (30 : Int32)) (v := (.int c30)) (by rw [e187]; exact Ar191.1) (State.isArrayOf_alike hZ.alike Ar191.2.1) Ar191.2.2 hin191 (H191.at hin191 rfl) (g := (mkF m 45 #[.val (.ref a0), .val (.ref b102), .val (.int (14 : Int32))] [(.int (30 : Int32)), (.ref a0), (.int c14), (.int (14 : Int32)), (.ref b102)])) rfl rfl (hb hby d2_45) _ ?_
    show Steps p.tables e below (T187.setTop (mkF m 46 #[.val (.ref a0), .val (.ref b102), .val (.int (14 : Int32))] [(.int c30), (.int c14), (.int (14 : Int32)), (.ref b102)])) _
    refine XS.ixor X187.here hx rfl (hb hby d2_46) rfl ?_
    show Steps p.tables e below (T187.setTop (mkF m 47 #[.val (.ref a0), .val (.ref b102), .val (.int (14 : Int32))] [(.int (c14 ^^^ c30)), (.int (14 : Int32)), (.ref b102)])) _
    refine XS.i2b X187.here hx rfl (hb hby d2_47) rfl ?_
    show Steps p.tables e below (T187.setTop (mkF m 48 #[.val (.ref a0), .val (.ref b102), .val (.int (14 : Int32))] [(.int ((c14 ^^^ c30).toInt8.toInt32)), (.int (14 : Int32)), (.ref b102)])) _
    refine st193 _ ?_
    show Steps p.tables e below (T193.setTop (mkF m 49 #[.val (.ref a0), .val (.ref b102), .val (.int (14 : Int32))] [])) _
    refine XS.iinc X193.here hx rfl (hb hby d2_49) rfl (l' := #[.val (.ref a0), .val (.ref b102), .val (.int (15 : Int32))]) rfl ?_
    show Steps p.tables e below (T193.setTop (mkF m 52 #[.val (.ref a0), .val (.ref b102), .val (.int (15 : Int32))] [])) _
    refine XS.goto X193.here hx rfl (pc0 := 52) (pc' := 29) rfl (hb hby d2_52) (by decide) (by decide) ?_
    show Steps p.tables e below (T193.setTop (mkF m 29 #[.val (.ref a0), .val (.ref b102), .val (.int (15 : Int32))] [])) _
    refine XS.iloadN X193.here hx rfl (hb hby d2_29) rfl ?_
    show Steps p.tables e below (T193.setTop (mkF m 30 #[.val (.ref a0), .val (.ref b102), .val (.int (15 : Int32))] [(.int (15 : Int32))])) _
    refine XS.aloadN X193.here hx rfl (hb hby d2_30) rfl rfl ?_
    show Steps p.tables e below (T193.setTop (mkF m 31 #[.val (.ref a0), .val (.ref b102), .val (.int (15 : Int32))] [(.ref b102), (.int (15 : Int32))])) _
    refine X193.arraylength hx (by rw [e193]; exact Ar195.1) (State.isArrayOf_alike hZ.alike Ar195.2.1) (g := (mkF m 31 #[.val (.ref a0), .val (.ref b102), .val (.int (15 : Int32))] [(.ref b102), (.int (15 : Int32))])) rfl rfl (hb hby d2_31) _ ?_
    rw [len_of S195 M195]
    show Steps p.tables e below (T193.setTop (mkF m 32 #[.val (.ref a0), .val (.ref b102), .val (.int (15 : Int32))] [(.int (16 : Int32)), (.int (15 : Int32))])) _
    refine XS.icmpNo X193.here hx rfl (hb hby d2_32) rfl (tlt (by decide : (15 : Int32) < (16 : Int32))).2.1 ?_
    show Steps p.tables e below (T193.setTop (mkF m 35 #[.val (.ref a0), .val (.ref b102), .val (.int (15 : Int32))] [])) _
    refine XS.aloadN X193.here hx rfl (hb hby d2_35) rfl rfl ?_
    show Steps p.tables e below (T193.setTop (mkF m 36 #[.val (.ref a0), .val (.ref b102), .val (.int (15 : Int32))] [(.ref b102)])) _
    refine XS.iloadN X193.here hx rfl (hb hby d2_36) rfl ?_
    show Steps p.tables e below (T193.setTop (mkF m 37 #[.val (.ref a0), .val (.ref b102), .val (.int (15 : Int32))] [(.int (15 : Int32)), (.ref b102)])) _
    refine XS.aloadN X193.here hx rfl (hb hby d2_37) rfl rfl ?_
    show Steps p.tables e below (T193.setTop (mkF m 38 #[.val (.ref a0), .val (.ref b102), .val (.int (15 : Int32))] [(.ref a0), (.int (15 : Int32)), (.ref b102)])) _
    refine XS.iloadN X193.here hx rfl (hb hby d2_38) rfl ?_
    show Steps p.tables e below (T193.setTop (mkF m 39 #[.val (.ref a0), .val (.ref b102), .val (.int (15 : Int32))] [(.int (15 : Int32)), (.ref a0), (.int (15 : Int32)), (.ref b102)])) _
    have hin196 : ¬ ((15 : Int32) < 0 ∨ cl196.slots.size ≤ ((15 : Int32)).toNatClampNeg) := (inb_of S196 ⟨by decide, by decide⟩)
    refine X193.baloadBytes hx (j := (15 : Int32)) (v := (.int c15)) (by rw [e193]; exact Ar196.1) (State.isArrayOf_alike hZ.alike Ar196.2.1) Ar196.2.2 hin196 (H196.at hin196 rfl) (g := (mkF m 39 #[.val (.ref a0), .val (.ref b102), .val (.int (15 : Int32))] [(.int (15 : Int32)), (.ref a0), (.int (15 : Int32)), (.ref b102)])) rfl rfl (hb hby d2_39) _ ?_
    show Steps p.tables e below (T193.setTop (mkF m 40 #[.val (.ref a0), .val (.ref b102), .val (.int (15 : Int32))] [(.int c15), (.int (15 : Int32)), (.ref b102)])) _
    refine XS.aloadN X193.here hx rfl (hb hby d2_40) rfl rfl ?_
    show Steps p.tables e below (T193.setTop (mkF m 41 #[.val (.ref a0), .val (.ref b102), .val (.int (15 : Int32))] [(.ref a0), (.int c15), (.int (15 : Int32)), (.ref b102)])) _
    refine XS.iloadN X193.here hx rfl (hb hby d2_41) rfl ?_
    show Steps p.tables e below (T193.setTop (mkF m 42 #[.val (.ref a0), .val (.ref b102), .val (.int (15 : Int32))] [(.int (15 : Int32)), (.ref a0), (.int c15), (.int (15 : Int32)), (.ref b102)])) _
    refine XS.bipush X193.here hx rfl (hb hby d2_42) ?_
    show Steps p.tables e below (T193.setTop (mkF m 44 #[.val (.ref a0), .val (.ref b102), .val (.int (15 : Int32))] [(.int (16 : Int32)), (.int (15 : Int32)), (.ref a0), (.int c15), (.int (15 : Int32)), (.ref b102)])) _
    refine XS.iadd X193.here hx rfl (hb hby d2_44) rfl ?_
    show Steps p.tables e below (T193.setTop (mkF m 45 #[.val (.ref a0), .val (.ref b102), .val (.int (15 : Int32))] [(.int (31 : Int32)), (.ref a0), (.int c15), (.int (15 : Int32)), (.ref b102)])) _
    have hin197 : ¬ ((31 : Int32) < 0 ∨ cl197.slots.size ≤ ((31 : Int32)).toNatClampNeg) := (inb_of S197 ⟨by decide, by decide⟩)
    refine X193.baloadBytes hx (j := (31 : Int32)) (v := (.int c31)) (by rw [e193]; exact Ar197.1) (State.isArrayOf_alike hZ.alike Ar197.2.1) Ar197.2.2 hin197 (H197.at hin197 rfl) (g := (mkF m 45 #[.val (.ref a0), .val (.ref b102), .val (.int (15 : Int32))] [(.int (31 : Int32)), (.ref a0), (.int c15), (.int (15 : Int32)), (.ref b102)])) rfl rfl (hb hby d2_45) _ ?_
    show Steps p.tables e below (T193.setTop (mkF m 46 #[.val (.ref a0), .val (.ref b102), .val (.int (15 : Int32))] [(.int c31), (.int c15), (.int (15 : Int32)), (.ref b102)])) _
    refine XS.ixor X193.here hx rfl (hb hby d2_46) rfl ?_
    show Steps p.tables e below (T193.setTop (mkF m 47 #[.val (.ref a0), .val (.ref b102), .val (.int (15 : Int32))] [(.int (c15 ^^^ c31)), (.int (15 : Int32)), (.ref b102)])) _
    refine XS.i2b X193.here hx rfl (hb hby d2_47) rfl ?_
    show Steps p.tables e below (T193.setTop (mkF m 48 #[.val (.ref a0), .val (.ref b102), .val (.int (15 : Int32))] [(.int ((c15 ^^^ c31).toInt8.toInt32)), (.int (15 : Int32)), (.ref b102)])) _
    refine st199 _ ?_
    show Steps p.tables e below (T199.setTop (mkF m 49 #[.val (.ref a0), .val (.ref b102), .val (.int (15 : Int32))] [])) _
    refine XS.iinc X199.here hx rfl (hb hby d2_49) rfl (l' := #[.val (.ref a0), .val (.ref b102), .val (.int (16 : Int32))]) rfl ?_
    show Steps p.tables e below (T199.setTop (mkF m 52 #[.val (.ref a0), .val (.ref b102), .val (.int (16 : Int32))] [])) _
    refine XS.goto X199.here hx rfl (pc0 := 52) (pc' := 29) rfl (hb hby d2_52) (by decide) (by decide) ?_
    show Steps p.tables e below (T199.setTop (mkF m 29 #[.val (.ref a0), .val (.ref b102), .val (.int (16 : Int32))] [])) _
    refine XS.iloadN X199.here hx rfl (hb hby d2_29) rfl ?_
    show Steps p.tables e below (T199.setTop (mkF m 30 #[.val (.ref a0), .val (.ref b102), .val (.int (16 : Int32))] [(.int (16 : Int32))])) _
    refine XS.aloadN X199.here hx rfl (hb hby d2_30) rfl rfl ?_
    show Steps p.tables e below (T199.setTop (mkF m 31 #[.val (.ref a0), .val (.ref b102), .val (.int (16 : Int32))] [(.ref b102), (.int (16 : Int32))])) _
    refine X199.arraylength hx (by rw [e199]; exact Ar201.1) (State.isArrayOf_alike hZ.alike Ar201.2.1) (g := (mkF m 31 #[.val (.ref a0), .val (.ref b102), .val (.int (16 : Int32))] [(.ref b102), (.int (16 : Int32))])) rfl rfl (hb hby d2_31) _ ?_
    rw [len_of S201 M201]
    show Steps p.tables e below (T199.setTop (mkF m 32 #[.val (.ref a0), .val (.ref b102), .val (.int (16 : Int32))] [(.int (16 : Int32)), (.int (16 : Int32))])) _
    refine XS.icmpYes X199.here hx rfl (pc0 := 32) (pc' := 55) rfl (hb hby d2_32) rfl (flt (by decide : ¬ ((16 : Int32) < (16 : Int32)))).2.1 (by decide) (by decide) ?_
    show Steps p.tables e below (T199.setTop (mkF m 55 #[.val (.ref a0), .val (.ref b102), .val (.int (16 : Int32))] [])) _
    refine XS.aloadN X199.here hx rfl (hb hby d2_55) rfl rfl ?_
    show Steps p.tables e below (T199.setTop (mkF m 56 #[.val (.ref a0), .val (.ref b102), .val (.int (16 : Int32))] [(.ref b102)])) _
    exact retOut X199 hx (t := (.array .byte)) Bd.returns rfl (Or.inr (Or.inr (Or.inr (Or.inr ⟨rfl, rfl, rfl⟩)))) (hb hby d2_56) hr
  · show Q2 Z a0 kk c0 c1 c2 c3 c4 c5 c6 c7 c8 c9 c10 c11 c12 c13 c14 c15 c16 c17 c18 c19 c20 c21 c22 c23 c24 c25 c26 c27 c28 c29 c30 c31 h0 n0 _ T199.heap _
    rw [e199]
    exact ⟨_, _, rfl, N199, K199, sz102, V199b⟩
theorem own_x (c : Int32) : ((c.toInt64) &&& (255 : Int64)).toInt = c.toInt % 256 := by
  rw [c_maskL _ 255 8 (by decide) (by decide), c_i2l]
  rfl
theorem own_t56 (c : Int32) : ((((c.toInt64) &&& (255 : Int64)) <<< ((56 : Int32) &&& 0x3f).toInt64).toInt - (c.toInt % 256) * 72057594037927936) % 18446744073709551616 = 0 := by
  have h := c_lshl ((c.toInt64) &&& (255 : Int64)) 56 56 (by decide)
  rw [own_x] at h
  exact h
theorem own_t48 (c : Int32) : ((((c.toInt64) &&& (255 : Int64)) <<< ((48 : Int32) &&& 0x3f).toInt64).toInt - (c.toInt % 256) * 281474976710656) % 18446744073709551616 = 0 := by
  have h := c_lshl ((c.toInt64) &&& (255 : Int64)) 48 48 (by decide)
  rw [own_x] at h
  exact h
theorem own_t40 (c : Int32) : ((((c.toInt64) &&& (255 : Int64)) <<< ((40 : Int32) &&& 0x3f).toInt64).toInt - (c.toInt % 256) * 1099511627776) % 18446744073709551616 = 0 := by
  have h := c_lshl ((c.toInt64) &&& (255 : Int64)) 40 40 (by decide)
  rw [own_x] at h
  exact h
theorem own_t32 (c : Int32) : ((((c.toInt64) &&& (255 : Int64)) <<< ((32 : Int32) &&& 0x3f).toInt64).toInt - (c.toInt % 256) * 4294967296) % 18446744073709551616 = 0 := by
  have h := c_lshl ((c.toInt64) &&& (255 : Int64)) 32 32 (by decide)
  rw [own_x] at h
  exact h
theorem own_t24 (c : Int32) : ((((c.toInt64) &&& (255 : Int64)) <<< ((24 : Int32) &&& 0x3f).toInt64).toInt - (c.toInt % 256) * 16777216) % 18446744073709551616 = 0 := by
  have h := c_lshl ((c.toInt64) &&& (255 : Int64)) 24 24 (by decide)
  rw [own_x] at h
  exact h
theorem own_t16 (c : Int32) : ((((c.toInt64) &&& (255 : Int64)) <<< ((16 : Int32) &&& 0x3f).toInt64).toInt - (c.toInt % 256) * 65536) % 18446744073709551616 = 0 := by
  have h := c_lshl ((c.toInt64) &&& (255 : Int64)) 16 16 (by decide)
  rw [own_x] at h
  exact h
theorem own_t8 (c : Int32) : ((((c.toInt64) &&& (255 : Int64)) <<< ((8 : Int32) &&& 0x3f).toInt64).toInt - (c.toInt % 256) * 256) % 18446744073709551616 = 0 := by
  have h := c_lshl ((c.toInt64) &&& (255 : Int64)) 8 8 (by decide)
  rw [own_x] at h
  exact h
theorem own_get_val (c0 c1 c2 c3 c4 c5 c6 c7 : Int32) : ((own_get c0 c1 c2 c3 c4 c5 c6 c7).toInt - ((c0.toInt % 256) * 72057594037927936 + (c1.toInt % 256) * 281474976710656 + (c2.toInt % 256) * 1099511627776 + (c3.toInt % 256) * 4294967296 + (c4.toInt % 256) * 16777216 + (c5.toInt % 256) * 65536 + (c6.toInt % 256) * 256 + (c7.toInt % 256) * 1)) % 18446744073709551616 = 0 := by
  have r0 := Int.emod_lt_of_pos c0.toInt (show (0 : Int) < 256 by decide)
  have l0 := Int.emod_lt_of_pos c0.toInt (show (0 : Int) < 256 by decide)
  have n0 := Int.emod_nonneg c0.toInt (show (256 : Int) ≠ 0 by decide)
  have l1 := Int.emod_lt_of_pos c1.toInt (show (0 : Int) < 256 by decide)
  have n1 := Int.emod_nonneg c1.toInt (show (256 : Int) ≠ 0 by decide)
  have l2 := Int.emod_lt_of_pos c2.toInt (show (0 : Int) < 256 by decide)
  have n2 := Int.emod_nonneg c2.toInt (show (256 : Int) ≠ 0 by decide)
  have l3 := Int.emod_lt_of_pos c3.toInt (show (0 : Int) < 256 by decide)
  have n3 := Int.emod_nonneg c3.toInt (show (256 : Int) ≠ 0 by decide)
  have l4 := Int.emod_lt_of_pos c4.toInt (show (0 : Int) < 256 by decide)
  have n4 := Int.emod_nonneg c4.toInt (show (256 : Int) ≠ 0 by decide)
  have l5 := Int.emod_lt_of_pos c5.toInt (show (0 : Int) < 256 by decide)
  have n5 := Int.emod_nonneg c5.toInt (show (256 : Int) ≠ 0 by decide)
  have l6 := Int.emod_lt_of_pos c6.toInt (show (0 : Int) < 256 by decide)
  have n6 := Int.emod_nonneg c6.toInt (show (256 : Int) ≠ 0 by decide)
  have l7 := Int.emod_lt_of_pos c7.toInt (show (0 : Int) < 256 by decide)
  have n7 := Int.emod_nonneg c7.toInt (show (256 : Int) ≠ 0 by decide)
  have t0 := own_t56 c0
  have g0 := rng64 (((c0.toInt64) &&& (255 : Int64)) <<< ((56 : Int32) &&& 0x3f).toInt64)
  have t1 := own_t48 c1
  have g1 := rng64 (((c1.toInt64) &&& (255 : Int64)) <<< ((48 : Int32) &&& 0x3f).toInt64)
  have t2 := own_t40 c2
  have g2 := rng64 (((c2.toInt64) &&& (255 : Int64)) <<< ((40 : Int32) &&& 0x3f).toInt64)
  have t3 := own_t32 c3
  have g3 := rng64 (((c3.toInt64) &&& (255 : Int64)) <<< ((32 : Int32) &&& 0x3f).toInt64)
  have t4 := own_t24 c4
  have g4 := rng64 (((c4.toInt64) &&& (255 : Int64)) <<< ((24 : Int32) &&& 0x3f).toInt64)
  have t5 := own_t16 c5
  have g5 := rng64 (((c5.toInt64) &&& (255 : Int64)) <<< ((16 : Int32) &&& 0x3f).toInt64)
  have t6 := own_t8 c6
  have g6 := rng64 (((c6.toInt64) &&& (255 : Int64)) <<< ((8 : Int32) &&& 0x3f).toInt64)
  have t7 := own_x c7
  have g7 := rng64 ((c7.toInt64) &&& (255 : Int64))
  unfold own_get
  generalize (((c0.toInt64) &&& (255 : Int64)) <<< ((56 : Int32) &&& 0x3f).toInt64) = y0 at *
  generalize (((c1.toInt64) &&& (255 : Int64)) <<< ((48 : Int32) &&& 0x3f).toInt64) = y1 at *
  generalize (((c2.toInt64) &&& (255 : Int64)) <<< ((40 : Int32) &&& 0x3f).toInt64) = y2 at *
  generalize (((c3.toInt64) &&& (255 : Int64)) <<< ((32 : Int32) &&& 0x3f).toInt64) = y3 at *
  generalize (((c4.toInt64) &&& (255 : Int64)) <<< ((24 : Int32) &&& 0x3f).toInt64) = y4 at *
  generalize (((c5.toInt64) &&& (255 : Int64)) <<< ((16 : Int32) &&& 0x3f).toInt64) = y5 at *
  generalize (((c6.toInt64) &&& (255 : Int64)) <<< ((8 : Int32) &&& 0x3f).toInt64) = y6 at *
  generalize ((c7.toInt64) &&& (255 : Int64)) = y7 at *
  generalize c0.toInt % 256 = m0 at *
  generalize c1.toInt % 256 = m1 at *
  generalize c2.toInt % 256 = m2 at *
  generalize c3.toInt % 256 = m3 at *
  generalize c4.toInt % 256 = m4 at *
  generalize c5.toInt % 256 = m5 at *
  generalize c6.toInt % 256 = m6 at *
  generalize c7.toInt % 256 = m7 at *
  have o1 := c_orL y0 y1 56 (by decide) 72057594037927936 (by decide) (by omega) (by omega) (by omega)
  have s1 := rng64 (y0 ||| y1)
  generalize (y0 ||| y1) = z1 at *
  have o2 := c_orL z1 y2 48 (by decide) 281474976710656 (by decide) (by omega) (by omega) (by omega)
  have s2 := rng64 (z1 ||| y2)
  generalize (z1 ||| y2) = z2 at *
  have o3 := c_orL z2 y3 40 (by decide) 1099511627776 (by decide) (by omega) (by omega) (by omega)
  have s3 := rng64 (z2 ||| y3)
  generalize (z2 ||| y3) = z3 at *
  have o4 := c_orL z3 y4 32 (by decide) 4294967296 (by decide) (by omega) (by omega) (by omega)
  have s4 := rng64 (z3 ||| y4)
  generalize (z3 ||| y4) = z4 at *
  have o5 := c_orL z4 y5 24 (by decide) 16777216 (by decide) (by omega) (by omega) (by omega)
  have s5 := rng64 (z4 ||| y5)
  generalize (z4 ||| y5) = z5 at *
  have o6 := c_orL z5 y6 16 (by decide) 65536 (by decide) (by omega) (by omega) (by omega)
  have s6 := rng64 (z5 ||| y6)
  generalize (z5 ||| y6) = z6 at *
  have o7 := c_orL z6 y7 8 (by decide) 256 (by decide) (by omega) (by omega) (by omega)
  have s7 := rng64 (z6 ||| y7)
  generalize (z6 ||| y7) = z7 at *
  omega
set_option maxRecDepth 65536 in
set_option maxHeartbeats 4000000 in
theorem own_get_eq (u : Int64) (c0 c1 c2 c3 c4 c5 c6 c7 : Int32) (h0 : c0.toInt % 256 = (u.toInt % 18446744073709551616) / 72057594037927936 % 256) (h1 : c1.toInt % 256 = (u.toInt % 18446744073709551616) / 281474976710656 % 256) (h2 : c2.toInt % 256 = (u.toInt % 18446744073709551616) / 1099511627776 % 256) (h3 : c3.toInt % 256 = (u.toInt % 18446744073709551616) / 4294967296 % 256) (h4 : c4.toInt % 256 = (u.toInt % 18446744073709551616) / 16777216 % 256) (h5 : c5.toInt % 256 = (u.toInt % 18446744073709551616) / 65536 % 256) (h6 : c6.toInt % 256 = (u.toInt % 18446744073709551616) / 256 % 256) (h7 : c7.toInt % 256 = (u.toInt % 18446744073709551616) / 1 % 256) : own_get c0 c1 c2 c3 c4 c5 c6 c7 = u := by
  apply Int64.toInt_inj.mp
  have h := own_get_val c0 c1 c2 c3 c4 c5 c6 c7
  have r := rng64 (own_get c0 c1 c2 c3 c4 c5 c6 c7)
  have ru := rng64 u
  generalize (own_get c0 c1 c2 c3 c4 c5 c6 c7).toInt = g at *
  generalize c0.toInt % 256 = m0 at *
  generalize c1.toInt % 256 = m1 at *
  generalize c2.toInt % 256 = m2 at *
  generalize c3.toInt % 256 = m3 at *
  generalize c4.toInt % 256 = m4 at *
  generalize c5.toInt % 256 = m5 at *
  generalize c6.toInt % 256 = m6 at *
  generalize c7.toInt % 256 = m7 at *
  generalize hU : u.toInt % 18446744073709551616 = U at *
  subst h0 h1 h2 h3 h4 h5 h6 h7
  omega
theorem own_nar8 (x : Int32) : (nar .byte x).toInt % 256 = x.toInt % 256 := by
  show (x.toInt8.toInt32).toInt % 256 = _
  have := (c_i2b x).1
  omega
theorem own_bv56 (v : Int64) : (nar .byte (own_b56 v)).toInt % 256 = (v.toInt % 18446744073709551616) / 72057594037927936 % 256 := by
  rw [own_nar8]
  unfold own_b56
  have h1 := (c_i2b ((v.toUInt64 >>> ((56 : Int32) &&& 0x3f).toInt64.toUInt64).toInt64).toInt32).1
  have h2 := c_l2i ((v.toUInt64 >>> ((56 : Int32) &&& 0x3f).toInt64.toUInt64).toInt64)
  have h3 := c_lushr v 56 56 (by decide) (by decide)
  rw [show ((2 ^ 56 : Nat) : Int) = 72057594037927936 by decide] at h3
  omega
theorem own_bv48 (v : Int64) : (nar .byte (own_b48 v)).toInt % 256 = (v.toInt % 18446744073709551616) / 281474976710656 % 256 := by
  rw [own_nar8]
  unfold own_b48
  have h1 := (c_i2b ((v.toUInt64 >>> ((48 : Int32) &&& 0x3f).toInt64.toUInt64).toInt64).toInt32).1
  have h2 := c_l2i ((v.toUInt64 >>> ((48 : Int32) &&& 0x3f).toInt64.toUInt64).toInt64)
  have h3 := c_lushr v 48 48 (by decide) (by decide)
  rw [show ((2 ^ 48 : Nat) : Int) = 281474976710656 by decide] at h3
  omega
theorem own_bv40 (v : Int64) : (nar .byte (own_b40 v)).toInt % 256 = (v.toInt % 18446744073709551616) / 1099511627776 % 256 := by
  rw [own_nar8]
  unfold own_b40
  have h1 := (c_i2b ((v.toUInt64 >>> ((40 : Int32) &&& 0x3f).toInt64.toUInt64).toInt64).toInt32).1
  have h2 := c_l2i ((v.toUInt64 >>> ((40 : Int32) &&& 0x3f).toInt64.toUInt64).toInt64)
  have h3 := c_lushr v 40 40 (by decide) (by decide)
  rw [show ((2 ^ 40 : Nat) : Int) = 1099511627776 by decide] at h3
  omega
theorem own_bv32 (v : Int64) : (nar .byte (own_b32 v)).toInt % 256 = (v.toInt % 18446744073709551616) / 4294967296 % 256 := by
  rw [own_nar8]
  unfold own_b32
  have h1 := (c_i2b ((v.toUInt64 >>> ((32 : Int32) &&& 0x3f).toInt64.toUInt64).toInt64).toInt32).1
  have h2 := c_l2i ((v.toUInt64 >>> ((32 : Int32) &&& 0x3f).toInt64.toUInt64).toInt64)
  have h3 := c_lushr v 32 32 (by decide) (by decide)
  rw [show ((2 ^ 32 : Nat) : Int) = 4294967296 by decide] at h3
  omega
theorem own_bv24 (v : Int64) : (nar .byte (own_b24 v)).toInt % 256 = (v.toInt % 18446744073709551616) / 16777216 % 256 := by
  rw [own_nar8]
  unfold own_b24
  have h1 := (c_i2b ((v.toUInt64 >>> ((24 : Int32) &&& 0x3f).toInt64.toUInt64).toInt64).toInt32).1
  have h2 := c_l2i ((v.toUInt64 >>> ((24 : Int32) &&& 0x3f).toInt64.toUInt64).toInt64)
  have h3 := c_lushr v 24 24 (by decide) (by decide)
  rw [show ((2 ^ 24 : Nat) : Int) = 16777216 by decide] at h3
  omega
theorem own_bv16 (v : Int64) : (nar .byte (own_b16 v)).toInt % 256 = (v.toInt % 18446744073709551616) / 65536 % 256 := by
  rw [own_nar8]
  unfold own_b16
  have h1 := (c_i2b ((v.toUInt64 >>> ((16 : Int32) &&& 0x3f).toInt64.toUInt64).toInt64).toInt32).1
  have h2 := c_l2i ((v.toUInt64 >>> ((16 : Int32) &&& 0x3f).toInt64.toUInt64).toInt64)
  have h3 := c_lushr v 16 16 (by decide) (by decide)
  rw [show ((2 ^ 16 : Nat) : Int) = 65536 by decide] at h3
  omega
theorem own_bv8 (v : Int64) : (nar .byte (own_b8 v)).toInt % 256 = (v.toInt % 18446744073709551616) / 256 % 256 := by
  rw [own_nar8]
  unfold own_b8
  have h1 := (c_i2b ((v.toUInt64 >>> ((8 : Int32) &&& 0x3f).toInt64.toUInt64).toInt64).toInt32).1
  have h2 := c_l2i ((v.toUInt64 >>> ((8 : Int32) &&& 0x3f).toInt64.toUInt64).toInt64)
  have h3 := c_lushr v 8 8 (by decide) (by decide)
  rw [show ((2 ^ 8 : Nat) : Int) = 256 by decide] at h3
  omega
theorem own_bv0 (v : Int64) : (nar .byte (own_b0 v)).toInt % 256 = (v.toInt % 18446744073709551616) / 1 % 256 := by
  rw [own_nar8]
  unfold own_b0
  have h1 := (c_i2b v.toInt32).1
  have h2 := c_l2i v
  omega
theorem own_gp (v : Int64) : own_get (nar .byte (own_b56 v)) (nar .byte (own_b48 v)) (nar .byte (own_b40 v)) (nar .byte (own_b32 v)) (nar .byte (own_b24 v)) (nar .byte (own_b16 v)) (nar .byte (own_b8 v)) (nar .byte (own_b0 v)) = v := own_get_eq v _ _ _ _ _ _ _ _ (own_bv56 v) (own_bv48 v) (own_bv40 v) (own_bv32 v) (own_bv24 v) (own_bv16 v) (own_bv8 v) (own_bv0 v)
theorem own_n32 (x : Int32) : x.toInt % 256 = ((x.toBitVec.toNat % 256 : Nat) : Int) := by
  show x.toBitVec.toInt % 256 = _
  rw [BitVec.toInt_eq_toNat_cond]
  have := x.toBitVec.isLt
  split <;> omega
theorem own_n64 (x : Int64) : x.toInt % 18446744073709551616 = (x.toBitVec.toNat : Int) := by
  show x.toBitVec.toInt % 18446744073709551616 = _
  rw [BitVec.toInt_eq_toNat_cond]
  have := x.toBitVec.isLt
  split <;> omega
theorem own_xor32 (a b : Int32) : (a ^^^ b).toBitVec.toNat % 256 = (a.toBitVec.toNat % 256) ^^^ (b.toBitVec.toNat % 256) := by
  show (a.toBitVec ^^^ b.toBitVec).toNat % 2 ^ 8 = _
  rw [BitVec.toNat_xor, Nat.xor_mod_two_pow]
theorem own_xor64 (v w : Int64) (k : Nat) : (v ^^^ w).toBitVec.toNat / 2 ^ k % 256 = (v.toBitVec.toNat / 2 ^ k % 256) ^^^ (w.toBitVec.toNat / 2 ^ k % 256) := by
  show (v.toBitVec ^^^ w.toBitVec).toNat / 2 ^ k % 2 ^ 8 = _
  rw [BitVec.toNat_xor, ← Nat.shiftRight_eq_div_pow, Nat.shiftRight_xor_distrib, Nat.xor_mod_two_pow, Nat.shiftRight_eq_div_pow, Nat.shiftRight_eq_div_pow]
theorem own_cast (n k : Nat) : ((n / 2 ^ k % 256 : Nat) : Int) = (n : Int) / ((2 ^ k : Nat) : Int) % 256 := by
  rw [Int.natCast_emod, Int.natCast_ediv]
  rfl
/-- the byte at k of a xor -/
theorem own_xb (v w : Int64) (a b : Int32) (k : Nat) (K : Int) (hK : K = ((2 ^ k : Nat) : Int)) (ha : a.toInt % 256 = (v.toInt % 18446744073709551616) / K % 256) (hb : b.toInt % 256 = (w.toInt % 18446744073709551616) / K % 256) : (nar .byte ((a ^^^ b).toInt8.toInt32)).toInt % 256 = ((v ^^^ w).toInt % 18446744073709551616) / K % 256 := by
  have e1 : (nar .byte ((a ^^^ b).toInt8.toInt32)).toInt % 256 = (a ^^^ b).toInt % 256 := by
    rw [own_nar8]
    have := (c_i2b (a ^^^ b)).1
    omega
  rw [e1, own_n32, own_xor32]
  rw [own_n32, own_n64, hK] at ha hb
  have ha' : a.toBitVec.toNat % 256 = v.toBitVec.toNat / 2 ^ k % 256 := Int.ofNat_inj.mp (ha.trans (own_cast _ _).symm)
  have hb' : b.toBitVec.toNat % 256 = w.toBitVec.toNat / 2 ^ k % 256 := Int.ofNat_inj.mp (hb.trans (own_cast _ _).symm)
  rw [ha', hb', ← own_xor64, own_n64, hK]
  exact own_cast _ _
theorem own_gx (v w : Int64) : own_get (nar .byte (((nar .byte (own_b56 v)) ^^^ (nar .byte (own_b56 w))).toInt8.toInt32)) (nar .byte (((nar .byte (own_b48 v)) ^^^ (nar .byte (own_b48 w))).toInt8.toInt32)) (nar .byte (((nar .byte (own_b40 v)) ^^^ (nar .byte (own_b40 w))).toInt8.toInt32)) (nar .byte (((nar .byte (own_b32 v)) ^^^ (nar .byte (own_b32 w))).toInt8.toInt32)) (nar .byte (((nar .byte (own_b24 v)) ^^^ (nar .byte (own_b24 w))).toInt8.toInt32)) (nar .byte (((nar .byte (own_b16 v)) ^^^ (nar .byte (own_b16 w))).toInt8.toInt32)) (nar .byte (((nar .byte (own_b8 v)) ^^^ (nar .byte (own_b8 w))).toInt8.toInt32)) (nar .byte (((nar .byte (own_b0 v)) ^^^ (nar .byte (own_b0 w))).toInt8.toInt32)) = (v ^^^ w) := own_get_eq (v ^^^ w) _ _ _ _ _ _ _ _ (own_xb v w _ _ 56 72057594037927936 (by decide) (own_bv56 v) (own_bv56 w)) (own_xb v w _ _ 48 281474976710656 (by decide) (own_bv48 v) (own_bv48 w)) (own_xb v w _ _ 40 1099511627776 (by decide) (own_bv40 v) (own_bv40 w)) (own_xb v w _ _ 32 4294967296 (by decide) (own_bv32 v) (own_bv32 w)) (own_xb v w _ _ 24 16777216 (by decide) (own_bv24 v) (own_bv24 w)) (own_xb v w _ _ 16 65536 (by decide) (own_bv16 v) (own_bv16 w)) (own_xb v w _ _ 8 256 (by decide) (own_bv8 v) (own_bv8 w)) (own_xb v w _ _ 0 1 (by decide) (own_bv0 v) (own_bv0 w))
theorem own_p0 (v : Int64) (x0 x1 x2 x3 x4 x5 x6 x7 x8 x9 x10 x11 x12 x13 x14 x15 x16 x17 x18 x19 x20 x21 x22 x23 x24 x25 x26 x27 x28 x29 x30 x31 : Value) : own_put [x0, x1, x2, x3, x4, x5, x6, x7, x8, x9, x10, x11, x12, x13, x14, x15, x16, x17, x18, x19, x20, x21, x22, x23, x24, x25, x26, x27, x28, x29, x30, x31] 0 v = [(.int (nar .byte (own_b56 v))), (.int (nar .byte (own_b48 v))), (.int (nar .byte (own_b40 v))), (.int (nar .byte (own_b32 v))), (.int (nar .byte (own_b24 v))), (.int (nar .byte (own_b16 v))), (.int (nar .byte (own_b8 v))), (.int (nar .byte (own_b0 v))), x8, x9, x10, x11, x12, x13, x14, x15, x16, x17, x18, x19, x20, x21, x22, x23, x24, x25, x26, x27, x28, x29, x30, x31] := by simp [own_put]
theorem own_p8 (v : Int64) (x0 x1 x2 x3 x4 x5 x6 x7 x8 x9 x10 x11 x12 x13 x14 x15 x16 x17 x18 x19 x20 x21 x22 x23 x24 x25 x26 x27 x28 x29 x30 x31 : Value) : own_put [x0, x1, x2, x3, x4, x5, x6, x7, x8, x9, x10, x11, x12, x13, x14, x15, x16, x17, x18, x19, x20, x21, x22, x23, x24, x25, x26, x27, x28, x29, x30, x31] 8 v = [x0, x1, x2, x3, x4, x5, x6, x7, (.int (nar .byte (own_b56 v))), (.int (nar .byte (own_b48 v))), (.int (nar .byte (own_b40 v))), (.int (nar .byte (own_b32 v))), (.int (nar .byte (own_b24 v))), (.int (nar .byte (own_b16 v))), (.int (nar .byte (own_b8 v))), (.int (nar .byte (own_b0 v))), x16, x17, x18, x19, x20, x21, x22, x23, x24, x25, x26, x27, x28, x29, x30, x31] := by simp [own_put]
theorem own_p16 (v : Int64) (x0 x1 x2 x3 x4 x5 x6 x7 x8 x9 x10 x11 x12 x13 x14 x15 x16 x17 x18 x19 x20 x21 x22 x23 x24 x25 x26 x27 x28 x29 x30 x31 : Value) : own_put [x0, x1, x2, x3, x4, x5, x6, x7, x8, x9, x10, x11, x12, x13, x14, x15, x16, x17, x18, x19, x20, x21, x22, x23, x24, x25, x26, x27, x28, x29, x30, x31] 16 v = [x0, x1, x2, x3, x4, x5, x6, x7, x8, x9, x10, x11, x12, x13, x14, x15, (.int (nar .byte (own_b56 v))), (.int (nar .byte (own_b48 v))), (.int (nar .byte (own_b40 v))), (.int (nar .byte (own_b32 v))), (.int (nar .byte (own_b24 v))), (.int (nar .byte (own_b16 v))), (.int (nar .byte (own_b8 v))), (.int (nar .byte (own_b0 v))), x24, x25, x26, x27, x28, x29, x30, x31] := by simp [own_put]
theorem own_p24 (v : Int64) (x0 x1 x2 x3 x4 x5 x6 x7 x8 x9 x10 x11 x12 x13 x14 x15 x16 x17 x18 x19 x20 x21 x22 x23 x24 x25 x26 x27 x28 x29 x30 x31 : Value) : own_put [x0, x1, x2, x3, x4, x5, x6, x7, x8, x9, x10, x11, x12, x13, x14, x15, x16, x17, x18, x19, x20, x21, x22, x23, x24, x25, x26, x27, x28, x29, x30, x31] 24 v = [x0, x1, x2, x3, x4, x5, x6, x7, x8, x9, x10, x11, x12, x13, x14, x15, x16, x17, x18, x19, x20, x21, x22, x23, (.int (nar .byte (own_b56 v))), (.int (nar .byte (own_b48 v))), (.int (nar .byte (own_b40 v))), (.int (nar .byte (own_b32 v))), (.int (nar .byte (own_b24 v))), (.int (nar .byte (own_b16 v))), (.int (nar .byte (own_b8 v))), (.int (nar .byte (own_b0 v)))] := by simp [own_put]
theorem own_list (q0 q1 q2 q3 : Int64) : own_put (own_put (own_put (own_put own_z32 0 q0) 8 q1) 16 q2) 24 q3 = [(.int (nar .byte (own_b56 q0))), (.int (nar .byte (own_b48 q0))), (.int (nar .byte (own_b40 q0))), (.int (nar .byte (own_b32 q0))), (.int (nar .byte (own_b24 q0))), (.int (nar .byte (own_b16 q0))), (.int (nar .byte (own_b8 q0))), (.int (nar .byte (own_b0 q0))), (.int (nar .byte (own_b56 q1))), (.int (nar .byte (own_b48 q1))), (.int (nar .byte (own_b40 q1))), (.int (nar .byte (own_b32 q1))), (.int (nar .byte (own_b24 q1))), (.int (nar .byte (own_b16 q1))), (.int (nar .byte (own_b8 q1))), (.int (nar .byte (own_b0 q1))), (.int (nar .byte (own_b56 q2))), (.int (nar .byte (own_b48 q2))), (.int (nar .byte (own_b40 q2))), (.int (nar .byte (own_b32 q2))), (.int (nar .byte (own_b24 q2))), (.int (nar .byte (own_b16 q2))), (.int (nar .byte (own_b8 q2))), (.int (nar .byte (own_b0 q2))), (.int (nar .byte (own_b56 q3))), (.int (nar .byte (own_b48 q3))), (.int (nar .byte (own_b40 q3))), (.int (nar .byte (own_b32 q3))), (.int (nar .byte (own_b24 q3))), (.int (nar .byte (own_b16 q3))), (.int (nar .byte (own_b8 q3))), (.int (nar .byte (own_b0 q3)))] := by rw [show own_z32 = [(.int (0 : Int32)), (.int (0 : Int32)), (.int (0 : Int32)), (.int (0 : Int32)), (.int (0 : Int32)), (.int (0 : Int32)), (.int (0 : Int32)), (.int (0 : Int32)), (.int (0 : Int32)), (.int (0 : Int32)), (.int (0 : Int32)), (.int (0 : Int32)), (.int (0 : Int32)), (.int (0 : Int32)), (.int (0 : Int32)), (.int (0 : Int32)), (.int (0 : Int32)), (.int (0 : Int32)), (.int (0 : Int32)), (.int (0 : Int32)), (.int (0 : Int32)), (.int (0 : Int32)), (.int (0 : Int32)), (.int (0 : Int32)), (.int (0 : Int32)), (.int (0 : Int32)), (.int (0 : Int32)), (.int (0 : Int32)), (.int (0 : Int32)), (.int (0 : Int32)), (.int (0 : Int32)), (.int (0 : Int32))] from rfl, own_p0, own_p8, own_p16, own_p24]
theorem pd_0 : parseMethodDescriptor "([BIJ)V" = some ⟨[(.array .byte), .int, .long], none⟩ := by decide +kernel
theorem pd_1 : parseMethodDescriptor "([B)[B" = some ⟨[(.array .byte)], some (.array .byte)⟩ := by decide +kernel
theorem pd_2 : parseMethodDescriptor "([BI)J" = some ⟨[(.array .byte), .int], some .long⟩ := by decide +kernel
theorem ef_rm0 (m : MethodId) (x0 : Int64) (x1 : Int64) (x2 : Int64) (x3 : Int64) : entryFrame m #[(.long x0), (.long x1), (.long x2), (.long x3)] maxLocals = mkF m 0 #[.val (.long x0), .second, .val (.long x1), .second, .val (.long x2), .second, .val (.long x3), .second, .unset, .unset, .unset] [] := by first | (simp [entryFrame, mkF, argsToLocals, Value.category, maxLocals]; done) | rfl
def Q0 (Z : State) (q0 : Int64) (q1 : Int64) (q2 : Int64) (q3 : Int64) (h0 : Heap) (n0 : Nat) (v : Option Value) (h : Heap) (L : List Loc) : Prop := v = some (.int 1) ∧ Fr n0 L
set_option maxRecDepth 65536 in
set_option maxHeartbeats 40000000 in
theorem rm0 (l : Launch) (Z : State) (aw : Array Value) (hw : ∀ d ∈ tables_1, d.before aw Z = true) (ws : List Jvm.Cond) (q0 : Int64) (q1 : Int64) (q2 : Int64) (q3 : Int64) (h0 : Heap) (n0 : Nat) (Z0 : n0 ≤ h0.size) :
    MetFree l x (head1 (Jvm.Cond.code x code maxLocals ret :: ws) room_1) (fun a U => a = #[(.long q0), (.long q1), (.long q2), (.long q3)] ∧ Z.Warmed39 U.vm ∧ U.heap = h0) (fun _ _ _ _ _ => True) (fun _ U oc U' => ∃ v L, oc = .returned v ∧ Q0 Z q0 q1 q2 q3 h0 n0 v U'.heap L ∧ FrameEnd U oc U' L room_1.cells room_1.slots) := by
  refine MetFree.of_bodySF (plainFor_of_name pn_0) hisR ?_
  intro p e s m args below meth c s₁ Bd hml0 hP hK
  obtain ⟨rfl, hZ, hh⟩ := hP
  have hx := Bd.exec
  have hby := Bd.bytes
  have hml : c.maxLocals = 11 := hml0
  have hown : s.vm.findClass "com/example/countersign/countersign/protocol/PrimitivesFoldPinLaw" = some m.cls := findClass_of_methodNamed Bd.named
  have hnm := (name_of_methodNamed Bd.named Bd.method).1
  have X0 : Stand p l e room_1 s m #[(.long q0), (.long q1), (.long q2), (.long q3)] below meth c s₁ [] 0 0 := Stand.of_body Bd
  have e0 : s₁.heap = h0 := by rw [← hh, Bd.state]; rfl
  have N0 := Fr.nil n0
  have pre0 : ∀ t, Steps p.tables e below (s₁.setTop (mkF m 0 #[.val (.long q0), .second, .val (.long q1), .second, .val (.long q2), .second, .val (.long q3), .second, .unset, .unset, .unset] [])) t → Steps p.tables e below (s₁.setTop (entryFrame m #[(.long q0), (.long q1), (.long q2), (.long q3)] maxLocals)) t := fun t k => castTop (ef_rm0 m q0 q1 q2 q3) k
  obtain ⟨T101, h101, k101, X101, e101, E101, A101, st101⟩ := newP X0 hx hZ (hw _ (List.mem_of_getElem? (i := 0) rfl)) e0 (g := (mkF m 2 #[.val (.long q0), .second, .val (.long q1), .second, .val (.long q2), .second, .val (.long q3), .second, .unset, .unset, .unset] [(.int (32 : Int32))])) rfl (hb hby at_2) rfl (by decide) (cap := 32) (by decide) (by decide) (by decide) (by decide)
  obtain ⟨b101, g101⟩ : ∃ z, z = h0.size := ⟨_, rfl⟩
  rw [← g101] at A101 st101
  have ge101 : n0 ≤ b101 := Nat.le_trans Z0 (Nat.le_of_eq g101.symm)
  have sz101 : h0.size ≤ b101 := Nat.le_of_eq g101.symm
  have Z101 : n0 ≤ h101.size := Nat.le_trans Z0 E101.1
  have K101 : Keep h0 h101 [] := (Keep.refl h0 []).ext E101
  have V101 : Arv Z h101 b101 k101 .byte (32 : Int32) [(.int (0 : Int32)), (.int (0 : Int32)), (.int (0 : Int32)), (.int (0 : Int32)), (.int (0 : Int32)), (.int (0 : Int32)), (.int (0 : Int32)), (.int (0 : Int32)), (.int (0 : Int32)), (.int (0 : Int32)), (.int (0 : Int32)), (.int (0 : Int32)), (.int (0 : Int32)), (.int (0 : Int32)), (.int (0 : Int32)), (.int (0 : Int32)), (.int (0 : Int32)), (.int (0 : Int32)), (.int (0 : Int32)), (.int (0 : Int32)), (.int (0 : Int32)), (.int (0 : Int32)), (.int (0 : Int32)), (.int (0 : Int32)), (.int (0 : Int32)), (.int (0 : Int32)), (.int (0 : Int32)), (.int (0 : Int32)), (.int (0 : Int32)), (.int (0 : Int32)), (.int (0 : Int32)), (.int (0 : Int32))] (.int (0 : Int32)) := (Arv.new A101 (by decide)).pad (pad_rep [] (.int (0 : Int32)) 32)
  have Vz : Arv Z h101 b101 k101 .byte (32 : Int32) own_z32 (.int (0 : Int32)) := V101
  obtain ⟨_, _, ⟨T102, L102, k102, n102⟩, -, X102, ⟨Lc102, hQ102, l102, y102, z102⟩, st102⟩ := Jvm.LawKit.callS X101 hx (y := (⟨"com/example/countersign/countersign/protocol/PrimitivesFoldPinLaw", "put", "([BIJ)V"⟩ : MethodName)) hown (mvT hZ (hw _ (List.mem_of_getElem? (i := 1) rfl))) (mvT hZ (hw _ (List.mem_of_getElem? (i := 2) rfl))) (mvT hZ (hw _ (List.mem_of_getElem? (i := 3) rfl))) (mvT hZ (hw _ (List.mem_of_getElem? (i := 4) rfl))) (by decide) (backOf (W := 0) (rmp0 l Z aw hw [] b101 q0 k101 own_z32 h101 n0 Z101 Vz (by simp [own_put_len, own_z32]) ge101) hZ (hw _ (List.mem_of_getElem? (i := 4) rfl)) (hw _ (List.mem_of_getElem? (i := 3) rfl)) (by decide) (by decide)) (g := (mkF m 10 #[.val (.long q0), .second, .val (.long q1), .second, .val (.long q2), .second, .val (.long q3), .second, .val (.ref b101), .unset, .unset] [(.long q0), (.int (0 : Int32)), (.ref b101)])) rfl (by rw [hml]; rfl) (argsL := [(.ref b101), (.int (0 : Int32)), (.long q0)]) (rest := []) (lenOf pd_0 rfl) rfl (by show 2 * 0 + _ ≤ _; exact Nat.le_of_eq rfl) (hb hby at_10) (fun _ _ => ⟨rfl, e101, (by decide : 1 + 0 ≤ _), (by decide : 32 + 0 ≤ _)⟩)
  dsimp only [Pt.U, Pt.locs, Pt.cells, Pt.slots] at X102 l102 y102 z102 st102 hQ102
  rw [l102, y102, z102] at X102
  obtain ⟨rfl, N102q, K102q, V102q⟩ := hQ102
  have N102 := Fr.app N0 N102q
  have Z102 : n0 ≤ T102.heap.size := Nat.le_trans Z101 K102q.1
  have K102 : Keep h0 T102.heap [] := K101.trans K102q (allS (Or.inr sz101) all0)
  obtain ⟨_, _, ⟨T103, L103, k103, n103⟩, -, X103, ⟨Lc103, hQ103, l103, y103, z103⟩, st103⟩ := Jvm.LawKit.callS X102 hx (y := (⟨"com/example/countersign/countersign/protocol/PrimitivesFoldPinLaw", "put", "([BIJ)V"⟩ : MethodName)) hown (mvT hZ (hw _ (List.mem_of_getElem? (i := 1) rfl))) (mvT hZ (hw _ (List.mem_of_getElem? (i := 2) rfl))) (mvT hZ (hw _ (List.mem_of_getElem? (i := 3) rfl))) (mvT hZ (hw _ (List.mem_of_getElem? (i := 4) rfl))) (by decide) (backOf (W := 0) (rmp8 l Z aw hw [] b101 q1 k101 (own_put own_z32 0 q0) T102.heap n0 Z102 V102q (by simp [own_put_len, own_z32]) ge101) hZ (hw _ (List.mem_of_getElem? (i := 4) rfl)) (hw _ (List.mem_of_getElem? (i := 3) rfl)) (by decide) (by decide)) (g := (mkF m 18 #[.val (.long q0), .second, .val (.long q1), .second, .val (.long q2), .second, .val (.long q3), .second, .val (.ref b101), .unset, .unset] [(.long q1), (.int (8 : Int32)), (.ref b101)])) rfl (by rw [hml]; rfl) (argsL := [(.ref b101), (.int (8 : Int32)), (.long q1)]) (rest := []) (lenOf pd_0 rfl) rfl (by show 2 * 0 + _ ≤ _; exact Nat.le_of_eq rfl) (hb hby at_18) (fun _ _ => ⟨rfl, rfl, (by decide : 1 + 0 ≤ _), (by decide : 32 + 0 ≤ _)⟩)
  dsimp only [Pt.U, Pt.locs, Pt.cells, Pt.slots] at X103 l103 y103 z103 st103 hQ103
  rw [l103, y103, z103] at X103
  obtain ⟨rfl, N103q, K103q, V103q⟩ := hQ103
  have N103 := Fr.app N102 N103q
  have Z103 : n0 ≤ T103.heap.size := Nat.le_trans Z102 K103q.1
  have K103 : Keep h0 T103.heap [] := K102.trans K103q (allS (Or.inr sz101) all0)
  obtain ⟨_, _, ⟨T104, L104, k104, n104⟩, -, X104, ⟨Lc104, hQ104, l104, y104, z104⟩, st104⟩ := Jvm.LawKit.callS X103 hx (y := (⟨"com/example/countersign/countersign/protocol/PrimitivesFoldPinLaw", "put", "([BIJ)V"⟩ : MethodName)) hown (mvT hZ (hw _ (List.mem_of_getElem? (i := 1) rfl))) (mvT hZ (hw _ (List.mem_of_getElem? (i := 2) rfl))) (mvT hZ (hw _ (List.mem_of_getElem? (i := 3) rfl))) (mvT hZ (hw _ (List.mem_of_getElem? (i := 4) rfl))) (by decide) (backOf (W := 0) (rmp16 l Z aw hw [] b101 q2 k101 (own_put (own_put own_z32 0 q0) 8 q1) T103.heap n0 Z103 V103q (by simp [own_put_len, own_z32]) ge101) hZ (hw _ (List.mem_of_getElem? (i := 4) rfl)) (hw _ (List.mem_of_getElem? (i := 3) rfl)) (by decide) (by decide)) (g := (mkF m 27 #[.val (.long q0), .second, .val (.long q1), .second, .val (.long q2), .second, .val (.long q3), .second, .val (.ref b101), .unset, .unset] [(.long q2), (.int (16 : Int32)), (.ref b101)])) rfl (by rw [hml]; rfl) (argsL := [(.ref b101), (.int (16 : Int32)), (.long q2)]) (rest := []) (lenOf pd_0 rfl) rfl (by show 2 * 0 + _ ≤ _; exact Nat.le_of_eq rfl) (hb hby at_27) (fun _ _ => ⟨rfl, rfl, (by decide : 1 + 0 ≤ _), (by decide : 32 + 0 ≤ _)⟩)
  dsimp only [Pt.U, Pt.locs, Pt.cells, Pt.slots] at X104 l104 y104 z104 st104 hQ104
  rw [l104, y104, z104] at X104
  obtain ⟨rfl, N104q, K104q, V104q⟩ := hQ104
  have N104 := Fr.app N103 N104q
  have Z104 : n0 ≤ T104.heap.size := Nat.le_trans Z103 K104q.1
  have K104 : Keep h0 T104.heap [] := K103.trans K104q (allS (Or.inr sz101) all0)
  obtain ⟨_, _, ⟨T105, L105, k105, n105⟩, -, X105, ⟨Lc105, hQ105, l105, y105, z105⟩, st105⟩ := Jvm.LawKit.callS X104 hx (y := (⟨"com/example/countersign/countersign/protocol/PrimitivesFoldPinLaw", "put", "([BIJ)V"⟩ : MethodName)) hown (mvT hZ (hw _ (List.mem_of_getElem? (i := 1) rfl))) (mvT hZ (hw _ (List.mem_of_getElem? (i := 2) rfl))) (mvT hZ (hw _ (List.mem_of_getElem? (i := 3) rfl))) (mvT hZ (hw _ (List.mem_of_getElem? (i := 4) rfl))) (by decide) (backOf (W := 0) (rmp24 l Z aw hw [] b101 q3 k101 (own_put (own_put (own_put own_z32 0 q0) 8 q1) 16 q2) T104.heap n0 Z104 V104q (by simp [own_put_len, own_z32]) ge101) hZ (hw _ (List.mem_of_getElem? (i := 4) rfl)) (hw _ (List.mem_of_getElem? (i := 3) rfl)) (by decide) (by decide)) (g := (mkF m 36 #[.val (.long q0), .second, .val (.long q1), .second, .val (.long q2), .second, .val (.long q3), .second, .val (.ref b101), .unset, .unset] [(.long q3), (.int (24 : Int32)), (.ref b101)])) rfl (by rw [hml]; rfl) (argsL := [(.ref b101), (.int (24 : Int32)), (.long q3)]) (rest := []) (lenOf pd_0 rfl) rfl (by show 2 * 0 + _ ≤ _; exact Nat.le_of_eq rfl) (hb hby at_36) (fun _ _ => ⟨rfl, rfl, (by decide : 1 + 0 ≤ _), (by decide : 32 + 0 ≤ _)⟩)
  dsimp only [Pt.U, Pt.locs, Pt.cells, Pt.slots] at X105 l105 y105 z105 st105 hQ105
  rw [l105, y105, z105] at X105
  obtain ⟨rfl, N105q, K105q, V105q⟩ := hQ105
  have N105 := Fr.app N104 N105q
  have Z105 : n0 ≤ T105.heap.size := Nat.le_trans Z104 K105q.1
  have K105 : Keep h0 T105.heap [] := K104.trans K105q (allS (Or.inr sz101) all0)
  have Vl := V105q
  rw [own_list] at Vl
  obtain ⟨_, _, ⟨T106, L106, k106, n106⟩, -, X106, ⟨Lc106, hQ106, l106, y106, z106⟩, st106⟩ := Jvm.LawKit.callS X105 hx (y := (⟨"com/example/countersign/countersign/protocol/Primitives", "fold", "([B)[B"⟩ : MethodName)) hown (mvT hZ (hw _ (List.mem_of_getElem? (i := 5) rfl))) (mvT hZ (hw _ (List.mem_of_getElem? (i := 6) rfl))) (mvT hZ (hw _ (List.mem_of_getElem? (i := 7) rfl))) (mvT hZ (hw _ (List.mem_of_getElem? (i := 8) rfl))) (by decide) (backOf (W := 0) (rm2 l Z aw hw [] b101 k101 (nar .byte (own_b56 q0)) (nar .byte (own_b48 q0)) (nar .byte (own_b40 q0)) (nar .byte (own_b32 q0)) (nar .byte (own_b24 q0)) (nar .byte (own_b16 q0)) (nar .byte (own_b8 q0)) (nar .byte (own_b0 q0)) (nar .byte (own_b56 q1)) (nar .byte (own_b48 q1)) (nar .byte (own_b40 q1)) (nar .byte (own_b32 q1)) (nar .byte (own_b24 q1)) (nar .byte (own_b16 q1)) (nar .byte (own_b8 q1)) (nar .byte (own_b0 q1)) (nar .byte (own_b56 q2)) (nar .byte (own_b48 q2)) (nar .byte (own_b40 q2)) (nar .byte (own_b32 q2)) (nar .byte (own_b24 q2)) (nar .byte (own_b16 q2)) (nar .byte (own_b8 q2)) (nar .byte (own_b0 q2)) (nar .byte (own_b56 q3)) (nar .byte (own_b48 q3)) (nar .byte (own_b40 q3)) (nar .byte (own_b32 q3)) (nar .byte (own_b24 q3)) (nar .byte (own_b16 q3)) (nar .byte (own_b8 q3)) (nar .byte (own_b0 q3)) T105.heap n0 Z105 Vl) hZ (hw _ (List.mem_of_getElem? (i := 8) rfl)) (hw _ (List.mem_of_getElem? (i := 7) rfl)) (by decide) (by decide)) (g := (mkF m 41 #[.val (.long q0), .second, .val (.long q1), .second, .val (.long q2), .second, .val (.long q3), .second, .val (.ref b101), .unset, .unset] [(.ref b101)])) rfl (by rw [hml]; rfl) (argsL := [(.ref b101)]) (rest := []) (lenOf pd_1 rfl) rfl (by show 2 * 0 + _ ≤ _; exact Nat.le_of_eq rfl) (hb hby at_41) (fun _ _ => ⟨rfl, rfl, (by decide : 1 + 1 ≤ _), (by decide : 32 + 16 ≤ _)⟩)
  dsimp only [Pt.U, Pt.locs, Pt.cells, Pt.slots] at X106 l106 y106 z106 st106 hQ106
  rw [l106, y106, z106] at X106
  obtain ⟨b106, kr106, rfl, N106q, K106q, g106q, V106q⟩ := hQ106
  have N106 := Fr.app N105 N106q
  have E106q := own_ext K106q
  have ne107 : b101 ≠ b106 := Nat.ne_of_lt (Nat.lt_of_lt_of_le Vl.lt g106q)
  have geb106 : n0 ≤ b106 := Nat.le_trans Z105 g106q
  have szb106 : h0.size ≤ b106 := Nat.le_trans K105.1 g106q
  have f108 := Vl.ext E106q
  have Z106 : n0 ≤ T106.heap.size := Nat.le_trans Z105 E106q.1
  have K106 : Keep h0 T106.heap [] := K105.ext E106q
  obtain ⟨cl109, Ar109, q109, S109, M109, H109, G109⟩ := id V106q
  obtain ⟨_, _, ⟨T110, L110, k110, n110⟩, -, X110, ⟨Lc110, hQ110, l110, y110, z110⟩, st110⟩ := Jvm.LawKit.callS X106 hx (y := (⟨"com/example/countersign/countersign/protocol/PrimitivesFoldPinLaw", "get", "([BI)J"⟩ : MethodName)) hown (mvT hZ (hw _ (List.mem_of_getElem? (i := 9) rfl))) (mvT hZ (hw _ (List.mem_of_getElem? (i := 10) rfl))) (mvT hZ (hw _ (List.mem_of_getElem? (i := 3) rfl))) (mvT hZ (hw _ (List.mem_of_getElem? (i := 11) rfl))) (by decide) (backOf (W := 0) (rmg32_0 l Z aw hw [] b101 k101 [(.int (nar .byte (own_b56 q0))), (.int (nar .byte (own_b48 q0))), (.int (nar .byte (own_b40 q0))), (.int (nar .byte (own_b32 q0))), (.int (nar .byte (own_b24 q0))), (.int (nar .byte (own_b16 q0))), (.int (nar .byte (own_b8 q0))), (.int (nar .byte (own_b0 q0))), (.int (nar .byte (own_b56 q1))), (.int (nar .byte (own_b48 q1))), (.int (nar .byte (own_b40 q1))), (.int (nar .byte (own_b32 q1))), (.int (nar .byte (own_b24 q1))), (.int (nar .byte (own_b16 q1))), (.int (nar .byte (own_b8 q1))), (.int (nar .byte (own_b0 q1))), (.int (nar .byte (own_b56 q2))), (.int (nar .byte (own_b48 q2))), (.int (nar .byte (own_b40 q2))), (.int (nar .byte (own_b32 q2))), (.int (nar .byte (own_b24 q2))), (.int (nar .byte (own_b16 q2))), (.int (nar .byte (own_b8 q2))), (.int (nar .byte (own_b0 q2))), (.int (nar .byte (own_b56 q3))), (.int (nar .byte (own_b48 q3))), (.int (nar .byte (own_b40 q3))), (.int (nar .byte (own_b32 q3))), (.int (nar .byte (own_b24 q3))), (.int (nar .byte (own_b16 q3))), (.int (nar .byte (own_b8 q3))), (.int (nar .byte (own_b0 q3)))] (nar .byte (own_b56 q0)) (nar .byte (own_b48 q0)) (nar .byte (own_b40 q0)) (nar .byte (own_b32 q0)) (nar .byte (own_b24 q0)) (nar .byte (own_b16 q0)) (nar .byte (own_b8 q0)) (nar .byte (own_b0 q0)) T106.heap n0 Z106 f108 rfl rfl rfl rfl rfl rfl rfl rfl) hZ (hw _ (List.mem_of_getElem? (i := 11) rfl)) (hw _ (List.mem_of_getElem? (i := 3) rfl)) (by decide) (by decide)) (g := (mkF m 64 #[.val (.long q0), .second, .val (.long q1), .second, .val (.long q2), .second, .val (.long q3), .second, .val (.ref b101), .val (.ref b106), .unset] [(.int (0 : Int32)), (.ref b101)])) rfl (by rw [hml]; rfl) (argsL := [(.ref b101), (.int (0 : Int32))]) (rest := []) (lenOf pd_2 rfl) rfl (by show 2 * 0 + _ ≤ _; exact Nat.le_of_eq rfl) (hb hby at_64) (fun _ _ => ⟨rfl, rfl, (by decide : 2 + 0 ≤ _), (by decide : 48 + 0 ≤ _)⟩)
  dsimp only [Pt.U, Pt.locs, Pt.cells, Pt.slots] at X110 l110 y110 z110 st110 hQ110
  rw [l110, y110, z110] at X110
  obtain ⟨hv110, N110q, e110⟩ := hQ110
  rw [own_gp q0] at hv110
  subst hv110
  have N110 := Fr.app N106 N110q
  obtain ⟨_, _, ⟨T111, L111, k111, n111⟩, -, X111, ⟨Lc111, hQ111, l111, y111, z111⟩, st111⟩ := Jvm.LawKit.callS X110 hx (y := (⟨"com/example/countersign/countersign/protocol/PrimitivesFoldPinLaw", "get", "([BI)J"⟩ : MethodName)) hown (mvT hZ (hw _ (List.mem_of_getElem? (i := 9) rfl))) (mvT hZ (hw _ (List.mem_of_getElem? (i := 10) rfl))) (mvT hZ (hw _ (List.mem_of_getElem? (i := 3) rfl))) (mvT hZ (hw _ (List.mem_of_getElem? (i := 11) rfl))) (by decide) (backOf (W := 0) (rmg32_8 l Z aw hw [] b101 k101 [(.int (nar .byte (own_b56 q0))), (.int (nar .byte (own_b48 q0))), (.int (nar .byte (own_b40 q0))), (.int (nar .byte (own_b32 q0))), (.int (nar .byte (own_b24 q0))), (.int (nar .byte (own_b16 q0))), (.int (nar .byte (own_b8 q0))), (.int (nar .byte (own_b0 q0))), (.int (nar .byte (own_b56 q1))), (.int (nar .byte (own_b48 q1))), (.int (nar .byte (own_b40 q1))), (.int (nar .byte (own_b32 q1))), (.int (nar .byte (own_b24 q1))), (.int (nar .byte (own_b16 q1))), (.int (nar .byte (own_b8 q1))), (.int (nar .byte (own_b0 q1))), (.int (nar .byte (own_b56 q2))), (.int (nar .byte (own_b48 q2))), (.int (nar .byte (own_b40 q2))), (.int (nar .byte (own_b32 q2))), (.int (nar .byte (own_b24 q2))), (.int (nar .byte (own_b16 q2))), (.int (nar .byte (own_b8 q2))), (.int (nar .byte (own_b0 q2))), (.int (nar .byte (own_b56 q3))), (.int (nar .byte (own_b48 q3))), (.int (nar .byte (own_b40 q3))), (.int (nar .byte (own_b32 q3))), (.int (nar .byte (own_b24 q3))), (.int (nar .byte (own_b16 q3))), (.int (nar .byte (own_b8 q3))), (.int (nar .byte (own_b0 q3)))] (nar .byte (own_b56 q1)) (nar .byte (own_b48 q1)) (nar .byte (own_b40 q1)) (nar .byte (own_b32 q1)) (nar .byte (own_b24 q1)) (nar .byte (own_b16 q1)) (nar .byte (own_b8 q1)) (nar .byte (own_b0 q1)) T106.heap n0 Z106 f108 rfl rfl rfl rfl rfl rfl rfl rfl) hZ (hw _ (List.mem_of_getElem? (i := 11) rfl)) (hw _ (List.mem_of_getElem? (i := 3) rfl)) (by decide) (by decide)) (g := (mkF m 76 #[.val (.long q0), .second, .val (.long q1), .second, .val (.long q2), .second, .val (.long q3), .second, .val (.ref b101), .val (.ref b106), .unset] [(.int (8 : Int32)), (.ref b101)])) rfl (by rw [hml]; rfl) (argsL := [(.ref b101), (.int (8 : Int32))]) (rest := []) (lenOf pd_2 rfl) rfl (by show 2 * 0 + _ ≤ _; exact Nat.le_of_eq rfl) (hb hby at_76) (fun _ _ => ⟨rfl, e110, (by decide : 2 + 0 ≤ _), (by decide : 48 + 0 ≤ _)⟩)
  dsimp only [Pt.U, Pt.locs, Pt.cells, Pt.slots] at X111 l111 y111 z111 st111 hQ111
  rw [l111, y111, z111] at X111
  obtain ⟨hv111, N111q, e111⟩ := hQ111
  rw [own_gp q1] at hv111
  subst hv111
  have N111 := Fr.app N110 N111q
  obtain ⟨_, _, ⟨T112, L112, k112, n112⟩, -, X112, ⟨Lc112, hQ112, l112, y112, z112⟩, st112⟩ := Jvm.LawKit.callS X111 hx (y := (⟨"com/example/countersign/countersign/protocol/PrimitivesFoldPinLaw", "get", "([BI)J"⟩ : MethodName)) hown (mvT hZ (hw _ (List.mem_of_getElem? (i := 9) rfl))) (mvT hZ (hw _ (List.mem_of_getElem? (i := 10) rfl))) (mvT hZ (hw _ (List.mem_of_getElem? (i := 3) rfl))) (mvT hZ (hw _ (List.mem_of_getElem? (i := 11) rfl))) (by decide) (backOf (W := 0) (rmg32_16 l Z aw hw [] b101 k101 [(.int (nar .byte (own_b56 q0))), (.int (nar .byte (own_b48 q0))), (.int (nar .byte (own_b40 q0))), (.int (nar .byte (own_b32 q0))), (.int (nar .byte (own_b24 q0))), (.int (nar .byte (own_b16 q0))), (.int (nar .byte (own_b8 q0))), (.int (nar .byte (own_b0 q0))), (.int (nar .byte (own_b56 q1))), (.int (nar .byte (own_b48 q1))), (.int (nar .byte (own_b40 q1))), (.int (nar .byte (own_b32 q1))), (.int (nar .byte (own_b24 q1))), (.int (nar .byte (own_b16 q1))), (.int (nar .byte (own_b8 q1))), (.int (nar .byte (own_b0 q1))), (.int (nar .byte (own_b56 q2))), (.int (nar .byte (own_b48 q2))), (.int (nar .byte (own_b40 q2))), (.int (nar .byte (own_b32 q2))), (.int (nar .byte (own_b24 q2))), (.int (nar .byte (own_b16 q2))), (.int (nar .byte (own_b8 q2))), (.int (nar .byte (own_b0 q2))), (.int (nar .byte (own_b56 q3))), (.int (nar .byte (own_b48 q3))), (.int (nar .byte (own_b40 q3))), (.int (nar .byte (own_b32 q3))), (.int (nar .byte (own_b24 q3))), (.int (nar .byte (own_b16 q3))), (.int (nar .byte (own_b8 q3))), (.int (nar .byte (own_b0 q3)))] (nar .byte (own_b56 q2)) (nar .byte (own_b48 q2)) (nar .byte (own_b40 q2)) (nar .byte (own_b32 q2)) (nar .byte (own_b24 q2)) (nar .byte (own_b16 q2)) (nar .byte (own_b8 q2)) (nar .byte (own_b0 q2)) T106.heap n0 Z106 f108 rfl rfl rfl rfl rfl rfl rfl rfl) hZ (hw _ (List.mem_of_getElem? (i := 11) rfl)) (hw _ (List.mem_of_getElem? (i := 3) rfl)) (by decide) (by decide)) (g := (mkF m 88 #[.val (.long q0), .second, .val (.long q1), .second, .val (.long q2), .second, .val (.long q3), .second, .val (.ref b101), .val (.ref b106), .unset] [(.int (16 : Int32)), (.ref b101)])) rfl (by rw [hml]; rfl) (argsL := [(.ref b101), (.int (16 : Int32))]) (rest := []) (lenOf pd_2 rfl) rfl (by show 2 * 0 + _ ≤ _; exact Nat.le_of_eq rfl) (hb hby at_88) (fun _ _ => ⟨rfl, e111, (by decide : 2 + 0 ≤ _), (by decide : 48 + 0 ≤ _)⟩)
  dsimp only [Pt.U, Pt.locs, Pt.cells, Pt.slots] at X112 l112 y112 z112 st112 hQ112
  rw [l112, y112, z112] at X112
  obtain ⟨hv112, N112q, e112⟩ := hQ112
  rw [own_gp q2] at hv112
  subst hv112
  have N112 := Fr.app N111 N112q
  obtain ⟨_, _, ⟨T113, L113, k113, n113⟩, -, X113, ⟨Lc113, hQ113, l113, y113, z113⟩, st113⟩ := Jvm.LawKit.callS X112 hx (y := (⟨"com/example/countersign/countersign/protocol/PrimitivesFoldPinLaw", "get", "([BI)J"⟩ : MethodName)) hown (mvT hZ (hw _ (List.mem_of_getElem? (i := 9) rfl))) (mvT hZ (hw _ (List.mem_of_getElem? (i := 10) rfl))) (mvT hZ (hw _ (List.mem_of_getElem? (i := 3) rfl))) (mvT hZ (hw _ (List.mem_of_getElem? (i := 11) rfl))) (by decide) (backOf (W := 0) (rmg32_24 l Z aw hw [] b101 k101 [(.int (nar .byte (own_b56 q0))), (.int (nar .byte (own_b48 q0))), (.int (nar .byte (own_b40 q0))), (.int (nar .byte (own_b32 q0))), (.int (nar .byte (own_b24 q0))), (.int (nar .byte (own_b16 q0))), (.int (nar .byte (own_b8 q0))), (.int (nar .byte (own_b0 q0))), (.int (nar .byte (own_b56 q1))), (.int (nar .byte (own_b48 q1))), (.int (nar .byte (own_b40 q1))), (.int (nar .byte (own_b32 q1))), (.int (nar .byte (own_b24 q1))), (.int (nar .byte (own_b16 q1))), (.int (nar .byte (own_b8 q1))), (.int (nar .byte (own_b0 q1))), (.int (nar .byte (own_b56 q2))), (.int (nar .byte (own_b48 q2))), (.int (nar .byte (own_b40 q2))), (.int (nar .byte (own_b32 q2))), (.int (nar .byte (own_b24 q2))), (.int (nar .byte (own_b16 q2))), (.int (nar .byte (own_b8 q2))), (.int (nar .byte (own_b0 q2))), (.int (nar .byte (own_b56 q3))), (.int (nar .byte (own_b48 q3))), (.int (nar .byte (own_b40 q3))), (.int (nar .byte (own_b32 q3))), (.int (nar .byte (own_b24 q3))), (.int (nar .byte (own_b16 q3))), (.int (nar .byte (own_b8 q3))), (.int (nar .byte (own_b0 q3)))] (nar .byte (own_b56 q3)) (nar .byte (own_b48 q3)) (nar .byte (own_b40 q3)) (nar .byte (own_b32 q3)) (nar .byte (own_b24 q3)) (nar .byte (own_b16 q3)) (nar .byte (own_b8 q3)) (nar .byte (own_b0 q3)) T106.heap n0 Z106 f108 rfl rfl rfl rfl rfl rfl rfl rfl) hZ (hw _ (List.mem_of_getElem? (i := 11) rfl)) (hw _ (List.mem_of_getElem? (i := 3) rfl)) (by decide) (by decide)) (g := (mkF m 101 #[.val (.long q0), .second, .val (.long q1), .second, .val (.long q2), .second, .val (.long q3), .second, .val (.ref b101), .val (.ref b106), .unset] [(.int (24 : Int32)), (.ref b101)])) rfl (by rw [hml]; rfl) (argsL := [(.ref b101), (.int (24 : Int32))]) (rest := []) (lenOf pd_2 rfl) rfl (by show 2 * 0 + _ ≤ _; exact Nat.le_of_eq rfl) (hb hby at_101) (fun _ _ => ⟨rfl, e112, (by decide : 2 + 0 ≤ _), (by decide : 48 + 0 ≤ _)⟩)
  dsimp only [Pt.U, Pt.locs, Pt.cells, Pt.slots] at X113 l113 y113 z113 st113 hQ113
  rw [l113, y113, z113] at X113
  obtain ⟨hv113, N113q, e113⟩ := hQ113
  rw [own_gp q3] at hv113
  subst hv113
  have N113 := Fr.app N112 N113q
  obtain ⟨_, _, ⟨T114, L114, k114, n114⟩, -, X114, ⟨Lc114, hQ114, l114, y114, z114⟩, st114⟩ := Jvm.LawKit.callS X113 hx (y := (⟨"com/example/countersign/countersign/protocol/PrimitivesFoldPinLaw", "get", "([BI)J"⟩ : MethodName)) hown (mvT hZ (hw _ (List.mem_of_getElem? (i := 9) rfl))) (mvT hZ (hw _ (List.mem_of_getElem? (i := 10) rfl))) (mvT hZ (hw _ (List.mem_of_getElem? (i := 3) rfl))) (mvT hZ (hw _ (List.mem_of_getElem? (i := 11) rfl))) (by decide) (backOf (W := 0) (rmg16_0 l Z aw hw [] b106 kr106 [(.int (nar .byte (((nar .byte (own_b56 q0)) ^^^ (nar .byte (own_b56 q2))).toInt8.toInt32))), (.int (nar .byte (((nar .byte (own_b48 q0)) ^^^ (nar .byte (own_b48 q2))).toInt8.toInt32))), (.int (nar .byte (((nar .byte (own_b40 q0)) ^^^ (nar .byte (own_b40 q2))).toInt8.toInt32))), (.int (nar .byte (((nar .byte (own_b32 q0)) ^^^ (nar .byte (own_b32 q2))).toInt8.toInt32))), (.int (nar .byte (((nar .byte (own_b24 q0)) ^^^ (nar .byte (own_b24 q2))).toInt8.toInt32))), (.int (nar .byte (((nar .byte (own_b16 q0)) ^^^ (nar .byte (own_b16 q2))).toInt8.toInt32))), (.int (nar .byte (((nar .byte (own_b8 q0)) ^^^ (nar .byte (own_b8 q2))).toInt8.toInt32))), (.int (nar .byte (((nar .byte (own_b0 q0)) ^^^ (nar .byte (own_b0 q2))).toInt8.toInt32))), (.int (nar .byte (((nar .byte (own_b56 q1)) ^^^ (nar .byte (own_b56 q3))).toInt8.toInt32))), (.int (nar .byte (((nar .byte (own_b48 q1)) ^^^ (nar .byte (own_b48 q3))).toInt8.toInt32))), (.int (nar .byte (((nar .byte (own_b40 q1)) ^^^ (nar .byte (own_b40 q3))).toInt8.toInt32))), (.int (nar .byte (((nar .byte (own_b32 q1)) ^^^ (nar .byte (own_b32 q3))).toInt8.toInt32))), (.int (nar .byte (((nar .byte (own_b24 q1)) ^^^ (nar .byte (own_b24 q3))).toInt8.toInt32))), (.int (nar .byte (((nar .byte (own_b16 q1)) ^^^ (nar .byte (own_b16 q3))).toInt8.toInt32))), (.int (nar .byte (((nar .byte (own_b8 q1)) ^^^ (nar .byte (own_b8 q3))).toInt8.toInt32))), (.int (nar .byte (((nar .byte (own_b0 q1)) ^^^ (nar .byte (own_b0 q3))).toInt8.toInt32)))] (nar .byte (((nar .byte (own_b56 q0)) ^^^ (nar .byte (own_b56 q2))).toInt8.toInt32)) (nar .byte (((nar .byte (own_b48 q0)) ^^^ (nar .byte (own_b48 q2))).toInt8.toInt32)) (nar .byte (((nar .byte (own_b40 q0)) ^^^ (nar .byte (own_b40 q2))).toInt8.toInt32)) (nar .byte (((nar .byte (own_b32 q0)) ^^^ (nar .byte (own_b32 q2))).toInt8.toInt32)) (nar .byte (((nar .byte (own_b24 q0)) ^^^ (nar .byte (own_b24 q2))).toInt8.toInt32)) (nar .byte (((nar .byte (own_b16 q0)) ^^^ (nar .byte (own_b16 q2))).toInt8.toInt32)) (nar .byte (((nar .byte (own_b8 q0)) ^^^ (nar .byte (own_b8 q2))).toInt8.toInt32)) (nar .byte (((nar .byte (own_b0 q0)) ^^^ (nar .byte (own_b0 q2))).toInt8.toInt32)) T106.heap n0 Z106 V106q rfl rfl rfl rfl rfl rfl rfl rfl) hZ (hw _ (List.mem_of_getElem? (i := 11) rfl)) (hw _ (List.mem_of_getElem? (i := 3) rfl)) (by decide) (by decide)) (g := (mkF m 125 #[.val (.long q0), .second, .val (.long q1), .second, .val (.long q2), .second, .val (.long q3), .second, .val (.ref b101), .val (.ref b106), .val (.int (1 : Int32))] [(.int (0 : Int32)), (.ref b106)])) rfl (by rw [hml]; rfl) (argsL := [(.ref b106), (.int (0 : Int32))]) (rest := []) (lenOf pd_2 rfl) rfl (by show 2 * 0 + _ ≤ _; exact Nat.le_of_eq rfl) (hb hby at_125) (fun _ _ => ⟨rfl, e113, (by decide : 2 + 0 ≤ _), (by decide : 48 + 0 ≤ _)⟩)
  dsimp only [Pt.U, Pt.locs, Pt.cells, Pt.slots] at X114 l114 y114 z114 st114 hQ114
  rw [l114, y114, z114] at X114
  obtain ⟨hv114, N114q, e114⟩ := hQ114
  rw [own_gx q0 q2] at hv114
  subst hv114
  have N114 := Fr.app N113 N114q
  obtain ⟨_, _, ⟨T115, L115, k115, n115⟩, -, X115, ⟨Lc115, hQ115, l115, y115, z115⟩, st115⟩ := Jvm.LawKit.callS X114 hx (y := (⟨"com/example/countersign/countersign/protocol/PrimitivesFoldPinLaw", "get", "([BI)J"⟩ : MethodName)) hown (mvT hZ (hw _ (List.mem_of_getElem? (i := 9) rfl))) (mvT hZ (hw _ (List.mem_of_getElem? (i := 10) rfl))) (mvT hZ (hw _ (List.mem_of_getElem? (i := 3) rfl))) (mvT hZ (hw _ (List.mem_of_getElem? (i := 11) rfl))) (by decide) (backOf (W := 0) (rmg16_8 l Z aw hw [] b106 kr106 [(.int (nar .byte (((nar .byte (own_b56 q0)) ^^^ (nar .byte (own_b56 q2))).toInt8.toInt32))), (.int (nar .byte (((nar .byte (own_b48 q0)) ^^^ (nar .byte (own_b48 q2))).toInt8.toInt32))), (.int (nar .byte (((nar .byte (own_b40 q0)) ^^^ (nar .byte (own_b40 q2))).toInt8.toInt32))), (.int (nar .byte (((nar .byte (own_b32 q0)) ^^^ (nar .byte (own_b32 q2))).toInt8.toInt32))), (.int (nar .byte (((nar .byte (own_b24 q0)) ^^^ (nar .byte (own_b24 q2))).toInt8.toInt32))), (.int (nar .byte (((nar .byte (own_b16 q0)) ^^^ (nar .byte (own_b16 q2))).toInt8.toInt32))), (.int (nar .byte (((nar .byte (own_b8 q0)) ^^^ (nar .byte (own_b8 q2))).toInt8.toInt32))), (.int (nar .byte (((nar .byte (own_b0 q0)) ^^^ (nar .byte (own_b0 q2))).toInt8.toInt32))), (.int (nar .byte (((nar .byte (own_b56 q1)) ^^^ (nar .byte (own_b56 q3))).toInt8.toInt32))), (.int (nar .byte (((nar .byte (own_b48 q1)) ^^^ (nar .byte (own_b48 q3))).toInt8.toInt32))), (.int (nar .byte (((nar .byte (own_b40 q1)) ^^^ (nar .byte (own_b40 q3))).toInt8.toInt32))), (.int (nar .byte (((nar .byte (own_b32 q1)) ^^^ (nar .byte (own_b32 q3))).toInt8.toInt32))), (.int (nar .byte (((nar .byte (own_b24 q1)) ^^^ (nar .byte (own_b24 q3))).toInt8.toInt32))), (.int (nar .byte (((nar .byte (own_b16 q1)) ^^^ (nar .byte (own_b16 q3))).toInt8.toInt32))), (.int (nar .byte (((nar .byte (own_b8 q1)) ^^^ (nar .byte (own_b8 q3))).toInt8.toInt32))), (.int (nar .byte (((nar .byte (own_b0 q1)) ^^^ (nar .byte (own_b0 q3))).toInt8.toInt32)))] (nar .byte (((nar .byte (own_b56 q1)) ^^^ (nar .byte (own_b56 q3))).toInt8.toInt32)) (nar .byte (((nar .byte (own_b48 q1)) ^^^ (nar .byte (own_b48 q3))).toInt8.toInt32)) (nar .byte (((nar .byte (own_b40 q1)) ^^^ (nar .byte (own_b40 q3))).toInt8.toInt32)) (nar .byte (((nar .byte (own_b32 q1)) ^^^ (nar .byte (own_b32 q3))).toInt8.toInt32)) (nar .byte (((nar .byte (own_b24 q1)) ^^^ (nar .byte (own_b24 q3))).toInt8.toInt32)) (nar .byte (((nar .byte (own_b16 q1)) ^^^ (nar .byte (own_b16 q3))).toInt8.toInt32)) (nar .byte (((nar .byte (own_b8 q1)) ^^^ (nar .byte (own_b8 q3))).toInt8.toInt32)) (nar .byte (((nar .byte (own_b0 q1)) ^^^ (nar .byte (own_b0 q3))).toInt8.toInt32)) T106.heap n0 Z106 V106q rfl rfl rfl rfl rfl rfl rfl rfl) hZ (hw _ (List.mem_of_getElem? (i := 11) rfl)) (hw _ (List.mem_of_getElem? (i := 3) rfl)) (by decide) (by decide)) (g := (mkF m 140 #[.val (.long q0), .second, .val (.long q1), .second, .val (.long q2), .second, .val (.long q3), .second, .val (.ref b101), .val (.ref b106), .val (.int (1 : Int32))] [(.int (8 : Int32)), (.ref b106)])) rfl (by rw [hml]; rfl) (argsL := [(.ref b106), (.int (8 : Int32))]) (rest := []) (lenOf pd_2 rfl) rfl (by show 2 * 0 + _ ≤ _; exact Nat.le_of_eq rfl) (hb hby at_140) (fun _ _ => ⟨rfl, e114, (by decide : 2 + 0 ≤ _), (by decide : 48 + 0 ≤ _)⟩)
  dsimp only [Pt.U, Pt.locs, Pt.cells, Pt.slots] at X115 l115 y115 z115 st115 hQ115
  rw [l115, y115, z115] at X115
  obtain ⟨hv115, N115q, e115⟩ := hQ115
  rw [own_gx q1 q3] at hv115
  subst hv115
  have N115 := Fr.app N114 N115q
  obtain ⟨fs, hr, hrun, hended, hW, hsame⟩ := X115.leave (v := some (.int (1 : Int32))) (fun h => by rw [Bd.returns] at h; cases h)
  refine ⟨_, _, pre0 _ ?_, hrun, hended, _, _, rfl, ?_, ⟨_, rfl⟩, hW, hsame.mono (by decide) (by decide)⟩
  · show Steps p.tables e below (s₁.setTop (mkF m 0 #[.val (.long q0), .second, .val (.long q1), .second, .val (.long q2), .second, .val (.long q3), .second, .unset, .unset, .unset] [])) _
    refine XS.bipush X0.here hx rfl (hb hby at_0) ?_
    show Steps p.tables e below (s₁.setTop (mkF m 2 #[.val (.long q0), .second, .val (.long q1), .second, .val (.long q2), .second, .val (.long q3), .second, .unset, .unset, .unset] [(.int (32 : Int32))])) _
    refine st101 _ ?_
    show Steps p.tables e below (T101.setTop (mkF m 4 #[.val (.long q0), .second, .val (.long q1), .second, .val (.long q2), .second, .val (.long q3), .second, .unset, .unset, .unset] [(.ref b101)])) _
    refine XS.astore X101.here hx rfl (hb hby at_4) rfl rfl (l' := #[.val (.long q0), .second, .val (.long q1), .second, .val (.long q2), .second, .val (.long q3), .second, .val (.ref b101), .unset, .unset]) rfl ?_
    show Steps p.tables e below (T101.setTop (mkF m 6 #[.val (.long q0), .second, .val (.long q1), .second, .val (.long q2), .second, .val (.long q3), .second, .val (.ref b101), .unset, .unset] [])) _
    refine XS.aload X101.here hx rfl (hb hby at_6) rfl rfl ?_
    show Steps p.tables e below (T101.setTop (mkF m 8 #[.val (.long q0), .second, .val (.long q1), .second, .val (.long q2), .second, .val (.long q3), .second, .val (.ref b101), .unset, .unset] [(.ref b101)])) _
    refine XS.iconst X101.here hx rfl (hb hby at_8) ?_
    show Steps p.tables e below (T101.setTop (mkF m 9 #[.val (.long q0), .second, .val (.long q1), .second, .val (.long q2), .second, .val (.long q3), .second, .val (.ref b101), .unset, .unset] [(.int (0 : Int32)), (.ref b101)])) _
    refine XS.lloadN X101.here hx rfl (hb hby at_9) rfl ?_
    show Steps p.tables e below (T101.setTop (mkF m 10 #[.val (.long q0), .second, .val (.long q1), .second, .val (.long q2), .second, .val (.long q3), .second, .val (.ref b101), .unset, .unset] [(.long q0), (.int (0 : Int32)), (.ref b101)])) _
    refine st102 _ ?_
    show Steps p.tables e below (T102.setTop (mkF m 13 #[.val (.long q0), .second, .val (.long q1), .second, .val (.long q2), .second, .val (.long q3), .second, .val (.ref b101), .unset, .unset] [])) _
    refine XS.aload X102.here hx rfl (hb hby at_13) rfl rfl ?_
    show Steps p.tables e below (T102.setTop (mkF m 15 #[.val (.long q0), .second, .val (.long q1), .second, .val (.long q2), .second, .val (.long q3), .second, .val (.ref b101), .unset, .unset] [(.ref b101)])) _
    refine XS.bipush X102.here hx rfl (hb hby at_15) ?_
    show Steps p.tables e below (T102.setTop (mkF m 17 #[.val (.long q0), .second, .val (.long q1), .second, .val (.long q2), .second, .val (.long q3), .second, .val (.ref b101), .unset, .unset] [(.int (8 : Int32)), (.ref b101)])) _
    refine XS.lloadN X102.here hx rfl (hb hby at_17) rfl ?_
    show Steps p.tables e below (T102.setTop (mkF m 18 #[.val (.long q0), .second, .val (.long q1), .second, .val (.long q2), .second, .val (.long q3), .second, .val (.ref b101), .unset, .unset] [(.long q1), (.int (8 : Int32)), (.ref b101)])) _
    refine st103 _ ?_
    show Steps p.tables e below (T103.setTop (mkF m 21 #[.val (.long q0), .second, .val (.long q1), .second, .val (.long q2), .second, .val (.long q3), .second, .val (.ref b101), .unset, .unset] [])) _
    refine XS.aload X103.here hx rfl (hb hby at_21) rfl rfl ?_
    show Steps p.tables e below (T103.setTop (mkF m 23 #[.val (.long q0), .second, .val (.long q1), .second, .val (.long q2), .second, .val (.long q3), .second, .val (.ref b101), .unset, .unset] [(.ref b101)])) _
    refine XS.bipush X103.here hx rfl (hb hby at_23) ?_
    show Steps p.tables e below (T103.setTop (mkF m 25 #[.val (.long q0), .second, .val (.long q1), .second, .val (.long q2), .second, .val (.long q3), .second, .val (.ref b101), .unset, .unset] [(.int (16 : Int32)), (.ref b101)])) _
    refine XS.lload X103.here hx rfl (hb hby at_25) rfl ?_
    show Steps p.tables e below (T103.setTop (mkF m 27 #[.val (.long q0), .second, .val (.long q1), .second, .val (.long q2), .second, .val (.long q3), .second, .val (.ref b101), .unset, .unset] [(.long q2), (.int (16 : Int32)), (.ref b101)])) _
    refine st104 _ ?_
    show Steps p.tables e below (T104.setTop (mkF m 30 #[.val (.long q0), .second, .val (.long q1), .second, .val (.long q2), .second, .val (.long q3), .second, .val (.ref b101), .unset, .unset] [])) _
    refine XS.aload X104.here hx rfl (hb hby at_30) rfl rfl ?_
    show Steps p.tables e below (T104.setTop (mkF m 32 #[.val (.long q0), .second, .val (.long q1), .second, .val (.long q2), .second, .val (.long q3), .second, .val (.ref b101), .unset, .unset] [(.ref b101)])) _
    refine XS.bipush X104.here hx rfl (hb hby at_32) ?_
    show Steps p.tables e below (T104.setTop (mkF m 34 #[.val (.long q0), .second, .val (.long q1), .second, .val (.long q2), .second, .val (.long q3), .second, .val (.ref b101), .unset, .unset] [(.int (24 : Int32)), (.ref b101)])) _
    refine XS.lload X104.here hx rfl (hb hby at_34) rfl ?_
    show Steps p.tables e below (T104.setTop (mkF m 36 #[.val (.long q0), .second, .val (.long q1), .second, .val (.long q2), .second, .val (.long q3), .second, .val (.ref b101), .unset, .unset] [(.long q3), (.int (24 : Int32)), (.ref b101)])) _
    refine st105 _ ?_
    show Steps p.tables e below (T105.setTop (mkF m 39 #[.val (.long q0), .second, .val (.long q1), .second, .val (.long q2), .second, .val (.long q3), .second, .val (.ref b101), .unset, .unset] [])) _
    refine XS.aload X105.here hx rfl (hb hby at_39) rfl rfl ?_
    show Steps p.tables e below (T105.setTop (mkF m 41 #[.val (.long q0), .second, .val (.long q1), .second, .val (.long q2), .second, .val (.long q3), .second, .val (.ref b101), .unset, .unset] [(.ref b101)])) _
    refine st106 _ ?_
    show Steps p.tables e below (T106.setTop (mkF m 44 #[.val (.long q0), .second, .val (.long q1), .second, .val (.long q2), .second, .val (.long q3), .second, .val (.ref b101), .unset, .unset] [(.ref b106)])) _
    refine XS.astore X106.here hx rfl (hb hby at_44) rfl rfl (l' := #[.val (.long q0), .second, .val (.long q1), .second, .val (.long q2), .second, .val (.long q3), .second, .val (.ref b101), .val (.ref b106), .unset]) rfl ?_
    show Steps p.tables e below (T106.setTop (mkF m 46 #[.val (.long q0), .second, .val (.long q1), .second, .val (.long q2), .second, .val (.long q3), .second, .val (.ref b101), .val (.ref b106), .unset] [])) _
    refine XS.aload X106.here hx rfl (hb hby at_46) rfl rfl ?_
    show Steps p.tables e below (T106.setTop (mkF m 48 #[.val (.long q0), .second, .val (.long q1), .second, .val (.long q2), .second, .val (.long q3), .second, .val (.ref b101), .val (.ref b106), .unset] [(.ref b106)])) _
    refine XS.ifnullNo X106.here hx rfl (hb hby at_48) rfl ?_
    show Steps p.tables e below (T106.setTop (mkF m 51 #[.val (.long q0), .second, .val (.long q1), .second, .val (.long q2), .second, .val (.long q3), .second, .val (.ref b101), .val (.ref b106), .unset] [])) _
    refine XS.aload X106.here hx rfl (hb hby at_51) rfl rfl ?_
    show Steps p.tables e below (T106.setTop (mkF m 53 #[.val (.long q0), .second, .val (.long q1), .second, .val (.long q2), .second, .val (.long q3), .second, .val (.ref b101), .val (.ref b106), .unset] [(.ref b106)])) _
    refine X106.arraylength hx Ar109.1 (State.isArrayOf_alike hZ.alike Ar109.2.1) (g := (mkF m 53 #[.val (.long q0), .second, .val (.long q1), .second, .val (.long q2), .second, .val (.long q3), .second, .val (.ref b101), .val (.ref b106), .unset] [(.ref b106)])) rfl rfl (hb hby at_53) _ ?_
    rw [len_of S109 M109]
    show Steps p.tables e below (T106.setTop (mkF m 54 #[.val (.long q0), .second, .val (.long q1), .second, .val (.long q2), .second, .val (.long q3), .second, .val (.ref b101), .val (.ref b106), .unset] [(.int (16 : Int32))])) _
    refine XS.bipush X106.here hx rfl (hb hby at_54) ?_
    show Steps p.tables e below (T106.setTop (mkF m 56 #[.val (.long q0), .second, .val (.long q1), .second, .val (.long q2), .second, .val (.long q3), .second, .val (.ref b101), .val (.ref b106), .unset] [(.int (16 : Int32)), (.int (16 : Int32))])) _
    refine XS.icmpYes X106.here hx rfl (pc0 := 56) (pc' := 61) rfl (hb hby at_56) rfl (teq (by decide : (16 : Int32) = (16 : Int32))).1 (by decide) (by decide) ?_
    show Steps p.tables e below (T106.setTop (mkF m 61 #[.val (.long q0), .second, .val (.long q1), .second, .val (.long q2), .second, .val (.long q3), .second, .val (.ref b101), .val (.ref b106), .unset] [])) _
    refine XS.aload X106.here hx rfl (hb hby at_61) rfl rfl ?_
    show Steps p.tables e below (T106.setTop (mkF m 63 #[.val (.long q0), .second, .val (.long q1), .second, .val (.long q2), .second, .val (.long q3), .second, .val (.ref b101), .val (.ref b106), .unset] [(.ref b101)])) _
    refine XS.iconst X106.here hx rfl (hb hby at_63) ?_
    show Steps p.tables e below (T106.setTop (mkF m 64 #[.val (.long q0), .second, .val (.long q1), .second, .val (.long q2), .second, .val (.long q3), .second, .val (.ref b101), .val (.ref b106), .unset] [(.int (0 : Int32)), (.ref b101)])) _
    refine st110 _ ?_
    show Steps p.tables e below (T110.setTop (mkF m 67 #[.val (.long q0), .second, .val (.long q1), .second, .val (.long q2), .second, .val (.long q3), .second, .val (.ref b101), .val (.ref b106), .unset] [(.long q0)])) _
    refine XS.lloadN X110.here hx rfl (hb hby at_67) rfl ?_
    show Steps p.tables e below (T110.setTop (mkF m 68 #[.val (.long q0), .second, .val (.long q1), .second, .val (.long q2), .second, .val (.long q3), .second, .val (.ref b101), .val (.ref b106), .unset] [(.long q0), (.long q0)])) _
    refine XS.lcmp X110.here hx rfl (hb hby at_68) rfl ?_
    show Steps p.tables e below (T110.setTop (mkF m 69 #[.val (.long q0), .second, .val (.long q1), .second, .val (.long q2), .second, .val (.long q3), .second, .val (.ref b101), .val (.ref b106), .unset] [(.int (lcmpW q0 q0))])) _
    refine XS.ifNo X110.here hx rfl (hb hby at_69) rfl ((if0 _ _).trans (teq ((lw_eq q0 q0).mpr (rfl : q0 = q0))).2) ?_
    show Steps p.tables e below (T110.setTop (mkF m 72 #[.val (.long q0), .second, .val (.long q1), .second, .val (.long q2), .second, .val (.long q3), .second, .val (.ref b101), .val (.ref b106), .unset] [])) _
    refine XS.aload X110.here hx rfl (hb hby at_72) rfl rfl ?_
    show Steps p.tables e below (T110.setTop (mkF m 74 #[.val (.long q0), .second, .val (.long q1), .second, .val (.long q2), .second, .val (.long q3), .second, .val (.ref b101), .val (.ref b106), .unset] [(.ref b101)])) _
    refine XS.bipush X110.here hx rfl (hb hby at_74) ?_
    show Steps p.tables e below (T110.setTop (mkF m 76 #[.val (.long q0), .second, .val (.long q1), .second, .val (.long q2), .second, .val (.long q3), .second, .val (.ref b101), .val (.ref b106), .unset] [(.int (8 : Int32)), (.ref b101)])) _
    refine st111 _ ?_
    show Steps p.tables e below (T111.setTop (mkF m 79 #[.val (.long q0), .second, .val (.long q1), .second, .val (.long q2), .second, .val (.long q3), .second, .val (.ref b101), .val (.ref b106), .unset] [(.long q1)])) _
    refine XS.lloadN X111.here hx rfl (hb hby at_79) rfl ?_
    show Steps p.tables e below (T111.setTop (mkF m 80 #[.val (.long q0), .second, .val (.long q1), .second, .val (.long q2), .second, .val (.long q3), .second, .val (.ref b101), .val (.ref b106), .unset] [(.long q1), (.long q1)])) _
    refine XS.lcmp X111.here hx rfl (hb hby at_80) rfl ?_
    show Steps p.tables e below (T111.setTop (mkF m 81 #[.val (.long q0), .second, .val (.long q1), .second, .val (.long q2), .second, .val (.long q3), .second, .val (.ref b101), .val (.ref b106), .unset] [(.int (lcmpW q1 q1))])) _
    refine XS.ifNo X111.here hx rfl (hb hby at_81) rfl ((if0 _ _).trans (teq ((lw_eq q1 q1).mpr (rfl : q1 = q1))).2) ?_
    show Steps p.tables e below (T111.setTop (mkF m 84 #[.val (.long q0), .second, .val (.long q1), .second, .val (.long q2), .second, .val (.long q3), .second, .val (.ref b101), .val (.ref b106), .unset] [])) _
    refine XS.aload X111.here hx rfl (hb hby at_84) rfl rfl ?_
    show Steps p.tables e below (T111.setTop (mkF m 86 #[.val (.long q0), .second, .val (.long q1), .second, .val (.long q2), .second, .val (.long q3), .second, .val (.ref b101), .val (.ref b106), .unset] [(.ref b101)])) _
    refine XS.bipush X111.here hx rfl (hb hby at_86) ?_
    show Steps p.tables e below (T111.setTop (mkF m 88 #[.val (.long q0), .second, .val (.long q1), .second, .val (.long q2), .second, .val (.long q3), .second, .val (.ref b101), .val (.ref b106), .unset] [(.int (16 : Int32)), (.ref b101)])) _
    refine st112 _ ?_
    show Steps p.tables e below (T112.setTop (mkF m 91 #[.val (.long q0), .second, .val (.long q1), .second, .val (.long q2), .second, .val (.long q3), .second, .val (.ref b101), .val (.ref b106), .unset] [(.long q2)])) _
    refine XS.lload X112.here hx rfl (hb hby at_91) rfl ?_
    show Steps p.tables e below (T112.setTop (mkF m 93 #[.val (.long q0), .second, .val (.long q1), .second, .val (.long q2), .second, .val (.long q3), .second, .val (.ref b101), .val (.ref b106), .unset] [(.long q2), (.long q2)])) _
    refine XS.lcmp X112.here hx rfl (hb hby at_93) rfl ?_
    show Steps p.tables e below (T112.setTop (mkF m 94 #[.val (.long q0), .second, .val (.long q1), .second, .val (.long q2), .second, .val (.long q3), .second, .val (.ref b101), .val (.ref b106), .unset] [(.int (lcmpW q2 q2))])) _
    refine XS.ifNo X112.here hx rfl (hb hby at_94) rfl ((if0 _ _).trans (teq ((lw_eq q2 q2).mpr (rfl : q2 = q2))).2) ?_
    show Steps p.tables e below (T112.setTop (mkF m 97 #[.val (.long q0), .second, .val (.long q1), .second, .val (.long q2), .second, .val (.long q3), .second, .val (.ref b101), .val (.ref b106), .unset] [])) _
    refine XS.aload X112.here hx rfl (hb hby at_97) rfl rfl ?_
    show Steps p.tables e below (T112.setTop (mkF m 99 #[.val (.long q0), .second, .val (.long q1), .second, .val (.long q2), .second, .val (.long q3), .second, .val (.ref b101), .val (.ref b106), .unset] [(.ref b101)])) _
    refine XS.bipush X112.here hx rfl (hb hby at_99) ?_
    show Steps p.tables e below (T112.setTop (mkF m 101 #[.val (.long q0), .second, .val (.long q1), .second, .val (.long q2), .second, .val (.long q3), .second, .val (.ref b101), .val (.ref b106), .unset] [(.int (24 : Int32)), (.ref b101)])) _
    refine st113 _ ?_
    show Steps p.tables e below (T113.setTop (mkF m 104 #[.val (.long q0), .second, .val (.long q1), .second, .val (.long q2), .second, .val (.long q3), .second, .val (.ref b101), .val (.ref b106), .unset] [(.long q3)])) _
    refine XS.lload X113.here hx rfl (hb hby at_104) rfl ?_
    show Steps p.tables e below (T113.setTop (mkF m 106 #[.val (.long q0), .second, .val (.long q1), .second, .val (.long q2), .second, .val (.long q3), .second, .val (.ref b101), .val (.ref b106), .unset] [(.long q3), (.long q3)])) _
    refine XS.lcmp X113.here hx rfl (hb hby at_106) rfl ?_
    show Steps p.tables e below (T113.setTop (mkF m 107 #[.val (.long q0), .second, .val (.long q1), .second, .val (.long q2), .second, .val (.long q3), .second, .val (.ref b101), .val (.ref b106), .unset] [(.int (lcmpW q3 q3))])) _
    refine XS.ifNo X113.here hx rfl (hb hby at_107) rfl ((if0 _ _).trans (teq ((lw_eq q3 q3).mpr (rfl : q3 = q3))).2) ?_
    show Steps p.tables e below (T113.setTop (mkF m 110 #[.val (.long q0), .second, .val (.long q1), .second, .val (.long q2), .second, .val (.long q3), .second, .val (.ref b101), .val (.ref b106), .unset] [])) _
    refine XS.iconst X113.here hx rfl (hb hby at_110) ?_
    show Steps p.tables e below (T113.setTop (mkF m 111 #[.val (.long q0), .second, .val (.long q1), .second, .val (.long q2), .second, .val (.long q3), .second, .val (.ref b101), .val (.ref b106), .unset] [(.int (1 : Int32))])) _
    refine XS.goto X113.here hx rfl (pc0 := 111) (pc' := 115) rfl (hb hby at_111) (by decide) (by decide) ?_
    show Steps p.tables e below (T113.setTop (mkF m 115 #[.val (.long q0), .second, .val (.long q1), .second, .val (.long q2), .second, .val (.long q3), .second, .val (.ref b101), .val (.ref b106), .unset] [(.int (1 : Int32))])) _
    refine XS.istore X113.here hx rfl (hb hby at_115) rfl (l' := #[.val (.long q0), .second, .val (.long q1), .second, .val (.long q2), .second, .val (.long q3), .second, .val (.ref b101), .val (.ref b106), .val (.int (1 : Int32))]) rfl ?_
    show Steps p.tables e below (T113.setTop (mkF m 117 #[.val (.long q0), .second, .val (.long q1), .second, .val (.long q2), .second, .val (.long q3), .second, .val (.ref b101), .val (.ref b106), .val (.int (1 : Int32))] [])) _
    refine XS.iload X113.here hx rfl (hb hby at_117) rfl ?_
    show Steps p.tables e below (T113.setTop (mkF m 119 #[.val (.long q0), .second, .val (.long q1), .second, .val (.long q2), .second, .val (.long q3), .second, .val (.ref b101), .val (.ref b106), .val (.int (1 : Int32))] [(.int (1 : Int32))])) _
    refine XS.ifNo X113.here hx rfl (hb hby at_119) rfl ((if0 _ _).trans (feq (by decide : ¬ ((1 : Int32) = (0 : Int32)))).1) ?_
    show Steps p.tables e below (T113.setTop (mkF m 122 #[.val (.long q0), .second, .val (.long q1), .second, .val (.long q2), .second, .val (.long q3), .second, .val (.ref b101), .val (.ref b106), .val (.int (1 : Int32))] [])) _
    refine XS.aload X113.here hx rfl (hb hby at_122) rfl rfl ?_
    show Steps p.tables e below (T113.setTop (mkF m 124 #[.val (.long q0), .second, .val (.long q1), .second, .val (.long q2), .second, .val (.long q3), .second, .val (.ref b101), .val (.ref b106), .val (.int (1 : Int32))] [(.ref b106)])) _
    refine XS.iconst X113.here hx rfl (hb hby at_124) ?_
    show Steps p.tables e below (T113.setTop (mkF m 125 #[.val (.long q0), .second, .val (.long q1), .second, .val (.long q2), .second, .val (.long q3), .second, .val (.ref b101), .val (.ref b106), .val (.int (1 : Int32))] [(.int (0 : Int32)), (.ref b106)])) _
    refine st114 _ ?_
    show Steps p.tables e below (T114.setTop (mkF m 128 #[.val (.long q0), .second, .val (.long q1), .second, .val (.long q2), .second, .val (.long q3), .second, .val (.ref b101), .val (.ref b106), .val (.int (1 : Int32))] [(.long (q0 ^^^ q2))])) _
    refine XS.lloadN X114.here hx rfl (hb hby at_128) rfl ?_
    show Steps p.tables e below (T114.setTop (mkF m 129 #[.val (.long q0), .second, .val (.long q1), .second, .val (.long q2), .second, .val (.long q3), .second, .val (.ref b101), .val (.ref b106), .val (.int (1 : Int32))] [(.long q0), (.long (q0 ^^^ q2))])) _
    refine XS.lload X114.here hx rfl (hb hby at_129) rfl ?_
    show Steps p.tables e below (T114.setTop (mkF m 131 #[.val (.long q0), .second, .val (.long q1), .second, .val (.long q2), .second, .val (.long q3), .second, .val (.ref b101), .val (.ref b106), .val (.int (1 : Int32))] [(.long q2), (.long q0), (.long (q0 ^^^ q2))])) _
    refine XS.lxor X114.here hx rfl (hb hby at_131) rfl ?_
    show Steps p.tables e below (T114.setTop (mkF m 132 #[.val (.long q0), .second, .val (.long q1), .second, .val (.long q2), .second, .val (.long q3), .second, .val (.ref b101), .val (.ref b106), .val (.int (1 : Int32))] [(.long (q0 ^^^ q2)), (.long (q0 ^^^ q2))])) _
    refine XS.lcmp X114.here hx rfl (hb hby at_132) rfl ?_
    show Steps p.tables e below (T114.setTop (mkF m 133 #[.val (.long q0), .second, .val (.long q1), .second, .val (.long q2), .second, .val (.long q3), .second, .val (.ref b101), .val (.ref b106), .val (.int (1 : Int32))] [(.int (lcmpW (q0 ^^^ q2) (q0 ^^^ q2)))])) _
    refine XS.ifNo X114.here hx rfl (hb hby at_133) rfl ((if0 _ _).trans (teq ((lw_eq (q0 ^^^ q2) (q0 ^^^ q2)).mpr (rfl : (q0 ^^^ q2) = (q0 ^^^ q2)))).2) ?_
    show Steps p.tables e below (T114.setTop (mkF m 136 #[.val (.long q0), .second, .val (.long q1), .second, .val (.long q2), .second, .val (.long q3), .second, .val (.ref b101), .val (.ref b106), .val (.int (1 : Int32))] [])) _
    refine XS.aload X114.here hx rfl (hb hby at_136) rfl rfl ?_
    show Steps p.tables e below (T114.setTop (mkF m 138 #[.val (.long q0), .second, .val (.long q1), .second, .val (.long q2), .second, .val (.long q3), .second, .val (.ref b101), .val (.ref b106), .val (.int (1 : Int32))] [(.ref b106)])) _
    refine XS.bipush X114.here hx rfl (hb hby at_138) ?_
    show Steps p.tables e below (T114.setTop (mkF m 140 #[.val (.long q0), .second, .val (.long q1), .second, .val (.long q2), .second, .val (.long q3), .second, .val (.ref b101), .val (.ref b106), .val (.int (1 : Int32))] [(.int (8 : Int32)), (.ref b106)])) _
    refine st115 _ ?_
    show Steps p.tables e below (T115.setTop (mkF m 143 #[.val (.long q0), .second, .val (.long q1), .second, .val (.long q2), .second, .val (.long q3), .second, .val (.ref b101), .val (.ref b106), .val (.int (1 : Int32))] [(.long (q1 ^^^ q3))])) _
    refine XS.lloadN X115.here hx rfl (hb hby at_143) rfl ?_
    show Steps p.tables e below (T115.setTop (mkF m 144 #[.val (.long q0), .second, .val (.long q1), .second, .val (.long q2), .second, .val (.long q3), .second, .val (.ref b101), .val (.ref b106), .val (.int (1 : Int32))] [(.long q1), (.long (q1 ^^^ q3))])) _
    refine XS.lload X115.here hx rfl (hb hby at_144) rfl ?_
    show Steps p.tables e below (T115.setTop (mkF m 146 #[.val (.long q0), .second, .val (.long q1), .second, .val (.long q2), .second, .val (.long q3), .second, .val (.ref b101), .val (.ref b106), .val (.int (1 : Int32))] [(.long q3), (.long q1), (.long (q1 ^^^ q3))])) _
    refine XS.lxor X115.here hx rfl (hb hby at_146) rfl ?_
    show Steps p.tables e below (T115.setTop (mkF m 147 #[.val (.long q0), .second, .val (.long q1), .second, .val (.long q2), .second, .val (.long q3), .second, .val (.ref b101), .val (.ref b106), .val (.int (1 : Int32))] [(.long (q1 ^^^ q3)), (.long (q1 ^^^ q3))])) _
    refine XS.lcmp X115.here hx rfl (hb hby at_147) rfl ?_
    show Steps p.tables e below (T115.setTop (mkF m 148 #[.val (.long q0), .second, .val (.long q1), .second, .val (.long q2), .second, .val (.long q3), .second, .val (.ref b101), .val (.ref b106), .val (.int (1 : Int32))] [(.int (lcmpW (q1 ^^^ q3) (q1 ^^^ q3)))])) _
    refine XS.ifNo X115.here hx rfl (hb hby at_148) rfl ((if0 _ _).trans (teq ((lw_eq (q1 ^^^ q3) (q1 ^^^ q3)).mpr (rfl : (q1 ^^^ q3) = (q1 ^^^ q3)))).2) ?_
    show Steps p.tables e below (T115.setTop (mkF m 151 #[.val (.long q0), .second, .val (.long q1), .second, .val (.long q2), .second, .val (.long q3), .second, .val (.ref b101), .val (.ref b106), .val (.int (1 : Int32))] [])) _
    refine XS.iconst X115.here hx rfl (hb hby at_151) ?_
    show Steps p.tables e below (T115.setTop (mkF m 152 #[.val (.long q0), .second, .val (.long q1), .second, .val (.long q2), .second, .val (.long q3), .second, .val (.ref b101), .val (.ref b106), .val (.int (1 : Int32))] [(.int (1 : Int32))])) _
    refine XS.goto X115.here hx rfl (pc0 := 152) (pc' := 156) rfl (hb hby at_152) (by decide) (by decide) ?_
    show Steps p.tables e below (T115.setTop (mkF m 156 #[.val (.long q0), .second, .val (.long q1), .second, .val (.long q2), .second, .val (.long q3), .second, .val (.ref b101), .val (.ref b106), .val (.int (1 : Int32))] [(.int (1 : Int32))])) _
    exact retN X115 hx (t := .boolean) Bd.returns (by simp) (hb hby at_156) hr
  · show Q0 Z q0 q1 q2 q3 h0 n0 _ T115.heap _
    rw [e115]
    exact ⟨rfl, N115⟩
set_option maxRecDepth 65536 in
set_option maxHeartbeats 40000000 in
theorem comes_1 {Post : Tables → Env → Array Value → State → Outcome → State → Prop} (hpost : ∀ tb e args s v u, (limb_1_1.after args s (.returned v) u = true ∧ limb_1_2.after args s (.returned v) u = true ∧ True) → FrameEnd s (.returned v) u (Jvm.fieldLocs frame_1_writes args s ++ Jvm.arrayLocs frame_1_arrays args s ++ Jvm.staticLocs frame_1_statics s) 16 192 → Post tb e args s (.returned v) u) :
    ArmFor flags0 classFile x code maxLocals ret World_1 tables_1 room_1 Calls_1 rest_1 Pre_1 Post := by
  intro l hfl _ _ p e ha hc hk s m args below hf hA hF happ hP
  obtain ⟨hcalls, hrest, hpre⟩ := hP
  obtain ⟨-, -, -, hnamed, -, -, -, hat⟩ := (Spec.applies_iff hf).mp happ
  obtain ⟨hg, hn⟩ := and_e (Cond.before_iff.mp (show (Jvm.Cond.and given_1 narrow_1).before args s = true from hpre))
  obtain ⟨hga, hgb⟩ := and_e hg
  obtain ⟨hgba, hgbb⟩ := and_e hgb
  obtain ⟨hgbba, hgbbb⟩ := and_e hgbb
  obtain ⟨hgbbba, hgbbbb⟩ := and_e hgbbb
  obtain ⟨w0, w1, w2, w3, rfl⟩ : ∃ w0 w1 w2 w3 : Value, args = #[w0, w1, w2, w3] := by
    have hs : args.size = 4 := by simpa [Cond.value, given_1] using hga
    obtain ⟨L⟩ := args
    match L, hs with
    | [w0, w1, w2, w3], _ => exact ⟨w0, w1, w2, w3, rfl⟩
  have hw := fun d (hd : d ∈ tables_1) => atoms_spec (ws := Jvm.Cond.code x code maxLocals ret :: tables_1) hat d (List.mem_cons_of_mem _ hd)
  have hfit : Fit s := fun {y c} hc i hi => by
    obtain ⟨ha, rfl⟩ := Array.getElem?_eq_some_iff.mp hc
    have q := List.all_eq_true.mp ((Array.all_eq_true_iff_forall_mem.mp hF) _ (Array.getElem_mem ha)) i (List.mem_range.mpr hi)
    simpa [Array.getElem?_eq_getElem hi] using q
  obtain ⟨i0, ei0⟩ := isL_v hgba
  obtain rfl : w0 = (.long i0) := Option.some.inj ei0
  obtain ⟨i1, ei1⟩ := isL_v hgbba
  obtain rfl : w1 = (.long i1) := Option.some.inj ei1
  obtain ⟨i2, ei2⟩ := isL_v hgbbba
  obtain rfl : w2 = (.long i2) := Option.some.inj ei2
  obtain ⟨i3, ei3⟩ := isL_v hgbbbb
  obtain rfl : w3 = (.long i3) := Option.some.inj ei3
  obtain ⟨n, o, h1, h2, h3, _, L, rfl, ⟨rfl, N⟩, hq⟩ := rm0 l s _ hw tables_1 i0 i1 i2 i3  s.heap s.heap.size (Nat.le_refl _)  p e ha hc hk s m _ below hf ((Spec.applies_iff_loose hf).mp happ).1 ⟨rfl, State.Warmed39.refl s, rfl⟩ trivial
  refine ⟨n, _, h1, h2, h3, hpost _ _ _ _ _ _ ⟨Cond.after_iff.mpr rfl, Cond.after_iff.mpr (eq_i res_at (Term.int_eval (1)) rfl), trivial⟩ ⟨hq.1, hq.2.1, (hq.2.2.sift fun y hy => Or.inr (N y hy)).mono (by decide) (by decide)⟩⟩
theorem main_1_1 : Claimed_1_1 := comes_1 fun _ _ _ _ _ _ h hF => ⟨h.1, hF⟩
theorem main_1_2 : Claimed_1_2 := comes_1 fun _ _ _ _ _ _ h hF => ⟨h.2.1, hF⟩
end Jvm.Pilot.@@N@@
namespace Jvm.Pilot.@@N@@
open Jvm Jvm.ClassFile Sem Op Lib Jvm.Free Jvm.Stand Jvm.Pilot.@@N@@.Jvm.D
/-! MADE BY PROGRAM (witnessworld.py) out of the Statement's table words and the real class files: 9 classes; the members and pool entries that the words name. The judged class is class 1, her method 1. -/
namespace start1
open Jvm.ClassFile
def u (s : String) : CpInfo := .utf8 (stringToUtf16 s)
/-- a pool by its gaps: so many unusable entries, then the entry; so many at the end -/
def gap : Nat → List CpInfo → List CpInfo
  | 0, r => r
  | n + 1, r => .unusable :: gap n r
def poolList (es : List (Nat × CpInfo)) (last : Nat) : List CpInfo := es.foldr (fun e r => gap e.1 (e.2 :: r)) (gap last [])
def pool (es : List (Nat × CpInfo)) (last : Nat) : Array CpInfo := ⟨poolList es last⟩
def fileOf (pool : Array CpInfo) (this : Nat) (attrs : Array Attribute := #[]) (ms : Array MethodInfo := #[]) (fl : Nat := 33) (sup : Nat := 0) (ifs : Array Nat := #[]) (fds : Array FieldInfo := #[]) : ClassFile where
  minorVersion := 0
  majorVersion := 65
  constantPool := pool
  accessFlags := fl
  thisClass := this
  superClass := sup
  interfaces := ifs
  fields := fds
  methods := ms
  attributes := attrs
def plain (name : String) (sup : Option ClassId) : Class where
  name := name
  kind := .ordinary
  loader := none
  accessFlags := 33
  super := sup
  interfaces := #[]
  cf := none
  fields := #[]
  methods := #[]
  instanceTypes := #[]
  staticTypes := #[]
  resolved := #[]
  callSites := []
  init := .initialized
  statics := none
  mirror := none

def pool0 : Array CpInfo := pool [(5, u "<init>"), (0, u "()V"), (1, .class_ 10), (1, u "java/lang/Object")] 113

def k0m0 : Method := { name := "<init>", desc := "()V", sig := { parameters := [], returnType := none }, accessFlags := 1, code := none }
/-- java/lang/Object -/
def k0 : Class := { plain "java/lang/Object" none with
  accessFlags := 33
  interfaces := #[]
  cf := some (fileOf pool0 8 #[] #[{ accessFlags := 1, nameIndex := 5, descriptorIndex := 6, attributes := #[] }] 33 0 #[] #[])
  fields := #[]
  methods := #[k0m0]
  instanceTypes := #[]
  staticTypes := #[]
  resolved := Array.replicate 124 none
  statics := none }

def pool1 : Array CpInfo := pool [(2, .class_ 4), (1, u "java/lang/Object"), (0, u "<init>"), (0, u "()V"), (0, .methodref 8 9), (0, .class_ 10), (0, .nameAndType 11 12), (0, u "com/example/countersign/countersign/protocol/PrimitivesFoldPinLaw"), (0, u "put"), (0, u "([BIJ)V"), (0, .methodref 14 15), (0, .class_ 16), (0, .nameAndType 17 18), (0, u "com/example/countersign/countersign/protocol/Primitives"), (0, u "fold"), (0, u "([B)[B"), (0, .methodref 8 20), (0, .nameAndType 21 22), (0, u "get"), (0, u "([BI)J"), (0, .long 255), (3, u "law"), (0, u "(JJJJ)Z")] 5

def k1m0 : Method := { name := "<init>", desc := "()V", sig := { parameters := [], returnType := none }, accessFlags := 2, code := none }
def k1c1 : Code := { maxStack := 6, maxLocals := 11, code := code, exceptionTable := #[], attributes := #[] }
def k1m1 : Method := { name := "law", desc := "(JJJJ)Z", sig := { parameters := [.long, .long, .long, .long], returnType := some .boolean }, accessFlags := 9, code := some k1c1 }
def k1c2 : Code := { maxStack := 5, maxLocals := 4, code := method_3_code, exceptionTable := #[], attributes := #[] }
def k1m2 : Method := { name := "put", desc := "([BIJ)V", sig := { parameters := [(.array .byte), .int, .long], returnType := none }, accessFlags := 10, code := some k1c2 }
def k1c3 : Code := { maxStack := 6, maxLocals := 2, code := method_4_code, exceptionTable := #[], attributes := #[] }
def k1m3 : Method := { name := "get", desc := "([BI)J", sig := { parameters := [(.array .byte), .int], returnType := some .long }, accessFlags := 10, code := some k1c3 }
/-- com/example/countersign/countersign/protocol/PrimitivesFoldPinLaw -/
def k1 : Class := { plain "com/example/countersign/countersign/protocol/PrimitivesFoldPinLaw" (some 0) with
  accessFlags := 49
  interfaces := #[]
  cf := some (fileOf pool1 8 #[] #[{ accessFlags := 2, nameIndex := 5, descriptorIndex := 6, attributes := #[] }, { accessFlags := 9, nameIndex := 27, descriptorIndex := 28, attributes := #[] }, { accessFlags := 10, nameIndex := 11, descriptorIndex := 12, attributes := #[] }, { accessFlags := 10, nameIndex := 21, descriptorIndex := 22, attributes := #[] }] 49 2 #[] #[])
  fields := #[]
  methods := #[k1m0, k1m1, k1m2, k1m3]
  instanceTypes := #[]
  staticTypes := #[]
  resolved := Array.replicate 34 none
  statics := none }

def pool2 : Array CpInfo := pool [(2, .class_ 4), (1, u "java/lang/Object"), (0, u "<init>"), (0, u "()V"), (41, .class_ 50), (1, u "com/example/countersign/countersign/protocol/Primitives"), (0, u "UUID_TEXT"), (0, u "Ljava/util/regex/Pattern;"), (91, u "([B)[B"), (11, u "POWERS_OF_TEN"), (0, u "[I"), (29, u "HMAC_SHA256"), (0, u "Ljava/lang/String;"), (18, u "fold")] 24

def k2m0 : Method := { name := "<init>", desc := "()V", sig := { parameters := [], returnType := none }, accessFlags := 2, code := none }
def k2c1 : Code := { maxStack := 6, maxLocals := 3, code := prog_20_method_10_code, exceptionTable := #[], attributes := #[] }
def k2m1 : Method := { name := "fold", desc := "([B)[B", sig := { parameters := [(.array .byte)], returnType := some (.array .byte) }, accessFlags := 9, code := some k2c1 }
/-- com/example/countersign/countersign/protocol/Primitives -/
def k2 : Class := { plain "com/example/countersign/countersign/protocol/Primitives" (some 0) with
  accessFlags := 49
  interfaces := #[]
  cf := some (fileOf pool2 48 #[] #[{ accessFlags := 2, nameIndex := 5, descriptorIndex := 6, attributes := #[] }, { accessFlags := 9, nameIndex := 207, descriptorIndex := 144, attributes := #[] }] 49 2 #[] #[{ accessFlags := 26, nameIndex := 187, descriptorIndex := 188, attributes := #[] }, { accessFlags := 26, nameIndex := 51, descriptorIndex := 52, attributes := #[] }, { accessFlags := 26, nameIndex := 156, descriptorIndex := 157, attributes := #[] }])
  fields := #[{ name := "HMAC_SHA256", type := (.object "java/lang/String"), accessFlags := 26, slot := 0, constantValue := 0 }, { name := "UUID_TEXT", type := (.object "java/util/regex/Pattern"), accessFlags := 26, slot := 1, constantValue := 0 }, { name := "POWERS_OF_TEN", type := (.array .int), accessFlags := 26, slot := 2, constantValue := 0 }]
  methods := #[k2m0, k2m1]
  instanceTypes := #[]
  staticTypes := #[(.object "java/lang/String"), (.object "java/util/regex/Pattern"), (.array .int)]
  resolved := Array.replicate 232 none
  statics := none }

def pool3 : Array CpInfo := pool [(1, u "java/lang/Cloneable"), (0, .class_ 1), (0, u "java/lang/Object"), (0, .class_ 3)] 3

/-- java/lang/Cloneable -/
def k3 : Class := { plain "java/lang/Cloneable" (some 0) with
  accessFlags := 1537
  interfaces := #[]
  cf := some (fileOf pool3 2 #[] #[] 1537 4 #[] #[])
  fields := #[]
  methods := #[]
  instanceTypes := #[]
  staticTypes := #[]
  resolved := Array.replicate 8 none
  statics := none }

def pool4 : Array CpInfo := pool [(1, u "java/io/Serializable"), (0, .class_ 1), (0, u "java/lang/Object"), (0, .class_ 3)] 3

/-- java/io/Serializable -/
def k4 : Class := { plain "java/io/Serializable" (some 0) with
  accessFlags := 1537
  interfaces := #[]
  cf := some (fileOf pool4 2 #[] #[] 1537 4 #[] #[])
  fields := #[]
  methods := #[]
  instanceTypes := #[]
  staticTypes := #[]
  resolved := Array.replicate 8 none
  statics := none }

/-- the primitive byte -/
def k5 : Class := { plain "byte" none with kind := .primitive 'B', accessFlags := 0x411 }
/-- [B -/
def k6 : Class := { plain "[B" (some 0) with kind := .array 5 .byte, interfaces := #[3, 4], accessFlags := 1041 }

/-- the primitive int -/
def k7 : Class := { plain "int" none with kind := .primitive 'I', accessFlags := 0x411 }
/-- [I -/
def k8 : Class := { plain "[I" (some 0) with kind := .array 7 .int, interfaces := #[3, 4], accessFlags := 1041 }

def heap : Heap := #[]
def classes : Array Class := #[k0, k1, k2, k3, k4, k5, k6, k7, k8]
def interned : List (Array UInt16 × Addr) := []
def slotsUsed : Nat := 0
def theMethod : MethodId := ⟨1, 1⟩
def args0 : Array Value := #[.long 5, .long 7, .long 0, .long 1]
def aboutOver (below : List Frame) : State where
  vm := { classes := classes, interned := interned.toArray }
  heap := heap
  slotsUsed := slotsUsed
  threads := #[{ frames := .invoking theMethod args0 :: below }]
def below0 : List Frame := [.native { method := ⟨0, 0⟩, args := #[] }]
def about1 : State := aboutOver below0
def p0 : Program := .bare "" "" ""
def e0 : Env := launch0.env 0 0 0
theorem w_frames : about1.frames = Frame.invoking theMethod args0 :: below0 := rfl
set_option maxRecDepth 65536 in
theorem w_args : argsFit about1.vm theMethod args0 = true := by decide +kernel
set_option maxRecDepth 65536 in
theorem w_heap : heapFits about1 = true := by decide +kernel
set_option maxRecDepth 65536 in
theorem w_runnable : about1.curStatus? = some .runnable := by decide +kernel
set_option maxRecDepth 65536 in
theorem w_alone : about1.alone = true := by decide +kernel
set_option maxRecDepth 65536 in
theorem w_named : about1.methodNamed? x = some theMethod := by decide +kernel
set_option maxRecDepth 65536 in
theorem w_hears : about1.hears theMethod below0 = true := by decide +kernel
set_option maxRecDepth 65536 in
theorem w_ripe : about1.ripe theMethod args0 below0 = true := by decide +kernel
theorem w_running : about1.status = .running := rfl
set_option maxRecDepth 65536 in
theorem w_room : about1.hasRoom e0.platform room_1 = true :=
  launch0.hasRoom_least _ room_1 (by decide +kernel) (by decide +kernel) (by decide +kernel) (by decide +kernel) (by decide +kernel) (by decide +kernel)
theorem allAtoms_all (ts : List Jvm.Cond) (a : Array Jvm.Value) (st : Jvm.State) : (allAtoms ts).before a st = ts.all (fun c => c.before a st) := by
  induction ts with
  | nil => rfl
  | cons c t ih =>
    show (Jvm.Cond.and c (allAtoms t)).before a st = _
    rw [Jvm.Cond.before_and, ih, List.all_cons]
def words1 : List Jvm.Cond := Jvm.Cond.code x code maxLocals ret :: tables_1
/-- a 'code' word, met by the world's own term for the bytes: nothing is compared byte by byte -/
theorem code_word {y : MethodName} {bytes : ByteArray} {mx : Nat} {rt : Option FieldType} {a : Array Value} {s : State} {m : MethodId} {meth : Method} {c : Code} (h1 : s.methodNamed? y = some m) (h2 : s.vm.method? m = some meth) (h3 : meth.code = some c) (h4 : c.code = bytes)
    (h5 : (c.maxLocals == mx && c.exceptionTable.isEmpty && decide (c.maxStack ≤ mostOperands) && decide (meth.sig.returnType = rt) && !meth.locks && decide (parseMethodDescriptor y.desc = some meth.sig)) = true) : (Jvm.Cond.code y bytes mx rt).before a s = true := by
  simp only [Bool.and_eq_true, beq_iff_eq, Bool.not_eq_true', decide_eq_true_eq] at h5
  obtain ⟨⟨⟨⟨⟨g1, g2⟩, g3⟩, g4⟩, g5⟩, g6⟩ := h5
  simp [Cond.before, Cond.holds, Cond.value, h1, h2, h3, h4, g1, g2, g3, g4, g5, g6]
def isCode : Jvm.Cond → Bool
  | .code _ _ _ _ => true
  | _ => false
theorem all_split {L : List Jvm.Cond} {P : Jvm.Cond → Bool} (h1 : L.all (fun c => isCode c || P c) = true) (h2 : ∀ c ∈ L.filter isCode, P c = true) : L.all P = true := by
  refine List.all_eq_true.mpr fun c hc => ?_
  have h := List.all_eq_true.mp h1 c hc
  rcases Bool.eq_false_or_eq_true (isCode c) with hi | hi
  · exact h2 c (List.mem_filter.mpr ⟨hc, hi⟩)
  · simpa [hi] using h
set_option maxRecDepth 65536 in
theorem w_c0 : (Jvm.Cond.code x code maxLocals ret).before args0 about1 = true := code_word (m := ⟨1, 1⟩) (meth := k1m1) (c := k1c1) (by decide +kernel) rfl rfl rfl (by decide +kernel)
set_option maxRecDepth 65536 in
theorem w_c1 : (Jvm.Cond.code ({ cls := "com/example/countersign/countersign/protocol/PrimitivesFoldPinLaw", name := "put", desc := "([BIJ)V" } : Jvm.MethodName) method_3_code (4 : Nat) (Option.none : Option Jvm.ClassFile.FieldType)).before args0 about1 = true := code_word (m := ⟨1, 2⟩) (meth := k1m2) (c := k1c2) (by decide +kernel) rfl rfl rfl (by decide +kernel)
set_option maxRecDepth 65536 in
theorem w_c2 : (Jvm.Cond.code ({ cls := "com/example/countersign/countersign/protocol/Primitives", name := "fold", desc := "([B)[B" } : Jvm.MethodName) prog_20_method_10_code (3 : Nat) (Option.some (Jvm.ClassFile.FieldType.array Jvm.ClassFile.FieldType.byte))).before args0 about1 = true := code_word (m := ⟨2, 1⟩) (meth := k2m1) (c := k2c1) (by decide +kernel) rfl rfl rfl (by decide +kernel)
set_option maxRecDepth 65536 in
theorem w_c3 : (Jvm.Cond.code ({ cls := "com/example/countersign/countersign/protocol/PrimitivesFoldPinLaw", name := "get", desc := "([BI)J" } : Jvm.MethodName) method_4_code (2 : Nat) (Option.some Jvm.ClassFile.FieldType.long)).before args0 about1 = true := code_word (m := ⟨1, 3⟩) (meth := k1m3) (c := k1c3) (by decide +kernel) rfl rfl rfl (by decide +kernel)
def codes1 : List Jvm.Cond := [Jvm.Cond.code x code maxLocals ret, Jvm.Cond.code ({ cls := "com/example/countersign/countersign/protocol/PrimitivesFoldPinLaw", name := "put", desc := "([BIJ)V" } : Jvm.MethodName) method_3_code (4 : Nat) (Option.none : Option Jvm.ClassFile.FieldType), Jvm.Cond.code ({ cls := "com/example/countersign/countersign/protocol/Primitives", name := "fold", desc := "([B)[B" } : Jvm.MethodName) prog_20_method_10_code (3 : Nat) (Option.some (Jvm.ClassFile.FieldType.array Jvm.ClassFile.FieldType.byte)), Jvm.Cond.code ({ cls := "com/example/countersign/countersign/protocol/PrimitivesFoldPinLaw", name := "get", desc := "([BI)J" } : Jvm.MethodName) method_4_code (2 : Nat) (Option.some Jvm.ClassFile.FieldType.long)]
set_option maxRecDepth 65536 in
theorem codes_eq : words1.filter isCode = codes1 := rfl
theorem w_codes : ∀ c ∈ words1.filter isCode, c.before args0 about1 = true := by
  rw [codes_eq]
  intro c hc
  simp only [codes1, List.mem_cons, List.not_mem_nil, or_false] at hc
  rcases hc with rfl | rfl | rfl | rfl
  · exact w_c0
  · exact w_c1
  · exact w_c2
  · exact w_c3
set_option maxRecDepth 65536 in
theorem w_t1 : words1.all (fun c => isCode c || c.before args0 about1) = true := by decide +kernel
theorem w_tables : (allAtoms (Jvm.Cond.code x code maxLocals ret :: tables_1)).before args0 about1 = true := by
  rw [allAtoms_all]
  show words1.all (fun c => c.before args0 about1) = true
  refine all_split ?_ w_codes
  rw [w_t1]
set_option maxRecDepth 65536 in
theorem w_case : (Jvm.Cond.and given_1 narrow_1).before args0 about1 = true := by decide +kernel
theorem w_applies : (headSpec (Jvm.Cond.code x code maxLocals ret :: tables_1) room_1).applies x e0.platform about1 = true :=
  (Spec.applies_iff w_frames).mpr ⟨w_running, w_runnable, w_alone, w_named, w_hears, w_ripe, w_room, w_tables⟩
theorem atStart : AtStart classFile x code maxLocals ret World_1 tables_1 room_1 Calls_1 rest_1 Pre_1 launch0 p0 e0 about1 theMethod args0 below0 :=
  ⟨lists_1, trivial, launch0.admits_env _ _ _, launch0.least_env, fairChoices_fair.cas, fairChoices_fair.clock, w_frames, w_args, w_heap, w_applies, trivial, trivial, w_case⟩
end start1
theorem witness_1 : WitnessClaimed_1 := ⟨start1.p0, start1.e0, start1.about1, start1.theMethod, start1.args0, start1.below0, start1.atStart⟩
end Jvm.Pilot.@@N@@
