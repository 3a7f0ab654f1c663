import JvmDerived
import JvmDerived.Pilot.@@N@@Statement
import JvmDerived.Pilot.@@N@@Code
set_option linter.unusedVariables false
set_option linter.unusedSimpArgs false
namespace Jvm.RoadKit
open Sem ClassFile Op Lib Jvm.Stand Jvm.Free Jvm.LawKit
section New
variable {p : Program} {l : Launch} {e : Env} {R : Room} {s : State} {m : MethodId} {args : Array Value} {below : List Frame} {meth : Method} {c : Code} {T : State} {locs : List Loc} {cells slots : Nat}
theorem retI (X : Stand p l e R s m args below meth c T locs cells slots) (hx : p.tables.exec = Jvm.exec) {pc : Nat} {Ls : Array Slot} {z : Int32} {rest : List Value} (hret : meth.sig.returnType = some .int) (hd : decode c.code pc = .ok (.ireturn, 1)) {fs : List Frame}
    (hl : ∀ (f : JFrame) (acts : List Action), f.method = m → f.locked = none → f.entered = [] → (doReturn e (T.setTop f) acts (some (.int z))).1 = T.setFrames fs) : Steps p.tables e below (T.setTop (mkF m pc Ls (.int z :: rest))) (T.setFrames fs) := by
  have hm' : T.vm.method? m = some meth := X.method'
  have hn : narrow .int (.int z) = .int z := rfl
  show Steps p.tables e below (T.setTop { method := m, pc := pc, locals := Ls, stack := _ :: rest, locked := none }) _
  jvm_step X.here [X.here.top, hx, hd, hm', hret, hn]
  first | (intro acts; rw [hl _ acts rfl rfl rfl]) | rw [hl _ _ rfl rfl rfl]
  exact Steps.refl _
end New
end Jvm.RoadKit
namespace Jvm.Pilot.@@N@@
open Jvm Jvm.ClassFile Sem Op Lib Jvm.Free Jvm.Stand Jvm.LawKit Jvm.RoadKit Bundle Jvm.Pilot.@@N@@.Jvm.D

theorem own_exa {args a0 : Array Value} {s : State} {C n d K : String} (wi : (Jvm.Cond.initialized C).before args s = true) (wl : (Jvm.Cond.laysStatic C n d).before args s = true) (h : (Jvm.Cond.exactly (Jvm.Term.static C n d) K).value args s none s [] = some true) : ∃ a, Sta s s.heap C n d (.ref a) ∧ Exa s s.heap a K ∧ (Jvm.Term.static C n d).eval args s none [] s = some (.ref a) := by
  obtain ⟨a, ev⟩ := exa_v h
  exact ⟨a, Sta.start ev (Or.inr ⟨wi, wl⟩), Exa.start ev h, ev⟩
theorem own_fldI {args : Array Value} {s : State} {a : Addr} {t : Jvm.Term} {C n d : String} {k : Int32} (ev : t.eval args s none [] s = some (.ref a)) (h : (Jvm.Cond.eq (Jvm.Term.field t C n d) (Jvm.Term.int k)).value args s none s [] = some true) : Fld s s.heap a C n d (.int k) := by
  obtain ⟨x, y, ex, ey, -, ky⟩ := cmp_v (Or.inl h)
  obtain rfl : Value.int k = y := Option.some.inj ey
  obtain ⟨z, rfl⟩ := ky
  have hz : z = k := by simpa [Cond.value, ex, ey] using h
  subst hz
  exact Fld.start ((fld_at ev).symm.trans ex)

theorem own_sta_keep {Z : State} {h h' : Heap} {C n d : String} {v : Value} {ws : List Addr} (F : Sta Z h C n d v) (K : Keep h h' ws) (nos : ∀ x ∈ ws, ∀ cell : Cell, h[x]? = some cell → cell.vm.isStatics = false) : Sta Z h' C n d v := by
  obtain ⟨cf, i, k, f, st, cell, h1, h2, h3, h4, h5, h6, h7⟩ := F
  exact ⟨cf, i, k, f, st, cell, h1, h2, h3, h4, K.2.1 _ _ h5 (fun q => by rw [nos _ q _ h5] at h6; cases h6), h6, h7⟩
theorem own_ext {h h' : Heap} (K : Keep h h' []) : Ext h h' := ⟨K.1, fun a c q => K.2.1 a c q nin0⟩
theorem own_arrAt {args : Array Value} {s : State} {a : Addr} {cl : Cell} {t : Jvm.Term} {v : Value} (ev : t.eval args s none [] s = some (.ref a)) (hc : s.heap[a]? = some cl) (h : (Jvm.Term.length t).eval args s none [] s = some v) : cl.slots.size < 2 ^ 31 ∧ v = .int cl.slots.size.toInt32 := by
  obtain ⟨a', c', e1, e2, e3⟩ := Term.length_spec h
  cases ev.symm.trans e1
  have e4 := e2
  simp only [State.arrayAt?, hc, Option.bind_eq_bind, Option.bind_some] at e4
  obtain rfl : c' = cl := by
    cases hk : s.vm.classes[cl.cls]? with
    | none => simp [hk] at e4
    | some k => simp only [hk, Option.bind_some] at e4; split at e4 <;> first | (split at e4 <;> first | (cases e4; rfl; done) | (cases e4; done)) | (cases e4; rfl; done) | (cases e4; done)
  refine ⟨?_, e3⟩
  simp only [Term.eval, ev, e2, Option.bind_eq_bind, Option.bind_some] at h
  split at h
  · assumption
  · cases h
theorem own_len {args : Array Value} {s : State} {a : Addr} {cl : Cell} {t : Jvm.Term} {k : Int32} (ev : t.eval args s none [] s = some (.ref a)) (hc : s.heap[a]? = some cl) (h : (Jvm.Cond.eq (Jvm.Term.length t) (Jvm.Term.int k)).value args s none s [] = some true) : cl.slots.size < 2 ^ 31 ∧ cl.slots.size.toInt32 = k := by
  obtain ⟨x, y, ex, ey, -, ky⟩ := cmp_v (Or.inl h)
  obtain rfl : Value.int k = y := Option.some.inj ey
  obtain ⟨h1, rfl⟩ := own_arrAt ev hc ex
  refine ⟨h1, ?_⟩
  simpa [Cond.value, ex, ey] using h
theorem own_elemI {args : Array Value} {s : State} {a : Addr} {cl : Cell} {t : Jvm.Term} {j k : Int32} (ev : t.eval args s none [] s = some (.ref a)) (hc : s.heap[a]? = some cl) (h : (Jvm.Cond.eq (Jvm.Term.elem t (Jvm.Term.int j)) (Jvm.Term.int k)).value args s none s [] = some true) : cl.slots[j.toNatClampNeg]? = some (.int k) := by
  obtain ⟨x, y, ex, ey, -, ky⟩ := cmp_v (Or.inl h)
  obtain rfl : Value.int k = y := Option.some.inj ey
  obtain ⟨z, rfl⟩ := ky
  have hz : z = k := by simpa [Cond.value, ex, ey] using h
  subst hz
  exact (elem_in ex ev rfl hc).2
theorem own_elemJ {args : Array Value} {s : State} {a : Addr} {cl : Cell} {t : Jvm.Term} {j : Int32} {k : Int64} (ev : t.eval args s none [] s = some (.ref a)) (hc : s.heap[a]? = some cl) (h : (Jvm.Cond.eq (Jvm.Term.elem t (Jvm.Term.int j)) (Jvm.Term.long k)).value args s none s [] = some true) : cl.slots[j.toNatClampNeg]? = some (.long k) := by
  obtain ⟨x, y, ex, ey, -, ky⟩ := cmp_v (Or.inl h)
  obtain rfl : Value.long k = y := Option.some.inj ey
  obtain ⟨z, rfl⟩ := ky
  have hz : z = k := by simpa [Cond.value, ex, ey] using h
  subst hz
  exact (elem_in ex ev rfl hc).2
theorem own_elemR {args : Array Value} {s : State} {a b : Addr} {cl : Cell} {t u : Jvm.Term} {j : Int32} (ev : t.eval args s none [] s = some (.ref a)) (eu : u.eval args s none [] s = some (.ref b)) (hc : s.heap[a]? = some cl) (h : (Jvm.Cond.eq (Jvm.Term.elem t (Jvm.Term.int j)) u).value args s none s [] = some true) : cl.slots[j.toNatClampNeg]? = some (.ref b) := by
  obtain ⟨x, y, ex, ey, -, ky⟩ := cmp_v (Or.inl h)
  cases eu.symm.trans ey
  have hr : x.isRef = true := ky.2
  rw [eq_R ex ey hr rfl] at h
  have hz : x = .ref b := by simpa using h
  subst hz
  exact (elem_in ex ev rfl hc).2

def own_R (a : Int64) : Prop := 0 ≤ a.toInt ∧ a.toInt < 4294967296
def own_RR (a0 a1 a2 a3 a4 a5 a6 a7 : Int64) : Prop := own_R a0 ∧ own_R a1 ∧ own_R a2 ∧ own_R a3 ∧ own_R a4 ∧ own_R a5 ∧ own_R a6 ∧ own_R a7
def own_W (a0 a1 a2 a3 a4 a5 a6 a7 : Int64) : Int := a0.toInt + 4294967296 * a1.toInt + 18446744073709551616 * a2.toInt + 79228162514264337593543950336 * a3.toInt + 340282366920938463463374607431768211456 * a4.toInt + 1461501637330902918203684832716283019655932542976 * a5.toInt + 6277101735386680763835789423207666416102355444464034512896 * a6.toInt + 26959946667150639794667015087019630673637144422540572481103610249216 * a7.toInt
def own_P : Int := 115792089210356248762697446949407573530086143415290314195533631308867097853951
theorem own_p32 : ((2 ^ 32 : Nat) : Int) = 4294967296 := by decide
theorem own_sub_step {c a b t o c' : Int64} (gt : t = (c + (a - b))) (go : o = (t &&& (4294967295 : Int64))) (gc : c' = (t >>> ((32 : Int32) &&& 0x3f).toInt64)) (hc : -1 ≤ c.toInt ∧ c.toInt ≤ 0) (ha : own_R a) (hb : own_R b) : o.toInt + 4294967296 * c'.toInt = c.toInt + a.toInt - b.toInt ∧ own_R o ∧ (-1 ≤ c'.toInt ∧ c'.toInt ≤ 0) := by
  obtain ⟨a1, a2⟩ := ha
  obtain ⟨b1, b2⟩ := hb
  have h1 := c_lsub a b
  have h2 := c_ladd c (a - b)
  have r1 := rng64 (a - b)
  have r2 := rng64 (c + (a - b))
  rw [← gt] at h2 r2
  have ht : t.toInt = c.toInt + a.toInt - b.toInt := by omega
  have h3 := c_maskL t 4294967295 32 (by decide) (by decide)
  have h4 := c_lshr t 32 32 (by decide)
  rw [← go, own_p32] at h3
  rw [← gc, own_p32] at h4
  refine ⟨?_, ⟨?_, ?_⟩, ?_, ?_⟩ <;> omega
theorem own_add_step {c a b t o c' : Int64} (gt : t = (c + (a + b))) (go : o = (t &&& (4294967295 : Int64))) (gc : c' = ((t.toUInt64 >>> ((32 : Int32) &&& 0x3f).toInt64.toUInt64).toInt64)) (hc : 0 ≤ c.toInt ∧ c.toInt ≤ 1) (ha : own_R a) (hb : own_R b) : o.toInt + 4294967296 * c'.toInt = c.toInt + a.toInt + b.toInt ∧ own_R o ∧ (0 ≤ c'.toInt ∧ c'.toInt ≤ 1) := by
  obtain ⟨a1, a2⟩ := ha
  obtain ⟨b1, b2⟩ := hb
  have h1 := c_ladd a b
  have h2 := c_ladd c (a + b)
  have r1 := rng64 (a + b)
  have r2 := rng64 (c + (a + b))
  rw [← gt] at h2 r2
  have ht : t.toInt = c.toInt + a.toInt + b.toInt := by omega
  have h3 := c_maskL t 4294967295 32 (by decide) (by decide)
  have h4 := c_lushr t 32 32 (by decide) (by decide)
  rw [← go, own_p32] at h3
  rw [← gc, own_p32] at h4
  refine ⟨?_, ⟨?_, ?_⟩, ?_, ?_⟩ <;> omega
theorem own_telS {a0 a1 a2 a3 a4 a5 a6 a7 b0 b1 b2 b3 b4 b5 b6 b7 o0 o1 o2 o3 o4 o5 o6 o7 c1 c2 c3 c4 c5 c6 c7 c8 : Int64} (q0 : o0.toInt + 4294967296 * c1.toInt = (0 : Int64).toInt + a0.toInt - b0.toInt) (q1 : o1.toInt + 4294967296 * c2.toInt = c1.toInt + a1.toInt - b1.toInt) (q2 : o2.toInt + 4294967296 * c3.toInt = c2.toInt + a2.toInt - b2.toInt) (q3 : o3.toInt + 4294967296 * c4.toInt = c3.toInt + a3.toInt - b3.toInt) (q4 : o4.toInt + 4294967296 * c5.toInt = c4.toInt + a4.toInt - b4.toInt) (q5 : o5.toInt + 4294967296 * c6.toInt = c5.toInt + a5.toInt - b5.toInt) (q6 : o6.toInt + 4294967296 * c7.toInt = c6.toInt + a6.toInt - b6.toInt) (q7 : o7.toInt + 4294967296 * c8.toInt = c7.toInt + a7.toInt - b7.toInt) : own_W o0 o1 o2 o3 o4 o5 o6 o7 + 115792089237316195423570985008687907853269984665640564039457584007913129639936 * c8.toInt = own_W a0 a1 a2 a3 a4 a5 a6 a7 - own_W b0 b1 b2 b3 b4 b5 b6 b7 := by
  have z0 : (0 : Int64).toInt = 0 := by decide
  unfold own_W
  omega
theorem own_telA {a0 a1 a2 a3 a4 a5 a6 a7 b0 b1 b2 b3 b4 b5 b6 b7 o0 o1 o2 o3 o4 o5 o6 o7 c1 c2 c3 c4 c5 c6 c7 c8 : Int64} (q0 : o0.toInt + 4294967296 * c1.toInt = (0 : Int64).toInt + a0.toInt + b0.toInt) (q1 : o1.toInt + 4294967296 * c2.toInt = c1.toInt + a1.toInt + b1.toInt) (q2 : o2.toInt + 4294967296 * c3.toInt = c2.toInt + a2.toInt + b2.toInt) (q3 : o3.toInt + 4294967296 * c4.toInt = c3.toInt + a3.toInt + b3.toInt) (q4 : o4.toInt + 4294967296 * c5.toInt = c4.toInt + a4.toInt + b4.toInt) (q5 : o5.toInt + 4294967296 * c6.toInt = c5.toInt + a5.toInt + b5.toInt) (q6 : o6.toInt + 4294967296 * c7.toInt = c6.toInt + a6.toInt + b6.toInt) (q7 : o7.toInt + 4294967296 * c8.toInt = c7.toInt + a7.toInt + b7.toInt) : own_W o0 o1 o2 o3 o4 o5 o6 o7 + 115792089237316195423570985008687907853269984665640564039457584007913129639936 * c8.toInt = own_W a0 a1 a2 a3 a4 a5 a6 a7 + own_W b0 b1 b2 b3 b4 b5 b6 b7 := by
  have z0 : (0 : Int64).toInt = 0 := by decide
  unfold own_W
  omega
theorem own_telSP {a0 a1 a2 a3 a4 a5 a6 a7 o0 o1 o2 o3 o4 o5 o6 o7 c1 c2 c3 c4 c5 c6 c7 c8 : Int64} (q0 : o0.toInt + 4294967296 * c1.toInt = (0 : Int64).toInt + a0.toInt - (4294967295 : Int64).toInt) (q1 : o1.toInt + 4294967296 * c2.toInt = c1.toInt + a1.toInt - (4294967295 : Int64).toInt) (q2 : o2.toInt + 4294967296 * c3.toInt = c2.toInt + a2.toInt - (4294967295 : Int64).toInt) (q3 : o3.toInt + 4294967296 * c4.toInt = c3.toInt + a3.toInt - (0 : Int64).toInt) (q4 : o4.toInt + 4294967296 * c5.toInt = c4.toInt + a4.toInt - (0 : Int64).toInt) (q5 : o5.toInt + 4294967296 * c6.toInt = c5.toInt + a5.toInt - (0 : Int64).toInt) (q6 : o6.toInt + 4294967296 * c7.toInt = c6.toInt + a6.toInt - (1 : Int64).toInt) (q7 : o7.toInt + 4294967296 * c8.toInt = c7.toInt + a7.toInt - (4294967295 : Int64).toInt) : own_W o0 o1 o2 o3 o4 o5 o6 o7 + 115792089237316195423570985008687907853269984665640564039457584007913129639936 * c8.toInt = own_W a0 a1 a2 a3 a4 a5 a6 a7 - own_P := by
  have z0 : (0 : Int64).toInt = 0 := by decide
  have z1 : (1 : Int64).toInt = 1 := by decide
  have z2 : (4294967295 : Int64).toInt = 4294967295 := by decide
  unfold own_P
  unfold own_W
  omega
theorem own_telAP {a0 a1 a2 a3 a4 a5 a6 a7 o0 o1 o2 o3 o4 o5 o6 o7 c1 c2 c3 c4 c5 c6 c7 c8 : Int64} (q0 : o0.toInt + 4294967296 * c1.toInt = (0 : Int64).toInt + a0.toInt + (4294967295 : Int64).toInt) (q1 : o1.toInt + 4294967296 * c2.toInt = c1.toInt + a1.toInt + (4294967295 : Int64).toInt) (q2 : o2.toInt + 4294967296 * c3.toInt = c2.toInt + a2.toInt + (4294967295 : Int64).toInt) (q3 : o3.toInt + 4294967296 * c4.toInt = c3.toInt + a3.toInt + (0 : Int64).toInt) (q4 : o4.toInt + 4294967296 * c5.toInt = c4.toInt + a4.toInt + (0 : Int64).toInt) (q5 : o5.toInt + 4294967296 * c6.toInt = c5.toInt + a5.toInt + (0 : Int64).toInt) (q6 : o6.toInt + 4294967296 * c7.toInt = c6.toInt + a6.toInt + (1 : Int64).toInt) (q7 : o7.toInt + 4294967296 * c8.toInt = c7.toInt + a7.toInt + (4294967295 : Int64).toInt) : own_W o0 o1 o2 o3 o4 o5 o6 o7 + 115792089237316195423570985008687907853269984665640564039457584007913129639936 * c8.toInt = own_W a0 a1 a2 a3 a4 a5 a6 a7 + own_P := by
  have z0 : (0 : Int64).toInt = 0 := by decide
  have z1 : (1 : Int64).toInt = 1 := by decide
  have z2 : (4294967295 : Int64).toInt = 4294967295 := by decide
  unfold own_P
  unfold own_W
  omega
theorem own_Wb {a0 a1 a2 a3 a4 a5 a6 a7 : Int64} (h : own_RR a0 a1 a2 a3 a4 a5 a6 a7) : 0 ≤ own_W a0 a1 a2 a3 a4 a5 a6 a7 ∧ own_W a0 a1 a2 a3 a4 a5 a6 a7 < 115792089237316195423570985008687907853269984665640564039457584007913129639936 := by
  obtain ⟨⟨h0, g0⟩, ⟨h1, g1⟩, ⟨h2, g2⟩, ⟨h3, g3⟩, ⟨h4, g4⟩, ⟨h5, g5⟩, ⟨h6, g6⟩, ⟨h7, g7⟩⟩ := h
  unfold own_W
  omega
def own_pick (k : Int32) (x y z w : Int64) : Int64 := if k = (0 : Int32) then (x &&& (4294967295 : Int64)) else if k = (1 : Int32) then ((x.toUInt64 >>> ((32 : Int32) &&& 0x3f).toInt64.toUInt64).toInt64) else if k = (2 : Int32) then (y &&& (4294967295 : Int64)) else if k = (3 : Int32) then ((y.toUInt64 >>> ((32 : Int32) &&& 0x3f).toInt64.toUInt64).toInt64) else if k = (4 : Int32) then (z &&& (4294967295 : Int64)) else if k = (5 : Int32) then ((z.toUInt64 >>> ((32 : Int32) &&& 0x3f).toInt64.toUInt64).toInt64) else if k = (6 : Int32) then (w &&& (4294967295 : Int64)) else if k = (7 : Int32) then ((w.toUInt64 >>> ((32 : Int32) &&& 0x3f).toInt64.toUInt64).toInt64) else if k = (8 : Int32) then 0 else if k = (9 : Int32) then 1 else if k = (10 : Int32) then 2147483647 else if k = (11 : Int32) then 2147483648 else if k = (12 : Int32) then 4294967294 else if k = (13 : Int32) then 4294967295 else if k = (14 : Int32) then 2 else 4294967295
theorem d2_0 : decode method_4_code 0 = .ok (.iload_n 0, 1) := by decide +kernel
theorem d2_1 : decode method_4_code 1 = .ok (.ifCond .ne 9, 3) := by decide +kernel
theorem d2_4 : decode method_4_code 4 = .ok (.lload_n 1, 1) := by decide +kernel
theorem d2_5 : decode method_4_code 5 = .ok (.ldc2_w 41, 3) := by decide +kernel
theorem d2_8 : decode method_4_code 8 = .ok (.land, 1) := by decide +kernel
theorem d2_9 : decode method_4_code 9 = .ok (.lreturn, 1) := by decide +kernel
theorem d2_10 : decode method_4_code 10 = .ok (.iload_n 0, 1) := by decide +kernel
theorem d2_11 : decode method_4_code 11 = .ok (.iconst 1, 1) := by decide +kernel
theorem d2_12 : decode method_4_code 12 = .ok (.if_icmp .ne 8, 3) := by decide +kernel
theorem d2_15 : decode method_4_code 15 = .ok (.lload_n 1, 1) := by decide +kernel
theorem d2_16 : decode method_4_code 16 = .ok (.bipush 32, 2) := by decide +kernel
theorem d2_18 : decode method_4_code 18 = .ok (.lushr, 1) := by decide +kernel
theorem d2_19 : decode method_4_code 19 = .ok (.lreturn, 1) := by decide +kernel
theorem d2_20 : decode method_4_code 20 = .ok (.iload_n 0, 1) := by decide +kernel
theorem d2_21 : decode method_4_code 21 = .ok (.iconst 2, 1) := by decide +kernel
theorem d2_22 : decode method_4_code 22 = .ok (.if_icmp .ne 9, 3) := by decide +kernel
theorem d2_25 : decode method_4_code 25 = .ok (.lload_n 3, 1) := by decide +kernel
theorem d2_26 : decode method_4_code 26 = .ok (.ldc2_w 41, 3) := by decide +kernel
theorem d2_29 : decode method_4_code 29 = .ok (.land, 1) := by decide +kernel
theorem d2_30 : decode method_4_code 30 = .ok (.lreturn, 1) := by decide +kernel
theorem d2_31 : decode method_4_code 31 = .ok (.iload_n 0, 1) := by decide +kernel
theorem d2_32 : decode method_4_code 32 = .ok (.iconst 3, 1) := by decide +kernel
theorem d2_33 : decode method_4_code 33 = .ok (.if_icmp .ne 8, 3) := by decide +kernel
theorem d2_36 : decode method_4_code 36 = .ok (.lload_n 3, 1) := by decide +kernel
theorem d2_37 : decode method_4_code 37 = .ok (.bipush 32, 2) := by decide +kernel
theorem d2_39 : decode method_4_code 39 = .ok (.lushr, 1) := by decide +kernel
theorem d2_40 : decode method_4_code 40 = .ok (.lreturn, 1) := by decide +kernel
theorem d2_41 : decode method_4_code 41 = .ok (.iload_n 0, 1) := by decide +kernel
theorem d2_42 : decode method_4_code 42 = .ok (.iconst 4, 1) := by decide +kernel
theorem d2_43 : decode method_4_code 43 = .ok (.if_icmp .ne 10, 3) := by decide +kernel
theorem d2_46 : decode method_4_code 46 = .ok (.lload 5, 2) := by decide +kernel
theorem d2_48 : decode method_4_code 48 = .ok (.ldc2_w 41, 3) := by decide +kernel
theorem d2_51 : decode method_4_code 51 = .ok (.land, 1) := by decide +kernel
theorem d2_52 : decode method_4_code 52 = .ok (.lreturn, 1) := by decide +kernel
theorem d2_53 : decode method_4_code 53 = .ok (.iload_n 0, 1) := by decide +kernel
theorem d2_54 : decode method_4_code 54 = .ok (.iconst 5, 1) := by decide +kernel
theorem d2_55 : decode method_4_code 55 = .ok (.if_icmp .ne 9, 3) := by decide +kernel
theorem d2_58 : decode method_4_code 58 = .ok (.lload 5, 2) := by decide +kernel
theorem d2_60 : decode method_4_code 60 = .ok (.bipush 32, 2) := by decide +kernel
theorem d2_62 : decode method_4_code 62 = .ok (.lushr, 1) := by decide +kernel
theorem d2_63 : decode method_4_code 63 = .ok (.lreturn, 1) := by decide +kernel
theorem d2_64 : decode method_4_code 64 = .ok (.iload_n 0, 1) := by decide +kernel
theorem d2_65 : decode method_4_code 65 = .ok (.bipush 6, 2) := by decide +kernel
theorem d2_67 : decode method_4_code 67 = .ok (.if_icmp .ne 10, 3) := by decide +kernel
theorem d2_70 : decode method_4_code 70 = .ok (.lload 7, 2) := by decide +kernel
theorem d2_72 : decode method_4_code 72 = .ok (.ldc2_w 41, 3) := by decide +kernel
theorem d2_75 : decode method_4_code 75 = .ok (.land, 1) := by decide +kernel
theorem d2_76 : decode method_4_code 76 = .ok (.lreturn, 1) := by decide +kernel
theorem d2_77 : decode method_4_code 77 = .ok (.iload_n 0, 1) := by decide +kernel
theorem d2_78 : decode method_4_code 78 = .ok (.bipush 7, 2) := by decide +kernel
theorem d2_80 : decode method_4_code 80 = .ok (.if_icmp .ne 9, 3) := by decide +kernel
theorem d2_83 : decode method_4_code 83 = .ok (.lload 7, 2) := by decide +kernel
theorem d2_85 : decode method_4_code 85 = .ok (.bipush 32, 2) := by decide +kernel
theorem d2_87 : decode method_4_code 87 = .ok (.lushr, 1) := by decide +kernel
theorem d2_88 : decode method_4_code 88 = .ok (.lreturn, 1) := by decide +kernel
theorem d2_89 : decode method_4_code 89 = .ok (.iload_n 0, 1) := by decide +kernel
theorem d2_90 : decode method_4_code 90 = .ok (.bipush 8, 2) := by decide +kernel
theorem d2_92 : decode method_4_code 92 = .ok (.if_icmp .ne 5, 3) := by decide +kernel
theorem d2_95 : decode method_4_code 95 = .ok (.lconst 0, 1) := by decide +kernel
theorem d2_96 : decode method_4_code 96 = .ok (.lreturn, 1) := by decide +kernel
theorem d2_97 : decode method_4_code 97 = .ok (.iload_n 0, 1) := by decide +kernel
theorem d2_98 : decode method_4_code 98 = .ok (.bipush 9, 2) := by decide +kernel
theorem d2_100 : decode method_4_code 100 = .ok (.if_icmp .ne 5, 3) := by decide +kernel
theorem d2_103 : decode method_4_code 103 = .ok (.lconst 1, 1) := by decide +kernel
theorem d2_104 : decode method_4_code 104 = .ok (.lreturn, 1) := by decide +kernel
theorem d2_105 : decode method_4_code 105 = .ok (.iload_n 0, 1) := by decide +kernel
theorem d2_106 : decode method_4_code 106 = .ok (.bipush 10, 2) := by decide +kernel
theorem d2_108 : decode method_4_code 108 = .ok (.if_icmp .ne 7, 3) := by decide +kernel
theorem d2_111 : decode method_4_code 111 = .ok (.ldc2_w 43, 3) := by decide +kernel
theorem d2_114 : decode method_4_code 114 = .ok (.lreturn, 1) := by decide +kernel
theorem d2_115 : decode method_4_code 115 = .ok (.iload_n 0, 1) := by decide +kernel
theorem d2_116 : decode method_4_code 116 = .ok (.bipush 11, 2) := by decide +kernel
theorem d2_118 : decode method_4_code 118 = .ok (.if_icmp .ne 7, 3) := by decide +kernel
theorem d2_121 : decode method_4_code 121 = .ok (.ldc2_w 45, 3) := by decide +kernel
theorem d2_124 : decode method_4_code 124 = .ok (.lreturn, 1) := by decide +kernel
theorem d2_125 : decode method_4_code 125 = .ok (.iload_n 0, 1) := by decide +kernel
theorem d2_126 : decode method_4_code 126 = .ok (.bipush 12, 2) := by decide +kernel
theorem d2_128 : decode method_4_code 128 = .ok (.if_icmp .ne 7, 3) := by decide +kernel
theorem d2_131 : decode method_4_code 131 = .ok (.ldc2_w 39, 3) := by decide +kernel
theorem d2_134 : decode method_4_code 134 = .ok (.lreturn, 1) := by decide +kernel
theorem d2_135 : decode method_4_code 135 = .ok (.iload_n 0, 1) := by decide +kernel
theorem d2_136 : decode method_4_code 136 = .ok (.bipush 13, 2) := by decide +kernel
theorem d2_138 : decode method_4_code 138 = .ok (.if_icmp .ne 7, 3) := by decide +kernel
theorem d2_141 : decode method_4_code 141 = .ok (.ldc2_w 41, 3) := by decide +kernel
theorem d2_144 : decode method_4_code 144 = .ok (.lreturn, 1) := by decide +kernel
theorem d2_145 : decode method_4_code 145 = .ok (.iload_n 0, 1) := by decide +kernel
theorem d2_146 : decode method_4_code 146 = .ok (.bipush 14, 2) := by decide +kernel
theorem d2_148 : decode method_4_code 148 = .ok (.if_icmp .ne 7, 3) := by decide +kernel
theorem d2_151 : decode method_4_code 151 = .ok (.ldc2_w 47, 3) := by decide +kernel
theorem d2_154 : decode method_4_code 154 = .ok (.lreturn, 1) := by decide +kernel
theorem d2_155 : decode method_4_code 155 = .ok (.ldc2_w 41, 3) := by decide +kernel
theorem d2_158 : decode method_4_code 158 = .ok (.lreturn, 1) := by decide +kernel
theorem ef_rm2 (m : MethodId) (x0 : Int32) (x1 : Int64) (x2 : Int64) (x3 : Int64) (x4 : Int64) : entryFrame m #[(.int x0), (.long x1), (.long x2), (.long x3), (.long x4)] 9 = mkF m 0 #[.val (.int x0), .val (.long x1), .second, .val (.long x2), .second, .val (.long x3), .second, .val (.long x4), .second] [] := by first | (simp [entryFrame, mkF, argsToLocals, Value.category]; done) | rfl
theorem pn_0 : plainName "com/example/serialroute/serialroute/core/P256FieldSubtractPinLaw" = true := by first | (simp [plainName, overriddenIn]; done) | decide +kernel
def Q2 (Z : State) (p0 : Int32) (q1 : Int64) (q2 : Int64) (q3 : Int64) (q4 : Int64) (h0 : Heap) (n0 : Nat) (v : Option Value) (h : Heap) (L : List Loc) : Prop := v = some (.long (own_pick p0 q1 q2 q3 q4)) ∧ Fr n0 L ∧ h = h0
set_option maxRecDepth 65536 in
set_option maxHeartbeats 40000000 in
theorem rm2 (l : Launch) (Z : State) (aw : Array Value) (hw : ∀ d ∈ tables_1, d.before aw Z = true) (ws : List Jvm.Cond) (p0 : Int32) (q1 : Int64) (q2 : Int64) (q3 : Int64) (q4 : Int64) (h0 : Heap) (n0 : Nat) (Z0 : n0 ≤ h0.size) :
    MetFree l (⟨"com/example/serialroute/serialroute/core/P256FieldSubtractPinLaw", "pick", "(IJJJJ)J"⟩ : MethodName) (head1 (Jvm.Cond.code (⟨"com/example/serialroute/serialroute/core/P256FieldSubtractPinLaw", "pick", "(IJJJJ)J"⟩ : MethodName) method_4_code 9 (some .long) :: ws) ({ frames := 0, cells := 0, slots := 0, locals := 0 } : Room)) (fun a U => a = #[(.int p0), (.long q1), (.long q2), (.long q3), (.long q4)] ∧ Z.Warmed39 U.vm ∧ U.heap = h0) (fun _ _ _ _ _ => True) (fun _ U oc U' => ∃ v L, oc = .returned v ∧ Q2 Z p0 q1 q2 q3 q4 h0 n0 v U'.heap L ∧ FrameEnd U oc U' L ({ frames := 0, cells := 0, slots := 0, locals := 0 } : Room).cells ({ frames := 0, cells := 0, slots := 0, locals := 0 } : Room).slots) := by
  refine MetFree.of_bodySF (plainFor_of_name pn_0) hisR ?_
  intro p e s m args below meth c s₁ Bd hml0 hP hK
  obtain ⟨rfl, hZ, hh⟩ := hP
  have hx := Bd.exec
  have hby := Bd.bytes
  have hml : c.maxLocals = 9 := hml0
  have hown : s.vm.findClass "com/example/serialroute/serialroute/core/P256FieldSubtractPinLaw" = some m.cls := findClass_of_methodNamed Bd.named
  have hnm := (name_of_methodNamed Bd.named Bd.method).1
  have X0 : Stand p l e ({ frames := 0, cells := 0, slots := 0, locals := 0 } : Room) s m #[(.int p0), (.long q1), (.long q2), (.long q3), (.long q4)] below meth c s₁ [] 0 0 := Stand.of_body Bd
  have e0 : s₁.heap = h0 := by rw [← hh, Bd.state]; rfl
  have N0 := Fr.nil n0
  have pre0 : ∀ t, Steps p.tables e below (s₁.setTop (mkF m 0 #[.val (.int p0), .val (.long q1), .second, .val (.long q2), .second, .val (.long q3), .second, .val (.long q4), .second] [])) t → Steps p.tables e below (s₁.setTop (entryFrame m #[(.int p0), (.long q1), (.long q2), (.long q3), (.long q4)] 9)) t := fun t k => castTop (ef_rm2 m p0 q1 q2 q3 q4) k
  have pre101 : ∀ t, Steps p.tables e below (s₁.setTop (mkF m 1 #[.val (.int p0), .val (.long q1), .second, .val (.long q2), .second, .val (.long q3), .second, .val (.long q4), .second] [(.int p0)])) t → Steps p.tables e below (s₁.setTop (entryFrame m #[(.int p0), (.long q1), (.long q2), (.long q3), (.long q4)] 9)) t := fun t k => by
    refine pre0 t ?_
    show Steps p.tables e below (s₁.setTop (mkF m 0 #[.val (.int p0), .val (.long q1), .second, .val (.long q2), .second, .val (.long q3), .second, .val (.long q4), .second] [])) _
    refine XS.iloadN X0.here hx rfl (hb hby d2_0) rfl ?_
    exact k
  by_cases hc102 : p0 = (0 : Int32)
  · obtain ⟨fs, hr, hrun, hended, hW, hsame⟩ := X0.leave (v := some (.long (q1 &&& (4294967295 : Int64)))) (fun h => by rw [Bd.returns] at h; cases h)
    refine ⟨_, _, pre101 _ ?_, hrun, hended, _, _, rfl, ?_, ⟨_, rfl⟩, hW, hsame.mono (by decide) (by decide)⟩
    · show Steps p.tables e below (s₁.setTop (mkF m 1 #[.val (.int p0), .val (.long q1), .second, .val (.long q2), .second, .val (.long q3), .second, .val (.long q4), .second] [(.int p0)])) _
      refine XS.ifNo X0.here hx rfl (hb hby d2_1) rfl ((if0 _ _).trans (teq hc102).2) ?_
      refine XS.lloadN X0.here hx rfl (hb hby d2_4) rfl ?_
      show Steps p.tables e below (s₁.setTop (mkF m 5 #[.val (.int p0), .val (.long q1), .second, .val (.long q2), .second, .val (.long q3), .second, .val (.long q4), .second] [(.long q1)])) _
      refine X0.ldc2Long hx hown (mvT hZ (hw _ (List.mem_of_getElem? (i := 9) rfl))) (g := (mkF m 5 #[.val (.int p0), .val (.long q1), .second, .val (.long q2), .second, .val (.long q3), .second, .val (.long q4), .second] [(.long q1)])) rfl (hb hby d2_5) _ ?_
      refine XS.land X0.here hx rfl (hb hby d2_8) rfl ?_
      show Steps p.tables e below (s₁.setTop (mkF m 9 #[.val (.int p0), .val (.long q1), .second, .val (.long q2), .second, .val (.long q3), .second, .val (.long q4), .second] [(.long (q1 &&& (4294967295 : Int64)))])) _
      exact retOut X0 hx (t := .long) Bd.returns rfl (Or.inr (Or.inl ⟨rfl, rfl, _, rfl⟩)) (hb hby d2_9) hr
    · show Q2 Z p0 q1 q2 q3 q4 h0 n0 _ s₁.heap _
      rw [e0]
      exact ⟨by rw [own_pick, if_pos hc102], N0, rfl⟩
  · have pre103 : ∀ t, Steps p.tables e below (s₁.setTop (mkF m 12 #[.val (.int p0), .val (.long q1), .second, .val (.long q2), .second, .val (.long q3), .second, .val (.long q4), .second] [(.int (1 : Int32)), (.int p0)])) t → Steps p.tables e below (s₁.setTop (entryFrame m #[(.int p0), (.long q1), (.long q2), (.long q3), (.long q4)] 9)) t := fun t k => by
      refine pre101 t ?_
      show Steps p.tables e below (s₁.setTop (mkF m 1 #[.val (.int p0), .val (.long q1), .second, .val (.long q2), .second, .val (.long q3), .second, .val (.long q4), .second] [(.int p0)])) _
      refine XS.ifYes X0.here hx rfl (pc0 := 1) (pc' := 10) rfl (hb hby d2_1) rfl ((if0 _ _).trans (feq hc102).2) (by decide) (by decide) ?_
      refine XS.iloadN X0.here hx rfl (hb hby d2_10) rfl ?_
      refine XS.iconst X0.here hx rfl (hb hby d2_11) ?_
      exact k
    by_cases hc104 : p0 = (1 : Int32)
    · obtain ⟨fs, hr, hrun, hended, hW, hsame⟩ := X0.leave (v := some (.long ((q1.toUInt64 >>> ((32 : Int32) &&& 0x3f).toInt64.toUInt64).toInt64))) (fun h => by rw [Bd.returns] at h; cases h)
      refine ⟨_, _, pre103 _ ?_, hrun, hended, _, _, rfl, ?_, ⟨_, rfl⟩, hW, hsame.mono (by decide) (by decide)⟩
      · show Steps p.tables e below (s₁.setTop (mkF m 12 #[.val (.int p0), .val (.long q1), .second, .val (.long q2), .second, .val (.long q3), .second, .val (.long q4), .second] [(.int (1 : Int32)), (.int p0)])) _
        refine XS.icmpNo X0.here hx rfl (hb hby d2_12) rfl (teq hc104).2 ?_
        refine XS.lloadN X0.here hx rfl (hb hby d2_15) rfl ?_
        refine XS.bipush X0.here hx rfl (hb hby d2_16) ?_
        refine XS.lushr X0.here hx rfl (hb hby d2_18) rfl ?_
        show Steps p.tables e below (s₁.setTop (mkF m 19 #[.val (.int p0), .val (.long q1), .second, .val (.long q2), .second, .val (.long q3), .second, .val (.long q4), .second] [(.long ((q1.toUInt64 >>> ((32 : Int32) &&& 0x3f).toInt64.toUInt64).toInt64))])) _
        exact retOut X0 hx (t := .long) Bd.returns rfl (Or.inr (Or.inl ⟨rfl, rfl, _, rfl⟩)) (hb hby d2_19) hr
      · show Q2 Z p0 q1 q2 q3 q4 h0 n0 _ s₁.heap _
        rw [e0]
        exact ⟨by rw [own_pick, if_neg hc102, if_pos hc104], N0, rfl⟩
    · have pre105 : ∀ t, Steps p.tables e below (s₁.setTop (mkF m 22 #[.val (.int p0), .val (.long q1), .second, .val (.long q2), .second, .val (.long q3), .second, .val (.long q4), .second] [(.int (2 : Int32)), (.int p0)])) t → Steps p.tables e below (s₁.setTop (entryFrame m #[(.int p0), (.long q1), (.long q2), (.long q3), (.long q4)] 9)) t := fun t k => by
        refine pre103 t ?_
        show Steps p.tables e below (s₁.setTop (mkF m 12 #[.val (.int p0), .val (.long q1), .second, .val (.long q2), .second, .val (.long q3), .second, .val (.long q4), .second] [(.int (1 : Int32)), (.int p0)])) _
        refine XS.icmpYes X0.here hx rfl (pc0 := 12) (pc' := 20) rfl (hb hby d2_12) rfl (feq hc104).2 (by decide) (by decide) ?_
        refine XS.iloadN X0.here hx rfl (hb hby d2_20) rfl ?_
        refine XS.iconst X0.here hx rfl (hb hby d2_21) ?_
        exact k
      by_cases hc106 : p0 = (2 : Int32)
      · obtain ⟨fs, hr, hrun, hended, hW, hsame⟩ := X0.leave (v := some (.long (q2 &&& (4294967295 : Int64)))) (fun h => by rw [Bd.returns] at h; cases h)
        refine ⟨_, _, pre105 _ ?_, hrun, hended, _, _, rfl, ?_, ⟨_, rfl⟩, hW, hsame.mono (by decide) (by decide)⟩
        · show Steps p.tables e below (s₁.setTop (mkF m 22 #[.val (.int p0), .val (.long q1), .second, .val (.long q2), .second, .val (.long q3), .second, .val (.long q4), .second] [(.int (2 : Int32)), (.int p0)])) _
          refine XS.icmpNo X0.here hx rfl (hb hby d2_22) rfl (teq hc106).2 ?_
          refine XS.lloadN X0.here hx rfl (hb hby d2_25) rfl ?_
          show Steps p.tables e below (s₁.setTop (mkF m 26 #[.val (.int p0), .val (.long q1), .second, .val (.long q2), .second, .val (.long q3), .second, .val (.long q4), .second] [(.long q2)])) _
          refine X0.ldc2Long hx hown (mvT hZ (hw _ (List.mem_of_getElem? (i := 9) rfl))) (g := (mkF m 26 #[.val (.int p0), .val (.long q1), .second, .val (.long q2), .second, .val (.long q3), .second, .val (.long q4), .second] [(.long q2)])) rfl (hb hby d2_26) _ ?_
          refine XS.land X0.here hx rfl (hb hby d2_29) rfl ?_
          show Steps p.tables e below (s₁.setTop (mkF m 30 #[.val (.int p0), .val (.long q1), .second, .val (.long q2), .second, .val (.long q3), .second, .val (.long q4), .second] [(.long (q2 &&& (4294967295 : Int64)))])) _
          exact retOut X0 hx (t := .long) Bd.returns rfl (Or.inr (Or.inl ⟨rfl, rfl, _, rfl⟩)) (hb hby d2_30) hr
        · show Q2 Z p0 q1 q2 q3 q4 h0 n0 _ s₁.heap _
          rw [e0]
          exact ⟨by rw [own_pick, if_neg hc102, if_neg hc104, if_pos hc106], N0, rfl⟩
      · have pre107 : ∀ t, Steps p.tables e below (s₁.setTop (mkF m 33 #[.val (.int p0), .val (.long q1), .second, .val (.long q2), .second, .val (.long q3), .second, .val (.long q4), .second] [(.int (3 : Int32)), (.int p0)])) t → Steps p.tables e below (s₁.setTop (entryFrame m #[(.int p0), (.long q1), (.long q2), (.long q3), (.long q4)] 9)) t := fun t k => by
          refine pre105 t ?_
          show Steps p.tables e below (s₁.setTop (mkF m 22 #[.val (.int p0), .val (.long q1), .second, .val (.long q2), .second, .val (.long q3), .second, .val (.long q4), .second] [(.int (2 : Int32)), (.int p0)])) _
          refine XS.icmpYes X0.here hx rfl (pc0 := 22) (pc' := 31) rfl (hb hby d2_22) rfl (feq hc106).2 (by decide) (by decide) ?_
          refine XS.iloadN X0.here hx rfl (hb hby d2_31) rfl ?_
          refine XS.iconst X0.here hx rfl (hb hby d2_32) ?_
          exact k
        by_cases hc108 : p0 = (3 : Int32)
        · obtain ⟨fs, hr, hrun, hended, hW, hsame⟩ := X0.leave (v := some (.long ((q2.toUInt64 >>> ((32 : Int32) &&& 0x3f).toInt64.toUInt64).toInt64))) (fun h => by rw [Bd.returns] at h; cases h)
          refine ⟨_, _, pre107 _ ?_, hrun, hended, _, _, rfl, ?_, ⟨_, rfl⟩, hW, hsame.mono (by decide) (by decide)⟩
          · show Steps p.tables e below (s₁.setTop (mkF m 33 #[.val (.int p0), .val (.long q1), .second, .val (.long q2), .second, .val (.long q3), .second, .val (.long q4), .second] [(.int (3 : Int32)), (.int p0)])) _
            refine XS.icmpNo X0.here hx rfl (hb hby d2_33) rfl (teq hc108).2 ?_
            refine XS.lloadN X0.here hx rfl (hb hby d2_36) rfl ?_
            refine XS.bipush X0.here hx rfl (hb hby d2_37) ?_
            refine XS.lushr X0.here hx rfl (hb hby d2_39) rfl ?_
            show Steps p.tables e below (s₁.setTop (mkF m 40 #[.val (.int p0), .val (.long q1), .second, .val (.long q2), .second, .val (.long q3), .second, .val (.long q4), .second] [(.long ((q2.toUInt64 >>> ((32 : Int32) &&& 0x3f).toInt64.toUInt64).toInt64))])) _
            exact retOut X0 hx (t := .long) Bd.returns rfl (Or.inr (Or.inl ⟨rfl, rfl, _, rfl⟩)) (hb hby d2_40) hr
          · show Q2 Z p0 q1 q2 q3 q4 h0 n0 _ s₁.heap _
            rw [e0]
            exact ⟨by rw [own_pick, if_neg hc102, if_neg hc104, if_neg hc106, if_pos hc108], N0, rfl⟩
        · have pre109 : ∀ t, Steps p.tables e below (s₁.setTop (mkF m 43 #[.val (.int p0), .val (.long q1), .second, .val (.long q2), .second, .val (.long q3), .second, .val (.long q4), .second] [(.int (4 : Int32)), (.int p0)])) t → Steps p.tables e below (s₁.setTop (entryFrame m #[(.int p0), (.long q1), (.long q2), (.long q3), (.long q4)] 9)) t := fun t k => by
            refine pre107 t ?_
            show Steps p.tables e below (s₁.setTop (mkF m 33 #[.val (.int p0), .val (.long q1), .second, .val (.long q2), .second, .val (.long q3), .second, .val (.long q4), .second] [(.int (3 : Int32)), (.int p0)])) _
            refine XS.icmpYes X0.here hx rfl (pc0 := 33) (pc' := 41) rfl (hb hby d2_33) rfl (feq hc108).2 (by decide) (by decide) ?_
            refine XS.iloadN X0.here hx rfl (hb hby d2_41) rfl ?_
            refine XS.iconst X0.here hx rfl (hb hby d2_42) ?_
            exact k
          by_cases hc110 : p0 = (4 : Int32)
          · obtain ⟨fs, hr, hrun, hended, hW, hsame⟩ := X0.leave (v := some (.long (q3 &&& (4294967295 : Int64)))) (fun h => by rw [Bd.returns] at h; cases h)
            refine ⟨_, _, pre109 _ ?_, hrun, hended, _, _, rfl, ?_, ⟨_, rfl⟩, hW, hsame.mono (by decide) (by decide)⟩
            · show Steps p.tables e below (s₁.setTop (mkF m 43 #[.val (.int p0), .val (.long q1), .second, .val (.long q2), .second, .val (.long q3), .second, .val (.long q4), .second] [(.int (4 : Int32)), (.int p0)])) _
              refine XS.icmpNo X0.here hx rfl (hb hby d2_43) rfl (teq hc110).2 ?_
              refine XS.lload X0.here hx rfl (hb hby d2_46) rfl ?_
              show Steps p.tables e below (s₁.setTop (mkF m 48 #[.val (.int p0), .val (.long q1), .second, .val (.long q2), .second, .val (.long q3), .second, .val (.long q4), .second] [(.long q3)])) _
              refine X0.ldc2Long hx hown (mvT hZ (hw _ (List.mem_of_getElem? (i := 9) rfl))) (g := (mkF m 48 #[.val (.int p0), .val (.long q1), .second, .val (.long q2), .second, .val (.long q3), .second, .val (.long q4), .second] [(.long q3)])) rfl (hb hby d2_48) _ ?_
              refine XS.land X0.here hx rfl (hb hby d2_51) rfl ?_
              show Steps p.tables e below (s₁.setTop (mkF m 52 #[.val (.int p0), .val (.long q1), .second, .val (.long q2), .second, .val (.long q3), .second, .val (.long q4), .second] [(.long (q3 &&& (4294967295 : Int64)))])) _
              exact retOut X0 hx (t := .long) Bd.returns rfl (Or.inr (Or.inl ⟨rfl, rfl, _, rfl⟩)) (hb hby d2_52) hr
            · show Q2 Z p0 q1 q2 q3 q4 h0 n0 _ s₁.heap _
              rw [e0]
              exact ⟨by rw [own_pick, if_neg hc102, if_neg hc104, if_neg hc106, if_neg hc108, if_pos hc110], N0, rfl⟩
          · have pre111 : ∀ t, Steps p.tables e below (s₁.setTop (mkF m 55 #[.val (.int p0), .val (.long q1), .second, .val (.long q2), .second, .val (.long q3), .second, .val (.long q4), .second] [(.int (5 : Int32)), (.int p0)])) t → Steps p.tables e below (s₁.setTop (entryFrame m #[(.int p0), (.long q1), (.long q2), (.long q3), (.long q4)] 9)) t := fun t k => by
              refine pre109 t ?_
              show Steps p.tables e below (s₁.setTop (mkF m 43 #[.val (.int p0), .val (.long q1), .second, .val (.long q2), .second, .val (.long q3), .second, .val (.long q4), .second] [(.int (4 : Int32)), (.int p0)])) _
              refine XS.icmpYes X0.here hx rfl (pc0 := 43) (pc' := 53) rfl (hb hby d2_43) rfl (feq hc110).2 (by decide) (by decide) ?_
              refine XS.iloadN X0.here hx rfl (hb hby d2_53) rfl ?_
              refine XS.iconst X0.here hx rfl (hb hby d2_54) ?_
              exact k
            by_cases hc112 : p0 = (5 : Int32)
            · obtain ⟨fs, hr, hrun, hended, hW, hsame⟩ := X0.leave (v := some (.long ((q3.toUInt64 >>> ((32 : Int32) &&& 0x3f).toInt64.toUInt64).toInt64))) (fun h => by rw [Bd.returns] at h; cases h)
              refine ⟨_, _, pre111 _ ?_, hrun, hended, _, _, rfl, ?_, ⟨_, rfl⟩, hW, hsame.mono (by decide) (by decide)⟩
              · show Steps p.tables e below (s₁.setTop (mkF m 55 #[.val (.int p0), .val (.long q1), .second, .val (.long q2), .second, .val (.long q3), .second, .val (.long q4), .second] [(.int (5 : Int32)), (.int p0)])) _
                refine XS.icmpNo X0.here hx rfl (hb hby d2_55) rfl (teq hc112).2 ?_
                refine XS.lload X0.here hx rfl (hb hby d2_58) rfl ?_
                refine XS.bipush X0.here hx rfl (hb hby d2_60) ?_
                refine XS.lushr X0.here hx rfl (hb hby d2_62) rfl ?_
                show Steps p.tables e below (s₁.setTop (mkF m 63 #[.val (.int p0), .val (.long q1), .second, .val (.long q2), .second, .val (.long q3), .second, .val (.long q4), .second] [(.long ((q3.toUInt64 >>> ((32 : Int32) &&& 0x3f).toInt64.toUInt64).toInt64))])) _
                exact retOut X0 hx (t := .long) Bd.returns rfl (Or.inr (Or.inl ⟨rfl, rfl, _, rfl⟩)) (hb hby d2_63) hr
              · show Q2 Z p0 q1 q2 q3 q4 h0 n0 _ s₁.heap _
                rw [e0]
                exact ⟨by rw [own_pick, if_neg hc102, if_neg hc104, if_neg hc106, if_neg hc108, if_neg hc110, if_pos hc112], N0, rfl⟩
            · have pre113 : ∀ t, Steps p.tables e below (s₁.setTop (mkF m 67 #[.val (.int p0), .val (.long q1), .second, .val (.long q2), .second, .val (.long q3), .second, .val (.long q4), .second] [(.int (6 : Int32)), (.int p0)])) t → Steps p.tables e below (s₁.setTop (entryFrame m #[(.int p0), (.long q1), (.long q2), (.long q3), (.long q4)] 9)) t := fun t k => by
                refine pre111 t ?_
                show Steps p.tables e below (s₁.setTop (mkF m 55 #[.val (.int p0), .val (.long q1), .second, .val (.long q2), .second, .val (.long q3), .second, .val (.long q4), .second] [(.int (5 : Int32)), (.int p0)])) _
                refine XS.icmpYes X0.here hx rfl (pc0 := 55) (pc' := 64) rfl (hb hby d2_55) rfl (feq hc112).2 (by decide) (by decide) ?_
                refine XS.iloadN X0.here hx rfl (hb hby d2_64) rfl ?_
                refine XS.bipush X0.here hx rfl (hb hby d2_65) ?_
                exact k
              by_cases hc114 : p0 = (6 : Int32)
              · obtain ⟨fs, hr, hrun, hended, hW, hsame⟩ := X0.leave (v := some (.long (q4 &&& (4294967295 : Int64)))) (fun h => by rw [Bd.returns] at h; cases h)
                refine ⟨_, _, pre113 _ ?_, hrun, hended, _, _, rfl, ?_, ⟨_, rfl⟩, hW, hsame.mono (by decide) (by decide)⟩
                · show Steps p.tables e below (s₁.setTop (mkF m 67 #[.val (.int p0), .val (.long q1), .second, .val (.long q2), .second, .val (.long q3), .second, .val (.long q4), .second] [(.int (6 : Int32)), (.int p0)])) _
                  refine XS.icmpNo X0.here hx rfl (hb hby d2_67) rfl (teq hc114).2 ?_
                  refine XS.lload X0.here hx rfl (hb hby d2_70) rfl ?_
                  show Steps p.tables e below (s₁.setTop (mkF m 72 #[.val (.int p0), .val (.long q1), .second, .val (.long q2), .second, .val (.long q3), .second, .val (.long q4), .second] [(.long q4)])) _
                  refine X0.ldc2Long hx hown (mvT hZ (hw _ (List.mem_of_getElem? (i := 9) rfl))) (g := (mkF m 72 #[.val (.int p0), .val (.long q1), .second, .val (.long q2), .second, .val (.long q3), .second, .val (.long q4), .second] [(.long q4)])) rfl (hb hby d2_72) _ ?_
                  refine XS.land X0.here hx rfl (hb hby d2_75) rfl ?_
                  show Steps p.tables e below (s₁.setTop (mkF m 76 #[.val (.int p0), .val (.long q1), .second, .val (.long q2), .second, .val (.long q3), .second, .val (.long q4), .second] [(.long (q4 &&& (4294967295 : Int64)))])) _
                  exact retOut X0 hx (t := .long) Bd.returns rfl (Or.inr (Or.inl ⟨rfl, rfl, _, rfl⟩)) (hb hby d2_76) hr
                · show Q2 Z p0 q1 q2 q3 q4 h0 n0 _ s₁.heap _
                  rw [e0]
                  exact ⟨by rw [own_pick, if_neg hc102, if_neg hc104, if_neg hc106, if_neg hc108, if_neg hc110, if_neg hc112, if_pos hc114], N0, rfl⟩
              · have pre115 : ∀ t, Steps p.tables e below (s₁.setTop (mkF m 80 #[.val (.int p0), .val (.long q1), .second, .val (.long q2), .second, .val (.long q3), .second, .val (.long q4), .second] [(.int (7 : Int32)), (.int p0)])) t → Steps p.tables e below (s₁.setTop (entryFrame m #[(.int p0), (.long q1), (.long q2), (.long q3), (.long q4)] 9)) t := fun t k => by
                  refine pre113 t ?_
                  show Steps p.tables e below (s₁.setTop (mkF m 67 #[.val (.int p0), .val (.long q1), .second, .val (.long q2), .second, .val (.long q3), .second, .val (.long q4), .second] [(.int (6 : Int32)), (.int p0)])) _
                  refine XS.icmpYes X0.here hx rfl (pc0 := 67) (pc' := 77) rfl (hb hby d2_67) rfl (feq hc114).2 (by decide) (by decide) ?_
                  refine XS.iloadN X0.here hx rfl (hb hby d2_77) rfl ?_
                  refine XS.bipush X0.here hx rfl (hb hby d2_78) ?_
                  exact k
                by_cases hc116 : p0 = (7 : Int32)
                · obtain ⟨fs, hr, hrun, hended, hW, hsame⟩ := X0.leave (v := some (.long ((q4.toUInt64 >>> ((32 : Int32) &&& 0x3f).toInt64.toUInt64).toInt64))) (fun h => by rw [Bd.returns] at h; cases h)
                  refine ⟨_, _, pre115 _ ?_, hrun, hended, _, _, rfl, ?_, ⟨_, rfl⟩, hW, hsame.mono (by decide) (by decide)⟩
                  · show Steps p.tables e below (s₁.setTop (mkF m 80 #[.val (.int p0), .val (.long q1), .second, .val (.long q2), .second, .val (.long q3), .second, .val (.long q4), .second] [(.int (7 : Int32)), (.int p0)])) _
                    refine XS.icmpNo X0.here hx rfl (hb hby d2_80) rfl (teq hc116).2 ?_
                    refine XS.lload X0.here hx rfl (hb hby d2_83) rfl ?_
                    refine XS.bipush X0.here hx rfl (hb hby d2_85) ?_
                    refine XS.lushr X0.here hx rfl (hb hby d2_87) rfl ?_
                    show Steps p.tables e below (s₁.setTop (mkF m 88 #[.val (.int p0), .val (.long q1), .second, .val (.long q2), .second, .val (.long q3), .second, .val (.long q4), .second] [(.long ((q4.toUInt64 >>> ((32 : Int32) &&& 0x3f).toInt64.toUInt64).toInt64))])) _
                    exact retOut X0 hx (t := .long) Bd.returns rfl (Or.inr (Or.inl ⟨rfl, rfl, _, rfl⟩)) (hb hby d2_88) hr
                  · show Q2 Z p0 q1 q2 q3 q4 h0 n0 _ s₁.heap _
                    rw [e0]
                    exact ⟨by rw [own_pick, if_neg hc102, if_neg hc104, if_neg hc106, if_neg hc108, if_neg hc110, if_neg hc112, if_neg hc114, if_pos hc116], N0, rfl⟩
                · have pre117 : ∀ t, Steps p.tables e below (s₁.setTop (mkF m 92 #[.val (.int p0), .val (.long q1), .second, .val (.long q2), .second, .val (.long q3), .second, .val (.long q4), .second] [(.int (8 : Int32)), (.int p0)])) t → Steps p.tables e below (s₁.setTop (entryFrame m #[(.int p0), (.long q1), (.long q2), (.long q3), (.long q4)] 9)) t := fun t k => by
                    refine pre115 t ?_
                    show Steps p.tables e below (s₁.setTop (mkF m 80 #[.val (.int p0), .val (.long q1), .second, .val (.long q2), .second, .val (.long q3), .second, .val (.long q4), .second] [(.int (7 : Int32)), (.int p0)])) _
                    refine XS.icmpYes X0.here hx rfl (pc0 := 80) (pc' := 89) rfl (hb hby d2_80) rfl (feq hc116).2 (by decide) (by decide) ?_
                    refine XS.iloadN X0.here hx rfl (hb hby d2_89) rfl ?_
                    refine XS.bipush X0.here hx rfl (hb hby d2_90) ?_
                    exact k
                  by_cases hc118 : p0 = (8 : Int32)
                  · obtain ⟨fs, hr, hrun, hended, hW, hsame⟩ := X0.leave (v := some (.long (0 : Int64))) (fun h => by rw [Bd.returns] at h; cases h)
                    refine ⟨_, _, pre117 _ ?_, hrun, hended, _, _, rfl, ?_, ⟨_, rfl⟩, hW, hsame.mono (by decide) (by decide)⟩
                    · show Steps p.tables e below (s₁.setTop (mkF m 92 #[.val (.int p0), .val (.long q1), .second, .val (.long q2), .second, .val (.long q3), .second, .val (.long q4), .second] [(.int (8 : Int32)), (.int p0)])) _
                      refine XS.icmpNo X0.here hx rfl (hb hby d2_92) rfl (teq hc118).2 ?_
                      refine XS.lconst X0.here hx rfl (hb hby d2_95) ?_
                      show Steps p.tables e below (s₁.setTop (mkF m 96 #[.val (.int p0), .val (.long q1), .second, .val (.long q2), .second, .val (.long q3), .second, .val (.long q4), .second] [(.long (0 : Int64))])) _
                      exact retOut X0 hx (t := .long) Bd.returns rfl (Or.inr (Or.inl ⟨rfl, rfl, _, rfl⟩)) (hb hby d2_96) hr
                    · show Q2 Z p0 q1 q2 q3 q4 h0 n0 _ s₁.heap _
                      rw [e0]
                      exact ⟨by rw [own_pick, if_neg hc102, if_neg hc104, if_neg hc106, if_neg hc108, if_neg hc110, if_neg hc112, if_neg hc114, if_neg hc116, if_pos hc118], N0, rfl⟩
                  · have pre119 : ∀ t, Steps p.tables e below (s₁.setTop (mkF m 100 #[.val (.int p0), .val (.long q1), .second, .val (.long q2), .second, .val (.long q3), .second, .val (.long q4), .second] [(.int (9 : Int32)), (.int p0)])) t → Steps p.tables e below (s₁.setTop (entryFrame m #[(.int p0), (.long q1), (.long q2), (.long q3), (.long q4)] 9)) t := fun t k => by
                      refine pre117 t ?_
                      show Steps p.tables e below (s₁.setTop (mkF m 92 #[.val (.int p0), .val (.long q1), .second, .val (.long q2), .second, .val (.long q3), .second, .val (.long q4), .second] [(.int (8 : Int32)), (.int p0)])) _
                      refine XS.icmpYes X0.here hx rfl (pc0 := 92) (pc' := 97) rfl (hb hby d2_92) rfl (feq hc118).2 (by decide) (by decide) ?_
                      refine XS.iloadN X0.here hx rfl (hb hby d2_97) rfl ?_
                      refine XS.bipush X0.here hx rfl (hb hby d2_98) ?_
                      exact k
                    by_cases hc120 : p0 = (9 : Int32)
                    · obtain ⟨fs, hr, hrun, hended, hW, hsame⟩ := X0.leave (v := some (.long (1 : Int64))) (fun h => by rw [Bd.returns] at h; cases h)
                      refine ⟨_, _, pre119 _ ?_, hrun, hended, _, _, rfl, ?_, ⟨_, rfl⟩, hW, hsame.mono (by decide) (by decide)⟩
                      · show Steps p.tables e below (s₁.setTop (mkF m 100 #[.val (.int p0), .val (.long q1), .second, .val (.long q2), .second, .val (.long q3), .second, .val (.long q4), .second] [(.int (9 : Int32)), (.int p0)])) _
                        refine XS.icmpNo X0.here hx rfl (hb hby d2_100) rfl (teq hc120).2 ?_
                        refine XS.lconst X0.here hx rfl (hb hby d2_103) ?_
                        show Steps p.tables e below (s₁.setTop (mkF m 104 #[.val (.int p0), .val (.long q1), .second, .val (.long q2), .second, .val (.long q3), .second, .val (.long q4), .second] [(.long (1 : Int64))])) _
                        exact retOut X0 hx (t := .long) Bd.returns rfl (Or.inr (Or.inl ⟨rfl, rfl, _, rfl⟩)) (hb hby d2_104) hr
                      · show Q2 Z p0 q1 q2 q3 q4 h0 n0 _ s₁.heap _
                        rw [e0]
                        exact ⟨by rw [own_pick, if_neg hc102, if_neg hc104, if_neg hc106, if_neg hc108, if_neg hc110, if_neg hc112, if_neg hc114, if_neg hc116, if_neg hc118, if_pos hc120], N0, rfl⟩
                    · have pre121 : ∀ t, Steps p.tables e below (s₁.setTop (mkF m 108 #[.val (.int p0), .val (.long q1), .second, .val (.long q2), .second, .val (.long q3), .second, .val (.long q4), .second] [(.int (10 : Int32)), (.int p0)])) t → Steps p.tables e below (s₁.setTop (entryFrame m #[(.int p0), (.long q1), (.long q2), (.long q3), (.long q4)] 9)) t := fun t k => by
                        refine pre119 t ?_
                        show Steps p.tables e below (s₁.setTop (mkF m 100 #[.val (.int p0), .val (.long q1), .second, .val (.long q2), .second, .val (.long q3), .second, .val (.long q4), .second] [(.int (9 : Int32)), (.int p0)])) _
                        refine XS.icmpYes X0.here hx rfl (pc0 := 100) (pc' := 105) rfl (hb hby d2_100) rfl (feq hc120).2 (by decide) (by decide) ?_
                        refine XS.iloadN X0.here hx rfl (hb hby d2_105) rfl ?_
                        refine XS.bipush X0.here hx rfl (hb hby d2_106) ?_
                        exact k
                      by_cases hc122 : p0 = (10 : Int32)
                      · obtain ⟨fs, hr, hrun, hended, hW, hsame⟩ := X0.leave (v := some (.long (2147483647 : Int64))) (fun h => by rw [Bd.returns] at h; cases h)
                        refine ⟨_, _, pre121 _ ?_, hrun, hended, _, _, rfl, ?_, ⟨_, rfl⟩, hW, hsame.mono (by decide) (by decide)⟩
                        · show Steps p.tables e below (s₁.setTop (mkF m 108 #[.val (.int p0), .val (.long q1), .second, .val (.long q2), .second, .val (.long q3), .second, .val (.long q4), .second] [(.int (10 : Int32)), (.int p0)])) _
                          refine XS.icmpNo X0.here hx rfl (hb hby d2_108) rfl (teq hc122).2 ?_
                          show Steps p.tables e below (s₁.setTop (mkF m 111 #[.val (.int p0), .val (.long q1), .second, .val (.long q2), .second, .val (.long q3), .second, .val (.long q4), .second] [])) _
                          refine X0.ldc2Long hx hown (mvT hZ (hw _ (List.mem_of_getElem? (i := 44) rfl))) (g := (mkF m 111 #[.val (.int p0), .val (.long q1), .second, .val (.long q2), .second, .val (.long q3), .second, .val (.long q4), .second] [])) rfl (hb hby d2_111) _ ?_
                          show Steps p.tables e below (s₁.setTop (mkF m 114 #[.val (.int p0), .val (.long q1), .second, .val (.long q2), .second, .val (.long q3), .second, .val (.long q4), .second] [(.long (2147483647 : Int64))])) _
                          exact retOut X0 hx (t := .long) Bd.returns rfl (Or.inr (Or.inl ⟨rfl, rfl, _, rfl⟩)) (hb hby d2_114) hr
                        · show Q2 Z p0 q1 q2 q3 q4 h0 n0 _ s₁.heap _
                          rw [e0]
                          exact ⟨by rw [own_pick, if_neg hc102, if_neg hc104, if_neg hc106, if_neg hc108, if_neg hc110, if_neg hc112, if_neg hc114, if_neg hc116, if_neg hc118, if_neg hc120, if_pos hc122], N0, rfl⟩
                      · have pre123 : ∀ t, Steps p.tables e below (s₁.setTop (mkF m 118 #[.val (.int p0), .val (.long q1), .second, .val (.long q2), .second, .val (.long q3), .second, .val (.long q4), .second] [(.int (11 : Int32)), (.int p0)])) t → Steps p.tables e below (s₁.setTop (entryFrame m #[(.int p0), (.long q1), (.long q2), (.long q3), (.long q4)] 9)) t := fun t k => by
                          refine pre121 t ?_
                          show Steps p.tables e below (s₁.setTop (mkF m 108 #[.val (.int p0), .val (.long q1), .second, .val (.long q2), .second, .val (.long q3), .second, .val (.long q4), .second] [(.int (10 : Int32)), (.int p0)])) _
                          refine XS.icmpYes X0.here hx rfl (pc0 := 108) (pc' := 115) rfl (hb hby d2_108) rfl (feq hc122).2 (by decide) (by decide) ?_
                          refine XS.iloadN X0.here hx rfl (hb hby d2_115) rfl ?_
                          refine XS.bipush X0.here hx rfl (hb hby d2_116) ?_
                          exact k
                        by_cases hc124 : p0 = (11 : Int32)
                        · obtain ⟨fs, hr, hrun, hended, hW, hsame⟩ := X0.leave (v := some (.long (2147483648 : Int64))) (fun h => by rw [Bd.returns] at h; cases h)
                          refine ⟨_, _, pre123 _ ?_, hrun, hended, _, _, rfl, ?_, ⟨_, rfl⟩, hW, hsame.mono (by decide) (by decide)⟩
                          · show Steps p.tables e below (s₁.setTop (mkF m 118 #[.val (.int p0), .val (.long q1), .second, .val (.long q2), .second, .val (.long q3), .second, .val (.long q4), .second] [(.int (11 : Int32)), (.int p0)])) _
                            refine XS.icmpNo X0.here hx rfl (hb hby d2_118) rfl (teq hc124).2 ?_
                            show Steps p.tables e below (s₁.setTop (mkF m 121 #[.val (.int p0), .val (.long q1), .second, .val (.long q2), .second, .val (.long q3), .second, .val (.long q4), .second] [])) _
                            refine X0.ldc2Long hx hown (mvT hZ (hw _ (List.mem_of_getElem? (i := 35) rfl))) (g := (mkF m 121 #[.val (.int p0), .val (.long q1), .second, .val (.long q2), .second, .val (.long q3), .second, .val (.long q4), .second] [])) rfl (hb hby d2_121) _ ?_
                            show Steps p.tables e below (s₁.setTop (mkF m 124 #[.val (.int p0), .val (.long q1), .second, .val (.long q2), .second, .val (.long q3), .second, .val (.long q4), .second] [(.long (2147483648 : Int64))])) _
                            exact retOut X0 hx (t := .long) Bd.returns rfl (Or.inr (Or.inl ⟨rfl, rfl, _, rfl⟩)) (hb hby d2_124) hr
                          · show Q2 Z p0 q1 q2 q3 q4 h0 n0 _ s₁.heap _
                            rw [e0]
                            exact ⟨by rw [own_pick, if_neg hc102, if_neg hc104, if_neg hc106, if_neg hc108, if_neg hc110, if_neg hc112, if_neg hc114, if_neg hc116, if_neg hc118, if_neg hc120, if_neg hc122, if_pos hc124], N0, rfl⟩
                        · have pre125 : ∀ t, Steps p.tables e below (s₁.setTop (mkF m 128 #[.val (.int p0), .val (.long q1), .second, .val (.long q2), .second, .val (.long q3), .second, .val (.long q4), .second] [(.int (12 : Int32)), (.int p0)])) t → Steps p.tables e below (s₁.setTop (entryFrame m #[(.int p0), (.long q1), (.long q2), (.long q3), (.long q4)] 9)) t := fun t k => by
                            refine pre123 t ?_
                            show Steps p.tables e below (s₁.setTop (mkF m 118 #[.val (.int p0), .val (.long q1), .second, .val (.long q2), .second, .val (.long q3), .second, .val (.long q4), .second] [(.int (11 : Int32)), (.int p0)])) _
                            refine XS.icmpYes X0.here hx rfl (pc0 := 118) (pc' := 125) rfl (hb hby d2_118) rfl (feq hc124).2 (by decide) (by decide) ?_
                            refine XS.iloadN X0.here hx rfl (hb hby d2_125) rfl ?_
                            refine XS.bipush X0.here hx rfl (hb hby d2_126) ?_
                            exact k
                          by_cases hc126 : p0 = (12 : Int32)
                          · obtain ⟨fs, hr, hrun, hended, hW, hsame⟩ := X0.leave (v := some (.long (4294967294 : Int64))) (fun h => by rw [Bd.returns] at h; cases h)
                            refine ⟨_, _, pre125 _ ?_, hrun, hended, _, _, rfl, ?_, ⟨_, rfl⟩, hW, hsame.mono (by decide) (by decide)⟩
                            · show Steps p.tables e below (s₁.setTop (mkF m 128 #[.val (.int p0), .val (.long q1), .second, .val (.long q2), .second, .val (.long q3), .second, .val (.long q4), .second] [(.int (12 : Int32)), (.int p0)])) _
                              refine XS.icmpNo X0.here hx rfl (hb hby d2_128) rfl (teq hc126).2 ?_
                              show Steps p.tables e below (s₁.setTop (mkF m 131 #[.val (.int p0), .val (.long q1), .second, .val (.long q2), .second, .val (.long q3), .second, .val (.long q4), .second] [])) _
                              refine X0.ldc2Long hx hown (mvT hZ (hw _ (List.mem_of_getElem? (i := 42) rfl))) (g := (mkF m 131 #[.val (.int p0), .val (.long q1), .second, .val (.long q2), .second, .val (.long q3), .second, .val (.long q4), .second] [])) rfl (hb hby d2_131) _ ?_
                              show Steps p.tables e below (s₁.setTop (mkF m 134 #[.val (.int p0), .val (.long q1), .second, .val (.long q2), .second, .val (.long q3), .second, .val (.long q4), .second] [(.long (4294967294 : Int64))])) _
                              exact retOut X0 hx (t := .long) Bd.returns rfl (Or.inr (Or.inl ⟨rfl, rfl, _, rfl⟩)) (hb hby d2_134) hr
                            · show Q2 Z p0 q1 q2 q3 q4 h0 n0 _ s₁.heap _
                              rw [e0]
                              exact ⟨by rw [own_pick, if_neg hc102, if_neg hc104, if_neg hc106, if_neg hc108, if_neg hc110, if_neg hc112, if_neg hc114, if_neg hc116, if_neg hc118, if_neg hc120, if_neg hc122, if_neg hc124, if_pos hc126], N0, rfl⟩
                          · have pre127 : ∀ t, Steps p.tables e below (s₁.setTop (mkF m 138 #[.val (.int p0), .val (.long q1), .second, .val (.long q2), .second, .val (.long q3), .second, .val (.long q4), .second] [(.int (13 : Int32)), (.int p0)])) t → Steps p.tables e below (s₁.setTop (entryFrame m #[(.int p0), (.long q1), (.long q2), (.long q3), (.long q4)] 9)) t := fun t k => by
                              refine pre125 t ?_
                              show Steps p.tables e below (s₁.setTop (mkF m 128 #[.val (.int p0), .val (.long q1), .second, .val (.long q2), .second, .val (.long q3), .second, .val (.long q4), .second] [(.int (12 : Int32)), (.int p0)])) _
                              refine XS.icmpYes X0.here hx rfl (pc0 := 128) (pc' := 135) rfl (hb hby d2_128) rfl (feq hc126).2 (by decide) (by decide) ?_
                              refine XS.iloadN X0.here hx rfl (hb hby d2_135) rfl ?_
                              refine XS.bipush X0.here hx rfl (hb hby d2_136) ?_
                              exact k
                            by_cases hc128 : p0 = (13 : Int32)
                            · obtain ⟨fs, hr, hrun, hended, hW, hsame⟩ := X0.leave (v := some (.long (4294967295 : Int64))) (fun h => by rw [Bd.returns] at h; cases h)
                              refine ⟨_, _, pre127 _ ?_, hrun, hended, _, _, rfl, ?_, ⟨_, rfl⟩, hW, hsame.mono (by decide) (by decide)⟩
                              · show Steps p.tables e below (s₁.setTop (mkF m 138 #[.val (.int p0), .val (.long q1), .second, .val (.long q2), .second, .val (.long q3), .second, .val (.long q4), .second] [(.int (13 : Int32)), (.int p0)])) _
                                refine XS.icmpNo X0.here hx rfl (hb hby d2_138) rfl (teq hc128).2 ?_
                                show Steps p.tables e below (s₁.setTop (mkF m 141 #[.val (.int p0), .val (.long q1), .second, .val (.long q2), .second, .val (.long q3), .second, .val (.long q4), .second] [])) _
                                refine X0.ldc2Long hx hown (mvT hZ (hw _ (List.mem_of_getElem? (i := 9) rfl))) (g := (mkF m 141 #[.val (.int p0), .val (.long q1), .second, .val (.long q2), .second, .val (.long q3), .second, .val (.long q4), .second] [])) rfl (hb hby d2_141) _ ?_
                                show Steps p.tables e below (s₁.setTop (mkF m 144 #[.val (.int p0), .val (.long q1), .second, .val (.long q2), .second, .val (.long q3), .second, .val (.long q4), .second] [(.long (4294967295 : Int64))])) _
                                exact retOut X0 hx (t := .long) Bd.returns rfl (Or.inr (Or.inl ⟨rfl, rfl, _, rfl⟩)) (hb hby d2_144) hr
                              · show Q2 Z p0 q1 q2 q3 q4 h0 n0 _ s₁.heap _
                                rw [e0]
                                exact ⟨by rw [own_pick, if_neg hc102, if_neg hc104, if_neg hc106, if_neg hc108, if_neg hc110, if_neg hc112, if_neg hc114, if_neg hc116, if_neg hc118, if_neg hc120, if_neg hc122, if_neg hc124, if_neg hc126, if_pos hc128], N0, rfl⟩
                            · have pre129 : ∀ t, Steps p.tables e below (s₁.setTop (mkF m 148 #[.val (.int p0), .val (.long q1), .second, .val (.long q2), .second, .val (.long q3), .second, .val (.long q4), .second] [(.int (14 : Int32)), (.int p0)])) t → Steps p.tables e below (s₁.setTop (entryFrame m #[(.int p0), (.long q1), (.long q2), (.long q3), (.long q4)] 9)) t := fun t k => by
                                refine pre127 t ?_
                                show Steps p.tables e below (s₁.setTop (mkF m 138 #[.val (.int p0), .val (.long q1), .second, .val (.long q2), .second, .val (.long q3), .second, .val (.long q4), .second] [(.int (13 : Int32)), (.int p0)])) _
                                refine XS.icmpYes X0.here hx rfl (pc0 := 138) (pc' := 145) rfl (hb hby d2_138) rfl (feq hc128).2 (by decide) (by decide) ?_
                                refine XS.iloadN X0.here hx rfl (hb hby d2_145) rfl ?_
                                refine XS.bipush X0.here hx rfl (hb hby d2_146) ?_
                                exact k
                              by_cases hc130 : p0 = (14 : Int32)
                              · obtain ⟨fs, hr, hrun, hended, hW, hsame⟩ := X0.leave (v := some (.long (2 : Int64))) (fun h => by rw [Bd.returns] at h; cases h)
                                refine ⟨_, _, pre129 _ ?_, hrun, hended, _, _, rfl, ?_, ⟨_, rfl⟩, hW, hsame.mono (by decide) (by decide)⟩
                                · show Steps p.tables e below (s₁.setTop (mkF m 148 #[.val (.int p0), .val (.long q1), .second, .val (.long q2), .second, .val (.long q3), .second, .val (.long q4), .second] [(.int (14 : Int32)), (.int p0)])) _
                                  refine XS.icmpNo X0.here hx rfl (hb hby d2_148) rfl (teq hc130).2 ?_
                                  show Steps p.tables e below (s₁.setTop (mkF m 151 #[.val (.int p0), .val (.long q1), .second, .val (.long q2), .second, .val (.long q3), .second, .val (.long q4), .second] [])) _
                                  refine X0.ldc2Long hx hown (mvT hZ (hw _ (List.mem_of_getElem? (i := 43) rfl))) (g := (mkF m 151 #[.val (.int p0), .val (.long q1), .second, .val (.long q2), .second, .val (.long q3), .second, .val (.long q4), .second] [])) rfl (hb hby d2_151) _ ?_
                                  show Steps p.tables e below (s₁.setTop (mkF m 154 #[.val (.int p0), .val (.long q1), .second, .val (.long q2), .second, .val (.long q3), .second, .val (.long q4), .second] [(.long (2 : Int64))])) _
                                  exact retOut X0 hx (t := .long) Bd.returns rfl (Or.inr (Or.inl ⟨rfl, rfl, _, rfl⟩)) (hb hby d2_154) hr
                                · show Q2 Z p0 q1 q2 q3 q4 h0 n0 _ s₁.heap _
                                  rw [e0]
                                  exact ⟨by rw [own_pick, if_neg hc102, if_neg hc104, if_neg hc106, if_neg hc108, if_neg hc110, if_neg hc112, if_neg hc114, if_neg hc116, if_neg hc118, if_neg hc120, if_neg hc122, if_neg hc124, if_neg hc126, if_neg hc128, if_pos hc130], N0, rfl⟩
                              · obtain ⟨fs, hr, hrun, hended, hW, hsame⟩ := X0.leave (v := some (.long (4294967295 : Int64))) (fun h => by rw [Bd.returns] at h; cases h)
                                refine ⟨_, _, pre129 _ ?_, hrun, hended, _, _, rfl, ?_, ⟨_, rfl⟩, hW, hsame.mono (by decide) (by decide)⟩
                                · show Steps p.tables e below (s₁.setTop (mkF m 148 #[.val (.int p0), .val (.long q1), .second, .val (.long q2), .second, .val (.long q3), .second, .val (.long q4), .second] [(.int (14 : Int32)), (.int p0)])) _
                                  refine XS.icmpYes X0.here hx rfl (pc0 := 148) (pc' := 155) rfl (hb hby d2_148) rfl (feq hc130).2 (by decide) (by decide) ?_
                                  show Steps p.tables e below (s₁.setTop (mkF m 155 #[.val (.int p0), .val (.long q1), .second, .val (.long q2), .second, .val (.long q3), .second, .val (.long q4), .second] [])) _
                                  refine X0.ldc2Long hx hown (mvT hZ (hw _ (List.mem_of_getElem? (i := 9) rfl))) (g := (mkF m 155 #[.val (.int p0), .val (.long q1), .second, .val (.long q2), .second, .val (.long q3), .second, .val (.long q4), .second] [])) rfl (hb hby d2_155) _ ?_
                                  show Steps p.tables e below (s₁.setTop (mkF m 158 #[.val (.int p0), .val (.long q1), .second, .val (.long q2), .second, .val (.long q3), .second, .val (.long q4), .second] [(.long (4294967295 : Int64))])) _
                                  exact retOut X0 hx (t := .long) Bd.returns rfl (Or.inr (Or.inl ⟨rfl, rfl, _, rfl⟩)) (hb hby d2_158) hr
                                · show Q2 Z p0 q1 q2 q3 q4 h0 n0 _ s₁.heap _
                                  rw [e0]
                                  exact ⟨by rw [own_pick, if_neg hc102, if_neg hc104, if_neg hc106, if_neg hc108, if_neg hc110, if_neg hc112, if_neg hc114, if_neg hc116, if_neg hc118, if_neg hc120, if_neg hc122, if_neg hc124, if_neg hc126, if_neg hc128, if_neg hc130], N0, rfl⟩
def own_w0 (s : Int64) (sh : Int32) (x y z w : Int64) : Int64 := own_pick ((((s.toUInt64 >>> (sh &&& 0x3f).toInt64.toUInt64).toInt64) &&& (15 : Int64)).toInt32) x y z w
def own_w1 (s : Int64) (sh : Int32) (x y z w : Int64) : Int64 := own_pick ((((s.toUInt64 >>> ((sh + (4 : Int32)) &&& 0x3f).toInt64.toUInt64).toInt64) &&& (15 : Int64)).toInt32) x y z w
def own_w2 (s : Int64) (sh : Int32) (x y z w : Int64) : Int64 := own_pick ((((s.toUInt64 >>> ((sh + (8 : Int32)) &&& 0x3f).toInt64.toUInt64).toInt64) &&& (15 : Int64)).toInt32) x y z w
def own_w3 (s : Int64) (sh : Int32) (x y z w : Int64) : Int64 := own_pick ((((s.toUInt64 >>> ((sh + (12 : Int32)) &&& 0x3f).toInt64.toUInt64).toInt64) &&& (15 : Int64)).toInt32) x y z w
def own_w4 (s : Int64) (sh : Int32) (x y z w : Int64) : Int64 := own_pick ((((s.toUInt64 >>> ((sh + (16 : Int32)) &&& 0x3f).toInt64.toUInt64).toInt64) &&& (15 : Int64)).toInt32) x y z w
def own_w5 (s : Int64) (sh : Int32) (x y z w : Int64) : Int64 := own_pick ((((s.toUInt64 >>> ((sh + (20 : Int32)) &&& 0x3f).toInt64.toUInt64).toInt64) &&& (15 : Int64)).toInt32) x y z w
def own_w6 (s : Int64) (sh : Int32) (x y z w : Int64) : Int64 := own_pick ((((s.toUInt64 >>> ((sh + (24 : Int32)) &&& 0x3f).toInt64.toUInt64).toInt64) &&& (15 : Int64)).toInt32) x y z w
def own_w7 (s : Int64) (sh : Int32) (x y z w : Int64) : Int64 := own_pick ((((s.toUInt64 >>> ((sh + (28 : Int32)) &&& 0x3f).toInt64.toUInt64).toInt64) &&& (15 : Int64)).toInt32) x y z w
def own_below (u0 u1 u2 u3 u4 u5 u6 u7 : Int64) : Int32 := if u7 = (4294967295 : Int64) then (if u6 = (1 : Int64) then (if u5 = (0 : Int64) then (if u4 = (0 : Int64) then (if u3 = (0 : Int64) then (if u2 = (4294967295 : Int64) then (if u1 = (4294967295 : Int64) then (if u0 < (4294967295 : Int64) then 1 else 0) else (if u1 < (4294967295 : Int64) then 1 else 0)) else (if u2 < (4294967295 : Int64) then 1 else 0)) else 0) else 0) else 0) else (if u6 < (1 : Int64) then 1 else 0)) else (if u7 < (4294967295 : Int64) then 1 else 0)
theorem own_below_lt {e0 e1 e2 e3 e4 e5 e6 e7 : Int64} (h : own_RR e0 e1 e2 e3 e4 e5 e6 e7) (q : ¬ own_below e0 e1 e2 e3 e4 e5 e6 e7 = (0 : Int32)) : own_W e0 e1 e2 e3 e4 e5 e6 e7 < own_P := by
  obtain ⟨⟨h0, g0⟩, ⟨h1, g1⟩, ⟨h2, g2⟩, ⟨h3, g3⟩, ⟨h4, g4⟩, ⟨h5, g5⟩, ⟨h6, g6⟩, ⟨h7, g7⟩⟩ := h
  unfold own_W own_P
  unfold own_below at q
  simp only [← Int64.toInt_inj, Int64.lt_iff_toInt_lt, show (0 : Int64).toInt = 0 by decide, show (1 : Int64).toInt = 1 by decide, show (4294967295 : Int64).toInt = 4294967295 by decide] at q
  repeat' split at q
  all_goals first | omega | exact absurd rfl q
theorem own_below_ge {e0 e1 e2 e3 e4 e5 e6 e7 : Int64} (h : own_RR e0 e1 e2 e3 e4 e5 e6 e7) (q : own_below e0 e1 e2 e3 e4 e5 e6 e7 = (0 : Int32)) : own_P ≤ own_W e0 e1 e2 e3 e4 e5 e6 e7 := by
  obtain ⟨⟨h0, g0⟩, ⟨h1, g1⟩, ⟨h2, g2⟩, ⟨h3, g3⟩, ⟨h4, g4⟩, ⟨h5, g5⟩, ⟨h6, g6⟩, ⟨h7, g7⟩⟩ := h
  unfold own_W own_P
  unfold own_below at q
  simp only [← Int64.toInt_inj, Int64.lt_iff_toInt_lt, show (0 : Int64).toInt = 0 by decide, show (1 : Int64).toInt = 1 by decide, show (4294967295 : Int64).toInt = 4294967295 by decide] at q
  repeat' split at q
  all_goals first | omega | exact absurd q (by decide)
theorem own_below_01 {e0 e1 e2 e3 e4 e5 e6 e7 : Int64} : own_below e0 e1 e2 e3 e4 e5 e6 e7 = (0 : Int32) ∨ own_below e0 e1 e2 e3 e4 e5 e6 e7 = (1 : Int32) := by
  unfold own_below
  repeat' split
  all_goals first | exact Or.inl rfl | exact Or.inr rfl
theorem own_below_yes {e0 e1 e2 e3 e4 e5 e6 e7 : Int64} (h : own_RR e0 e1 e2 e3 e4 e5 e6 e7) (q : own_W e0 e1 e2 e3 e4 e5 e6 e7 < own_P) : own_below e0 e1 e2 e3 e4 e5 e6 e7 = (1 : Int32) := by
  rcases own_below_01 (e0 := e0) (e1 := e1) (e2 := e2) (e3 := e3) (e4 := e4) (e5 := e5) (e6 := e6) (e7 := e7) with z | z
  · have := own_below_ge h z
    omega
  · exact z
theorem d3_0 : decode method_5_code 0 = .ok (.aload_n 0, 1) := by decide +kernel
theorem d3_1 : decode method_5_code 1 = .ok (.bipush 7, 2) := by decide +kernel
theorem d3_3 : decode method_5_code 3 = .ok (.laload, 1) := by decide +kernel
theorem d3_4 : decode method_5_code 4 = .ok (.ldc2_w 41, 3) := by decide +kernel
theorem d3_7 : decode method_5_code 7 = .ok (.lcmp, 1) := by decide +kernel
theorem d3_8 : decode method_5_code 8 = .ok (.ifCond .eq 20, 3) := by decide +kernel
theorem d3_28 : decode method_5_code 28 = .ok (.aload_n 0, 1) := by decide +kernel
theorem d3_29 : decode method_5_code 29 = .ok (.bipush 6, 2) := by decide +kernel
theorem d3_31 : decode method_5_code 31 = .ok (.laload, 1) := by decide +kernel
theorem d3_32 : decode method_5_code 32 = .ok (.lconst 1, 1) := by decide +kernel
theorem d3_33 : decode method_5_code 33 = .ok (.lcmp, 1) := by decide +kernel
theorem d3_34 : decode method_5_code 34 = .ok (.ifCond .eq 18, 3) := by decide +kernel
theorem d3_52 : decode method_5_code 52 = .ok (.aload_n 0, 1) := by decide +kernel
theorem d3_53 : decode method_5_code 53 = .ok (.iconst 5, 1) := by decide +kernel
theorem d3_54 : decode method_5_code 54 = .ok (.laload, 1) := by decide +kernel
theorem d3_55 : decode method_5_code 55 = .ok (.lconst 0, 1) := by decide +kernel
theorem d3_56 : decode method_5_code 56 = .ok (.lcmp, 1) := by decide +kernel
theorem d3_57 : decode method_5_code 57 = .ok (.ifCond .eq 5, 3) := by decide +kernel
theorem d3_62 : decode method_5_code 62 = .ok (.aload_n 0, 1) := by decide +kernel
theorem d3_63 : decode method_5_code 63 = .ok (.iconst 4, 1) := by decide +kernel
theorem d3_64 : decode method_5_code 64 = .ok (.laload, 1) := by decide +kernel
theorem d3_65 : decode method_5_code 65 = .ok (.lconst 0, 1) := by decide +kernel
theorem d3_66 : decode method_5_code 66 = .ok (.lcmp, 1) := by decide +kernel
theorem d3_67 : decode method_5_code 67 = .ok (.ifCond .eq 5, 3) := by decide +kernel
theorem d3_72 : decode method_5_code 72 = .ok (.aload_n 0, 1) := by decide +kernel
theorem d3_73 : decode method_5_code 73 = .ok (.iconst 3, 1) := by decide +kernel
theorem d3_74 : decode method_5_code 74 = .ok (.laload, 1) := by decide +kernel
theorem d3_75 : decode method_5_code 75 = .ok (.lconst 0, 1) := by decide +kernel
theorem d3_76 : decode method_5_code 76 = .ok (.lcmp, 1) := by decide +kernel
theorem d3_77 : decode method_5_code 77 = .ok (.ifCond .eq 5, 3) := by decide +kernel
theorem d3_82 : decode method_5_code 82 = .ok (.aload_n 0, 1) := by decide +kernel
theorem d3_83 : decode method_5_code 83 = .ok (.iconst 2, 1) := by decide +kernel
theorem d3_84 : decode method_5_code 84 = .ok (.laload, 1) := by decide +kernel
theorem d3_85 : decode method_5_code 85 = .ok (.ldc2_w 41, 3) := by decide +kernel
theorem d3_88 : decode method_5_code 88 = .ok (.lcmp, 1) := by decide +kernel
theorem d3_89 : decode method_5_code 89 = .ok (.ifCond .eq 19, 3) := by decide +kernel
theorem d3_108 : decode method_5_code 108 = .ok (.aload_n 0, 1) := by decide +kernel
theorem d3_109 : decode method_5_code 109 = .ok (.iconst 1, 1) := by decide +kernel
theorem d3_110 : decode method_5_code 110 = .ok (.laload, 1) := by decide +kernel
theorem d3_111 : decode method_5_code 111 = .ok (.ldc2_w 41, 3) := by decide +kernel
theorem d3_114 : decode method_5_code 114 = .ok (.lcmp, 1) := by decide +kernel
theorem d3_115 : decode method_5_code 115 = .ok (.ifCond .eq 19, 3) := by decide +kernel
theorem d3_134 : decode method_5_code 134 = .ok (.aload_n 0, 1) := by decide +kernel
theorem d3_135 : decode method_5_code 135 = .ok (.iconst 0, 1) := by decide +kernel
theorem d3_136 : decode method_5_code 136 = .ok (.laload, 1) := by decide +kernel
theorem d3_137 : decode method_5_code 137 = .ok (.ldc2_w 41, 3) := by decide +kernel
theorem d3_140 : decode method_5_code 140 = .ok (.lcmp, 1) := by decide +kernel
theorem d3_141 : decode method_5_code 141 = .ok (.ifCond .ge 7, 3) := by decide +kernel
theorem d3_144 : decode method_5_code 144 = .ok (.iconst 1, 1) := by decide +kernel
theorem d3_145 : decode method_5_code 145 = .ok (.goto 4, 3) := by decide +kernel
theorem d3_149 : decode method_5_code 149 = .ok (.ireturn, 1) := by decide +kernel
theorem d3_148 : decode method_5_code 148 = .ok (.iconst 0, 1) := by decide +kernel
theorem d3_118 : decode method_5_code 118 = .ok (.aload_n 0, 1) := by decide +kernel
theorem d3_119 : decode method_5_code 119 = .ok (.iconst 1, 1) := by decide +kernel
theorem d3_120 : decode method_5_code 120 = .ok (.laload, 1) := by decide +kernel
theorem d3_121 : decode method_5_code 121 = .ok (.ldc2_w 41, 3) := by decide +kernel
theorem d3_124 : decode method_5_code 124 = .ok (.lcmp, 1) := by decide +kernel
theorem d3_125 : decode method_5_code 125 = .ok (.ifCond .ge 7, 3) := by decide +kernel
theorem d3_128 : decode method_5_code 128 = .ok (.iconst 1, 1) := by decide +kernel
theorem d3_129 : decode method_5_code 129 = .ok (.goto 4, 3) := by decide +kernel
theorem d3_133 : decode method_5_code 133 = .ok (.ireturn, 1) := by decide +kernel
theorem d3_132 : decode method_5_code 132 = .ok (.iconst 0, 1) := by decide +kernel
theorem d3_92 : decode method_5_code 92 = .ok (.aload_n 0, 1) := by decide +kernel
theorem d3_93 : decode method_5_code 93 = .ok (.iconst 2, 1) := by decide +kernel
theorem d3_94 : decode method_5_code 94 = .ok (.laload, 1) := by decide +kernel
theorem d3_95 : decode method_5_code 95 = .ok (.ldc2_w 41, 3) := by decide +kernel
theorem d3_98 : decode method_5_code 98 = .ok (.lcmp, 1) := by decide +kernel
theorem d3_99 : decode method_5_code 99 = .ok (.ifCond .ge 7, 3) := by decide +kernel
theorem d3_102 : decode method_5_code 102 = .ok (.iconst 1, 1) := by decide +kernel
theorem d3_103 : decode method_5_code 103 = .ok (.goto 4, 3) := by decide +kernel
theorem d3_107 : decode method_5_code 107 = .ok (.ireturn, 1) := by decide +kernel
theorem d3_106 : decode method_5_code 106 = .ok (.iconst 0, 1) := by decide +kernel
theorem d3_80 : decode method_5_code 80 = .ok (.iconst 0, 1) := by decide +kernel
theorem d3_81 : decode method_5_code 81 = .ok (.ireturn, 1) := by decide +kernel
theorem d3_70 : decode method_5_code 70 = .ok (.iconst 0, 1) := by decide +kernel
theorem d3_71 : decode method_5_code 71 = .ok (.ireturn, 1) := by decide +kernel
theorem d3_60 : decode method_5_code 60 = .ok (.iconst 0, 1) := by decide +kernel
theorem d3_61 : decode method_5_code 61 = .ok (.ireturn, 1) := by decide +kernel
theorem d3_37 : decode method_5_code 37 = .ok (.aload_n 0, 1) := by decide +kernel
theorem d3_38 : decode method_5_code 38 = .ok (.bipush 6, 2) := by decide +kernel
theorem d3_40 : decode method_5_code 40 = .ok (.laload, 1) := by decide +kernel
theorem d3_41 : decode method_5_code 41 = .ok (.lconst 1, 1) := by decide +kernel
theorem d3_42 : decode method_5_code 42 = .ok (.lcmp, 1) := by decide +kernel
theorem d3_43 : decode method_5_code 43 = .ok (.ifCond .ge 7, 3) := by decide +kernel
theorem d3_46 : decode method_5_code 46 = .ok (.iconst 1, 1) := by decide +kernel
theorem d3_47 : decode method_5_code 47 = .ok (.goto 4, 3) := by decide +kernel
theorem d3_51 : decode method_5_code 51 = .ok (.ireturn, 1) := by decide +kernel
theorem d3_50 : decode method_5_code 50 = .ok (.iconst 0, 1) := by decide +kernel
theorem d3_11 : decode method_5_code 11 = .ok (.aload_n 0, 1) := by decide +kernel
theorem d3_12 : decode method_5_code 12 = .ok (.bipush 7, 2) := by decide +kernel
theorem d3_14 : decode method_5_code 14 = .ok (.laload, 1) := by decide +kernel
theorem d3_15 : decode method_5_code 15 = .ok (.ldc2_w 41, 3) := by decide +kernel
theorem d3_18 : decode method_5_code 18 = .ok (.lcmp, 1) := by decide +kernel
theorem d3_19 : decode method_5_code 19 = .ok (.ifCond .ge 7, 3) := by decide +kernel
theorem d3_22 : decode method_5_code 22 = .ok (.iconst 1, 1) := by decide +kernel
theorem d3_23 : decode method_5_code 23 = .ok (.goto 4, 3) := by decide +kernel
theorem d3_27 : decode method_5_code 27 = .ok (.ireturn, 1) := by decide +kernel
theorem d3_26 : decode method_5_code 26 = .ok (.iconst 0, 1) := by decide +kernel
theorem ef_rm3 (m : MethodId) (x0 : Addr) : entryFrame m #[(.ref x0)] 1 = mkF m 0 #[.val (.ref x0)] [] := by first | (simp [entryFrame, mkF, argsToLocals, Value.category]; done) | rfl
def Q3 (Z : State) (a0 : Addr) (kk0 : ClassId) (u0 : Int64) (u1 : Int64) (u2 : Int64) (u3 : Int64) (u4 : Int64) (u5 : Int64) (u6 : Int64) (u7 : Int64) (h0 : Heap) (n0 : Nat) (v : Option Value) (h : Heap) (L : List Loc) : Prop := v = some (.int (own_below u0 u1 u2 u3 u4 u5 u6 u7)) ∧ Fr n0 L ∧ h = h0
set_option maxRecDepth 65536 in
set_option maxHeartbeats 40000000 in
theorem rm3 (l : Launch) (Z : State) (aw : Array Value) (hw : ∀ d ∈ tables_1, d.before aw Z = true) (ws : List Jvm.Cond) (a0 : Addr) (kk0 : ClassId) (u0 : Int64) (u1 : Int64) (u2 : Int64) (u3 : Int64) (u4 : Int64) (u5 : Int64) (u6 : Int64) (u7 : Int64) (h0 : Heap) (n0 : Nat) (Z0 : n0 ≤ h0.size) (V0 : Arv Z h0 a0 kk0 .long (8 : Int32) [(.long u0), (.long u1), (.long u2), (.long u3), (.long u4), (.long u5), (.long u6), (.long u7)] (.long (0 : Int64))) :
    MetFree l (⟨"com/example/serialroute/serialroute/core/P256FieldSubtractPinLaw", "below", "([J)Z"⟩ : MethodName) (head1 (Jvm.Cond.code (⟨"com/example/serialroute/serialroute/core/P256FieldSubtractPinLaw", "below", "([J)Z"⟩ : MethodName) method_5_code 1 (some .boolean) :: ws) ({ frames := 0, cells := 0, slots := 0, locals := 0 } : Room)) (fun a U => a = #[(.ref a0)] ∧ Z.Warmed39 U.vm ∧ U.heap = h0) (fun _ _ _ _ _ => True) (fun _ U oc U' => ∃ v L, oc = .returned v ∧ Q3 Z a0 kk0 u0 u1 u2 u3 u4 u5 u6 u7 h0 n0 v U'.heap L ∧ FrameEnd U oc U' L ({ frames := 0, cells := 0, slots := 0, locals := 0 } : Room).cells ({ frames := 0, cells := 0, slots := 0, locals := 0 } : Room).slots) := by
  refine MetFree.of_bodySF (plainFor_of_name pn_0) hisR ?_
  intro p e s m args below meth c s₁ Bd hml0 hP hK
  obtain ⟨rfl, hZ, hh⟩ := hP
  have hx := Bd.exec
  have hby := Bd.bytes
  have hml : c.maxLocals = 1 := hml0
  have hown : s.vm.findClass "com/example/serialroute/serialroute/core/P256FieldSubtractPinLaw" = some m.cls := findClass_of_methodNamed Bd.named
  have hnm := (name_of_methodNamed Bd.named Bd.method).1
  have X0 : Stand p l e ({ frames := 0, cells := 0, slots := 0, locals := 0 } : Room) s m #[(.ref a0)] below meth c s₁ [] 0 0 := Stand.of_body Bd
  have e0 : s₁.heap = h0 := by rw [← hh, Bd.state]; rfl
  have N0 := Fr.nil n0
  have pre0 : ∀ t, Steps p.tables e below (s₁.setTop (mkF m 0 #[.val (.ref a0)] [])) t → Steps p.tables e below (s₁.setTop (entryFrame m #[(.ref a0)] 1)) t := fun t k => castTop (ef_rm3 m a0) k
  obtain ⟨cl101, Ar101, q101, S101, M101, H101, G101⟩ := id V0
  have pre102 : ∀ t, Steps p.tables e below (s₁.setTop (mkF m 8 #[.val (.ref a0)] [(.int (lcmpW u7 (4294967295 : Int64)))])) t → Steps p.tables e below (s₁.setTop (entryFrame m #[(.ref a0)] 1)) t := fun t k => by
    refine pre0 t ?_
    show Steps p.tables e below (s₁.setTop (mkF m 0 #[.val (.ref a0)] [])) _
    refine XS.aloadN X0.here hx rfl (hb hby d3_0) rfl rfl ?_
    refine XS.bipush X0.here hx rfl (hb hby d3_1) ?_
    show Steps p.tables e below (s₁.setTop (mkF m 3 #[.val (.ref a0)] [(.int (7 : Int32)), (.ref a0)])) _
    have hin101 : ¬ ((7 : Int32) < 0 ∨ cl101.slots.size ≤ ((7 : Int32)).toNatClampNeg) := (inb_of S101 ⟨by decide, by decide⟩)
    refine X0.laload hx (j := (7 : Int32)) (v := (.long u7)) (by rw [e0]; exact Ar101.1) (State.isArrayOf_alike hZ.alike Ar101.2.1) Ar101.2.2 hin101 (H101.at hin101 rfl) (g := (mkF m 3 #[.val (.ref a0)] [(.int (7 : Int32)), (.ref a0)])) rfl rfl (hb hby d3_3) _ ?_
    show Steps p.tables e below (s₁.setTop (mkF m 4 #[.val (.ref a0)] [(.long u7)])) _
    refine X0.ldc2Long hx hown (mvT hZ (hw _ (List.mem_of_getElem? (i := 9) rfl))) (g := (mkF m 4 #[.val (.ref a0)] [(.long u7)])) rfl (hb hby d3_4) _ ?_
    refine XS.lcmp X0.here hx rfl (hb hby d3_7) rfl ?_
    exact k
  by_cases hc103 : u7 = (4294967295 : Int64)
  · obtain ⟨cl104, Ar104, q104, S104, M104, H104, G104⟩ := id V0
    have pre105 : ∀ t, Steps p.tables e below (s₁.setTop (mkF m 34 #[.val (.ref a0)] [(.int (lcmpW u6 (1 : Int64)))])) t → Steps p.tables e below (s₁.setTop (entryFrame m #[(.ref a0)] 1)) t := fun t k => by
      refine pre102 t ?_
      show Steps p.tables e below (s₁.setTop (mkF m 8 #[.val (.ref a0)] [(.int (lcmpW u7 (4294967295 : Int64)))])) _
      refine XS.ifYes X0.here hx rfl (pc0 := 8) (pc' := 28) rfl (hb hby d3_8) rfl ((if0 _ _).trans (teq ((lw_eq u7 (4294967295 : Int64)).mpr hc103)).1) (by decide) (by decide) ?_
      refine XS.aloadN X0.here hx rfl (hb hby d3_28) rfl rfl ?_
      refine XS.bipush X0.here hx rfl (hb hby d3_29) ?_
      show Steps p.tables e below (s₁.setTop (mkF m 31 #[.val (.ref a0)] [(.int (6 : Int32)), (.ref a0)])) _
      have hin104 : ¬ ((6 : Int32) < 0 ∨ cl104.slots.size ≤ ((6 : Int32)).toNatClampNeg) := (inb_of S104 ⟨by decide, by decide⟩)
      refine X0.laload hx (j := (6 : Int32)) (v := (.long u6)) (by rw [e0]; exact Ar104.1) (State.isArrayOf_alike hZ.alike Ar104.2.1) Ar104.2.2 hin104 (H104.at hin104 rfl) (g := (mkF m 31 #[.val (.ref a0)] [(.int (6 : Int32)), (.ref a0)])) rfl rfl (hb hby d3_31) _ ?_
      refine XS.lconst X0.here hx rfl (hb hby d3_32) ?_
      refine XS.lcmp X0.here hx rfl (hb hby d3_33) rfl ?_
      exact k
    by_cases hc106 : u6 = (1 : Int64)
    · obtain ⟨cl107, Ar107, q107, S107, M107, H107, G107⟩ := id V0
      have pre108 : ∀ t, Steps p.tables e below (s₁.setTop (mkF m 57 #[.val (.ref a0)] [(.int (lcmpW u5 (0 : Int64)))])) t → Steps p.tables e below (s₁.setTop (entryFrame m #[(.ref a0)] 1)) t := fun t k => by
        refine pre105 t ?_
        show Steps p.tables e below (s₁.setTop (mkF m 34 #[.val (.ref a0)] [(.int (lcmpW u6 (1 : Int64)))])) _
        refine XS.ifYes X0.here hx rfl (pc0 := 34) (pc' := 52) rfl (hb hby d3_34) rfl ((if0 _ _).trans (teq ((lw_eq u6 (1 : Int64)).mpr hc106)).1) (by decide) (by decide) ?_
        refine XS.aloadN X0.here hx rfl (hb hby d3_52) rfl rfl ?_
        refine XS.iconst X0.here hx rfl (hb hby d3_53) ?_
        show Steps p.tables e below (s₁.setTop (mkF m 54 #[.val (.ref a0)] [(.int (5 : Int32)), (.ref a0)])) _
        have hin107 : ¬ ((5 : Int32) < 0 ∨ cl107.slots.size ≤ ((5 : Int32)).toNatClampNeg) := (inb_of S107 ⟨by decide, by decide⟩)
        refine X0.laload hx (j := (5 : Int32)) (v := (.long u5)) (by rw [e0]; exact Ar107.1) (State.isArrayOf_alike hZ.alike Ar107.2.1) Ar107.2.2 hin107 (H107.at hin107 rfl) (g := (mkF m 54 #[.val (.ref a0)] [(.int (5 : Int32)), (.ref a0)])) rfl rfl (hb hby d3_54) _ ?_
        refine XS.lconst X0.here hx rfl (hb hby d3_55) ?_
        refine XS.lcmp X0.here hx rfl (hb hby d3_56) rfl ?_
        exact k
      by_cases hc109 : u5 = (0 : Int64)
      · obtain ⟨cl110, Ar110, q110, S110, M110, H110, G110⟩ := id V0
        have pre111 : ∀ t, Steps p.tables e below (s₁.setTop (mkF m 67 #[.val (.ref a0)] [(.int (lcmpW u4 (0 : Int64)))])) t → Steps p.tables e below (s₁.setTop (entryFrame m #[(.ref a0)] 1)) t := fun t k => by
          refine pre108 t ?_
          show Steps p.tables e below (s₁.setTop (mkF m 57 #[.val (.ref a0)] [(.int (lcmpW u5 (0 : Int64)))])) _
          refine XS.ifYes X0.here hx rfl (pc0 := 57) (pc' := 62) rfl (hb hby d3_57) rfl ((if0 _ _).trans (teq ((lw_eq u5 (0 : Int64)).mpr hc109)).1) (by decide) (by decide) ?_
          refine XS.aloadN X0.here hx rfl (hb hby d3_62) rfl rfl ?_
          refine XS.iconst X0.here hx rfl (hb hby d3_63) ?_
          show Steps p.tables e below (s₁.setTop (mkF m 64 #[.val (.ref a0)] [(.int (4 : Int32)), (.ref a0)])) _
          have hin110 : ¬ ((4 : Int32) < 0 ∨ cl110.slots.size ≤ ((4 : Int32)).toNatClampNeg) := (inb_of S110 ⟨by decide, by decide⟩)
          refine X0.laload hx (j := (4 : Int32)) (v := (.long u4)) (by rw [e0]; exact Ar110.1) (State.isArrayOf_alike hZ.alike Ar110.2.1) Ar110.2.2 hin110 (H110.at hin110 rfl) (g := (mkF m 64 #[.val (.ref a0)] [(.int (4 : Int32)), (.ref a0)])) rfl rfl (hb hby d3_64) _ ?_
          refine XS.lconst X0.here hx rfl (hb hby d3_65) ?_
          refine XS.lcmp X0.here hx rfl (hb hby d3_66) rfl ?_
          exact k
        by_cases hc112 : u4 = (0 : Int64)
        · obtain ⟨cl113, Ar113, q113, S113, M113, H113, G113⟩ := id V0
          have pre114 : ∀ t, Steps p.tables e below (s₁.setTop (mkF m 77 #[.val (.ref a0)] [(.int (lcmpW u3 (0 : Int64)))])) t → Steps p.tables e below (s₁.setTop (entryFrame m #[(.ref a0)] 1)) t := fun t k => by
            refine pre111 t ?_
            show Steps p.tables e below (s₁.setTop (mkF m 67 #[.val (.ref a0)] [(.int (lcmpW u4 (0 : Int64)))])) _
            refine XS.ifYes X0.here hx rfl (pc0 := 67) (pc' := 72) rfl (hb hby d3_67) rfl ((if0 _ _).trans (teq ((lw_eq u4 (0 : Int64)).mpr hc112)).1) (by decide) (by decide) ?_
            refine XS.aloadN X0.here hx rfl (hb hby d3_72) rfl rfl ?_
            refine XS.iconst X0.here hx rfl (hb hby d3_73) ?_
            show Steps p.tables e below (s₁.setTop (mkF m 74 #[.val (.ref a0)] [(.int (3 : Int32)), (.ref a0)])) _
            have hin113 : ¬ ((3 : Int32) < 0 ∨ cl113.slots.size ≤ ((3 : Int32)).toNatClampNeg) := (inb_of S113 ⟨by decide, by decide⟩)
            refine X0.laload hx (j := (3 : Int32)) (v := (.long u3)) (by rw [e0]; exact Ar113.1) (State.isArrayOf_alike hZ.alike Ar113.2.1) Ar113.2.2 hin113 (H113.at hin113 rfl) (g := (mkF m 74 #[.val (.ref a0)] [(.int (3 : Int32)), (.ref a0)])) rfl rfl (hb hby d3_74) _ ?_
            refine XS.lconst X0.here hx rfl (hb hby d3_75) ?_
            refine XS.lcmp X0.here hx rfl (hb hby d3_76) rfl ?_
            exact k
          by_cases hc115 : u3 = (0 : Int64)
          · obtain ⟨cl116, Ar116, q116, S116, M116, H116, G116⟩ := id V0
            have pre117 : ∀ t, Steps p.tables e below (s₁.setTop (mkF m 89 #[.val (.ref a0)] [(.int (lcmpW u2 (4294967295 : Int64)))])) t → Steps p.tables e below (s₁.setTop (entryFrame m #[(.ref a0)] 1)) t := fun t k => by
              refine pre114 t ?_
              show Steps p.tables e below (s₁.setTop (mkF m 77 #[.val (.ref a0)] [(.int (lcmpW u3 (0 : Int64)))])) _
              refine XS.ifYes X0.here hx rfl (pc0 := 77) (pc' := 82) rfl (hb hby d3_77) rfl ((if0 _ _).trans (teq ((lw_eq u3 (0 : Int64)).mpr hc115)).1) (by decide) (by decide) ?_
              refine XS.aloadN X0.here hx rfl (hb hby d3_82) rfl rfl ?_
              refine XS.iconst X0.here hx rfl (hb hby d3_83) ?_
              show Steps p.tables e below (s₁.setTop (mkF m 84 #[.val (.ref a0)] [(.int (2 : Int32)), (.ref a0)])) _
              have hin116 : ¬ ((2 : Int32) < 0 ∨ cl116.slots.size ≤ ((2 : Int32)).toNatClampNeg) := (inb_of S116 ⟨by decide, by decide⟩)
              refine X0.laload hx (j := (2 : Int32)) (v := (.long u2)) (by rw [e0]; exact Ar116.1) (State.isArrayOf_alike hZ.alike Ar116.2.1) Ar116.2.2 hin116 (H116.at hin116 rfl) (g := (mkF m 84 #[.val (.ref a0)] [(.int (2 : Int32)), (.ref a0)])) rfl rfl (hb hby d3_84) _ ?_
              show Steps p.tables e below (s₁.setTop (mkF m 85 #[.val (.ref a0)] [(.long u2)])) _
              refine X0.ldc2Long hx hown (mvT hZ (hw _ (List.mem_of_getElem? (i := 9) rfl))) (g := (mkF m 85 #[.val (.ref a0)] [(.long u2)])) rfl (hb hby d3_85) _ ?_
              refine XS.lcmp X0.here hx rfl (hb hby d3_88) rfl ?_
              exact k
            by_cases hc118 : u2 = (4294967295 : Int64)
            · obtain ⟨cl119, Ar119, q119, S119, M119, H119, G119⟩ := id V0
              have pre120 : ∀ t, Steps p.tables e below (s₁.setTop (mkF m 115 #[.val (.ref a0)] [(.int (lcmpW u1 (4294967295 : Int64)))])) t → Steps p.tables e below (s₁.setTop (entryFrame m #[(.ref a0)] 1)) t := fun t k => by
                refine pre117 t ?_
                show Steps p.tables e below (s₁.setTop (mkF m 89 #[.val (.ref a0)] [(.int (lcmpW u2 (4294967295 : Int64)))])) _
                refine XS.ifYes X0.here hx rfl (pc0 := 89) (pc' := 108) rfl (hb hby d3_89) rfl ((if0 _ _).trans (teq ((lw_eq u2 (4294967295 : Int64)).mpr hc118)).1) (by decide) (by decide) ?_
                refine XS.aloadN X0.here hx rfl (hb hby d3_108) rfl rfl ?_
                refine XS.iconst X0.here hx rfl (hb hby d3_109) ?_
                show Steps p.tables e below (s₁.setTop (mkF m 110 #[.val (.ref a0)] [(.int (1 : Int32)), (.ref a0)])) _
                have hin119 : ¬ ((1 : Int32) < 0 ∨ cl119.slots.size ≤ ((1 : Int32)).toNatClampNeg) := (inb_of S119 ⟨by decide, by decide⟩)
                refine X0.laload hx (j := (1 : Int32)) (v := (.long u1)) (by rw [e0]; exact Ar119.1) (State.isArrayOf_alike hZ.alike Ar119.2.1) Ar119.2.2 hin119 (H119.at hin119 rfl) (g := (mkF m 110 #[.val (.ref a0)] [(.int (1 : Int32)), (.ref a0)])) rfl rfl (hb hby d3_110) _ ?_
                show Steps p.tables e below (s₁.setTop (mkF m 111 #[.val (.ref a0)] [(.long u1)])) _
                refine X0.ldc2Long hx hown (mvT hZ (hw _ (List.mem_of_getElem? (i := 9) rfl))) (g := (mkF m 111 #[.val (.ref a0)] [(.long u1)])) rfl (hb hby d3_111) _ ?_
                refine XS.lcmp X0.here hx rfl (hb hby d3_114) rfl ?_
                exact k
              by_cases hc121 : u1 = (4294967295 : Int64)
              · obtain ⟨cl122, Ar122, q122, S122, M122, H122, G122⟩ := id V0
                have pre123 : ∀ t, Steps p.tables e below (s₁.setTop (mkF m 141 #[.val (.ref a0)] [(.int (lcmpW u0 (4294967295 : Int64)))])) t → Steps p.tables e below (s₁.setTop (entryFrame m #[(.ref a0)] 1)) t := fun t k => by
                  refine pre120 t ?_
                  show Steps p.tables e below (s₁.setTop (mkF m 115 #[.val (.ref a0)] [(.int (lcmpW u1 (4294967295 : Int64)))])) _
                  refine XS.ifYes X0.here hx rfl (pc0 := 115) (pc' := 134) rfl (hb hby d3_115) rfl ((if0 _ _).trans (teq ((lw_eq u1 (4294967295 : Int64)).mpr hc121)).1) (by decide) (by decide) ?_
                  refine XS.aloadN X0.here hx rfl (hb hby d3_134) rfl rfl ?_
                  refine XS.iconst X0.here hx rfl (hb hby d3_135) ?_
                  show Steps p.tables e below (s₁.setTop (mkF m 136 #[.val (.ref a0)] [(.int (0 : Int32)), (.ref a0)])) _
                  have hin122 : ¬ ((0 : Int32) < 0 ∨ cl122.slots.size ≤ ((0 : Int32)).toNatClampNeg) := (inb_of S122 ⟨by decide, by decide⟩)
                  refine X0.laload hx (j := (0 : Int32)) (v := (.long u0)) (by rw [e0]; exact Ar122.1) (State.isArrayOf_alike hZ.alike Ar122.2.1) Ar122.2.2 hin122 (H122.at hin122 rfl) (g := (mkF m 136 #[.val (.ref a0)] [(.int (0 : Int32)), (.ref a0)])) rfl rfl (hb hby d3_136) _ ?_
                  show Steps p.tables e below (s₁.setTop (mkF m 137 #[.val (.ref a0)] [(.long u0)])) _
                  refine X0.ldc2Long hx hown (mvT hZ (hw _ (List.mem_of_getElem? (i := 9) rfl))) (g := (mkF m 137 #[.val (.ref a0)] [(.long u0)])) rfl (hb hby d3_137) _ ?_
                  refine XS.lcmp X0.here hx rfl (hb hby d3_140) rfl ?_
                  exact k
                by_cases hc124 : u0 < (4294967295 : Int64)
                · obtain ⟨fs, hr, hrun, hended, hW, hsame⟩ := X0.leave (v := some (.int (1 : Int32))) (fun h => by rw [Bd.returns] at h; cases h)
                  refine ⟨_, _, pre123 _ ?_, hrun, hended, _, _, rfl, ?_, ⟨_, rfl⟩, hW, hsame.mono (by decide) (by decide)⟩
                  · show Steps p.tables e below (s₁.setTop (mkF m 141 #[.val (.ref a0)] [(.int (lcmpW u0 (4294967295 : Int64)))])) _
                    refine XS.ifNo X0.here hx rfl (hb hby d3_141) rfl ((if0 _ _).trans (tlt ((lw_lt u0 (4294967295 : Int64)).mpr hc124)).2.1) ?_
                    refine XS.iconst X0.here hx rfl (hb hby d3_144) ?_
                    refine XS.goto X0.here hx rfl (pc0 := 145) (pc' := 149) rfl (hb hby d3_145) (by decide) (by decide) ?_
                    show Steps p.tables e below (s₁.setTop (mkF m 149 #[.val (.ref a0)] [(.int (1 : Int32))])) _
                    exact retN X0 hx (t := .boolean) Bd.returns (by simp) (hb hby d3_149) hr
                  · show Q3 Z a0 kk0 u0 u1 u2 u3 u4 u5 u6 u7 h0 n0 _ s₁.heap _
                    rw [e0]
                    exact ⟨by rw [own_below, if_pos hc103, if_pos hc106, if_pos hc109, if_pos hc112, if_pos hc115, if_pos hc118, if_pos hc121, if_pos hc124], N0, rfl⟩
                · obtain ⟨fs, hr, hrun, hended, hW, hsame⟩ := X0.leave (v := some (.int (0 : Int32))) (fun h => by rw [Bd.returns] at h; cases h)
                  refine ⟨_, _, pre123 _ ?_, hrun, hended, _, _, rfl, ?_, ⟨_, rfl⟩, hW, hsame.mono (by decide) (by decide)⟩
                  · show Steps p.tables e below (s₁.setTop (mkF m 141 #[.val (.ref a0)] [(.int (lcmpW u0 (4294967295 : Int64)))])) _
                    refine XS.ifYes X0.here hx rfl (pc0 := 141) (pc' := 148) rfl (hb hby d3_141) rfl ((if0 _ _).trans (flt (fun q => hc124 ((lw_lt u0 (4294967295 : Int64)).mp q))).2.1) (by decide) (by decide) ?_
                    refine XS.iconst X0.here hx rfl (hb hby d3_148) ?_
                    show Steps p.tables e below (s₁.setTop (mkF m 149 #[.val (.ref a0)] [(.int (0 : Int32))])) _
                    exact retN X0 hx (t := .boolean) Bd.returns (by simp) (hb hby d3_149) hr
                  · show Q3 Z a0 kk0 u0 u1 u2 u3 u4 u5 u6 u7 h0 n0 _ s₁.heap _
                    rw [e0]
                    exact ⟨by rw [own_below, if_pos hc103, if_pos hc106, if_pos hc109, if_pos hc112, if_pos hc115, if_pos hc118, if_pos hc121, if_neg hc124], N0, rfl⟩
              · obtain ⟨cl125, Ar125, q125, S125, M125, H125, G125⟩ := id V0
                have pre126 : ∀ t, Steps p.tables e below (s₁.setTop (mkF m 125 #[.val (.ref a0)] [(.int (lcmpW u1 (4294967295 : Int64)))])) t → Steps p.tables e below (s₁.setTop (entryFrame m #[(.ref a0)] 1)) t := fun t k => by
                  refine pre120 t ?_
                  show Steps p.tables e below (s₁.setTop (mkF m 115 #[.val (.ref a0)] [(.int (lcmpW u1 (4294967295 : Int64)))])) _
                  refine XS.ifNo X0.here hx rfl (hb hby d3_115) rfl ((if0 _ _).trans (feq (fun q => hc121 ((lw_eq u1 (4294967295 : Int64)).mp q))).1) ?_
                  refine XS.aloadN X0.here hx rfl (hb hby d3_118) rfl rfl ?_
                  refine XS.iconst X0.here hx rfl (hb hby d3_119) ?_
                  show Steps p.tables e below (s₁.setTop (mkF m 120 #[.val (.ref a0)] [(.int (1 : Int32)), (.ref a0)])) _
                  have hin125 : ¬ ((1 : Int32) < 0 ∨ cl125.slots.size ≤ ((1 : Int32)).toNatClampNeg) := (inb_of S125 ⟨by decide, by decide⟩)
                  refine X0.laload hx (j := (1 : Int32)) (v := (.long u1)) (by rw [e0]; exact Ar125.1) (State.isArrayOf_alike hZ.alike Ar125.2.1) Ar125.2.2 hin125 (H125.at hin125 rfl) (g := (mkF m 120 #[.val (.ref a0)] [(.int (1 : Int32)), (.ref a0)])) rfl rfl (hb hby d3_120) _ ?_
                  show Steps p.tables e below (s₁.setTop (mkF m 121 #[.val (.ref a0)] [(.long u1)])) _
                  refine X0.ldc2Long hx hown (mvT hZ (hw _ (List.mem_of_getElem? (i := 9) rfl))) (g := (mkF m 121 #[.val (.ref a0)] [(.long u1)])) rfl (hb hby d3_121) _ ?_
                  refine XS.lcmp X0.here hx rfl (hb hby d3_124) rfl ?_
                  exact k
                by_cases hc127 : u1 < (4294967295 : Int64)
                · obtain ⟨fs, hr, hrun, hended, hW, hsame⟩ := X0.leave (v := some (.int (1 : Int32))) (fun h => by rw [Bd.returns] at h; cases h)
                  refine ⟨_, _, pre126 _ ?_, hrun, hended, _, _, rfl, ?_, ⟨_, rfl⟩, hW, hsame.mono (by decide) (by decide)⟩
                  · show Steps p.tables e below (s₁.setTop (mkF m 125 #[.val (.ref a0)] [(.int (lcmpW u1 (4294967295 : Int64)))])) _
                    refine XS.ifNo X0.here hx rfl (hb hby d3_125) rfl ((if0 _ _).trans (tlt ((lw_lt u1 (4294967295 : Int64)).mpr hc127)).2.1) ?_
                    refine XS.iconst X0.here hx rfl (hb hby d3_128) ?_
                    refine XS.goto X0.here hx rfl (pc0 := 129) (pc' := 133) rfl (hb hby d3_129) (by decide) (by decide) ?_
                    show Steps p.tables e below (s₁.setTop (mkF m 133 #[.val (.ref a0)] [(.int (1 : Int32))])) _
                    exact retN X0 hx (t := .boolean) Bd.returns (by simp) (hb hby d3_133) hr
                  · show Q3 Z a0 kk0 u0 u1 u2 u3 u4 u5 u6 u7 h0 n0 _ s₁.heap _
                    rw [e0]
                    exact ⟨by rw [own_below, if_pos hc103, if_pos hc106, if_pos hc109, if_pos hc112, if_pos hc115, if_pos hc118, if_neg hc121, if_pos hc127], N0, rfl⟩
                · obtain ⟨fs, hr, hrun, hended, hW, hsame⟩ := X0.leave (v := some (.int (0 : Int32))) (fun h => by rw [Bd.returns] at h; cases h)
                  refine ⟨_, _, pre126 _ ?_, hrun, hended, _, _, rfl, ?_, ⟨_, rfl⟩, hW, hsame.mono (by decide) (by decide)⟩
                  · show Steps p.tables e below (s₁.setTop (mkF m 125 #[.val (.ref a0)] [(.int (lcmpW u1 (4294967295 : Int64)))])) _
                    refine XS.ifYes X0.here hx rfl (pc0 := 125) (pc' := 132) rfl (hb hby d3_125) rfl ((if0 _ _).trans (flt (fun q => hc127 ((lw_lt u1 (4294967295 : Int64)).mp q))).2.1) (by decide) (by decide) ?_
                    refine XS.iconst X0.here hx rfl (hb hby d3_132) ?_
                    show Steps p.tables e below (s₁.setTop (mkF m 133 #[.val (.ref a0)] [(.int (0 : Int32))])) _
                    exact retN X0 hx (t := .boolean) Bd.returns (by simp) (hb hby d3_133) hr
                  · show Q3 Z a0 kk0 u0 u1 u2 u3 u4 u5 u6 u7 h0 n0 _ s₁.heap _
                    rw [e0]
                    exact ⟨by rw [own_below, if_pos hc103, if_pos hc106, if_pos hc109, if_pos hc112, if_pos hc115, if_pos hc118, if_neg hc121, if_neg hc127], N0, rfl⟩
            · obtain ⟨cl128, Ar128, q128, S128, M128, H128, G128⟩ := id V0
              have pre129 : ∀ t, Steps p.tables e below (s₁.setTop (mkF m 99 #[.val (.ref a0)] [(.int (lcmpW u2 (4294967295 : Int64)))])) t → Steps p.tables e below (s₁.setTop (entryFrame m #[(.ref a0)] 1)) t := fun t k => by
                refine pre117 t ?_
                show Steps p.tables e below (s₁.setTop (mkF m 89 #[.val (.ref a0)] [(.int (lcmpW u2 (4294967295 : Int64)))])) _
                refine XS.ifNo X0.here hx rfl (hb hby d3_89) rfl ((if0 _ _).trans (feq (fun q => hc118 ((lw_eq u2 (4294967295 : Int64)).mp q))).1) ?_
                refine XS.aloadN X0.here hx rfl (hb hby d3_92) rfl rfl ?_
                refine XS.iconst X0.here hx rfl (hb hby d3_93) ?_
                show Steps p.tables e below (s₁.setTop (mkF m 94 #[.val (.ref a0)] [(.int (2 : Int32)), (.ref a0)])) _
                have hin128 : ¬ ((2 : Int32) < 0 ∨ cl128.slots.size ≤ ((2 : Int32)).toNatClampNeg) := (inb_of S128 ⟨by decide, by decide⟩)
                refine X0.laload hx (j := (2 : Int32)) (v := (.long u2)) (by rw [e0]; exact Ar128.1) (State.isArrayOf_alike hZ.alike Ar128.2.1) Ar128.2.2 hin128 (H128.at hin128 rfl) (g := (mkF m 94 #[.val (.ref a0)] [(.int (2 : Int32)), (.ref a0)])) rfl rfl (hb hby d3_94) _ ?_
                show Steps p.tables e below (s₁.setTop (mkF m 95 #[.val (.ref a0)] [(.long u2)])) _
                refine X0.ldc2Long hx hown (mvT hZ (hw _ (List.mem_of_getElem? (i := 9) rfl))) (g := (mkF m 95 #[.val (.ref a0)] [(.long u2)])) rfl (hb hby d3_95) _ ?_
                refine XS.lcmp X0.here hx rfl (hb hby d3_98) rfl ?_
                exact k
              by_cases hc130 : u2 < (4294967295 : Int64)
              · obtain ⟨fs, hr, hrun, hended, hW, hsame⟩ := X0.leave (v := some (.int (1 : Int32))) (fun h => by rw [Bd.returns] at h; cases h)
                refine ⟨_, _, pre129 _ ?_, hrun, hended, _, _, rfl, ?_, ⟨_, rfl⟩, hW, hsame.mono (by decide) (by decide)⟩
                · show Steps p.tables e below (s₁.setTop (mkF m 99 #[.val (.ref a0)] [(.int (lcmpW u2 (4294967295 : Int64)))])) _
                  refine XS.ifNo X0.here hx rfl (hb hby d3_99) rfl ((if0 _ _).trans (tlt ((lw_lt u2 (4294967295 : Int64)).mpr hc130)).2.1) ?_
                  refine XS.iconst X0.here hx rfl (hb hby d3_102) ?_
                  refine XS.goto X0.here hx rfl (pc0 := 103) (pc' := 107) rfl (hb hby d3_103) (by decide) (by decide) ?_
                  show Steps p.tables e below (s₁.setTop (mkF m 107 #[.val (.ref a0)] [(.int (1 : Int32))])) _
                  exact retN X0 hx (t := .boolean) Bd.returns (by simp) (hb hby d3_107) hr
                · show Q3 Z a0 kk0 u0 u1 u2 u3 u4 u5 u6 u7 h0 n0 _ s₁.heap _
                  rw [e0]
                  exact ⟨by rw [own_below, if_pos hc103, if_pos hc106, if_pos hc109, if_pos hc112, if_pos hc115, if_neg hc118, if_pos hc130], N0, rfl⟩
              · obtain ⟨fs, hr, hrun, hended, hW, hsame⟩ := X0.leave (v := some (.int (0 : Int32))) (fun h => by rw [Bd.returns] at h; cases h)
                refine ⟨_, _, pre129 _ ?_, hrun, hended, _, _, rfl, ?_, ⟨_, rfl⟩, hW, hsame.mono (by decide) (by decide)⟩
                · show Steps p.tables e below (s₁.setTop (mkF m 99 #[.val (.ref a0)] [(.int (lcmpW u2 (4294967295 : Int64)))])) _
                  refine XS.ifYes X0.here hx rfl (pc0 := 99) (pc' := 106) rfl (hb hby d3_99) rfl ((if0 _ _).trans (flt (fun q => hc130 ((lw_lt u2 (4294967295 : Int64)).mp q))).2.1) (by decide) (by decide) ?_
                  refine XS.iconst X0.here hx rfl (hb hby d3_106) ?_
                  show Steps p.tables e below (s₁.setTop (mkF m 107 #[.val (.ref a0)] [(.int (0 : Int32))])) _
                  exact retN X0 hx (t := .boolean) Bd.returns (by simp) (hb hby d3_107) hr
                · show Q3 Z a0 kk0 u0 u1 u2 u3 u4 u5 u6 u7 h0 n0 _ s₁.heap _
                  rw [e0]
                  exact ⟨by rw [own_below, if_pos hc103, if_pos hc106, if_pos hc109, if_pos hc112, if_pos hc115, if_neg hc118, if_neg hc130], N0, rfl⟩
          · obtain ⟨fs, hr, hrun, hended, hW, hsame⟩ := X0.leave (v := some (.int (0 : Int32))) (fun h => by rw [Bd.returns] at h; cases h)
            refine ⟨_, _, pre114 _ ?_, hrun, hended, _, _, rfl, ?_, ⟨_, rfl⟩, hW, hsame.mono (by decide) (by decide)⟩
            · show Steps p.tables e below (s₁.setTop (mkF m 77 #[.val (.ref a0)] [(.int (lcmpW u3 (0 : Int64)))])) _
              refine XS.ifNo X0.here hx rfl (hb hby d3_77) rfl ((if0 _ _).trans (feq (fun q => hc115 ((lw_eq u3 (0 : Int64)).mp q))).1) ?_
              refine XS.iconst X0.here hx rfl (hb hby d3_80) ?_
              show Steps p.tables e below (s₁.setTop (mkF m 81 #[.val (.ref a0)] [(.int (0 : Int32))])) _
              exact retN X0 hx (t := .boolean) Bd.returns (by simp) (hb hby d3_81) hr
            · show Q3 Z a0 kk0 u0 u1 u2 u3 u4 u5 u6 u7 h0 n0 _ s₁.heap _
              rw [e0]
              exact ⟨by rw [own_below, if_pos hc103, if_pos hc106, if_pos hc109, if_pos hc112, if_neg hc115], N0, rfl⟩
        · obtain ⟨fs, hr, hrun, hended, hW, hsame⟩ := X0.leave (v := some (.int (0 : Int32))) (fun h => by rw [Bd.returns] at h; cases h)
          refine ⟨_, _, pre111 _ ?_, hrun, hended, _, _, rfl, ?_, ⟨_, rfl⟩, hW, hsame.mono (by decide) (by decide)⟩
          · show Steps p.tables e below (s₁.setTop (mkF m 67 #[.val (.ref a0)] [(.int (lcmpW u4 (0 : Int64)))])) _
            refine XS.ifNo X0.here hx rfl (hb hby d3_67) rfl ((if0 _ _).trans (feq (fun q => hc112 ((lw_eq u4 (0 : Int64)).mp q))).1) ?_
            refine XS.iconst X0.here hx rfl (hb hby d3_70) ?_
            show Steps p.tables e below (s₁.setTop (mkF m 71 #[.val (.ref a0)] [(.int (0 : Int32))])) _
            exact retN X0 hx (t := .boolean) Bd.returns (by simp) (hb hby d3_71) hr
          · show Q3 Z a0 kk0 u0 u1 u2 u3 u4 u5 u6 u7 h0 n0 _ s₁.heap _
            rw [e0]
            exact ⟨by rw [own_below, if_pos hc103, if_pos hc106, if_pos hc109, if_neg hc112], N0, rfl⟩
      · obtain ⟨fs, hr, hrun, hended, hW, hsame⟩ := X0.leave (v := some (.int (0 : Int32))) (fun h => by rw [Bd.returns] at h; cases h)
        refine ⟨_, _, pre108 _ ?_, hrun, hended, _, _, rfl, ?_, ⟨_, rfl⟩, hW, hsame.mono (by decide) (by decide)⟩
        · show Steps p.tables e below (s₁.setTop (mkF m 57 #[.val (.ref a0)] [(.int (lcmpW u5 (0 : Int64)))])) _
          refine XS.ifNo X0.here hx rfl (hb hby d3_57) rfl ((if0 _ _).trans (feq (fun q => hc109 ((lw_eq u5 (0 : Int64)).mp q))).1) ?_
          refine XS.iconst X0.here hx rfl (hb hby d3_60) ?_
          show Steps p.tables e below (s₁.setTop (mkF m 61 #[.val (.ref a0)] [(.int (0 : Int32))])) _
          exact retN X0 hx (t := .boolean) Bd.returns (by simp) (hb hby d3_61) hr
        · show Q3 Z a0 kk0 u0 u1 u2 u3 u4 u5 u6 u7 h0 n0 _ s₁.heap _
          rw [e0]
          exact ⟨by rw [own_below, if_pos hc103, if_pos hc106, if_neg hc109], N0, rfl⟩
    · obtain ⟨cl131, Ar131, q131, S131, M131, H131, G131⟩ := id V0
      have pre132 : ∀ t, Steps p.tables e below (s₁.setTop (mkF m 43 #[.val (.ref a0)] [(.int (lcmpW u6 (1 : Int64)))])) t → Steps p.tables e below (s₁.setTop (entryFrame m #[(.ref a0)] 1)) t := fun t k => by
        refine pre105 t ?_
        show Steps p.tables e below (s₁.setTop (mkF m 34 #[.val (.ref a0)] [(.int (lcmpW u6 (1 : Int64)))])) _
        refine XS.ifNo X0.here hx rfl (hb hby d3_34) rfl ((if0 _ _).trans (feq (fun q => hc106 ((lw_eq u6 (1 : Int64)).mp q))).1) ?_
        refine XS.aloadN X0.here hx rfl (hb hby d3_37) rfl rfl ?_
        refine XS.bipush X0.here hx rfl (hb hby d3_38) ?_
        show Steps p.tables e below (s₁.setTop (mkF m 40 #[.val (.ref a0)] [(.int (6 : Int32)), (.ref a0)])) _
        have hin131 : ¬ ((6 : Int32) < 0 ∨ cl131.slots.size ≤ ((6 : Int32)).toNatClampNeg) := (inb_of S131 ⟨by decide, by decide⟩)
        refine X0.laload hx (j := (6 : Int32)) (v := (.long u6)) (by rw [e0]; exact Ar131.1) (State.isArrayOf_alike hZ.alike Ar131.2.1) Ar131.2.2 hin131 (H131.at hin131 rfl) (g := (mkF m 40 #[.val (.ref a0)] [(.int (6 : Int32)), (.ref a0)])) rfl rfl (hb hby d3_40) _ ?_
        refine XS.lconst X0.here hx rfl (hb hby d3_41) ?_
        refine XS.lcmp X0.here hx rfl (hb hby d3_42) rfl ?_
        exact k
      by_cases hc133 : u6 < (1 : Int64)
      · obtain ⟨fs, hr, hrun, hended, hW, hsame⟩ := X0.leave (v := some (.int (1 : Int32))) (fun h => by rw [Bd.returns] at h; cases h)
        refine ⟨_, _, pre132 _ ?_, hrun, hended, _, _, rfl, ?_, ⟨_, rfl⟩, hW, hsame.mono (by decide) (by decide)⟩
        · show Steps p.tables e below (s₁.setTop (mkF m 43 #[.val (.ref a0)] [(.int (lcmpW u6 (1 : Int64)))])) _
          refine XS.ifNo X0.here hx rfl (hb hby d3_43) rfl ((if0 _ _).trans (tlt ((lw_lt u6 (1 : Int64)).mpr hc133)).2.1) ?_
          refine XS.iconst X0.here hx rfl (hb hby d3_46) ?_
          refine XS.goto X0.here hx rfl (pc0 := 47) (pc' := 51) rfl (hb hby d3_47) (by decide) (by decide) ?_
          show Steps p.tables e below (s₁.setTop (mkF m 51 #[.val (.ref a0)] [(.int (1 : Int32))])) _
          exact retN X0 hx (t := .boolean) Bd.returns (by simp) (hb hby d3_51) hr
        · show Q3 Z a0 kk0 u0 u1 u2 u3 u4 u5 u6 u7 h0 n0 _ s₁.heap _
          rw [e0]
          exact ⟨by rw [own_below, if_pos hc103, if_neg hc106, if_pos hc133], N0, rfl⟩
      · obtain ⟨fs, hr, hrun, hended, hW, hsame⟩ := X0.leave (v := some (.int (0 : Int32))) (fun h => by rw [Bd.returns] at h; cases h)
        refine ⟨_, _, pre132 _ ?_, hrun, hended, _, _, rfl, ?_, ⟨_, rfl⟩, hW, hsame.mono (by decide) (by decide)⟩
        · show Steps p.tables e below (s₁.setTop (mkF m 43 #[.val (.ref a0)] [(.int (lcmpW u6 (1 : Int64)))])) _
          refine XS.ifYes X0.here hx rfl (pc0 := 43) (pc' := 50) rfl (hb hby d3_43) rfl ((if0 _ _).trans (flt (fun q => hc133 ((lw_lt u6 (1 : Int64)).mp q))).2.1) (by decide) (by decide) ?_
          refine XS.iconst X0.here hx rfl (hb hby d3_50) ?_
          show Steps p.tables e below (s₁.setTop (mkF m 51 #[.val (.ref a0)] [(.int (0 : Int32))])) _
          exact retN X0 hx (t := .boolean) Bd.returns (by simp) (hb hby d3_51) hr
        · show Q3 Z a0 kk0 u0 u1 u2 u3 u4 u5 u6 u7 h0 n0 _ s₁.heap _
          rw [e0]
          exact ⟨by rw [own_below, if_pos hc103, if_neg hc106, if_neg hc133], N0, rfl⟩
  · obtain ⟨cl134, Ar134, q134, S134, M134, H134, G134⟩ := id V0
    have pre135 : ∀ t, Steps p.tables e below (s₁.setTop (mkF m 19 #[.val (.ref a0)] [(.int (lcmpW u7 (4294967295 : Int64)))])) t → Steps p.tables e below (s₁.setTop (entryFrame m #[(.ref a0)] 1)) t := fun t k => by
      refine pre102 t ?_
      show Steps p.tables e below (s₁.setTop (mkF m 8 #[.val (.ref a0)] [(.int (lcmpW u7 (4294967295 : Int64)))])) _
      refine XS.ifNo X0.here hx rfl (hb hby d3_8) rfl ((if0 _ _).trans (feq (fun q => hc103 ((lw_eq u7 (4294967295 : Int64)).mp q))).1) ?_
      refine XS.aloadN X0.here hx rfl (hb hby d3_11) rfl rfl ?_
      refine XS.bipush X0.here hx rfl (hb hby d3_12) ?_
      show Steps p.tables e below (s₁.setTop (mkF m 14 #[.val (.ref a0)] [(.int (7 : Int32)), (.ref a0)])) _
      have hin134 : ¬ ((7 : Int32) < 0 ∨ cl134.slots.size ≤ ((7 : Int32)).toNatClampNeg) := (inb_of S134 ⟨by decide, by decide⟩)
      refine X0.laload hx (j := (7 : Int32)) (v := (.long u7)) (by rw [e0]; exact Ar134.1) (State.isArrayOf_alike hZ.alike Ar134.2.1) Ar134.2.2 hin134 (H134.at hin134 rfl) (g := (mkF m 14 #[.val (.ref a0)] [(.int (7 : Int32)), (.ref a0)])) rfl rfl (hb hby d3_14) _ ?_
      show Steps p.tables e below (s₁.setTop (mkF m 15 #[.val (.ref a0)] [(.long u7)])) _
      refine X0.ldc2Long hx hown (mvT hZ (hw _ (List.mem_of_getElem? (i := 9) rfl))) (g := (mkF m 15 #[.val (.ref a0)] [(.long u7)])) rfl (hb hby d3_15) _ ?_
      refine XS.lcmp X0.here hx rfl (hb hby d3_18) rfl ?_
      exact k
    by_cases hc136 : u7 < (4294967295 : Int64)
    · obtain ⟨fs, hr, hrun, hended, hW, hsame⟩ := X0.leave (v := some (.int (1 : Int32))) (fun h => by rw [Bd.returns] at h; cases h)
      refine ⟨_, _, pre135 _ ?_, hrun, hended, _, _, rfl, ?_, ⟨_, rfl⟩, hW, hsame.mono (by decide) (by decide)⟩
      · show Steps p.tables e below (s₁.setTop (mkF m 19 #[.val (.ref a0)] [(.int (lcmpW u7 (4294967295 : Int64)))])) _
        refine XS.ifNo X0.here hx rfl (hb hby d3_19) rfl ((if0 _ _).trans (tlt ((lw_lt u7 (4294967295 : Int64)).mpr hc136)).2.1) ?_
        refine XS.iconst X0.here hx rfl (hb hby d3_22) ?_
        refine XS.goto X0.here hx rfl (pc0 := 23) (pc' := 27) rfl (hb hby d3_23) (by decide) (by decide) ?_
        show Steps p.tables e below (s₁.setTop (mkF m 27 #[.val (.ref a0)] [(.int (1 : Int32))])) _
        exact retN X0 hx (t := .boolean) Bd.returns (by simp) (hb hby d3_27) hr
      · show Q3 Z a0 kk0 u0 u1 u2 u3 u4 u5 u6 u7 h0 n0 _ s₁.heap _
        rw [e0]
        exact ⟨by rw [own_below, if_neg hc103, if_pos hc136], N0, rfl⟩
    · obtain ⟨fs, hr, hrun, hended, hW, hsame⟩ := X0.leave (v := some (.int (0 : Int32))) (fun h => by rw [Bd.returns] at h; cases h)
      refine ⟨_, _, pre135 _ ?_, hrun, hended, _, _, rfl, ?_, ⟨_, rfl⟩, hW, hsame.mono (by decide) (by decide)⟩
      · show Steps p.tables e below (s₁.setTop (mkF m 19 #[.val (.ref a0)] [(.int (lcmpW u7 (4294967295 : Int64)))])) _
        refine XS.ifYes X0.here hx rfl (pc0 := 19) (pc' := 26) rfl (hb hby d3_19) rfl ((if0 _ _).trans (flt (fun q => hc136 ((lw_lt u7 (4294967295 : Int64)).mp q))).2.1) (by decide) (by decide) ?_
        refine XS.iconst X0.here hx rfl (hb hby d3_26) ?_
        show Steps p.tables e below (s₁.setTop (mkF m 27 #[.val (.ref a0)] [(.int (0 : Int32))])) _
        exact retN X0 hx (t := .boolean) Bd.returns (by simp) (hb hby d3_27) hr
      · show Q3 Z a0 kk0 u0 u1 u2 u3 u4 u5 u6 u7 h0 n0 _ s₁.heap _
        rw [e0]
        exact ⟨by rw [own_below, if_neg hc103, if_neg hc136], N0, rfl⟩
def own_e7 (s : Int64) (sh : Int32) (x y z w : Int64) : Int64 := if own_below (own_w0 s sh x y z w) (own_w1 s sh x y z w) (own_w2 s sh x y z w) (own_w3 s sh x y z w) (own_w4 s sh x y z w) (own_w5 s sh x y z w) (own_w6 s sh x y z w) (own_w7 s sh x y z w) = (0 : Int32) then (4294967294 : Int64) else own_w7 s sh x y z w
theorem d1_0 : decode method_3_code 0 = .ok (.bipush 8, 2) := by decide +kernel
theorem d1_2 : decode method_3_code 2 = .ok (.newarray .long, 2) := by decide +kernel
theorem d1_4 : decode method_3_code 4 = .ok (.astore 11, 2) := by decide +kernel
theorem d1_6 : decode method_3_code 6 = .ok (.aload 11, 2) := by decide +kernel
theorem d1_8 : decode method_3_code 8 = .ok (.iconst 0, 1) := by decide +kernel
theorem d1_9 : decode method_3_code 9 = .ok (.lload_n 0, 1) := by decide +kernel
theorem d1_10 : decode method_3_code 10 = .ok (.iload_n 2, 1) := by decide +kernel
theorem d1_11 : decode method_3_code 11 = .ok (.lushr, 1) := by decide +kernel
theorem d1_12 : decode method_3_code 12 = .ok (.ldc2_w 30, 3) := by decide +kernel
theorem d1_15 : decode method_3_code 15 = .ok (.land, 1) := by decide +kernel
theorem d1_16 : decode method_3_code 16 = .ok (.l2i, 1) := by decide +kernel
theorem d1_17 : decode method_3_code 17 = .ok (.lload_n 3, 1) := by decide +kernel
theorem d1_18 : decode method_3_code 18 = .ok (.lload 5, 2) := by decide +kernel
theorem d1_20 : decode method_3_code 20 = .ok (.lload 7, 2) := by decide +kernel
theorem d1_22 : decode method_3_code 22 = .ok (.lload 9, 2) := by decide +kernel
theorem d1_24 : decode method_3_code 24 = .ok (.invokestatic 32, 3) := by decide +kernel
theorem pd_0 : parseMethodDescriptor "(IJJJJ)J" = some ⟨[.int, .long, .long, .long, .long], some .long⟩ := by decide +kernel
theorem d1_27 : decode method_3_code 27 = .ok (.lastore, 1) := by decide +kernel
theorem d1_28 : decode method_3_code 28 = .ok (.aload 11, 2) := by decide +kernel
theorem d1_30 : decode method_3_code 30 = .ok (.iconst 1, 1) := by decide +kernel
theorem d1_31 : decode method_3_code 31 = .ok (.lload_n 0, 1) := by decide +kernel
theorem d1_32 : decode method_3_code 32 = .ok (.iload_n 2, 1) := by decide +kernel
theorem d1_33 : decode method_3_code 33 = .ok (.iconst 4, 1) := by decide +kernel
theorem d1_34 : decode method_3_code 34 = .ok (.iadd, 1) := by decide +kernel
theorem d1_35 : decode method_3_code 35 = .ok (.lushr, 1) := by decide +kernel
theorem d1_36 : decode method_3_code 36 = .ok (.ldc2_w 30, 3) := by decide +kernel
theorem d1_39 : decode method_3_code 39 = .ok (.land, 1) := by decide +kernel
theorem d1_40 : decode method_3_code 40 = .ok (.l2i, 1) := by decide +kernel
theorem d1_41 : decode method_3_code 41 = .ok (.lload_n 3, 1) := by decide +kernel
theorem d1_42 : decode method_3_code 42 = .ok (.lload 5, 2) := by decide +kernel
theorem d1_44 : decode method_3_code 44 = .ok (.lload 7, 2) := by decide +kernel
theorem d1_46 : decode method_3_code 46 = .ok (.lload 9, 2) := by decide +kernel
theorem d1_48 : decode method_3_code 48 = .ok (.invokestatic 32, 3) := by decide +kernel
theorem d1_51 : decode method_3_code 51 = .ok (.lastore, 1) := by decide +kernel
theorem d1_52 : decode method_3_code 52 = .ok (.aload 11, 2) := by decide +kernel
theorem d1_54 : decode method_3_code 54 = .ok (.iconst 2, 1) := by decide +kernel
theorem d1_55 : decode method_3_code 55 = .ok (.lload_n 0, 1) := by decide +kernel
theorem d1_56 : decode method_3_code 56 = .ok (.iload_n 2, 1) := by decide +kernel
theorem d1_57 : decode method_3_code 57 = .ok (.bipush 8, 2) := by decide +kernel
theorem d1_59 : decode method_3_code 59 = .ok (.iadd, 1) := by decide +kernel
theorem d1_60 : decode method_3_code 60 = .ok (.lushr, 1) := by decide +kernel
theorem d1_61 : decode method_3_code 61 = .ok (.ldc2_w 30, 3) := by decide +kernel
theorem d1_64 : decode method_3_code 64 = .ok (.land, 1) := by decide +kernel
theorem d1_65 : decode method_3_code 65 = .ok (.l2i, 1) := by decide +kernel
theorem d1_66 : decode method_3_code 66 = .ok (.lload_n 3, 1) := by decide +kernel
theorem d1_67 : decode method_3_code 67 = .ok (.lload 5, 2) := by decide +kernel
theorem d1_69 : decode method_3_code 69 = .ok (.lload 7, 2) := by decide +kernel
theorem d1_71 : decode method_3_code 71 = .ok (.lload 9, 2) := by decide +kernel
theorem d1_73 : decode method_3_code 73 = .ok (.invokestatic 32, 3) := by decide +kernel
theorem d1_76 : decode method_3_code 76 = .ok (.lastore, 1) := by decide +kernel
theorem d1_77 : decode method_3_code 77 = .ok (.aload 11, 2) := by decide +kernel
theorem d1_79 : decode method_3_code 79 = .ok (.iconst 3, 1) := by decide +kernel
theorem d1_80 : decode method_3_code 80 = .ok (.lload_n 0, 1) := by decide +kernel
theorem d1_81 : decode method_3_code 81 = .ok (.iload_n 2, 1) := by decide +kernel
theorem d1_82 : decode method_3_code 82 = .ok (.bipush 12, 2) := by decide +kernel
theorem d1_84 : decode method_3_code 84 = .ok (.iadd, 1) := by decide +kernel
theorem d1_85 : decode method_3_code 85 = .ok (.lushr, 1) := by decide +kernel
theorem d1_86 : decode method_3_code 86 = .ok (.ldc2_w 30, 3) := by decide +kernel
theorem d1_89 : decode method_3_code 89 = .ok (.land, 1) := by decide +kernel
theorem d1_90 : decode method_3_code 90 = .ok (.l2i, 1) := by decide +kernel
theorem d1_91 : decode method_3_code 91 = .ok (.lload_n 3, 1) := by decide +kernel
theorem d1_92 : decode method_3_code 92 = .ok (.lload 5, 2) := by decide +kernel
theorem d1_94 : decode method_3_code 94 = .ok (.lload 7, 2) := by decide +kernel
theorem d1_96 : decode method_3_code 96 = .ok (.lload 9, 2) := by decide +kernel
theorem d1_98 : decode method_3_code 98 = .ok (.invokestatic 32, 3) := by decide +kernel
theorem d1_101 : decode method_3_code 101 = .ok (.lastore, 1) := by decide +kernel
theorem d1_102 : decode method_3_code 102 = .ok (.aload 11, 2) := by decide +kernel
theorem d1_104 : decode method_3_code 104 = .ok (.iconst 4, 1) := by decide +kernel
theorem d1_105 : decode method_3_code 105 = .ok (.lload_n 0, 1) := by decide +kernel
theorem d1_106 : decode method_3_code 106 = .ok (.iload_n 2, 1) := by decide +kernel
theorem d1_107 : decode method_3_code 107 = .ok (.bipush 16, 2) := by decide +kernel
theorem d1_109 : decode method_3_code 109 = .ok (.iadd, 1) := by decide +kernel
theorem d1_110 : decode method_3_code 110 = .ok (.lushr, 1) := by decide +kernel
theorem d1_111 : decode method_3_code 111 = .ok (.ldc2_w 30, 3) := by decide +kernel
theorem d1_114 : decode method_3_code 114 = .ok (.land, 1) := by decide +kernel
theorem d1_115 : decode method_3_code 115 = .ok (.l2i, 1) := by decide +kernel
theorem d1_116 : decode method_3_code 116 = .ok (.lload_n 3, 1) := by decide +kernel
theorem d1_117 : decode method_3_code 117 = .ok (.lload 5, 2) := by decide +kernel
theorem d1_119 : decode method_3_code 119 = .ok (.lload 7, 2) := by decide +kernel
theorem d1_121 : decode method_3_code 121 = .ok (.lload 9, 2) := by decide +kernel
theorem d1_123 : decode method_3_code 123 = .ok (.invokestatic 32, 3) := by decide +kernel
theorem d1_126 : decode method_3_code 126 = .ok (.lastore, 1) := by decide +kernel
theorem d1_127 : decode method_3_code 127 = .ok (.aload 11, 2) := by decide +kernel
theorem d1_129 : decode method_3_code 129 = .ok (.iconst 5, 1) := by decide +kernel
theorem d1_130 : decode method_3_code 130 = .ok (.lload_n 0, 1) := by decide +kernel
theorem d1_131 : decode method_3_code 131 = .ok (.iload_n 2, 1) := by decide +kernel
theorem d1_132 : decode method_3_code 132 = .ok (.bipush 20, 2) := by decide +kernel
theorem d1_134 : decode method_3_code 134 = .ok (.iadd, 1) := by decide +kernel
theorem d1_135 : decode method_3_code 135 = .ok (.lushr, 1) := by decide +kernel
theorem d1_136 : decode method_3_code 136 = .ok (.ldc2_w 30, 3) := by decide +kernel
theorem d1_139 : decode method_3_code 139 = .ok (.land, 1) := by decide +kernel
theorem d1_140 : decode method_3_code 140 = .ok (.l2i, 1) := by decide +kernel
theorem d1_141 : decode method_3_code 141 = .ok (.lload_n 3, 1) := by decide +kernel
theorem d1_142 : decode method_3_code 142 = .ok (.lload 5, 2) := by decide +kernel
theorem d1_144 : decode method_3_code 144 = .ok (.lload 7, 2) := by decide +kernel
theorem d1_146 : decode method_3_code 146 = .ok (.lload 9, 2) := by decide +kernel
theorem d1_148 : decode method_3_code 148 = .ok (.invokestatic 32, 3) := by decide +kernel
theorem d1_151 : decode method_3_code 151 = .ok (.lastore, 1) := by decide +kernel
theorem d1_152 : decode method_3_code 152 = .ok (.aload 11, 2) := by decide +kernel
theorem d1_154 : decode method_3_code 154 = .ok (.bipush 6, 2) := by decide +kernel
theorem d1_156 : decode method_3_code 156 = .ok (.lload_n 0, 1) := by decide +kernel
theorem d1_157 : decode method_3_code 157 = .ok (.iload_n 2, 1) := by decide +kernel
theorem d1_158 : decode method_3_code 158 = .ok (.bipush 24, 2) := by decide +kernel
theorem d1_160 : decode method_3_code 160 = .ok (.iadd, 1) := by decide +kernel
theorem d1_161 : decode method_3_code 161 = .ok (.lushr, 1) := by decide +kernel
theorem d1_162 : decode method_3_code 162 = .ok (.ldc2_w 30, 3) := by decide +kernel
theorem d1_165 : decode method_3_code 165 = .ok (.land, 1) := by decide +kernel
theorem d1_166 : decode method_3_code 166 = .ok (.l2i, 1) := by decide +kernel
theorem d1_167 : decode method_3_code 167 = .ok (.lload_n 3, 1) := by decide +kernel
theorem d1_168 : decode method_3_code 168 = .ok (.lload 5, 2) := by decide +kernel
theorem d1_170 : decode method_3_code 170 = .ok (.lload 7, 2) := by decide +kernel
theorem d1_172 : decode method_3_code 172 = .ok (.lload 9, 2) := by decide +kernel
theorem d1_174 : decode method_3_code 174 = .ok (.invokestatic 32, 3) := by decide +kernel
theorem d1_177 : decode method_3_code 177 = .ok (.lastore, 1) := by decide +kernel
theorem d1_178 : decode method_3_code 178 = .ok (.aload 11, 2) := by decide +kernel
theorem d1_180 : decode method_3_code 180 = .ok (.bipush 7, 2) := by decide +kernel
theorem d1_182 : decode method_3_code 182 = .ok (.lload_n 0, 1) := by decide +kernel
theorem d1_183 : decode method_3_code 183 = .ok (.iload_n 2, 1) := by decide +kernel
theorem d1_184 : decode method_3_code 184 = .ok (.bipush 28, 2) := by decide +kernel
theorem d1_186 : decode method_3_code 186 = .ok (.iadd, 1) := by decide +kernel
theorem d1_187 : decode method_3_code 187 = .ok (.lushr, 1) := by decide +kernel
theorem d1_188 : decode method_3_code 188 = .ok (.ldc2_w 30, 3) := by decide +kernel
theorem d1_191 : decode method_3_code 191 = .ok (.land, 1) := by decide +kernel
theorem d1_192 : decode method_3_code 192 = .ok (.l2i, 1) := by decide +kernel
theorem d1_193 : decode method_3_code 193 = .ok (.lload_n 3, 1) := by decide +kernel
theorem d1_194 : decode method_3_code 194 = .ok (.lload 5, 2) := by decide +kernel
theorem d1_196 : decode method_3_code 196 = .ok (.lload 7, 2) := by decide +kernel
theorem d1_198 : decode method_3_code 198 = .ok (.lload 9, 2) := by decide +kernel
theorem d1_200 : decode method_3_code 200 = .ok (.invokestatic 32, 3) := by decide +kernel
theorem d1_203 : decode method_3_code 203 = .ok (.lastore, 1) := by decide +kernel
theorem d1_204 : decode method_3_code 204 = .ok (.aload 11, 2) := by decide +kernel
theorem d1_206 : decode method_3_code 206 = .ok (.invokestatic 36, 3) := by decide +kernel
theorem pd_1 : parseMethodDescriptor "([J)Z" = some ⟨[(.array .long)], some .boolean⟩ := by decide +kernel
theorem d1_209 : decode method_3_code 209 = .ok (.ifCond .ne 11, 3) := by decide +kernel
theorem d1_212 : decode method_3_code 212 = .ok (.aload 11, 2) := by decide +kernel
theorem d1_214 : decode method_3_code 214 = .ok (.bipush 7, 2) := by decide +kernel
theorem d1_216 : decode method_3_code 216 = .ok (.ldc2_w 39, 3) := by decide +kernel
theorem d1_219 : decode method_3_code 219 = .ok (.lastore, 1) := by decide +kernel
theorem d1_220 : decode method_3_code 220 = .ok (.aload 11, 2) := by decide +kernel
theorem d1_222 : decode method_3_code 222 = .ok (.areturn, 1) := by decide +kernel
theorem ef_rm1 (m : MethodId) (x0 : Int64) (x1 : Int32) (x2 : Int64) (x3 : Int64) (x4 : Int64) (x5 : Int64) : entryFrame m #[(.long x0), (.int x1), (.long x2), (.long x3), (.long x4), (.long x5)] 12 = mkF m 0 #[.val (.long x0), .second, .val (.int x1), .val (.long x2), .second, .val (.long x3), .second, .val (.long x4), .second, .val (.long x5), .second, .unset] [] := by first | (simp [entryFrame, mkF, argsToLocals, Value.category]; done) | rfl
def Q1 (Z : State) (q0 : Int64) (p1 : Int32) (q2 : Int64) (q3 : Int64) (q4 : Int64) (q5 : Int64) (h0 : Heap) (n0 : Nat) (v : Option Value) (h : Heap) (L : List Loc) : Prop := ∃ b k, v = some (.ref b) ∧ Fr n0 L ∧ Keep h0 h [] ∧ h0.size ≤ b ∧ Arv Z h b k .long (8 : Int32) [(.long (own_w0 q0 p1 q2 q3 q4 q5)), (.long (own_w1 q0 p1 q2 q3 q4 q5)), (.long (own_w2 q0 p1 q2 q3 q4 q5)), (.long (own_w3 q0 p1 q2 q3 q4 q5)), (.long (own_w4 q0 p1 q2 q3 q4 q5)), (.long (own_w5 q0 p1 q2 q3 q4 q5)), (.long (own_w6 q0 p1 q2 q3 q4 q5)), (.long (own_e7 q0 p1 q2 q3 q4 q5))] (.long (0 : Int64))
set_option maxRecDepth 65536 in
set_option maxHeartbeats 40000000 in
theorem rm1 (l : Launch) (Z : State) (aw : Array Value) (hw : ∀ d ∈ tables_1, d.before aw Z = true) (ws : List Jvm.Cond) (q0 : Int64) (p1 : Int32) (q2 : Int64) (q3 : Int64) (q4 : Int64) (q5 : Int64) (h0 : Heap) (n0 : Nat) (Z0 : n0 ≤ h0.size) :
    MetFree l (⟨"com/example/serialroute/serialroute/core/P256FieldSubtractPinLaw", "build", "(JIJJJJ)[J"⟩ : MethodName) (head1 (Jvm.Cond.code (⟨"com/example/serialroute/serialroute/core/P256FieldSubtractPinLaw", "build", "(JIJJJJ)[J"⟩ : MethodName) method_3_code 12 (some (.array .long)) :: ws) ({ frames := 1, cells := 1, slots := 8, locals := 22 } : Room)) (fun a U => a = #[(.long q0), (.int p1), (.long q2), (.long q3), (.long q4), (.long q5)] ∧ Z.Warmed39 U.vm ∧ U.heap = h0) (fun _ _ _ _ _ => True) (fun _ U oc U' => ∃ v L, oc = .returned v ∧ Q1 Z q0 p1 q2 q3 q4 q5 h0 n0 v U'.heap L ∧ FrameEnd U oc U' L ({ frames := 1, cells := 1, slots := 8, locals := 22 } : Room).cells ({ frames := 1, cells := 1, slots := 8, locals := 22 } : Room).slots) := by
  refine MetFree.of_bodySF (plainFor_of_name pn_0) hisR ?_
  intro p e s m args below meth c s₁ Bd hml0 hP hK
  obtain ⟨rfl, hZ, hh⟩ := hP
  have hx := Bd.exec
  have hby := Bd.bytes
  have hml : c.maxLocals = 12 := hml0
  have hown : s.vm.findClass "com/example/serialroute/serialroute/core/P256FieldSubtractPinLaw" = some m.cls := findClass_of_methodNamed Bd.named
  have hnm := (name_of_methodNamed Bd.named Bd.method).1
  have X0 : Stand p l e ({ frames := 1, cells := 1, slots := 8, locals := 22 } : Room) s m #[(.long q0), (.int p1), (.long q2), (.long q3), (.long q4), (.long q5)] below meth c s₁ [] 0 0 := Stand.of_body Bd
  have e0 : s₁.heap = h0 := by rw [← hh, Bd.state]; rfl
  have N0 := Fr.nil n0
  have pre0 : ∀ t, Steps p.tables e below (s₁.setTop (mkF m 0 #[.val (.long q0), .second, .val (.int p1), .val (.long q2), .second, .val (.long q3), .second, .val (.long q4), .second, .val (.long q5), .second, .unset] [])) t → Steps p.tables e below (s₁.setTop (entryFrame m #[(.long q0), (.int p1), (.long q2), (.long q3), (.long q4), (.long q5)] 12)) t := fun t k => castTop (ef_rm1 m q0 p1 q2 q3 q4 q5) k
  obtain ⟨T101, h101, k101, X101, e101, E101, A101, st101⟩ := newP X0 hx hZ (hw _ (List.mem_of_getElem? (i := 4) rfl)) e0 (g := (mkF m 2 #[.val (.long q0), .second, .val (.int p1), .val (.long q2), .second, .val (.long q3), .second, .val (.long q4), .second, .val (.long q5), .second, .unset] [(.int (8 : Int32))])) rfl (hb hby d1_2) rfl (by decide) (cap := 8) (by decide) (by decide) (by decide) (by decide)
  obtain ⟨b101, g101⟩ : ∃ z, z = h0.size := ⟨_, rfl⟩
  rw [← g101] at A101 st101
  have ge101 : n0 ≤ b101 := Nat.le_trans Z0 (Nat.le_of_eq g101.symm)
  have sz101 : h0.size ≤ b101 := Nat.le_of_eq g101.symm
  have Z101 : n0 ≤ h101.size := Nat.le_trans Z0 E101.1
  have K101 : Keep h0 h101 [] := (Keep.refl h0 []).ext E101
  have V101 : Arv Z h101 b101 k101 .long (8 : Int32) [(.long (0 : Int64)), (.long (0 : Int64)), (.long (0 : Int64)), (.long (0 : Int64)), (.long (0 : Int64)), (.long (0 : Int64)), (.long (0 : Int64)), (.long (0 : Int64))] (.long (0 : Int64)) := (Arv.new A101 (by decide)).pad (pad_rep [] (.long (0 : Int64)) 8)
  obtain ⟨_, _, ⟨T102, L102, k102, n102⟩, -, X102, ⟨Lc102, hQ102, l102, y102, z102⟩, st102⟩ := Jvm.LawKit.callS X101 hx (y := (⟨"com/example/serialroute/serialroute/core/P256FieldSubtractPinLaw", "pick", "(IJJJJ)J"⟩ : MethodName)) hown (mvT hZ (hw _ (List.mem_of_getElem? (i := 6) rfl))) (mvT hZ (hw _ (List.mem_of_getElem? (i := 7) rfl))) (mvT hZ (hw _ (List.mem_of_getElem? (i := 2) rfl))) (mvT hZ (hw _ (List.mem_of_getElem? (i := 8) rfl))) (by decide) (backOf (W := 2) (rm2 l Z aw hw [] ((((q0.toUInt64 >>> (p1 &&& 0x3f).toInt64.toUInt64).toInt64) &&& (15 : Int64)).toInt32) q2 q3 q4 q5 h101 n0 Z101 ) hZ (hw _ (List.mem_of_getElem? (i := 8) rfl)) (hw _ (List.mem_of_getElem? (i := 2) rfl)) (by decide) (by decide)) (g := (mkF m 24 #[.val (.long q0), .second, .val (.int p1), .val (.long q2), .second, .val (.long q3), .second, .val (.long q4), .second, .val (.long q5), .second, .val (.ref b101)] [(.long q5), (.long q4), (.long q3), (.long q2), (.int ((((q0.toUInt64 >>> (p1 &&& 0x3f).toInt64.toUInt64).toInt64) &&& (15 : Int64)).toInt32)), (.int (0 : Int32)), (.ref b101)])) rfl (by rw [hml]; rfl) (argsL := [(.int ((((q0.toUInt64 >>> (p1 &&& 0x3f).toInt64.toUInt64).toInt64) &&& (15 : Int64)).toInt32)), (.long q2), (.long q3), (.long q4), (.long q5)]) (rest := [(.int (0 : Int32)), (.ref b101)]) (lenOf pd_0 rfl) rfl (by show 2 * 0 + _ ≤ _; exact Nat.le_of_eq rfl) (hb hby d1_24) (fun _ _ => ⟨rfl, e101, (by decide : 1 + 0 ≤ _), (by decide : 8 + 0 ≤ _)⟩)
  dsimp only [Pt.U, Pt.locs, Pt.cells, Pt.slots] at X102 l102 y102 z102 st102 hQ102
  rw [l102, y102, z102] at X102
  obtain ⟨rfl, N102q, e102⟩ := hQ102
  have N102 := Fr.app N0 N102q
  obtain ⟨cl103, Ar103, q103, S103, M103, H103, G103⟩ := id V101
  obtain ⟨T104, h104, X104, e104, W104, st104⟩ := stJ X102 hx hZ e102 Ar103 (j := (0 : Int32)) (inb_of S103 ⟨by decide, by decide⟩) (g := (mkF m 27 #[.val (.long q0), .second, .val (.int p1), .val (.long q2), .second, .val (.long q3), .second, .val (.long q4), .second, .val (.long q5), .second, .val (.ref b101)] [(.long (own_w0 q0 p1 q2 q3 q4 q5)), (.int (0 : Int32)), (.ref b101)])) rfl rfl (hb hby d1_27)
  have V104 := Arv.set Ar103 q103 S103 M103 H103 G103 rfl W104 0 rfl (Nat.le_of_ble_eq_true rfl)
  have K104 : Keep h0 h104 [] := K101.wr W104 (Or.inr sz101)
  have N104 := Fr.snoc X104 N102 ge101
  have Z104 : n0 ≤ h104.size := Nat.le_trans Z101 (Keep.of_wr W104).1
  have V104b : Arv Z h104 b101 k101 .long (8 : Int32) [(.long (own_w0 q0 p1 q2 q3 q4 q5)), (.long (0 : Int64)), (.long (0 : Int64)), (.long (0 : Int64)), (.long (0 : Int64)), (.long (0 : Int64)), (.long (0 : Int64)), (.long (0 : Int64))] (.long (0 : Int64)) := V104
  obtain ⟨_, _, ⟨T105, L105, k105, n105⟩, -, X105, ⟨Lc105, hQ105, l105, y105, z105⟩, st105⟩ := Jvm.LawKit.callS X104 hx (y := (⟨"com/example/serialroute/serialroute/core/P256FieldSubtractPinLaw", "pick", "(IJJJJ)J"⟩ : MethodName)) hown (mvT hZ (hw _ (List.mem_of_getElem? (i := 6) rfl))) (mvT hZ (hw _ (List.mem_of_getElem? (i := 7) rfl))) (mvT hZ (hw _ (List.mem_of_getElem? (i := 2) rfl))) (mvT hZ (hw _ (List.mem_of_getElem? (i := 8) rfl))) (by decide) (backOf (W := 2) (rm2 l Z aw hw [] ((((q0.toUInt64 >>> ((p1 + (4 : Int32)) &&& 0x3f).toInt64.toUInt64).toInt64) &&& (15 : Int64)).toInt32) q2 q3 q4 q5 h104 n0 Z104 ) hZ (hw _ (List.mem_of_getElem? (i := 8) rfl)) (hw _ (List.mem_of_getElem? (i := 2) rfl)) (by decide) (by decide)) (g := (mkF m 48 #[.val (.long q0), .second, .val (.int p1), .val (.long q2), .second, .val (.long q3), .second, .val (.long q4), .second, .val (.long q5), .second, .val (.ref b101)] [(.long q5), (.long q4), (.long q3), (.long q2), (.int ((((q0.toUInt64 >>> ((p1 + (4 : Int32)) &&& 0x3f).toInt64.toUInt64).toInt64) &&& (15 : Int64)).toInt32)), (.int (1 : Int32)), (.ref b101)])) rfl (by rw [hml]; rfl) (argsL := [(.int ((((q0.toUInt64 >>> ((p1 + (4 : Int32)) &&& 0x3f).toInt64.toUInt64).toInt64) &&& (15 : Int64)).toInt32)), (.long q2), (.long q3), (.long q4), (.long q5)]) (rest := [(.int (1 : Int32)), (.ref b101)]) (lenOf pd_0 rfl) rfl (by show 2 * 0 + _ ≤ _; exact Nat.le_of_eq rfl) (hb hby d1_48) (fun _ _ => ⟨rfl, e104, (by decide : 1 + 0 ≤ _), (by decide : 8 + 0 ≤ _)⟩)
  dsimp only [Pt.U, Pt.locs, Pt.cells, Pt.slots] at X105 l105 y105 z105 st105 hQ105
  rw [l105, y105, z105] at X105
  obtain ⟨rfl, N105q, e105⟩ := hQ105
  have N105 := Fr.app N104 N105q
  obtain ⟨cl106, Ar106, q106, S106, M106, H106, G106⟩ := id V104b
  obtain ⟨T107, h107, X107, e107, W107, st107⟩ := stJ X105 hx hZ e105 Ar106 (j := (1 : Int32)) (inb_of S106 ⟨by decide, by decide⟩) (g := (mkF m 51 #[.val (.long q0), .second, .val (.int p1), .val (.long q2), .second, .val (.long q3), .second, .val (.long q4), .second, .val (.long q5), .second, .val (.ref b101)] [(.long (own_w1 q0 p1 q2 q3 q4 q5)), (.int (1 : Int32)), (.ref b101)])) rfl rfl (hb hby d1_51)
  have V107 := Arv.set Ar106 q106 S106 M106 H106 G106 rfl W107 1 rfl (Nat.le_of_ble_eq_true rfl)
  have K107 : Keep h0 h107 [] := K104.wr W107 (Or.inr sz101)
  have N107 := Fr.snoc X107 N105 ge101
  have Z107 : n0 ≤ h107.size := Nat.le_trans Z104 (Keep.of_wr W107).1
  have V107b : Arv Z h107 b101 k101 .long (8 : Int32) [(.long (own_w0 q0 p1 q2 q3 q4 q5)), (.long (own_w1 q0 p1 q2 q3 q4 q5)), (.long (0 : Int64)), (.long (0 : Int64)), (.long (0 : Int64)), (.long (0 : Int64)), (.long (0 : Int64)), (.long (0 : Int64))] (.long (0 : Int64)) := V107
  obtain ⟨_, _, ⟨T108, L108, k108, n108⟩, -, X108, ⟨Lc108, hQ108, l108, y108, z108⟩, st108⟩ := Jvm.LawKit.callS X107 hx (y := (⟨"com/example/serialroute/serialroute/core/P256FieldSubtractPinLaw", "pick", "(IJJJJ)J"⟩ : MethodName)) hown (mvT hZ (hw _ (List.mem_of_getElem? (i := 6) rfl))) (mvT hZ (hw _ (List.mem_of_getElem? (i := 7) rfl))) (mvT hZ (hw _ (List.mem_of_getElem? (i := 2) rfl))) (mvT hZ (hw _ (List.mem_of_getElem? (i := 8) rfl))) (by decide) (backOf (W := 2) (rm2 l Z aw hw [] ((((q0.toUInt64 >>> ((p1 + (8 : Int32)) &&& 0x3f).toInt64.toUInt64).toInt64) &&& (15 : Int64)).toInt32) q2 q3 q4 q5 h107 n0 Z107 ) hZ (hw _ (List.mem_of_getElem? (i := 8) rfl)) (hw _ (List.mem_of_getElem? (i := 2) rfl)) (by decide) (by decide)) (g := (mkF m 73 #[.val (.long q0), .second, .val (.int p1), .val (.long q2), .second, .val (.long q3), .second, .val (.long q4), .second, .val (.long q5), .second, .val (.ref b101)] [(.long q5), (.long q4), (.long q3), (.long q2), (.int ((((q0.toUInt64 >>> ((p1 + (8 : Int32)) &&& 0x3f).toInt64.toUInt64).toInt64) &&& (15 : Int64)).toInt32)), (.int (2 : Int32)), (.ref b101)])) rfl (by rw [hml]; rfl) (argsL := [(.int ((((q0.toUInt64 >>> ((p1 + (8 : Int32)) &&& 0x3f).toInt64.toUInt64).toInt64) &&& (15 : Int64)).toInt32)), (.long q2), (.long q3), (.long q4), (.long q5)]) (rest := [(.int (2 : Int32)), (.ref b101)]) (lenOf pd_0 rfl) rfl (by show 2 * 0 + _ ≤ _; exact Nat.le_of_eq rfl) (hb hby d1_73) (fun _ _ => ⟨rfl, e107, (by decide : 1 + 0 ≤ _), (by decide : 8 + 0 ≤ _)⟩)
  dsimp only [Pt.U, Pt.locs, Pt.cells, Pt.slots] at X108 l108 y108 z108 st108 hQ108
  rw [l108, y108, z108] at X108
  obtain ⟨rfl, N108q, e108⟩ := hQ108
  have N108 := Fr.app N107 N108q
  obtain ⟨cl109, Ar109, q109, S109, M109, H109, G109⟩ := id V107b
  obtain ⟨T110, h110, X110, e110, W110, st110⟩ := stJ X108 hx hZ e108 Ar109 (j := (2 : Int32)) (inb_of S109 ⟨by decide, by decide⟩) (g := (mkF m 76 #[.val (.long q0), .second, .val (.int p1), .val (.long q2), .second, .val (.long q3), .second, .val (.long q4), .second, .val (.long q5), .second, .val (.ref b101)] [(.long (own_w2 q0 p1 q2 q3 q4 q5)), (.int (2 : Int32)), (.ref b101)])) rfl rfl (hb hby d1_76)
  have V110 := Arv.set Ar109 q109 S109 M109 H109 G109 rfl W110 2 rfl (Nat.le_of_ble_eq_true rfl)
  have K110 : Keep h0 h110 [] := K107.wr W110 (Or.inr sz101)
  have N110 := Fr.snoc X110 N108 ge101
  have Z110 : n0 ≤ h110.size := Nat.le_trans Z107 (Keep.of_wr W110).1
  have V110b : Arv Z h110 b101 k101 .long (8 : Int32) [(.long (own_w0 q0 p1 q2 q3 q4 q5)), (.long (own_w1 q0 p1 q2 q3 q4 q5)), (.long (own_w2 q0 p1 q2 q3 q4 q5)), (.long (0 : Int64)), (.long (0 : Int64)), (.long (0 : Int64)), (.long (0 : Int64)), (.long (0 : Int64))] (.long (0 : Int64)) := V110
  obtain ⟨_, _, ⟨T111, L111, k111, n111⟩, -, X111, ⟨Lc111, hQ111, l111, y111, z111⟩, st111⟩ := Jvm.LawKit.callS X110 hx (y := (⟨"com/example/serialroute/serialroute/core/P256FieldSubtractPinLaw", "pick", "(IJJJJ)J"⟩ : MethodName)) hown (mvT hZ (hw _ (List.mem_of_getElem? (i := 6) rfl))) (mvT hZ (hw _ (List.mem_of_getElem? (i := 7) rfl))) (mvT hZ (hw _ (List.mem_of_getElem? (i := 2) rfl))) (mvT hZ (hw _ (List.mem_of_getElem? (i := 8) rfl))) (by decide) (backOf (W := 2) (rm2 l Z aw hw [] ((((q0.toUInt64 >>> ((p1 + (12 : Int32)) &&& 0x3f).toInt64.toUInt64).toInt64) &&& (15 : Int64)).toInt32) q2 q3 q4 q5 h110 n0 Z110 ) hZ (hw _ (List.mem_of_getElem? (i := 8) rfl)) (hw _ (List.mem_of_getElem? (i := 2) rfl)) (by decide) (by decide)) (g := (mkF m 98 #[.val (.long q0), .second, .val (.int p1), .val (.long q2), .second, .val (.long q3), .second, .val (.long q4), .second, .val (.long q5), .second, .val (.ref b101)] [(.long q5), (.long q4), (.long q3), (.long q2), (.int ((((q0.toUInt64 >>> ((p1 + (12 : Int32)) &&& 0x3f).toInt64.toUInt64).toInt64) &&& (15 : Int64)).toInt32)), (.int (3 : Int32)), (.ref b101)])) rfl (by rw [hml]; rfl) (argsL := [(.int ((((q0.toUInt64 >>> ((p1 + (12 : Int32)) &&& 0x3f).toInt64.toUInt64).toInt64) &&& (15 : Int64)).toInt32)), (.long q2), (.long q3), (.long q4), (.long q5)]) (rest := [(.int (3 : Int32)), (.ref b101)]) (lenOf pd_0 rfl) rfl (by show 2 * 0 + _ ≤ _; exact Nat.le_of_eq rfl) (hb hby d1_98) (fun _ _ => ⟨rfl, e110, (by decide : 1 + 0 ≤ _), (by decide : 8 + 0 ≤ _)⟩)
  dsimp only [Pt.U, Pt.locs, Pt.cells, Pt.slots] at X111 l111 y111 z111 st111 hQ111
  rw [l111, y111, z111] at X111
  obtain ⟨rfl, N111q, e111⟩ := hQ111
  have N111 := Fr.app N110 N111q
  obtain ⟨cl112, Ar112, q112, S112, M112, H112, G112⟩ := id V110b
  obtain ⟨T113, h113, X113, e113, W113, st113⟩ := stJ X111 hx hZ e111 Ar112 (j := (3 : Int32)) (inb_of S112 ⟨by decide, by decide⟩) (g := (mkF m 101 #[.val (.long q0), .second, .val (.int p1), .val (.long q2), .second, .val (.long q3), .second, .val (.long q4), .second, .val (.long q5), .second, .val (.ref b101)] [(.long (own_w3 q0 p1 q2 q3 q4 q5)), (.int (3 : Int32)), (.ref b101)])) rfl rfl (hb hby d1_101)
  have V113 := Arv.set Ar112 q112 S112 M112 H112 G112 rfl W113 3 rfl (Nat.le_of_ble_eq_true rfl)
  have K113 : Keep h0 h113 [] := K110.wr W113 (Or.inr sz101)
  have N113 := Fr.snoc X113 N111 ge101
  have Z113 : n0 ≤ h113.size := Nat.le_trans Z110 (Keep.of_wr W113).1
  have V113b : Arv Z h113 b101 k101 .long (8 : Int32) [(.long (own_w0 q0 p1 q2 q3 q4 q5)), (.long (own_w1 q0 p1 q2 q3 q4 q5)), (.long (own_w2 q0 p1 q2 q3 q4 q5)), (.long (own_w3 q0 p1 q2 q3 q4 q5)), (.long (0 : Int64)), (.long (0 : Int64)), (.long (0 : Int64)), (.long (0 : Int64))] (.long (0 : Int64)) := V113
  obtain ⟨_, _, ⟨T114, L114, k114, n114⟩, -, X114, ⟨Lc114, hQ114, l114, y114, z114⟩, st114⟩ := Jvm.LawKit.callS X113 hx (y := (⟨"com/example/serialroute/serialroute/core/P256FieldSubtractPinLaw", "pick", "(IJJJJ)J"⟩ : MethodName)) hown (mvT hZ (hw _ (List.mem_of_getElem? (i := 6) rfl))) (mvT hZ (hw _ (List.mem_of_getElem? (i := 7) rfl))) (mvT hZ (hw _ (List.mem_of_getElem? (i := 2) rfl))) (mvT hZ (hw _ (List.mem_of_getElem? (i := 8) rfl))) (by decide) (backOf (W := 2) (rm2 l Z aw hw [] ((((q0.toUInt64 >>> ((p1 + (16 : Int32)) &&& 0x3f).toInt64.toUInt64).toInt64) &&& (15 : Int64)).toInt32) q2 q3 q4 q5 h113 n0 Z113 ) hZ (hw _ (List.mem_of_getElem? (i := 8) rfl)) (hw _ (List.mem_of_getElem? (i := 2) rfl)) (by decide) (by decide)) (g := (mkF m 123 #[.val (.long q0), .second, .val (.int p1), .val (.long q2), .second, .val (.long q3), .second, .val (.long q4), .second, .val (.long q5), .second, .val (.ref b101)] [(.long q5), (.long q4), (.long q3), (.long q2), (.int ((((q0.toUInt64 >>> ((p1 + (16 : Int32)) &&& 0x3f).toInt64.toUInt64).toInt64) &&& (15 : Int64)).toInt32)), (.int (4 : Int32)), (.ref b101)])) rfl (by rw [hml]; rfl) (argsL := [(.int ((((q0.toUInt64 >>> ((p1 + (16 : Int32)) &&& 0x3f).toInt64.toUInt64).toInt64) &&& (15 : Int64)).toInt32)), (.long q2), (.long q3), (.long q4), (.long q5)]) (rest := [(.int (4 : Int32)), (.ref b101)]) (lenOf pd_0 rfl) rfl (by show 2 * 0 + _ ≤ _; exact Nat.le_of_eq rfl) (hb hby d1_123) (fun _ _ => ⟨rfl, e113, (by decide : 1 + 0 ≤ _), (by decide : 8 + 0 ≤ _)⟩)
  dsimp only [Pt.U, Pt.locs, Pt.cells, Pt.slots] at X114 l114 y114 z114 st114 hQ114
  rw [l114, y114, z114] at X114
  obtain ⟨rfl, N114q, e114⟩ := hQ114
  have N114 := Fr.app N113 N114q
  obtain ⟨cl115, Ar115, q115, S115, M115, H115, G115⟩ := id V113b
  obtain ⟨T116, h116, X116, e116, W116, st116⟩ := stJ X114 hx hZ e114 Ar115 (j := (4 : Int32)) (inb_of S115 ⟨by decide, by decide⟩) (g := (mkF m 126 #[.val (.long q0), .second, .val (.int p1), .val (.long q2), .second, .val (.long q3), .second, .val (.long q4), .second, .val (.long q5), .second, .val (.ref b101)] [(.long (own_w4 q0 p1 q2 q3 q4 q5)), (.int (4 : Int32)), (.ref b101)])) rfl rfl (hb hby d1_126)
  have V116 := Arv.set Ar115 q115 S115 M115 H115 G115 rfl W116 4 rfl (Nat.le_of_ble_eq_true rfl)
  have K116 : Keep h0 h116 [] := K113.wr W116 (Or.inr sz101)
  have N116 := Fr.snoc X116 N114 ge101
  have Z116 : n0 ≤ h116.size := Nat.le_trans Z113 (Keep.of_wr W116).1
  have V116b : Arv Z h116 b101 k101 .long (8 : Int32) [(.long (own_w0 q0 p1 q2 q3 q4 q5)), (.long (own_w1 q0 p1 q2 q3 q4 q5)), (.long (own_w2 q0 p1 q2 q3 q4 q5)), (.long (own_w3 q0 p1 q2 q3 q4 q5)), (.long (own_w4 q0 p1 q2 q3 q4 q5)), (.long (0 : Int64)), (.long (0 : Int64)), (.long (0 : Int64))] (.long (0 : Int64)) := V116
  obtain ⟨_, _, ⟨T117, L117, k117, n117⟩, -, X117, ⟨Lc117, hQ117, l117, y117, z117⟩, st117⟩ := Jvm.LawKit.callS X116 hx (y := (⟨"com/example/serialroute/serialroute/core/P256FieldSubtractPinLaw", "pick", "(IJJJJ)J"⟩ : MethodName)) hown (mvT hZ (hw _ (List.mem_of_getElem? (i := 6) rfl))) (mvT hZ (hw _ (List.mem_of_getElem? (i := 7) rfl))) (mvT hZ (hw _ (List.mem_of_getElem? (i := 2) rfl))) (mvT hZ (hw _ (List.mem_of_getElem? (i := 8) rfl))) (by decide) (backOf (W := 2) (rm2 l Z aw hw [] ((((q0.toUInt64 >>> ((p1 + (20 : Int32)) &&& 0x3f).toInt64.toUInt64).toInt64) &&& (15 : Int64)).toInt32) q2 q3 q4 q5 h116 n0 Z116 ) hZ (hw _ (List.mem_of_getElem? (i := 8) rfl)) (hw _ (List.mem_of_getElem? (i := 2) rfl)) (by decide) (by decide)) (g := (mkF m 148 #[.val (.long q0), .second, .val (.int p1), .val (.long q2), .second, .val (.long q3), .second, .val (.long q4), .second, .val (.long q5), .second, .val (.ref b101)] [(.long q5), (.long q4), (.long q3), (.long q2), (.int ((((q0.toUInt64 >>> ((p1 + (20 : Int32)) &&& 0x3f).toInt64.toUInt64).toInt64) &&& (15 : Int64)).toInt32)), (.int (5 : Int32)), (.ref b101)])) rfl (by rw [hml]; rfl) (argsL := [(.int ((((q0.toUInt64 >>> ((p1 + (20 : Int32)) &&& 0x3f).toInt64.toUInt64).toInt64) &&& (15 : Int64)).toInt32)), (.long q2), (.long q3), (.long q4), (.long q5)]) (rest := [(.int (5 : Int32)), (.ref b101)]) (lenOf pd_0 rfl) rfl (by show 2 * 0 + _ ≤ _; exact Nat.le_of_eq rfl) (hb hby d1_148) (fun _ _ => ⟨rfl, e116, (by decide : 1 + 0 ≤ _), (by decide : 8 + 0 ≤ _)⟩)
  dsimp only [Pt.U, Pt.locs, Pt.cells, Pt.slots] at X117 l117 y117 z117 st117 hQ117
  rw [l117, y117, z117] at X117
  obtain ⟨rfl, N117q, e117⟩ := hQ117
  have N117 := Fr.app N116 N117q
  obtain ⟨cl118, Ar118, q118, S118, M118, H118, G118⟩ := id V116b
  obtain ⟨T119, h119, X119, e119, W119, st119⟩ := stJ X117 hx hZ e117 Ar118 (j := (5 : Int32)) (inb_of S118 ⟨by decide, by decide⟩) (g := (mkF m 151 #[.val (.long q0), .second, .val (.int p1), .val (.long q2), .second, .val (.long q3), .second, .val (.long q4), .second, .val (.long q5), .second, .val (.ref b101)] [(.long (own_w5 q0 p1 q2 q3 q4 q5)), (.int (5 : Int32)), (.ref b101)])) rfl rfl (hb hby d1_151)
  have V119 := Arv.set Ar118 q118 S118 M118 H118 G118 rfl W119 5 rfl (Nat.le_of_ble_eq_true rfl)
  have K119 : Keep h0 h119 [] := K116.wr W119 (Or.inr sz101)
  have N119 := Fr.snoc X119 N117 ge101
  have Z119 : n0 ≤ h119.size := Nat.le_trans Z116 (Keep.of_wr W119).1
  have V119b : Arv Z h119 b101 k101 .long (8 : Int32) [(.long (own_w0 q0 p1 q2 q3 q4 q5)), (.long (own_w1 q0 p1 q2 q3 q4 q5)), (.long (own_w2 q0 p1 q2 q3 q4 q5)), (.long (own_w3 q0 p1 q2 q3 q4 q5)), (.long (own_w4 q0 p1 q2 q3 q4 q5)), (.long (own_w5 q0 p1 q2 q3 q4 q5)), (.long (0 : Int64)), (.long (0 : Int64))] (.long (0 : Int64)) := V119
  obtain ⟨_, _, ⟨T120, L120, k120, n120⟩, -, X120, ⟨Lc120, hQ120, l120, y120, z120⟩, st120⟩ := Jvm.LawKit.callS X119 hx (y := (⟨"com/example/serialroute/serialroute/core/P256FieldSubtractPinLaw", "pick", "(IJJJJ)J"⟩ : MethodName)) hown (mvT hZ (hw _ (List.mem_of_getElem? (i := 6) rfl))) (mvT hZ (hw _ (List.mem_of_getElem? (i := 7) rfl))) (mvT hZ (hw _ (List.mem_of_getElem? (i := 2) rfl))) (mvT hZ (hw _ (List.mem_of_getElem? (i := 8) rfl))) (by decide) (backOf (W := 2) (rm2 l Z aw hw [] ((((q0.toUInt64 >>> ((p1 + (24 : Int32)) &&& 0x3f).toInt64.toUInt64).toInt64) &&& (15 : Int64)).toInt32) q2 q3 q4 q5 h119 n0 Z119 ) hZ (hw _ (List.mem_of_getElem? (i := 8) rfl)) (hw _ (List.mem_of_getElem? (i := 2) rfl)) (by decide) (by decide)) (g := (mkF m 174 #[.val (.long q0), .second, .val (.int p1), .val (.long q2), .second, .val (.long q3), .second, .val (.long q4), .second, .val (.long q5), .second, .val (.ref b101)] [(.long q5), (.long q4), (.long q3), (.long q2), (.int ((((q0.toUInt64 >>> ((p1 + (24 : Int32)) &&& 0x3f).toInt64.toUInt64).toInt64) &&& (15 : Int64)).toInt32)), (.int (6 : Int32)), (.ref b101)])) rfl (by rw [hml]; rfl) (argsL := [(.int ((((q0.toUInt64 >>> ((p1 + (24 : Int32)) &&& 0x3f).toInt64.toUInt64).toInt64) &&& (15 : Int64)).toInt32)), (.long q2), (.long q3), (.long q4), (.long q5)]) (rest := [(.int (6 : Int32)), (.ref b101)]) (lenOf pd_0 rfl) rfl (by show 2 * 0 + _ ≤ _; exact Nat.le_of_eq rfl) (hb hby d1_174) (fun _ _ => ⟨rfl, e119, (by decide : 1 + 0 ≤ _), (by decide : 8 + 0 ≤ _)⟩)
  dsimp only [Pt.U, Pt.locs, Pt.cells, Pt.slots] at X120 l120 y120 z120 st120 hQ120
  rw [l120, y120, z120] at X120
  obtain ⟨rfl, N120q, e120⟩ := hQ120
  have N120 := Fr.app N119 N120q
  obtain ⟨cl121, Ar121, q121, S121, M121, H121, G121⟩ := id V119b
  obtain ⟨T122, h122, X122, e122, W122, st122⟩ := stJ X120 hx hZ e120 Ar121 (j := (6 : Int32)) (inb_of S121 ⟨by decide, by decide⟩) (g := (mkF m 177 #[.val (.long q0), .second, .val (.int p1), .val (.long q2), .second, .val (.long q3), .second, .val (.long q4), .second, .val (.long q5), .second, .val (.ref b101)] [(.long (own_w6 q0 p1 q2 q3 q4 q5)), (.int (6 : Int32)), (.ref b101)])) rfl rfl (hb hby d1_177)
  have V122 := Arv.set Ar121 q121 S121 M121 H121 G121 rfl W122 6 rfl (Nat.le_of_ble_eq_true rfl)
  have K122 : Keep h0 h122 [] := K119.wr W122 (Or.inr sz101)
  have N122 := Fr.snoc X122 N120 ge101
  have Z122 : n0 ≤ h122.size := Nat.le_trans Z119 (Keep.of_wr W122).1
  have V122b : Arv Z h122 b101 k101 .long (8 : Int32) [(.long (own_w0 q0 p1 q2 q3 q4 q5)), (.long (own_w1 q0 p1 q2 q3 q4 q5)), (.long (own_w2 q0 p1 q2 q3 q4 q5)), (.long (own_w3 q0 p1 q2 q3 q4 q5)), (.long (own_w4 q0 p1 q2 q3 q4 q5)), (.long (own_w5 q0 p1 q2 q3 q4 q5)), (.long (own_w6 q0 p1 q2 q3 q4 q5)), (.long (0 : Int64))] (.long (0 : Int64)) := V122
  obtain ⟨_, _, ⟨T123, L123, k123, n123⟩, -, X123, ⟨Lc123, hQ123, l123, y123, z123⟩, st123⟩ := Jvm.LawKit.callS X122 hx (y := (⟨"com/example/serialroute/serialroute/core/P256FieldSubtractPinLaw", "pick", "(IJJJJ)J"⟩ : MethodName)) hown (mvT hZ (hw _ (List.mem_of_getElem? (i := 6) rfl))) (mvT hZ (hw _ (List.mem_of_getElem? (i := 7) rfl))) (mvT hZ (hw _ (List.mem_of_getElem? (i := 2) rfl))) (mvT hZ (hw _ (List.mem_of_getElem? (i := 8) rfl))) (by decide) (backOf (W := 2) (rm2 l Z aw hw [] ((((q0.toUInt64 >>> ((p1 + (28 : Int32)) &&& 0x3f).toInt64.toUInt64).toInt64) &&& (15 : Int64)).toInt32) q2 q3 q4 q5 h122 n0 Z122 ) hZ (hw _ (List.mem_of_getElem? (i := 8) rfl)) (hw _ (List.mem_of_getElem? (i := 2) rfl)) (by decide) (by decide)) (g := (mkF m 200 #[.val (.long q0), .second, .val (.int p1), .val (.long q2), .second, .val (.long q3), .second, .val (.long q4), .second, .val (.long q5), .second, .val (.ref b101)] [(.long q5), (.long q4), (.long q3), (.long q2), (.int ((((q0.toUInt64 >>> ((p1 + (28 : Int32)) &&& 0x3f).toInt64.toUInt64).toInt64) &&& (15 : Int64)).toInt32)), (.int (7 : Int32)), (.ref b101)])) rfl (by rw [hml]; rfl) (argsL := [(.int ((((q0.toUInt64 >>> ((p1 + (28 : Int32)) &&& 0x3f).toInt64.toUInt64).toInt64) &&& (15 : Int64)).toInt32)), (.long q2), (.long q3), (.long q4), (.long q5)]) (rest := [(.int (7 : Int32)), (.ref b101)]) (lenOf pd_0 rfl) rfl (by show 2 * 0 + _ ≤ _; exact Nat.le_of_eq rfl) (hb hby d1_200) (fun _ _ => ⟨rfl, e122, (by decide : 1 + 0 ≤ _), (by decide : 8 + 0 ≤ _)⟩)
  dsimp only [Pt.U, Pt.locs, Pt.cells, Pt.slots] at X123 l123 y123 z123 st123 hQ123
  rw [l123, y123, z123] at X123
  obtain ⟨rfl, N123q, e123⟩ := hQ123
  have N123 := Fr.app N122 N123q
  obtain ⟨cl124, Ar124, q124, S124, M124, H124, G124⟩ := id V122b
  obtain ⟨T125, h125, X125, e125, W125, st125⟩ := stJ X123 hx hZ e123 Ar124 (j := (7 : Int32)) (inb_of S124 ⟨by decide, by decide⟩) (g := (mkF m 203 #[.val (.long q0), .second, .val (.int p1), .val (.long q2), .second, .val (.long q3), .second, .val (.long q4), .second, .val (.long q5), .second, .val (.ref b101)] [(.long (own_w7 q0 p1 q2 q3 q4 q5)), (.int (7 : Int32)), (.ref b101)])) rfl rfl (hb hby d1_203)
  have V125 := Arv.set Ar124 q124 S124 M124 H124 G124 rfl W125 7 rfl (Nat.le_of_ble_eq_true rfl)
  have K125 : Keep h0 h125 [] := K122.wr W125 (Or.inr sz101)
  have N125 := Fr.snoc X125 N123 ge101
  have Z125 : n0 ≤ h125.size := Nat.le_trans Z122 (Keep.of_wr W125).1
  have V125b : Arv Z h125 b101 k101 .long (8 : Int32) [(.long (own_w0 q0 p1 q2 q3 q4 q5)), (.long (own_w1 q0 p1 q2 q3 q4 q5)), (.long (own_w2 q0 p1 q2 q3 q4 q5)), (.long (own_w3 q0 p1 q2 q3 q4 q5)), (.long (own_w4 q0 p1 q2 q3 q4 q5)), (.long (own_w5 q0 p1 q2 q3 q4 q5)), (.long (own_w6 q0 p1 q2 q3 q4 q5)), (.long (own_w7 q0 p1 q2 q3 q4 q5))] (.long (0 : Int64)) := V125
  obtain ⟨_, _, ⟨T126, L126, k126, n126⟩, -, X126, ⟨Lc126, hQ126, l126, y126, z126⟩, st126⟩ := Jvm.LawKit.callS X125 hx (y := (⟨"com/example/serialroute/serialroute/core/P256FieldSubtractPinLaw", "below", "([J)Z"⟩ : MethodName)) hown (mvT hZ (hw _ (List.mem_of_getElem? (i := 10) rfl))) (mvT hZ (hw _ (List.mem_of_getElem? (i := 11) rfl))) (mvT hZ (hw _ (List.mem_of_getElem? (i := 2) rfl))) (mvT hZ (hw _ (List.mem_of_getElem? (i := 12) rfl))) (by decide) (backOf (W := 0) (rm3 l Z aw hw [] b101 k101 (own_w0 q0 p1 q2 q3 q4 q5) (own_w1 q0 p1 q2 q3 q4 q5) (own_w2 q0 p1 q2 q3 q4 q5) (own_w3 q0 p1 q2 q3 q4 q5) (own_w4 q0 p1 q2 q3 q4 q5) (own_w5 q0 p1 q2 q3 q4 q5) (own_w6 q0 p1 q2 q3 q4 q5) (own_w7 q0 p1 q2 q3 q4 q5) h125 n0 Z125 V125b) hZ (hw _ (List.mem_of_getElem? (i := 12) rfl)) (hw _ (List.mem_of_getElem? (i := 2) rfl)) (by decide) (by decide)) (g := (mkF m 206 #[.val (.long q0), .second, .val (.int p1), .val (.long q2), .second, .val (.long q3), .second, .val (.long q4), .second, .val (.long q5), .second, .val (.ref b101)] [(.ref b101)])) rfl (by rw [hml]; rfl) (argsL := [(.ref b101)]) (rest := []) (lenOf pd_1 rfl) rfl (by show 2 * 0 + _ ≤ _; exact Nat.le_of_eq rfl) (hb hby d1_206) (fun _ _ => ⟨rfl, e125, (by decide : 1 + 0 ≤ _), (by decide : 8 + 0 ≤ _)⟩)
  dsimp only [Pt.U, Pt.locs, Pt.cells, Pt.slots] at X126 l126 y126 z126 st126 hQ126
  rw [l126, y126, z126] at X126
  obtain ⟨rfl, N126q, e126⟩ := hQ126
  have N126 := Fr.app N125 N126q
  have pre127 : ∀ t, Steps p.tables e below (T126.setTop (mkF m 209 #[.val (.long q0), .second, .val (.int p1), .val (.long q2), .second, .val (.long q3), .second, .val (.long q4), .second, .val (.long q5), .second, .val (.ref b101)] [(.int (own_below (own_w0 q0 p1 q2 q3 q4 q5) (own_w1 q0 p1 q2 q3 q4 q5) (own_w2 q0 p1 q2 q3 q4 q5) (own_w3 q0 p1 q2 q3 q4 q5) (own_w4 q0 p1 q2 q3 q4 q5) (own_w5 q0 p1 q2 q3 q4 q5) (own_w6 q0 p1 q2 q3 q4 q5) (own_w7 q0 p1 q2 q3 q4 q5)))])) t → Steps p.tables e below (s₁.setTop (entryFrame m #[(.long q0), (.int p1), (.long q2), (.long q3), (.long q4), (.long q5)] 12)) t := fun t k => by
    refine pre0 t ?_
    show Steps p.tables e below (s₁.setTop (mkF m 0 #[.val (.long q0), .second, .val (.int p1), .val (.long q2), .second, .val (.long q3), .second, .val (.long q4), .second, .val (.long q5), .second, .unset] [])) _
    refine XS.bipush X0.here hx rfl (hb hby d1_0) ?_
    show Steps p.tables e below (s₁.setTop (mkF m 2 #[.val (.long q0), .second, .val (.int p1), .val (.long q2), .second, .val (.long q3), .second, .val (.long q4), .second, .val (.long q5), .second, .unset] [(.int (8 : Int32))])) _
    refine st101 _ ?_
    refine XS.astore X101.here hx rfl (hb hby d1_4) rfl rfl (l' := #[.val (.long q0), .second, .val (.int p1), .val (.long q2), .second, .val (.long q3), .second, .val (.long q4), .second, .val (.long q5), .second, .val (.ref b101)]) rfl ?_
    refine XS.aload X101.here hx rfl (hb hby d1_6) rfl rfl ?_
    refine XS.iconst X101.here hx rfl (hb hby d1_8) ?_
    show Steps p.tables e below (T101.setTop (mkF m 9 #[.val (.long q0), .second, .val (.int p1), .val (.long q2), .second, .val (.long q3), .second, .val (.long q4), .second, .val (.long q5), .second, .val (.ref b101)] [(.int (0 : Int32)), (.ref b101)])) _
    refine XS.lloadN X101.here hx rfl (hb hby d1_9) rfl ?_
    refine XS.iloadN X101.here hx rfl (hb hby d1_10) rfl ?_
    refine XS.lushr X101.here hx rfl (hb hby d1_11) rfl ?_
    show Steps p.tables e below (T101.setTop (mkF m 12 #[.val (.long q0), .second, .val (.int p1), .val (.long q2), .second, .val (.long q3), .second, .val (.long q4), .second, .val (.long q5), .second, .val (.ref b101)] [(.long ((q0.toUInt64 >>> (p1 &&& 0x3f).toInt64.toUInt64).toInt64)), (.int (0 : Int32)), (.ref b101)])) _
    refine X101.ldc2Long hx hown (mvT hZ (hw _ (List.mem_of_getElem? (i := 5) rfl))) (g := (mkF m 12 #[.val (.long q0), .second, .val (.int p1), .val (.long q2), .second, .val (.long q3), .second, .val (.long q4), .second, .val (.long q5), .second, .val (.ref b101)] [(.long ((q0.toUInt64 >>> (p1 &&& 0x3f).toInt64.toUInt64).toInt64)), (.int (0 : Int32)), (.ref b101)])) rfl (hb hby d1_12) _ ?_
    refine XS.land X101.here hx rfl (hb hby d1_15) rfl ?_
    refine XS.l2i X101.here hx rfl (hb hby d1_16) rfl ?_
    refine XS.lloadN X101.here hx rfl (hb hby d1_17) rfl ?_
    show Steps p.tables e below (T101.setTop (mkF m 18 #[.val (.long q0), .second, .val (.int p1), .val (.long q2), .second, .val (.long q3), .second, .val (.long q4), .second, .val (.long q5), .second, .val (.ref b101)] [(.long q2), (.int ((((q0.toUInt64 >>> (p1 &&& 0x3f).toInt64.toUInt64).toInt64) &&& (15 : Int64)).toInt32)), (.int (0 : Int32)), (.ref b101)])) _
    refine XS.lload X101.here hx rfl (hb hby d1_18) rfl ?_
    refine XS.lload X101.here hx rfl (hb hby d1_20) rfl ?_
    refine XS.lload X101.here hx rfl (hb hby d1_22) rfl ?_
    show Steps p.tables e below (T101.setTop (mkF m 24 #[.val (.long q0), .second, .val (.int p1), .val (.long q2), .second, .val (.long q3), .second, .val (.long q4), .second, .val (.long q5), .second, .val (.ref b101)] [(.long q5), (.long q4), (.long q3), (.long q2), (.int ((((q0.toUInt64 >>> (p1 &&& 0x3f).toInt64.toUInt64).toInt64) &&& (15 : Int64)).toInt32)), (.int (0 : Int32)), (.ref b101)])) _
    refine st102 _ ?_
    show Steps p.tables e below (T102.setTop (mkF m 27 #[.val (.long q0), .second, .val (.int p1), .val (.long q2), .second, .val (.long q3), .second, .val (.long q4), .second, .val (.long q5), .second, .val (.ref b101)] [(.long (own_w0 q0 p1 q2 q3 q4 q5)), (.int (0 : Int32)), (.ref b101)])) _
    refine st104 _ ?_
    refine XS.aload X104.here hx rfl (hb hby d1_28) rfl rfl ?_
    refine XS.iconst X104.here hx rfl (hb hby d1_30) ?_
    refine XS.lloadN X104.here hx rfl (hb hby d1_31) rfl ?_
    show Steps p.tables e below (T104.setTop (mkF m 32 #[.val (.long q0), .second, .val (.int p1), .val (.long q2), .second, .val (.long q3), .second, .val (.long q4), .second, .val (.long q5), .second, .val (.ref b101)] [(.long q0), (.int (1 : Int32)), (.ref b101)])) _
    refine XS.iloadN X104.here hx rfl (hb hby d1_32) rfl ?_
    refine XS.iconst X104.here hx rfl (hb hby d1_33) ?_
    refine XS.iadd X104.here hx rfl (hb hby d1_34) rfl ?_
    refine XS.lushr X104.here hx rfl (hb hby d1_35) rfl ?_
    show Steps p.tables e below (T104.setTop (mkF m 36 #[.val (.long q0), .second, .val (.int p1), .val (.long q2), .second, .val (.long q3), .second, .val (.long q4), .second, .val (.long q5), .second, .val (.ref b101)] [(.long ((q0.toUInt64 >>> ((p1 + (4 : Int32)) &&& 0x3f).toInt64.toUInt64).toInt64)), (.int (1 : Int32)), (.ref b101)])) _
    refine X104.ldc2Long hx hown (mvT hZ (hw _ (List.mem_of_getElem? (i := 5) rfl))) (g := (mkF m 36 #[.val (.long q0), .second, .val (.int p1), .val (.long q2), .second, .val (.long q3), .second, .val (.long q4), .second, .val (.long q5), .second, .val (.ref b101)] [(.long ((q0.toUInt64 >>> ((p1 + (4 : Int32)) &&& 0x3f).toInt64.toUInt64).toInt64)), (.int (1 : Int32)), (.ref b101)])) rfl (hb hby d1_36) _ ?_
    refine XS.land X104.here hx rfl (hb hby d1_39) rfl ?_
    refine XS.l2i X104.here hx rfl (hb hby d1_40) rfl ?_
    refine XS.lloadN X104.here hx rfl (hb hby d1_41) rfl ?_
    show Steps p.tables e below (T104.setTop (mkF m 42 #[.val (.long q0), .second, .val (.int p1), .val (.long q2), .second, .val (.long q3), .second, .val (.long q4), .second, .val (.long q5), .second, .val (.ref b101)] [(.long q2), (.int ((((q0.toUInt64 >>> ((p1 + (4 : Int32)) &&& 0x3f).toInt64.toUInt64).toInt64) &&& (15 : Int64)).toInt32)), (.int (1 : Int32)), (.ref b101)])) _
    refine XS.lload X104.here hx rfl (hb hby d1_42) rfl ?_
    refine XS.lload X104.here hx rfl (hb hby d1_44) rfl ?_
    refine XS.lload X104.here hx rfl (hb hby d1_46) rfl ?_
    show Steps p.tables e below (T104.setTop (mkF m 48 #[.val (.long q0), .second, .val (.int p1), .val (.long q2), .second, .val (.long q3), .second, .val (.long q4), .second, .val (.long q5), .second, .val (.ref b101)] [(.long q5), (.long q4), (.long q3), (.long q2), (.int ((((q0.toUInt64 >>> ((p1 + (4 : Int32)) &&& 0x3f).toInt64.toUInt64).toInt64) &&& (15 : Int64)).toInt32)), (.int (1 : Int32)), (.ref b101)])) _
    refine st105 _ ?_
    show Steps p.tables e below (T105.setTop (mkF m 51 #[.val (.long q0), .second, .val (.int p1), .val (.long q2), .second, .val (.long q3), .second, .val (.long q4), .second, .val (.long q5), .second, .val (.ref b101)] [(.long (own_w1 q0 p1 q2 q3 q4 q5)), (.int (1 : Int32)), (.ref b101)])) _
    refine st107 _ ?_
    refine XS.aload X107.here hx rfl (hb hby d1_52) rfl rfl ?_
    refine XS.iconst X107.here hx rfl (hb hby d1_54) ?_
    refine XS.lloadN X107.here hx rfl (hb hby d1_55) rfl ?_
    show Steps p.tables e below (T107.setTop (mkF m 56 #[.val (.long q0), .second, .val (.int p1), .val (.long q2), .second, .val (.long q3), .second, .val (.long q4), .second, .val (.long q5), .second, .val (.ref b101)] [(.long q0), (.int (2 : Int32)), (.ref b101)])) _
    refine XS.iloadN X107.here hx rfl (hb hby d1_56) rfl ?_
    refine XS.bipush X107.here hx rfl (hb hby d1_57) ?_
    refine XS.iadd X107.here hx rfl (hb hby d1_59) rfl ?_
    refine XS.lushr X107.here hx rfl (hb hby d1_60) rfl ?_
    show Steps p.tables e below (T107.setTop (mkF m 61 #[.val (.long q0), .second, .val (.int p1), .val (.long q2), .second, .val (.long q3), .second, .val (.long q4), .second, .val (.long q5), .second, .val (.ref b101)] [(.long ((q0.toUInt64 >>> ((p1 + (8 : Int32)) &&& 0x3f).toInt64.toUInt64).toInt64)), (.int (2 : Int32)), (.ref b101)])) _
    refine X107.ldc2Long hx hown (mvT hZ (hw _ (List.mem_of_getElem? (i := 5) rfl))) (g := (mkF m 61 #[.val (.long q0), .second, .val (.int p1), .val (.long q2), .second, .val (.long q3), .second, .val (.long q4), .second, .val (.long q5), .second, .val (.ref b101)] [(.long ((q0.toUInt64 >>> ((p1 + (8 : Int32)) &&& 0x3f).toInt64.toUInt64).toInt64)), (.int (2 : Int32)), (.ref b101)])) rfl (hb hby d1_61) _ ?_
    refine XS.land X107.here hx rfl (hb hby d1_64) rfl ?_
    refine XS.l2i X107.here hx rfl (hb hby d1_65) rfl ?_
    refine XS.lloadN X107.here hx rfl (hb hby d1_66) rfl ?_
    show Steps p.tables e below (T107.setTop (mkF m 67 #[.val (.long q0), .second, .val (.int p1), .val (.long q2), .second, .val (.long q3), .second, .val (.long q4), .second, .val (.long q5), .second, .val (.ref b101)] [(.long q2), (.int ((((q0.toUInt64 >>> ((p1 + (8 : Int32)) &&& 0x3f).toInt64.toUInt64).toInt64) &&& (15 : Int64)).toInt32)), (.int (2 : Int32)), (.ref b101)])) _
    refine XS.lload X107.here hx rfl (hb hby d1_67) rfl ?_
    refine XS.lload X107.here hx rfl (hb hby d1_69) rfl ?_
    refine XS.lload X107.here hx rfl (hb hby d1_71) rfl ?_
    show Steps p.tables e below (T107.setTop (mkF m 73 #[.val (.long q0), .second, .val (.int p1), .val (.long q2), .second, .val (.long q3), .second, .val (.long q4), .second, .val (.long q5), .second, .val (.ref b101)] [(.long q5), (.long q4), (.long q3), (.long q2), (.int ((((q0.toUInt64 >>> ((p1 + (8 : Int32)) &&& 0x3f).toInt64.toUInt64).toInt64) &&& (15 : Int64)).toInt32)), (.int (2 : Int32)), (.ref b101)])) _
    refine st108 _ ?_
    show Steps p.tables e below (T108.setTop (mkF m 76 #[.val (.long q0), .second, .val (.int p1), .val (.long q2), .second, .val (.long q3), .second, .val (.long q4), .second, .val (.long q5), .second, .val (.ref b101)] [(.long (own_w2 q0 p1 q2 q3 q4 q5)), (.int (2 : Int32)), (.ref b101)])) _
    refine st110 _ ?_
    refine XS.aload X110.here hx rfl (hb hby d1_77) rfl rfl ?_
    refine XS.iconst X110.here hx rfl (hb hby d1_79) ?_
    refine XS.lloadN X110.here hx rfl (hb hby d1_80) rfl ?_
    show Steps p.tables e below (T110.setTop (mkF m 81 #[.val (.long q0), .second, .val (.int p1), .val (.long q2), .second, .val (.long q3), .second, .val (.long q4), .second, .val (.long q5), .second, .val (.ref b101)] [(.long q0), (.int (3 : Int32)), (.ref b101)])) _
    refine XS.iloadN X110.here hx rfl (hb hby d1_81) rfl ?_
    refine XS.bipush X110.here hx rfl (hb hby d1_82) ?_
    refine XS.iadd X110.here hx rfl (hb hby d1_84) rfl ?_
    refine XS.lushr X110.here hx rfl (hb hby d1_85) rfl ?_
    show Steps p.tables e below (T110.setTop (mkF m 86 #[.val (.long q0), .second, .val (.int p1), .val (.long q2), .second, .val (.long q3), .second, .val (.long q4), .second, .val (.long q5), .second, .val (.ref b101)] [(.long ((q0.toUInt64 >>> ((p1 + (12 : Int32)) &&& 0x3f).toInt64.toUInt64).toInt64)), (.int (3 : Int32)), (.ref b101)])) _
    refine X110.ldc2Long hx hown (mvT hZ (hw _ (List.mem_of_getElem? (i := 5) rfl))) (g := (mkF m 86 #[.val (.long q0), .second, .val (.int p1), .val (.long q2), .second, .val (.long q3), .second, .val (.long q4), .second, .val (.long q5), .second, .val (.ref b101)] [(.long ((q0.toUInt64 >>> ((p1 + (12 : Int32)) &&& 0x3f).toInt64.toUInt64).toInt64)), (.int (3 : Int32)), (.ref b101)])) rfl (hb hby d1_86) _ ?_
    refine XS.land X110.here hx rfl (hb hby d1_89) rfl ?_
    refine XS.l2i X110.here hx rfl (hb hby d1_90) rfl ?_
    refine XS.lloadN X110.here hx rfl (hb hby d1_91) rfl ?_
    show Steps p.tables e below (T110.setTop (mkF m 92 #[.val (.long q0), .second, .val (.int p1), .val (.long q2), .second, .val (.long q3), .second, .val (.long q4), .second, .val (.long q5), .second, .val (.ref b101)] [(.long q2), (.int ((((q0.toUInt64 >>> ((p1 + (12 : Int32)) &&& 0x3f).toInt64.toUInt64).toInt64) &&& (15 : Int64)).toInt32)), (.int (3 : Int32)), (.ref b101)])) _
    refine XS.lload X110.here hx rfl (hb hby d1_92) rfl ?_
    refine XS.lload X110.here hx rfl (hb hby d1_94) rfl ?_
    refine XS.lload X110.here hx rfl (hb hby d1_96) rfl ?_
    show Steps p.tables e below (T110.setTop (mkF m 98 #[.val (.long q0), .second, .val (.int p1), .val (.long q2), .second, .val (.long q3), .second, .val (.long q4), .second, .val (.long q5), .second, .val (.ref b101)] [(.long q5), (.long q4), (.long q3), (.long q2), (.int ((((q0.toUInt64 >>> ((p1 + (12 : Int32)) &&& 0x3f).toInt64.toUInt64).toInt64) &&& (15 : Int64)).toInt32)), (.int (3 : Int32)), (.ref b101)])) _
    refine st111 _ ?_
    show Steps p.tables e below (T111.setTop (mkF m 101 #[.val (.long q0), .second, .val (.int p1), .val (.long q2), .second, .val (.long q3), .second, .val (.long q4), .second, .val (.long q5), .second, .val (.ref b101)] [(.long (own_w3 q0 p1 q2 q3 q4 q5)), (.int (3 : Int32)), (.ref b101)])) _
    refine st113 _ ?_
    refine XS.aload X113.here hx rfl (hb hby d1_102) rfl rfl ?_
    refine XS.iconst X113.here hx rfl (hb hby d1_104) ?_
    refine XS.lloadN X113.here hx rfl (hb hby d1_105) rfl ?_
    show Steps p.tables e below (T113.setTop (mkF m 106 #[.val (.long q0), .second, .val (.int p1), .val (.long q2), .second, .val (.long q3), .second, .val (.long q4), .second, .val (.long q5), .second, .val (.ref b101)] [(.long q0), (.int (4 : Int32)), (.ref b101)])) _
    refine XS.iloadN X113.here hx rfl (hb hby d1_106) rfl ?_
    refine XS.bipush X113.here hx rfl (hb hby d1_107) ?_
    refine XS.iadd X113.here hx rfl (hb hby d1_109) rfl ?_
    refine XS.lushr X113.here hx rfl (hb hby d1_110) rfl ?_
    show Steps p.tables e below (T113.setTop (mkF m 111 #[.val (.long q0), .second, .val (.int p1), .val (.long q2), .second, .val (.long q3), .second, .val (.long q4), .second, .val (.long q5), .second, .val (.ref b101)] [(.long ((q0.toUInt64 >>> ((p1 + (16 : Int32)) &&& 0x3f).toInt64.toUInt64).toInt64)), (.int (4 : Int32)), (.ref b101)])) _
    refine X113.ldc2Long hx hown (mvT hZ (hw _ (List.mem_of_getElem? (i := 5) rfl))) (g := (mkF m 111 #[.val (.long q0), .second, .val (.int p1), .val (.long q2), .second, .val (.long q3), .second, .val (.long q4), .second, .val (.long q5), .second, .val (.ref b101)] [(.long ((q0.toUInt64 >>> ((p1 + (16 : Int32)) &&& 0x3f).toInt64.toUInt64).toInt64)), (.int (4 : Int32)), (.ref b101)])) rfl (hb hby d1_111) _ ?_
    refine XS.land X113.here hx rfl (hb hby d1_114) rfl ?_
    refine XS.l2i X113.here hx rfl (hb hby d1_115) rfl ?_
    refine XS.lloadN X113.here hx rfl (hb hby d1_116) rfl ?_
    show Steps p.tables e below (T113.setTop (mkF m 117 #[.val (.long q0), .second, .val (.int p1), .val (.long q2), .second, .val (.long q3), .second, .val (.long q4), .second, .val (.long q5), .second, .val (.ref b101)] [(.long q2), (.int ((((q0.toUInt64 >>> ((p1 + (16 : Int32)) &&& 0x3f).toInt64.toUInt64).toInt64) &&& (15 : Int64)).toInt32)), (.int (4 : Int32)), (.ref b101)])) _
    refine XS.lload X113.here hx rfl (hb hby d1_117) rfl ?_
    refine XS.lload X113.here hx rfl (hb hby d1_119) rfl ?_
    refine XS.lload X113.here hx rfl (hb hby d1_121) rfl ?_
    show Steps p.tables e below (T113.setTop (mkF m 123 #[.val (.long q0), .second, .val (.int p1), .val (.long q2), .second, .val (.long q3), .second, .val (.long q4), .second, .val (.long q5), .second, .val (.ref b101)] [(.long q5), (.long q4), (.long q3), (.long q2), (.int ((((q0.toUInt64 >>> ((p1 + (16 : Int32)) &&& 0x3f).toInt64.toUInt64).toInt64) &&& (15 : Int64)).toInt32)), (.int (4 : Int32)), (.ref b101)])) _
    refine st114 _ ?_
    show Steps p.tables e below (T114.setTop (mkF m 126 #[.val (.long q0), .second, .val (.int p1), .val (.long q2), .second, .val (.long q3), .second, .val (.long q4), .second, .val (.long q5), .second, .val (.ref b101)] [(.long (own_w4 q0 p1 q2 q3 q4 q5)), (.int (4 : Int32)), (.ref b101)])) _
    refine st116 _ ?_
    refine XS.aload X116.here hx rfl (hb hby d1_127) rfl rfl ?_
    refine XS.iconst X116.here hx rfl (hb hby d1_129) ?_
    refine XS.lloadN X116.here hx rfl (hb hby d1_130) rfl ?_
    show Steps p.tables e below (T116.setTop (mkF m 131 #[.val (.long q0), .second, .val (.int p1), .val (.long q2), .second, .val (.long q3), .second, .val (.long q4), .second, .val (.long q5), .second, .val (.ref b101)] [(.long q0), (.int (5 : Int32)), (.ref b101)])) _
    refine XS.iloadN X116.here hx rfl (hb hby d1_131) rfl ?_
    refine XS.bipush X116.here hx rfl (hb hby d1_132) ?_
    refine XS.iadd X116.here hx rfl (hb hby d1_134) rfl ?_
    refine XS.lushr X116.here hx rfl (hb hby d1_135) rfl ?_
    show Steps p.tables e below (T116.setTop (mkF m 136 #[.val (.long q0), .second, .val (.int p1), .val (.long q2), .second, .val (.long q3), .second, .val (.long q4), .second, .val (.long q5), .second, .val (.ref b101)] [(.long ((q0.toUInt64 >>> ((p1 + (20 : Int32)) &&& 0x3f).toInt64.toUInt64).toInt64)), (.int (5 : Int32)), (.ref b101)])) _
    refine X116.ldc2Long hx hown (mvT hZ (hw _ (List.mem_of_getElem? (i := 5) rfl))) (g := (mkF m 136 #[.val (.long q0), .second, .val (.int p1), .val (.long q2), .second, .val (.long q3), .second, .val (.long q4), .second, .val (.long q5), .second, .val (.ref b101)] [(.long ((q0.toUInt64 >>> ((p1 + (20 : Int32)) &&& 0x3f).toInt64.toUInt64).toInt64)), (.int (5 : Int32)), (.ref b101)])) rfl (hb hby d1_136) _ ?_
    refine XS.land X116.here hx rfl (hb hby d1_139) rfl ?_
    refine XS.l2i X116.here hx rfl (hb hby d1_140) rfl ?_
    refine XS.lloadN X116.here hx rfl (hb hby d1_141) rfl ?_
    show Steps p.tables e below (T116.setTop (mkF m 142 #[.val (.long q0), .second, .val (.int p1), .val (.long q2), .second, .val (.long q3), .second, .val (.long q4), .second, .val (.long q5), .second, .val (.ref b101)] [(.long q2), (.int ((((q0.toUInt64 >>> ((p1 + (20 : Int32)) &&& 0x3f).toInt64.toUInt64).toInt64) &&& (15 : Int64)).toInt32)), (.int (5 : Int32)), (.ref b101)])) _
    refine XS.lload X116.here hx rfl (hb hby d1_142) rfl ?_
    refine XS.lload X116.here hx rfl (hb hby d1_144) rfl ?_
    refine XS.lload X116.here hx rfl (hb hby d1_146) rfl ?_
    show Steps p.tables e below (T116.setTop (mkF m 148 #[.val (.long q0), .second, .val (.int p1), .val (.long q2), .second, .val (.long q3), .second, .val (.long q4), .second, .val (.long q5), .second, .val (.ref b101)] [(.long q5), (.long q4), (.long q3), (.long q2), (.int ((((q0.toUInt64 >>> ((p1 + (20 : Int32)) &&& 0x3f).toInt64.toUInt64).toInt64) &&& (15 : Int64)).toInt32)), (.int (5 : Int32)), (.ref b101)])) _
    refine st117 _ ?_
    show Steps p.tables e below (T117.setTop (mkF m 151 #[.val (.long q0), .second, .val (.int p1), .val (.long q2), .second, .val (.long q3), .second, .val (.long q4), .second, .val (.long q5), .second, .val (.ref b101)] [(.long (own_w5 q0 p1 q2 q3 q4 q5)), (.int (5 : Int32)), (.ref b101)])) _
    refine st119 _ ?_
    refine XS.aload X119.here hx rfl (hb hby d1_152) rfl rfl ?_
    refine XS.bipush X119.here hx rfl (hb hby d1_154) ?_
    refine XS.lloadN X119.here hx rfl (hb hby d1_156) rfl ?_
    show Steps p.tables e below (T119.setTop (mkF m 157 #[.val (.long q0), .second, .val (.int p1), .val (.long q2), .second, .val (.long q3), .second, .val (.long q4), .second, .val (.long q5), .second, .val (.ref b101)] [(.long q0), (.int (6 : Int32)), (.ref b101)])) _
    refine XS.iloadN X119.here hx rfl (hb hby d1_157) rfl ?_
    refine XS.bipush X119.here hx rfl (hb hby d1_158) ?_
    refine XS.iadd X119.here hx rfl (hb hby d1_160) rfl ?_
    refine XS.lushr X119.here hx rfl (hb hby d1_161) rfl ?_
    show Steps p.tables e below (T119.setTop (mkF m 162 #[.val (.long q0), .second, .val (.int p1), .val (.long q2), .second, .val (.long q3), .second, .val (.long q4), .second, .val (.long q5), .second, .val (.ref b101)] [(.long ((q0.toUInt64 >>> ((p1 + (24 : Int32)) &&& 0x3f).toInt64.toUInt64).toInt64)), (.int (6 : Int32)), (.ref b101)])) _
    refine X119.ldc2Long hx hown (mvT hZ (hw _ (List.mem_of_getElem? (i := 5) rfl))) (g := (mkF m 162 #[.val (.long q0), .second, .val (.int p1), .val (.long q2), .second, .val (.long q3), .second, .val (.long q4), .second, .val (.long q5), .second, .val (.ref b101)] [(.long ((q0.toUInt64 >>> ((p1 + (24 : Int32)) &&& 0x3f).toInt64.toUInt64).toInt64)), (.int (6 : Int32)), (.ref b101)])) rfl (hb hby d1_162) _ ?_
    refine XS.land X119.here hx rfl (hb hby d1_165) rfl ?_
    refine XS.l2i X119.here hx rfl (hb hby d1_166) rfl ?_
    refine XS.lloadN X119.here hx rfl (hb hby d1_167) rfl ?_
    show Steps p.tables e below (T119.setTop (mkF m 168 #[.val (.long q0), .second, .val (.int p1), .val (.long q2), .second, .val (.long q3), .second, .val (.long q4), .second, .val (.long q5), .second, .val (.ref b101)] [(.long q2), (.int ((((q0.toUInt64 >>> ((p1 + (24 : Int32)) &&& 0x3f).toInt64.toUInt64).toInt64) &&& (15 : Int64)).toInt32)), (.int (6 : Int32)), (.ref b101)])) _
    refine XS.lload X119.here hx rfl (hb hby d1_168) rfl ?_
    refine XS.lload X119.here hx rfl (hb hby d1_170) rfl ?_
    refine XS.lload X119.here hx rfl (hb hby d1_172) rfl ?_
    show Steps p.tables e below (T119.setTop (mkF m 174 #[.val (.long q0), .second, .val (.int p1), .val (.long q2), .second, .val (.long q3), .second, .val (.long q4), .second, .val (.long q5), .second, .val (.ref b101)] [(.long q5), (.long q4), (.long q3), (.long q2), (.int ((((q0.toUInt64 >>> ((p1 + (24 : Int32)) &&& 0x3f).toInt64.toUInt64).toInt64) &&& (15 : Int64)).toInt32)), (.int (6 : Int32)), (.ref b101)])) _
    refine st120 _ ?_
    show Steps p.tables e below (T120.setTop (mkF m 177 #[.val (.long q0), .second, .val (.int p1), .val (.long q2), .second, .val (.long q3), .second, .val (.long q4), .second, .val (.long q5), .second, .val (.ref b101)] [(.long (own_w6 q0 p1 q2 q3 q4 q5)), (.int (6 : Int32)), (.ref b101)])) _
    refine st122 _ ?_
    refine XS.aload X122.here hx rfl (hb hby d1_178) rfl rfl ?_
    refine XS.bipush X122.here hx rfl (hb hby d1_180) ?_
    refine XS.lloadN X122.here hx rfl (hb hby d1_182) rfl ?_
    show Steps p.tables e below (T122.setTop (mkF m 183 #[.val (.long q0), .second, .val (.int p1), .val (.long q2), .second, .val (.long q3), .second, .val (.long q4), .second, .val (.long q5), .second, .val (.ref b101)] [(.long q0), (.int (7 : Int32)), (.ref b101)])) _
    refine XS.iloadN X122.here hx rfl (hb hby d1_183) rfl ?_
    refine XS.bipush X122.here hx rfl (hb hby d1_184) ?_
    refine XS.iadd X122.here hx rfl (hb hby d1_186) rfl ?_
    refine XS.lushr X122.here hx rfl (hb hby d1_187) rfl ?_
    show Steps p.tables e below (T122.setTop (mkF m 188 #[.val (.long q0), .second, .val (.int p1), .val (.long q2), .second, .val (.long q3), .second, .val (.long q4), .second, .val (.long q5), .second, .val (.ref b101)] [(.long ((q0.toUInt64 >>> ((p1 + (28 : Int32)) &&& 0x3f).toInt64.toUInt64).toInt64)), (.int (7 : Int32)), (.ref b101)])) _
    refine X122.ldc2Long hx hown (mvT hZ (hw _ (List.mem_of_getElem? (i := 5) rfl))) (g := (mkF m 188 #[.val (.long q0), .second, .val (.int p1), .val (.long q2), .second, .val (.long q3), .second, .val (.long q4), .second, .val (.long q5), .second, .val (.ref b101)] [(.long ((q0.toUInt64 >>> ((p1 + (28 : Int32)) &&& 0x3f).toInt64.toUInt64).toInt64)), (.int (7 : Int32)), (.ref b101)])) rfl (hb hby d1_188) _ ?_
    refine XS.land X122.here hx rfl (hb hby d1_191) rfl ?_
    refine XS.l2i X122.here hx rfl (hb hby d1_192) rfl ?_
    refine XS.lloadN X122.here hx rfl (hb hby d1_193) rfl ?_
    show Steps p.tables e below (T122.setTop (mkF m 194 #[.val (.long q0), .second, .val (.int p1), .val (.long q2), .second, .val (.long q3), .second, .val (.long q4), .second, .val (.long q5), .second, .val (.ref b101)] [(.long q2), (.int ((((q0.toUInt64 >>> ((p1 + (28 : Int32)) &&& 0x3f).toInt64.toUInt64).toInt64) &&& (15 : Int64)).toInt32)), (.int (7 : Int32)), (.ref b101)])) _
    refine XS.lload X122.here hx rfl (hb hby d1_194) rfl ?_
    refine XS.lload X122.here hx rfl (hb hby d1_196) rfl ?_
    refine XS.lload X122.here hx rfl (hb hby d1_198) rfl ?_
    show Steps p.tables e below (T122.setTop (mkF m 200 #[.val (.long q0), .second, .val (.int p1), .val (.long q2), .second, .val (.long q3), .second, .val (.long q4), .second, .val (.long q5), .second, .val (.ref b101)] [(.long q5), (.long q4), (.long q3), (.long q2), (.int ((((q0.toUInt64 >>> ((p1 + (28 : Int32)) &&& 0x3f).toInt64.toUInt64).toInt64) &&& (15 : Int64)).toInt32)), (.int (7 : Int32)), (.ref b101)])) _
    refine st123 _ ?_
    show Steps p.tables e below (T123.setTop (mkF m 203 #[.val (.long q0), .second, .val (.int p1), .val (.long q2), .second, .val (.long q3), .second, .val (.long q4), .second, .val (.long q5), .second, .val (.ref b101)] [(.long (own_w7 q0 p1 q2 q3 q4 q5)), (.int (7 : Int32)), (.ref b101)])) _
    refine st125 _ ?_
    refine XS.aload X125.here hx rfl (hb hby d1_204) rfl rfl ?_
    show Steps p.tables e below (T125.setTop (mkF m 206 #[.val (.long q0), .second, .val (.int p1), .val (.long q2), .second, .val (.long q3), .second, .val (.long q4), .second, .val (.long q5), .second, .val (.ref b101)] [(.ref b101)])) _
    refine st126 _ ?_
    exact k
  by_cases hc128 : (own_below (own_w0 q0 p1 q2 q3 q4 q5) (own_w1 q0 p1 q2 q3 q4 q5) (own_w2 q0 p1 q2 q3 q4 q5) (own_w3 q0 p1 q2 q3 q4 q5) (own_w4 q0 p1 q2 q3 q4 q5) (own_w5 q0 p1 q2 q3 q4 q5) (own_w6 q0 p1 q2 q3 q4 q5) (own_w7 q0 p1 q2 q3 q4 q5)) = (0 : Int32)
  · obtain ⟨cl129, Ar129, q129, S129, M129, H129, G129⟩ := id V125b
    obtain ⟨T130, h130, X130, e130, W130, st130⟩ := stJ X126 hx hZ e126 Ar129 (j := (7 : Int32)) (inb_of S129 ⟨by decide, by decide⟩) (g := (mkF m 219 #[.val (.long q0), .second, .val (.int p1), .val (.long q2), .second, .val (.long q3), .second, .val (.long q4), .second, .val (.long q5), .second, .val (.ref b101)] [(.long (4294967294 : Int64)), (.int (7 : Int32)), (.ref b101)])) rfl rfl (hb hby d1_219)
    have V130 := Arv.set Ar129 q129 S129 M129 H129 G129 rfl W130 7 rfl (Nat.le_of_ble_eq_true rfl)
    have K130 : Keep h0 h130 [] := K125.wr W130 (Or.inr sz101)
    have N130 := Fr.snoc X130 N126 ge101
    have Z130 : n0 ≤ h130.size := Nat.le_trans Z125 (Keep.of_wr W130).1
    have V130b : Arv Z h130 b101 k101 .long (8 : Int32) [(.long (own_w0 q0 p1 q2 q3 q4 q5)), (.long (own_w1 q0 p1 q2 q3 q4 q5)), (.long (own_w2 q0 p1 q2 q3 q4 q5)), (.long (own_w3 q0 p1 q2 q3 q4 q5)), (.long (own_w4 q0 p1 q2 q3 q4 q5)), (.long (own_w5 q0 p1 q2 q3 q4 q5)), (.long (own_w6 q0 p1 q2 q3 q4 q5)), (.long (4294967294 : Int64))] (.long (0 : Int64)) := V130
    obtain ⟨fs, hr, hrun, hended, hW, hsame⟩ := X130.leave (v := some (.ref b101)) (fun h => by rw [Bd.returns] at h; cases h)
    refine ⟨_, _, pre127 _ ?_, hrun, hended, _, _, rfl, ?_, ⟨_, rfl⟩, hW, hsame.mono (by decide) (by decide)⟩
    · show Steps p.tables e below (T126.setTop (mkF m 209 #[.val (.long q0), .second, .val (.int p1), .val (.long q2), .second, .val (.long q3), .second, .val (.long q4), .second, .val (.long q5), .second, .val (.ref b101)] [(.int (own_below (own_w0 q0 p1 q2 q3 q4 q5) (own_w1 q0 p1 q2 q3 q4 q5) (own_w2 q0 p1 q2 q3 q4 q5) (own_w3 q0 p1 q2 q3 q4 q5) (own_w4 q0 p1 q2 q3 q4 q5) (own_w5 q0 p1 q2 q3 q4 q5) (own_w6 q0 p1 q2 q3 q4 q5) (own_w7 q0 p1 q2 q3 q4 q5)))])) _
      refine XS.ifNo X126.here hx rfl (hb hby d1_209) rfl ((if0 _ _).trans (teq hc128).2) ?_
      refine XS.aload X126.here hx rfl (hb hby d1_212) rfl rfl ?_
      refine XS.bipush X126.here hx rfl (hb hby d1_214) ?_
      show Steps p.tables e below (T126.setTop (mkF m 216 #[.val (.long q0), .second, .val (.int p1), .val (.long q2), .second, .val (.long q3), .second, .val (.long q4), .second, .val (.long q5), .second, .val (.ref b101)] [(.int (7 : Int32)), (.ref b101)])) _
      refine X126.ldc2Long hx hown (mvT hZ (hw _ (List.mem_of_getElem? (i := 42) rfl))) (g := (mkF m 216 #[.val (.long q0), .second, .val (.int p1), .val (.long q2), .second, .val (.long q3), .second, .val (.long q4), .second, .val (.long q5), .second, .val (.ref b101)] [(.int (7 : Int32)), (.ref b101)])) rfl (hb hby d1_216) _ ?_
      show Steps p.tables e below (T126.setTop (mkF m 219 #[.val (.long q0), .second, .val (.int p1), .val (.long q2), .second, .val (.long q3), .second, .val (.long q4), .second, .val (.long q5), .second, .val (.ref b101)] [(.long (4294967294 : Int64)), (.int (7 : Int32)), (.ref b101)])) _
      refine st130 _ ?_
      refine XS.aload X130.here hx rfl (hb hby d1_220) rfl rfl ?_
      show Steps p.tables e below (T130.setTop (mkF m 222 #[.val (.long q0), .second, .val (.int p1), .val (.long q2), .second, .val (.long q3), .second, .val (.long q4), .second, .val (.long q5), .second, .val (.ref b101)] [(.ref b101)])) _
      exact retOut X130 hx (t := (.array .long)) Bd.returns rfl (Or.inr (Or.inr (Or.inr (Or.inr ⟨rfl, rfl, rfl⟩)))) (hb hby d1_222) hr
    · show Q1 Z q0 p1 q2 q3 q4 q5 h0 n0 _ T130.heap _
      rw [e130]
      have q7 : own_e7 q0 p1 q2 q3 q4 q5 = (4294967294 : Int64) := if_pos hc128
      exact ⟨_, _, rfl, N130, K130, sz101, by rw [q7]; exact V130b⟩
  · obtain ⟨fs, hr, hrun, hended, hW, hsame⟩ := X126.leave (v := some (.ref b101)) (fun h => by rw [Bd.returns] at h; cases h)
    refine ⟨_, _, pre127 _ ?_, hrun, hended, _, _, rfl, ?_, ⟨_, rfl⟩, hW, hsame.mono (by decide) (by decide)⟩
    · show Steps p.tables e below (T126.setTop (mkF m 209 #[.val (.long q0), .second, .val (.int p1), .val (.long q2), .second, .val (.long q3), .second, .val (.long q4), .second, .val (.long q5), .second, .val (.ref b101)] [(.int (own_below (own_w0 q0 p1 q2 q3 q4 q5) (own_w1 q0 p1 q2 q3 q4 q5) (own_w2 q0 p1 q2 q3 q4 q5) (own_w3 q0 p1 q2 q3 q4 q5) (own_w4 q0 p1 q2 q3 q4 q5) (own_w5 q0 p1 q2 q3 q4 q5) (own_w6 q0 p1 q2 q3 q4 q5) (own_w7 q0 p1 q2 q3 q4 q5)))])) _
      refine XS.ifYes X126.here hx rfl (pc0 := 209) (pc' := 220) rfl (hb hby d1_209) rfl ((if0 _ _).trans (feq hc128).2) (by decide) (by decide) ?_
      refine XS.aload X126.here hx rfl (hb hby d1_220) rfl rfl ?_
      show Steps p.tables e below (T126.setTop (mkF m 222 #[.val (.long q0), .second, .val (.int p1), .val (.long q2), .second, .val (.long q3), .second, .val (.long q4), .second, .val (.long q5), .second, .val (.ref b101)] [(.ref b101)])) _
      exact retOut X126 hx (t := (.array .long)) Bd.returns rfl (Or.inr (Or.inr (Or.inr (Or.inr ⟨rfl, rfl, rfl⟩)))) (hb hby d1_222) hr
    · show Q1 Z q0 p1 q2 q3 q4 q5 h0 n0 _ T126.heap _
      rw [e126]
      have q7 : own_e7 q0 p1 q2 q3 q4 q5 = own_w7 q0 p1 q2 q3 q4 q5 := if_neg hc128
      exact ⟨_, _, rfl, N126, K125, sz101, by rw [q7]; exact V125b⟩
def own_same (u0 u1 u2 u3 u4 u5 u6 u7 t0 t1 t2 t3 t4 t5 t6 t7 : Int64) : Int32 := if u0 = t0 then (if u1 = t1 then (if u2 = t2 then (if u3 = t3 then (if u4 = t4 then (if u5 = t5 then (if u6 = t6 then (if u7 = t7 then (1) else 0) else 0) else 0) else 0) else 0) else 0) else 0) else 0
theorem own_same_refl {u0 u1 u2 u3 u4 u5 u6 u7 : Int64} : own_same u0 u1 u2 u3 u4 u5 u6 u7 u0 u1 u2 u3 u4 u5 u6 u7 = (1 : Int32) := by simp [own_same]
theorem d5_0 : decode method_8_code 0 = .ok (.aload_n 0, 1) := by decide +kernel
theorem d5_1 : decode method_8_code 1 = .ok (.iconst 0, 1) := by decide +kernel
theorem d5_2 : decode method_8_code 2 = .ok (.laload, 1) := by decide +kernel
theorem d5_3 : decode method_8_code 3 = .ok (.aload_n 1, 1) := by decide +kernel
theorem d5_4 : decode method_8_code 4 = .ok (.iconst 0, 1) := by decide +kernel
theorem d5_5 : decode method_8_code 5 = .ok (.laload, 1) := by decide +kernel
theorem d5_6 : decode method_8_code 6 = .ok (.lcmp, 1) := by decide +kernel
theorem d5_7 : decode method_8_code 7 = .ok (.ifCond .ne 81, 3) := by decide +kernel
theorem d5_10 : decode method_8_code 10 = .ok (.aload_n 0, 1) := by decide +kernel
theorem d5_11 : decode method_8_code 11 = .ok (.iconst 1, 1) := by decide +kernel
theorem d5_12 : decode method_8_code 12 = .ok (.laload, 1) := by decide +kernel
theorem d5_13 : decode method_8_code 13 = .ok (.aload_n 1, 1) := by decide +kernel
theorem d5_14 : decode method_8_code 14 = .ok (.iconst 1, 1) := by decide +kernel
theorem d5_15 : decode method_8_code 15 = .ok (.laload, 1) := by decide +kernel
theorem d5_16 : decode method_8_code 16 = .ok (.lcmp, 1) := by decide +kernel
theorem d5_17 : decode method_8_code 17 = .ok (.ifCond .ne 71, 3) := by decide +kernel
theorem d5_20 : decode method_8_code 20 = .ok (.aload_n 0, 1) := by decide +kernel
theorem d5_21 : decode method_8_code 21 = .ok (.iconst 2, 1) := by decide +kernel
theorem d5_22 : decode method_8_code 22 = .ok (.laload, 1) := by decide +kernel
theorem d5_23 : decode method_8_code 23 = .ok (.aload_n 1, 1) := by decide +kernel
theorem d5_24 : decode method_8_code 24 = .ok (.iconst 2, 1) := by decide +kernel
theorem d5_25 : decode method_8_code 25 = .ok (.laload, 1) := by decide +kernel
theorem d5_26 : decode method_8_code 26 = .ok (.lcmp, 1) := by decide +kernel
theorem d5_27 : decode method_8_code 27 = .ok (.ifCond .ne 61, 3) := by decide +kernel
theorem d5_30 : decode method_8_code 30 = .ok (.aload_n 0, 1) := by decide +kernel
theorem d5_31 : decode method_8_code 31 = .ok (.iconst 3, 1) := by decide +kernel
theorem d5_32 : decode method_8_code 32 = .ok (.laload, 1) := by decide +kernel
theorem d5_33 : decode method_8_code 33 = .ok (.aload_n 1, 1) := by decide +kernel
theorem d5_34 : decode method_8_code 34 = .ok (.iconst 3, 1) := by decide +kernel
theorem d5_35 : decode method_8_code 35 = .ok (.laload, 1) := by decide +kernel
theorem d5_36 : decode method_8_code 36 = .ok (.lcmp, 1) := by decide +kernel
theorem d5_37 : decode method_8_code 37 = .ok (.ifCond .ne 51, 3) := by decide +kernel
theorem d5_40 : decode method_8_code 40 = .ok (.aload_n 0, 1) := by decide +kernel
theorem d5_41 : decode method_8_code 41 = .ok (.iconst 4, 1) := by decide +kernel
theorem d5_42 : decode method_8_code 42 = .ok (.laload, 1) := by decide +kernel
theorem d5_43 : decode method_8_code 43 = .ok (.aload_n 1, 1) := by decide +kernel
theorem d5_44 : decode method_8_code 44 = .ok (.iconst 4, 1) := by decide +kernel
theorem d5_45 : decode method_8_code 45 = .ok (.laload, 1) := by decide +kernel
theorem d5_46 : decode method_8_code 46 = .ok (.lcmp, 1) := by decide +kernel
theorem d5_47 : decode method_8_code 47 = .ok (.ifCond .ne 41, 3) := by decide +kernel
theorem d5_50 : decode method_8_code 50 = .ok (.aload_n 0, 1) := by decide +kernel
theorem d5_51 : decode method_8_code 51 = .ok (.iconst 5, 1) := by decide +kernel
theorem d5_52 : decode method_8_code 52 = .ok (.laload, 1) := by decide +kernel
theorem d5_53 : decode method_8_code 53 = .ok (.aload_n 1, 1) := by decide +kernel
theorem d5_54 : decode method_8_code 54 = .ok (.iconst 5, 1) := by decide +kernel
theorem d5_55 : decode method_8_code 55 = .ok (.laload, 1) := by decide +kernel
theorem d5_56 : decode method_8_code 56 = .ok (.lcmp, 1) := by decide +kernel
theorem d5_57 : decode method_8_code 57 = .ok (.ifCond .ne 31, 3) := by decide +kernel
theorem d5_60 : decode method_8_code 60 = .ok (.aload_n 0, 1) := by decide +kernel
theorem d5_61 : decode method_8_code 61 = .ok (.bipush 6, 2) := by decide +kernel
theorem d5_63 : decode method_8_code 63 = .ok (.laload, 1) := by decide +kernel
theorem d5_64 : decode method_8_code 64 = .ok (.aload_n 1, 1) := by decide +kernel
theorem d5_65 : decode method_8_code 65 = .ok (.bipush 6, 2) := by decide +kernel
theorem d5_67 : decode method_8_code 67 = .ok (.laload, 1) := by decide +kernel
theorem d5_68 : decode method_8_code 68 = .ok (.lcmp, 1) := by decide +kernel
theorem d5_69 : decode method_8_code 69 = .ok (.ifCond .ne 19, 3) := by decide +kernel
theorem d5_72 : decode method_8_code 72 = .ok (.aload_n 0, 1) := by decide +kernel
theorem d5_73 : decode method_8_code 73 = .ok (.bipush 7, 2) := by decide +kernel
theorem d5_75 : decode method_8_code 75 = .ok (.laload, 1) := by decide +kernel
theorem d5_76 : decode method_8_code 76 = .ok (.aload_n 1, 1) := by decide +kernel
theorem d5_77 : decode method_8_code 77 = .ok (.bipush 7, 2) := by decide +kernel
theorem d5_79 : decode method_8_code 79 = .ok (.laload, 1) := by decide +kernel
theorem d5_80 : decode method_8_code 80 = .ok (.lcmp, 1) := by decide +kernel
theorem d5_81 : decode method_8_code 81 = .ok (.ifCond .ne 7, 3) := by decide +kernel
theorem d5_84 : decode method_8_code 84 = .ok (.iconst 1, 1) := by decide +kernel
theorem d5_85 : decode method_8_code 85 = .ok (.goto 4, 3) := by decide +kernel
theorem d5_89 : decode method_8_code 89 = .ok (.ireturn, 1) := by decide +kernel
theorem d5_88 : decode method_8_code 88 = .ok (.iconst 0, 1) := by decide +kernel
theorem ef_rm5 (m : MethodId) (x0 : Addr) (x1 : Addr) : entryFrame m #[(.ref x0), (.ref x1)] 2 = mkF m 0 #[.val (.ref x0), .val (.ref x1)] [] := by first | (simp [entryFrame, mkF, argsToLocals, Value.category]; done) | rfl
def Q5 (Z : State) (a0 : Addr) (a1 : Addr) (kk0 : ClassId) (kk1 : ClassId) (u0 : Int64) (u1 : Int64) (u2 : Int64) (u3 : Int64) (u4 : Int64) (u5 : Int64) (u6 : Int64) (u7 : Int64) (t0 : Int64) (t1 : Int64) (t2 : Int64) (t3 : Int64) (t4 : Int64) (t5 : Int64) (t6 : Int64) (t7 : Int64) (h0 : Heap) (n0 : Nat) (v : Option Value) (h : Heap) (L : List Loc) : Prop := v = some (.int (own_same u0 u1 u2 u3 u4 u5 u6 u7 t0 t1 t2 t3 t4 t5 t6 t7)) ∧ Fr n0 L ∧ h = h0
set_option maxRecDepth 65536 in
set_option maxHeartbeats 40000000 in
theorem rm5 (l : Launch) (Z : State) (aw : Array Value) (hw : ∀ d ∈ tables_1, d.before aw Z = true) (ws : List Jvm.Cond) (a0 : Addr) (a1 : Addr) (kk0 : ClassId) (kk1 : ClassId) (u0 : Int64) (u1 : Int64) (u2 : Int64) (u3 : Int64) (u4 : Int64) (u5 : Int64) (u6 : Int64) (u7 : Int64) (t0 : Int64) (t1 : Int64) (t2 : Int64) (t3 : Int64) (t4 : Int64) (t5 : Int64) (t6 : Int64) (t7 : Int64) (h0 : Heap) (n0 : Nat) (Z0 : n0 ≤ h0.size) (V0 : Arv Z h0 a0 kk0 .long (8 : Int32) [(.long u0), (.long u1), (.long u2), (.long u3), (.long u4), (.long u5), (.long u6), (.long u7)] (.long (0 : Int64))) (V1 : Arv Z h0 a1 kk1 .long (8 : Int32) [(.long t0), (.long t1), (.long t2), (.long t3), (.long t4), (.long t5), (.long t6), (.long t7)] (.long (0 : Int64))) :
    MetFree l (⟨"com/example/serialroute/serialroute/core/P256FieldSubtractPinLaw", "same", "([J[J)Z"⟩ : MethodName) (head1 (Jvm.Cond.code (⟨"com/example/serialroute/serialroute/core/P256FieldSubtractPinLaw", "same", "([J[J)Z"⟩ : MethodName) method_8_code 2 (some .boolean) :: ws) ({ frames := 0, cells := 0, slots := 0, locals := 0 } : Room)) (fun a U => a = #[(.ref a0), (.ref a1)] ∧ Z.Warmed39 U.vm ∧ U.heap = h0) (fun _ _ _ _ _ => True) (fun _ U oc U' => ∃ v L, oc = .returned v ∧ Q5 Z a0 a1 kk0 kk1 u0 u1 u2 u3 u4 u5 u6 u7 t0 t1 t2 t3 t4 t5 t6 t7 h0 n0 v U'.heap L ∧ FrameEnd U oc U' L ({ frames := 0, cells := 0, slots := 0, locals := 0 } : Room).cells ({ frames := 0, cells := 0, slots := 0, locals := 0 } : Room).slots) := by
  refine MetFree.of_bodySF (plainFor_of_name pn_0) hisR ?_
  intro p e s m args below meth c s₁ Bd hml0 hP hK
  obtain ⟨rfl, hZ, hh⟩ := hP
  have hx := Bd.exec
  have hby := Bd.bytes
  have hml : c.maxLocals = 2 := hml0
  have hown : s.vm.findClass "com/example/serialroute/serialroute/core/P256FieldSubtractPinLaw" = some m.cls := findClass_of_methodNamed Bd.named
  have hnm := (name_of_methodNamed Bd.named Bd.method).1
  have X0 : Stand p l e ({ frames := 0, cells := 0, slots := 0, locals := 0 } : Room) s m #[(.ref a0), (.ref a1)] below meth c s₁ [] 0 0 := Stand.of_body Bd
  have e0 : s₁.heap = h0 := by rw [← hh, Bd.state]; rfl
  have N0 := Fr.nil n0
  have pre0 : ∀ t, Steps p.tables e below (s₁.setTop (mkF m 0 #[.val (.ref a0), .val (.ref a1)] [])) t → Steps p.tables e below (s₁.setTop (entryFrame m #[(.ref a0), (.ref a1)] 2)) t := fun t k => castTop (ef_rm5 m a0 a1) k
  obtain ⟨cl101, Ar101, q101, S101, M101, H101, G101⟩ := id V0
  obtain ⟨cl102, Ar102, q102, S102, M102, H102, G102⟩ := id V1
  have pre103 : ∀ t, Steps p.tables e below (s₁.setTop (mkF m 7 #[.val (.ref a0), .val (.ref a1)] [(.int (lcmpW u0 t0))])) t → Steps p.tables e below (s₁.setTop (entryFrame m #[(.ref a0), (.ref a1)] 2)) t := fun t k => by
    refine pre0 t ?_
    show Steps p.tables e below (s₁.setTop (mkF m 0 #[.val (.ref a0), .val (.ref a1)] [])) _
    refine XS.aloadN X0.here hx rfl (hb hby d5_0) rfl rfl ?_
    refine XS.iconst X0.here hx rfl (hb hby d5_1) ?_
    show Steps p.tables e below (s₁.setTop (mkF m 2 #[.val (.ref a0), .val (.ref a1)] [(.int (0 : Int32)), (.ref a0)])) _
    have hin101 : ¬ ((0 : Int32) < 0 ∨ cl101.slots.size ≤ ((0 : Int32)).toNatClampNeg) := (inb_of S101 ⟨by decide, by decide⟩)
    refine X0.laload hx (j := (0 : Int32)) (v := (.long u0)) (by rw [e0]; exact Ar101.1) (State.isArrayOf_alike hZ.alike Ar101.2.1) Ar101.2.2 hin101 (H101.at hin101 rfl) (g := (mkF m 2 #[.val (.ref a0), .val (.ref a1)] [(.int (0 : Int32)), (.ref a0)])) rfl rfl (hb hby d5_2) _ ?_
    refine XS.aloadN X0.here hx rfl (hb hby d5_3) rfl rfl ?_
    refine XS.iconst X0.here hx rfl (hb hby d5_4) ?_
    show Steps p.tables e below (s₁.setTop (mkF m 5 #[.val (.ref a0), .val (.ref a1)] [(.int (0 : Int32)), (.ref a1), (.long u0)])) _
    have hin102 : ¬ ((0 : Int32) < 0 ∨ cl102.slots.size ≤ ((0 : Int32)).toNatClampNeg) := (inb_of S102 ⟨by decide, by decide⟩)
    refine X0.laload hx (j := (0 : Int32)) (v := (.long t0)) (by rw [e0]; exact Ar102.1) (State.isArrayOf_alike hZ.alike Ar102.2.1) Ar102.2.2 hin102 (H102.at hin102 rfl) (g := (mkF m 5 #[.val (.ref a0), .val (.ref a1)] [(.int (0 : Int32)), (.ref a1), (.long u0)])) rfl rfl (hb hby d5_5) _ ?_
    refine XS.lcmp X0.here hx rfl (hb hby d5_6) rfl ?_
    exact k
  by_cases hc104 : u0 = t0
  · obtain ⟨cl105, Ar105, q105, S105, M105, H105, G105⟩ := id V0
    obtain ⟨cl106, Ar106, q106, S106, M106, H106, G106⟩ := id V1
    have pre107 : ∀ t, Steps p.tables e below (s₁.setTop (mkF m 17 #[.val (.ref a0), .val (.ref a1)] [(.int (lcmpW u1 t1))])) t → Steps p.tables e below (s₁.setTop (entryFrame m #[(.ref a0), (.ref a1)] 2)) t := fun t k => by
      refine pre103 t ?_
      show Steps p.tables e below (s₁.setTop (mkF m 7 #[.val (.ref a0), .val (.ref a1)] [(.int (lcmpW u0 t0))])) _
      refine XS.ifNo X0.here hx rfl (hb hby d5_7) rfl ((if0 _ _).trans (teq ((lw_eq u0 t0).mpr hc104)).2) ?_
      refine XS.aloadN X0.here hx rfl (hb hby d5_10) rfl rfl ?_
      refine XS.iconst X0.here hx rfl (hb hby d5_11) ?_
      show Steps p.tables e below (s₁.setTop (mkF m 12 #[.val (.ref a0), .val (.ref a1)] [(.int (1 : Int32)), (.ref a0)])) _
      have hin105 : ¬ ((1 : Int32) < 0 ∨ cl105.slots.size ≤ ((1 : Int32)).toNatClampNeg) := (inb_of S105 ⟨by decide, by decide⟩)
      refine X0.laload hx (j := (1 : Int32)) (v := (.long u1)) (by rw [e0]; exact Ar105.1) (State.isArrayOf_alike hZ.alike Ar105.2.1) Ar105.2.2 hin105 (H105.at hin105 rfl) (g := (mkF m 12 #[.val (.ref a0), .val (.ref a1)] [(.int (1 : Int32)), (.ref a0)])) rfl rfl (hb hby d5_12) _ ?_
      refine XS.aloadN X0.here hx rfl (hb hby d5_13) rfl rfl ?_
      refine XS.iconst X0.here hx rfl (hb hby d5_14) ?_
      show Steps p.tables e below (s₁.setTop (mkF m 15 #[.val (.ref a0), .val (.ref a1)] [(.int (1 : Int32)), (.ref a1), (.long u1)])) _
      have hin106 : ¬ ((1 : Int32) < 0 ∨ cl106.slots.size ≤ ((1 : Int32)).toNatClampNeg) := (inb_of S106 ⟨by decide, by decide⟩)
      refine X0.laload hx (j := (1 : Int32)) (v := (.long t1)) (by rw [e0]; exact Ar106.1) (State.isArrayOf_alike hZ.alike Ar106.2.1) Ar106.2.2 hin106 (H106.at hin106 rfl) (g := (mkF m 15 #[.val (.ref a0), .val (.ref a1)] [(.int (1 : Int32)), (.ref a1), (.long u1)])) rfl rfl (hb hby d5_15) _ ?_
      refine XS.lcmp X0.here hx rfl (hb hby d5_16) rfl ?_
      exact k
    by_cases hc108 : u1 = t1
    · obtain ⟨cl109, Ar109, q109, S109, M109, H109, G109⟩ := id V0
      obtain ⟨cl110, Ar110, q110, S110, M110, H110, G110⟩ := id V1
      have pre111 : ∀ t, Steps p.tables e below (s₁.setTop (mkF m 27 #[.val (.ref a0), .val (.ref a1)] [(.int (lcmpW u2 t2))])) t → Steps p.tables e below (s₁.setTop (entryFrame m #[(.ref a0), (.ref a1)] 2)) t := fun t k => by
        refine pre107 t ?_
        show Steps p.tables e below (s₁.setTop (mkF m 17 #[.val (.ref a0), .val (.ref a1)] [(.int (lcmpW u1 t1))])) _
        refine XS.ifNo X0.here hx rfl (hb hby d5_17) rfl ((if0 _ _).trans (teq ((lw_eq u1 t1).mpr hc108)).2) ?_
        refine XS.aloadN X0.here hx rfl (hb hby d5_20) rfl rfl ?_
        refine XS.iconst X0.here hx rfl (hb hby d5_21) ?_
        show Steps p.tables e below (s₁.setTop (mkF m 22 #[.val (.ref a0), .val (.ref a1)] [(.int (2 : Int32)), (.ref a0)])) _
        have hin109 : ¬ ((2 : Int32) < 0 ∨ cl109.slots.size ≤ ((2 : Int32)).toNatClampNeg) := (inb_of S109 ⟨by decide, by decide⟩)
        refine X0.laload hx (j := (2 : Int32)) (v := (.long u2)) (by rw [e0]; exact Ar109.1) (State.isArrayOf_alike hZ.alike Ar109.2.1) Ar109.2.2 hin109 (H109.at hin109 rfl) (g := (mkF m 22 #[.val (.ref a0), .val (.ref a1)] [(.int (2 : Int32)), (.ref a0)])) rfl rfl (hb hby d5_22) _ ?_
        refine XS.aloadN X0.here hx rfl (hb hby d5_23) rfl rfl ?_
        refine XS.iconst X0.here hx rfl (hb hby d5_24) ?_
        show Steps p.tables e below (s₁.setTop (mkF m 25 #[.val (.ref a0), .val (.ref a1)] [(.int (2 : Int32)), (.ref a1), (.long u2)])) _
        have hin110 : ¬ ((2 : Int32) < 0 ∨ cl110.slots.size ≤ ((2 : Int32)).toNatClampNeg) := (inb_of S110 ⟨by decide, by decide⟩)
        refine X0.laload hx (j := (2 : Int32)) (v := (.long t2)) (by rw [e0]; exact Ar110.1) (State.isArrayOf_alike hZ.alike Ar110.2.1) Ar110.2.2 hin110 (H110.at hin110 rfl) (g := (mkF m 25 #[.val (.ref a0), .val (.ref a1)] [(.int (2 : Int32)), (.ref a1), (.long u2)])) rfl rfl (hb hby d5_25) _ ?_
        refine XS.lcmp X0.here hx rfl (hb hby d5_26) rfl ?_
        exact k
      by_cases hc112 : u2 = t2
      · obtain ⟨cl113, Ar113, q113, S113, M113, H113, G113⟩ := id V0
        obtain ⟨cl114, Ar114, q114, S114, M114, H114, G114⟩ := id V1
        have pre115 : ∀ t, Steps p.tables e below (s₁.setTop (mkF m 37 #[.val (.ref a0), .val (.ref a1)] [(.int (lcmpW u3 t3))])) t → Steps p.tables e below (s₁.setTop (entryFrame m #[(.ref a0), (.ref a1)] 2)) t := fun t k => by
          refine pre111 t ?_
          show Steps p.tables e below (s₁.setTop (mkF m 27 #[.val (.ref a0), .val (.ref a1)] [(.int (lcmpW u2 t2))])) _
          refine XS.ifNo X0.here hx rfl (hb hby d5_27) rfl ((if0 _ _).trans (teq ((lw_eq u2 t2).mpr hc112)).2) ?_
          refine XS.aloadN X0.here hx rfl (hb hby d5_30) rfl rfl ?_
          refine XS.iconst X0.here hx rfl (hb hby d5_31) ?_
          show Steps p.tables e below (s₁.setTop (mkF m 32 #[.val (.ref a0), .val (.ref a1)] [(.int (3 : Int32)), (.ref a0)])) _
          have hin113 : ¬ ((3 : Int32) < 0 ∨ cl113.slots.size ≤ ((3 : Int32)).toNatClampNeg) := (inb_of S113 ⟨by decide, by decide⟩)
          refine X0.laload hx (j := (3 : Int32)) (v := (.long u3)) (by rw [e0]; exact Ar113.1) (State.isArrayOf_alike hZ.alike Ar113.2.1) Ar113.2.2 hin113 (H113.at hin113 rfl) (g := (mkF m 32 #[.val (.ref a0), .val (.ref a1)] [(.int (3 : Int32)), (.ref a0)])) rfl rfl (hb hby d5_32) _ ?_
          refine XS.aloadN X0.here hx rfl (hb hby d5_33) rfl rfl ?_
          refine XS.iconst X0.here hx rfl (hb hby d5_34) ?_
          show Steps p.tables e below (s₁.setTop (mkF m 35 #[.val (.ref a0), .val (.ref a1)] [(.int (3 : Int32)), (.ref a1), (.long u3)])) _
          have hin114 : ¬ ((3 : Int32) < 0 ∨ cl114.slots.size ≤ ((3 : Int32)).toNatClampNeg) := (inb_of S114 ⟨by decide, by decide⟩)
          refine X0.laload hx (j := (3 : Int32)) (v := (.long t3)) (by rw [e0]; exact Ar114.1) (State.isArrayOf_alike hZ.alike Ar114.2.1) Ar114.2.2 hin114 (H114.at hin114 rfl) (g := (mkF m 35 #[.val (.ref a0), .val (.ref a1)] [(.int (3 : Int32)), (.ref a1), (.long u3)])) rfl rfl (hb hby d5_35) _ ?_
          refine XS.lcmp X0.here hx rfl (hb hby d5_36) rfl ?_
          exact k
        by_cases hc116 : u3 = t3
        · obtain ⟨cl117, Ar117, q117, S117, M117, H117, G117⟩ := id V0
          obtain ⟨cl118, Ar118, q118, S118, M118, H118, G118⟩ := id V1
          have pre119 : ∀ t, Steps p.tables e below (s₁.setTop (mkF m 47 #[.val (.ref a0), .val (.ref a1)] [(.int (lcmpW u4 t4))])) t → Steps p.tables e below (s₁.setTop (entryFrame m #[(.ref a0), (.ref a1)] 2)) t := fun t k => by
            refine pre115 t ?_
            show Steps p.tables e below (s₁.setTop (mkF m 37 #[.val (.ref a0), .val (.ref a1)] [(.int (lcmpW u3 t3))])) _
            refine XS.ifNo X0.here hx rfl (hb hby d5_37) rfl ((if0 _ _).trans (teq ((lw_eq u3 t3).mpr hc116)).2) ?_
            refine XS.aloadN X0.here hx rfl (hb hby d5_40) rfl rfl ?_
            refine XS.iconst X0.here hx rfl (hb hby d5_41) ?_
            show Steps p.tables e below (s₁.setTop (mkF m 42 #[.val (.ref a0), .val (.ref a1)] [(.int (4 : Int32)), (.ref a0)])) _
            have hin117 : ¬ ((4 : Int32) < 0 ∨ cl117.slots.size ≤ ((4 : Int32)).toNatClampNeg) := (inb_of S117 ⟨by decide, by decide⟩)
            refine X0.laload hx (j := (4 : Int32)) (v := (.long u4)) (by rw [e0]; exact Ar117.1) (State.isArrayOf_alike hZ.alike Ar117.2.1) Ar117.2.2 hin117 (H117.at hin117 rfl) (g := (mkF m 42 #[.val (.ref a0), .val (.ref a1)] [(.int (4 : Int32)), (.ref a0)])) rfl rfl (hb hby d5_42) _ ?_
            refine XS.aloadN X0.here hx rfl (hb hby d5_43) rfl rfl ?_
            refine XS.iconst X0.here hx rfl (hb hby d5_44) ?_
            show Steps p.tables e below (s₁.setTop (mkF m 45 #[.val (.ref a0), .val (.ref a1)] [(.int (4 : Int32)), (.ref a1), (.long u4)])) _
            have hin118 : ¬ ((4 : Int32) < 0 ∨ cl118.slots.size ≤ ((4 : Int32)).toNatClampNeg) := (inb_of S118 ⟨by decide, by decide⟩)
            refine X0.laload hx (j := (4 : Int32)) (v := (.long t4)) (by rw [e0]; exact Ar118.1) (State.isArrayOf_alike hZ.alike Ar118.2.1) Ar118.2.2 hin118 (H118.at hin118 rfl) (g := (mkF m 45 #[.val (.ref a0), .val (.ref a1)] [(.int (4 : Int32)), (.ref a1), (.long u4)])) rfl rfl (hb hby d5_45) _ ?_
            refine XS.lcmp X0.here hx rfl (hb hby d5_46) rfl ?_
            exact k
          by_cases hc120 : u4 = t4
          · obtain ⟨cl121, Ar121, q121, S121, M121, H121, G121⟩ := id V0
            obtain ⟨cl122, Ar122, q122, S122, M122, H122, G122⟩ := id V1
            have pre123 : ∀ t, Steps p.tables e below (s₁.setTop (mkF m 57 #[.val (.ref a0), .val (.ref a1)] [(.int (lcmpW u5 t5))])) t → Steps p.tables e below (s₁.setTop (entryFrame m #[(.ref a0), (.ref a1)] 2)) t := fun t k => by
              refine pre119 t ?_
              show Steps p.tables e below (s₁.setTop (mkF m 47 #[.val (.ref a0), .val (.ref a1)] [(.int (lcmpW u4 t4))])) _
              refine XS.ifNo X0.here hx rfl (hb hby d5_47) rfl ((if0 _ _).trans (teq ((lw_eq u4 t4).mpr hc120)).2) ?_
              refine XS.aloadN X0.here hx rfl (hb hby d5_50) rfl rfl ?_
              refine XS.iconst X0.here hx rfl (hb hby d5_51) ?_
              show Steps p.tables e below (s₁.setTop (mkF m 52 #[.val (.ref a0), .val (.ref a1)] [(.int (5 : Int32)), (.ref a0)])) _
              have hin121 : ¬ ((5 : Int32) < 0 ∨ cl121.slots.size ≤ ((5 : Int32)).toNatClampNeg) := (inb_of S121 ⟨by decide, by decide⟩)
              refine X0.laload hx (j := (5 : Int32)) (v := (.long u5)) (by rw [e0]; exact Ar121.1) (State.isArrayOf_alike hZ.alike Ar121.2.1) Ar121.2.2 hin121 (H121.at hin121 rfl) (g := (mkF m 52 #[.val (.ref a0), .val (.ref a1)] [(.int (5 : Int32)), (.ref a0)])) rfl rfl (hb hby d5_52) _ ?_
              refine XS.aloadN X0.here hx rfl (hb hby d5_53) rfl rfl ?_
              refine XS.iconst X0.here hx rfl (hb hby d5_54) ?_
              show Steps p.tables e below (s₁.setTop (mkF m 55 #[.val (.ref a0), .val (.ref a1)] [(.int (5 : Int32)), (.ref a1), (.long u5)])) _
              have hin122 : ¬ ((5 : Int32) < 0 ∨ cl122.slots.size ≤ ((5 : Int32)).toNatClampNeg) := (inb_of S122 ⟨by decide, by decide⟩)
              refine X0.laload hx (j := (5 : Int32)) (v := (.long t5)) (by rw [e0]; exact Ar122.1) (State.isArrayOf_alike hZ.alike Ar122.2.1) Ar122.2.2 hin122 (H122.at hin122 rfl) (g := (mkF m 55 #[.val (.ref a0), .val (.ref a1)] [(.int (5 : Int32)), (.ref a1), (.long u5)])) rfl rfl (hb hby d5_55) _ ?_
              refine XS.lcmp X0.here hx rfl (hb hby d5_56) rfl ?_
              exact k
            by_cases hc124 : u5 = t5
            · obtain ⟨cl125, Ar125, q125, S125, M125, H125, G125⟩ := id V0
              obtain ⟨cl126, Ar126, q126, S126, M126, H126, G126⟩ := id V1
              have pre127 : ∀ t, Steps p.tables e below (s₁.setTop (mkF m 69 #[.val (.ref a0), .val (.ref a1)] [(.int (lcmpW u6 t6))])) t → Steps p.tables e below (s₁.setTop (entryFrame m #[(.ref a0), (.ref a1)] 2)) t := fun t k => by
                refine pre123 t ?_
                show Steps p.tables e below (s₁.setTop (mkF m 57 #[.val (.ref a0), .val (.ref a1)] [(.int (lcmpW u5 t5))])) _
                refine XS.ifNo X0.here hx rfl (hb hby d5_57) rfl ((if0 _ _).trans (teq ((lw_eq u5 t5).mpr hc124)).2) ?_
                refine XS.aloadN X0.here hx rfl (hb hby d5_60) rfl rfl ?_
                refine XS.bipush X0.here hx rfl (hb hby d5_61) ?_
                show Steps p.tables e below (s₁.setTop (mkF m 63 #[.val (.ref a0), .val (.ref a1)] [(.int (6 : Int32)), (.ref a0)])) _
                have hin125 : ¬ ((6 : Int32) < 0 ∨ cl125.slots.size ≤ ((6 : Int32)).toNatClampNeg) := (inb_of S125 ⟨by decide, by decide⟩)
                refine X0.laload hx (j := (6 : Int32)) (v := (.long u6)) (by rw [e0]; exact Ar125.1) (State.isArrayOf_alike hZ.alike Ar125.2.1) Ar125.2.2 hin125 (H125.at hin125 rfl) (g := (mkF m 63 #[.val (.ref a0), .val (.ref a1)] [(.int (6 : Int32)), (.ref a0)])) rfl rfl (hb hby d5_63) _ ?_
                refine XS.aloadN X0.here hx rfl (hb hby d5_64) rfl rfl ?_
                refine XS.bipush X0.here hx rfl (hb hby d5_65) ?_
                show Steps p.tables e below (s₁.setTop (mkF m 67 #[.val (.ref a0), .val (.ref a1)] [(.int (6 : Int32)), (.ref a1), (.long u6)])) _
                have hin126 : ¬ ((6 : Int32) < 0 ∨ cl126.slots.size ≤ ((6 : Int32)).toNatClampNeg) := (inb_of S126 ⟨by decide, by decide⟩)
                refine X0.laload hx (j := (6 : Int32)) (v := (.long t6)) (by rw [e0]; exact Ar126.1) (State.isArrayOf_alike hZ.alike Ar126.2.1) Ar126.2.2 hin126 (H126.at hin126 rfl) (g := (mkF m 67 #[.val (.ref a0), .val (.ref a1)] [(.int (6 : Int32)), (.ref a1), (.long u6)])) rfl rfl (hb hby d5_67) _ ?_
                refine XS.lcmp X0.here hx rfl (hb hby d5_68) rfl ?_
                exact k
              by_cases hc128 : u6 = t6
              · obtain ⟨cl129, Ar129, q129, S129, M129, H129, G129⟩ := id V0
                obtain ⟨cl130, Ar130, q130, S130, M130, H130, G130⟩ := id V1
                have pre131 : ∀ t, Steps p.tables e below (s₁.setTop (mkF m 81 #[.val (.ref a0), .val (.ref a1)] [(.int (lcmpW u7 t7))])) t → Steps p.tables e below (s₁.setTop (entryFrame m #[(.ref a0), (.ref a1)] 2)) t := fun t k => by
                  refine pre127 t ?_
                  show Steps p.tables e below (s₁.setTop (mkF m 69 #[.val (.ref a0), .val (.ref a1)] [(.int (lcmpW u6 t6))])) _
                  refine XS.ifNo X0.here hx rfl (hb hby d5_69) rfl ((if0 _ _).trans (teq ((lw_eq u6 t6).mpr hc128)).2) ?_
                  refine XS.aloadN X0.here hx rfl (hb hby d5_72) rfl rfl ?_
                  refine XS.bipush X0.here hx rfl (hb hby d5_73) ?_
                  show Steps p.tables e below (s₁.setTop (mkF m 75 #[.val (.ref a0), .val (.ref a1)] [(.int (7 : Int32)), (.ref a0)])) _
                  have hin129 : ¬ ((7 : Int32) < 0 ∨ cl129.slots.size ≤ ((7 : Int32)).toNatClampNeg) := (inb_of S129 ⟨by decide, by decide⟩)
                  refine X0.laload hx (j := (7 : Int32)) (v := (.long u7)) (by rw [e0]; exact Ar129.1) (State.isArrayOf_alike hZ.alike Ar129.2.1) Ar129.2.2 hin129 (H129.at hin129 rfl) (g := (mkF m 75 #[.val (.ref a0), .val (.ref a1)] [(.int (7 : Int32)), (.ref a0)])) rfl rfl (hb hby d5_75) _ ?_
                  refine XS.aloadN X0.here hx rfl (hb hby d5_76) rfl rfl ?_
                  refine XS.bipush X0.here hx rfl (hb hby d5_77) ?_
                  show Steps p.tables e below (s₁.setTop (mkF m 79 #[.val (.ref a0), .val (.ref a1)] [(.int (7 : Int32)), (.ref a1), (.long u7)])) _
                  have hin130 : ¬ ((7 : Int32) < 0 ∨ cl130.slots.size ≤ ((7 : Int32)).toNatClampNeg) := (inb_of S130 ⟨by decide, by decide⟩)
                  refine X0.laload hx (j := (7 : Int32)) (v := (.long t7)) (by rw [e0]; exact Ar130.1) (State.isArrayOf_alike hZ.alike Ar130.2.1) Ar130.2.2 hin130 (H130.at hin130 rfl) (g := (mkF m 79 #[.val (.ref a0), .val (.ref a1)] [(.int (7 : Int32)), (.ref a1), (.long u7)])) rfl rfl (hb hby d5_79) _ ?_
                  refine XS.lcmp X0.here hx rfl (hb hby d5_80) rfl ?_
                  exact k
                by_cases hc132 : u7 = t7
                · obtain ⟨fs, hr, hrun, hended, hW, hsame⟩ := X0.leave (v := some (.int (1 : Int32))) (fun h => by rw [Bd.returns] at h; cases h)
                  refine ⟨_, _, pre131 _ ?_, hrun, hended, _, _, rfl, ?_, ⟨_, rfl⟩, hW, hsame.mono (by decide) (by decide)⟩
                  · show Steps p.tables e below (s₁.setTop (mkF m 81 #[.val (.ref a0), .val (.ref a1)] [(.int (lcmpW u7 t7))])) _
                    refine XS.ifNo X0.here hx rfl (hb hby d5_81) rfl ((if0 _ _).trans (teq ((lw_eq u7 t7).mpr hc132)).2) ?_
                    refine XS.iconst X0.here hx rfl (hb hby d5_84) ?_
                    refine XS.goto X0.here hx rfl (pc0 := 85) (pc' := 89) rfl (hb hby d5_85) (by decide) (by decide) ?_
                    show Steps p.tables e below (s₁.setTop (mkF m 89 #[.val (.ref a0), .val (.ref a1)] [(.int (1 : Int32))])) _
                    exact retN X0 hx (t := .boolean) Bd.returns (by simp) (hb hby d5_89) hr
                  · show Q5 Z a0 a1 kk0 kk1 u0 u1 u2 u3 u4 u5 u6 u7 t0 t1 t2 t3 t4 t5 t6 t7 h0 n0 _ s₁.heap _
                    rw [e0]
                    exact ⟨by rw [own_same, if_pos hc104, if_pos hc108, if_pos hc112, if_pos hc116, if_pos hc120, if_pos hc124, if_pos hc128, if_pos hc132], N0, rfl⟩
                · obtain ⟨fs, hr, hrun, hended, hW, hsame⟩ := X0.leave (v := some (.int (0 : Int32))) (fun h => by rw [Bd.returns] at h; cases h)
                  refine ⟨_, _, pre131 _ ?_, hrun, hended, _, _, rfl, ?_, ⟨_, rfl⟩, hW, hsame.mono (by decide) (by decide)⟩
                  · show Steps p.tables e below (s₁.setTop (mkF m 81 #[.val (.ref a0), .val (.ref a1)] [(.int (lcmpW u7 t7))])) _
                    refine XS.ifYes X0.here hx rfl (pc0 := 81) (pc' := 88) rfl (hb hby d5_81) rfl ((if0 _ _).trans (feq (fun q => hc132 ((lw_eq u7 t7).mp q))).2) (by decide) (by decide) ?_
                    refine XS.iconst X0.here hx rfl (hb hby d5_88) ?_
                    show Steps p.tables e below (s₁.setTop (mkF m 89 #[.val (.ref a0), .val (.ref a1)] [(.int (0 : Int32))])) _
                    exact retN X0 hx (t := .boolean) Bd.returns (by simp) (hb hby d5_89) hr
                  · show Q5 Z a0 a1 kk0 kk1 u0 u1 u2 u3 u4 u5 u6 u7 t0 t1 t2 t3 t4 t5 t6 t7 h0 n0 _ s₁.heap _
                    rw [e0]
                    exact ⟨by rw [own_same, if_pos hc104, if_pos hc108, if_pos hc112, if_pos hc116, if_pos hc120, if_pos hc124, if_pos hc128, if_neg hc132], N0, rfl⟩
              · obtain ⟨fs, hr, hrun, hended, hW, hsame⟩ := X0.leave (v := some (.int (0 : Int32))) (fun h => by rw [Bd.returns] at h; cases h)
                refine ⟨_, _, pre127 _ ?_, hrun, hended, _, _, rfl, ?_, ⟨_, rfl⟩, hW, hsame.mono (by decide) (by decide)⟩
                · show Steps p.tables e below (s₁.setTop (mkF m 69 #[.val (.ref a0), .val (.ref a1)] [(.int (lcmpW u6 t6))])) _
                  refine XS.ifYes X0.here hx rfl (pc0 := 69) (pc' := 88) rfl (hb hby d5_69) rfl ((if0 _ _).trans (feq (fun q => hc128 ((lw_eq u6 t6).mp q))).2) (by decide) (by decide) ?_
                  refine XS.iconst X0.here hx rfl (hb hby d5_88) ?_
                  show Steps p.tables e below (s₁.setTop (mkF m 89 #[.val (.ref a0), .val (.ref a1)] [(.int (0 : Int32))])) _
                  exact retN X0 hx (t := .boolean) Bd.returns (by simp) (hb hby d5_89) hr
                · show Q5 Z a0 a1 kk0 kk1 u0 u1 u2 u3 u4 u5 u6 u7 t0 t1 t2 t3 t4 t5 t6 t7 h0 n0 _ s₁.heap _
                  rw [e0]
                  exact ⟨by rw [own_same, if_pos hc104, if_pos hc108, if_pos hc112, if_pos hc116, if_pos hc120, if_pos hc124, if_neg hc128], N0, rfl⟩
            · obtain ⟨fs, hr, hrun, hended, hW, hsame⟩ := X0.leave (v := some (.int (0 : Int32))) (fun h => by rw [Bd.returns] at h; cases h)
              refine ⟨_, _, pre123 _ ?_, hrun, hended, _, _, rfl, ?_, ⟨_, rfl⟩, hW, hsame.mono (by decide) (by decide)⟩
              · show Steps p.tables e below (s₁.setTop (mkF m 57 #[.val (.ref a0), .val (.ref a1)] [(.int (lcmpW u5 t5))])) _
                refine XS.ifYes X0.here hx rfl (pc0 := 57) (pc' := 88) rfl (hb hby d5_57) rfl ((if0 _ _).trans (feq (fun q => hc124 ((lw_eq u5 t5).mp q))).2) (by decide) (by decide) ?_
                refine XS.iconst X0.here hx rfl (hb hby d5_88) ?_
                show Steps p.tables e below (s₁.setTop (mkF m 89 #[.val (.ref a0), .val (.ref a1)] [(.int (0 : Int32))])) _
                exact retN X0 hx (t := .boolean) Bd.returns (by simp) (hb hby d5_89) hr
              · show Q5 Z a0 a1 kk0 kk1 u0 u1 u2 u3 u4 u5 u6 u7 t0 t1 t2 t3 t4 t5 t6 t7 h0 n0 _ s₁.heap _
                rw [e0]
                exact ⟨by rw [own_same, if_pos hc104, if_pos hc108, if_pos hc112, if_pos hc116, if_pos hc120, if_neg hc124], N0, rfl⟩
          · obtain ⟨fs, hr, hrun, hended, hW, hsame⟩ := X0.leave (v := some (.int (0 : Int32))) (fun h => by rw [Bd.returns] at h; cases h)
            refine ⟨_, _, pre119 _ ?_, hrun, hended, _, _, rfl, ?_, ⟨_, rfl⟩, hW, hsame.mono (by decide) (by decide)⟩
            · show Steps p.tables e below (s₁.setTop (mkF m 47 #[.val (.ref a0), .val (.ref a1)] [(.int (lcmpW u4 t4))])) _
              refine XS.ifYes X0.here hx rfl (pc0 := 47) (pc' := 88) rfl (hb hby d5_47) rfl ((if0 _ _).trans (feq (fun q => hc120 ((lw_eq u4 t4).mp q))).2) (by decide) (by decide) ?_
              refine XS.iconst X0.here hx rfl (hb hby d5_88) ?_
              show Steps p.tables e below (s₁.setTop (mkF m 89 #[.val (.ref a0), .val (.ref a1)] [(.int (0 : Int32))])) _
              exact retN X0 hx (t := .boolean) Bd.returns (by simp) (hb hby d5_89) hr
            · show Q5 Z a0 a1 kk0 kk1 u0 u1 u2 u3 u4 u5 u6 u7 t0 t1 t2 t3 t4 t5 t6 t7 h0 n0 _ s₁.heap _
              rw [e0]
              exact ⟨by rw [own_same, if_pos hc104, if_pos hc108, if_pos hc112, if_pos hc116, if_neg hc120], N0, rfl⟩
        · obtain ⟨fs, hr, hrun, hended, hW, hsame⟩ := X0.leave (v := some (.int (0 : Int32))) (fun h => by rw [Bd.returns] at h; cases h)
          refine ⟨_, _, pre115 _ ?_, hrun, hended, _, _, rfl, ?_, ⟨_, rfl⟩, hW, hsame.mono (by decide) (by decide)⟩
          · show Steps p.tables e below (s₁.setTop (mkF m 37 #[.val (.ref a0), .val (.ref a1)] [(.int (lcmpW u3 t3))])) _
            refine XS.ifYes X0.here hx rfl (pc0 := 37) (pc' := 88) rfl (hb hby d5_37) rfl ((if0 _ _).trans (feq (fun q => hc116 ((lw_eq u3 t3).mp q))).2) (by decide) (by decide) ?_
            refine XS.iconst X0.here hx rfl (hb hby d5_88) ?_
            show Steps p.tables e below (s₁.setTop (mkF m 89 #[.val (.ref a0), .val (.ref a1)] [(.int (0 : Int32))])) _
            exact retN X0 hx (t := .boolean) Bd.returns (by simp) (hb hby d5_89) hr
          · show Q5 Z a0 a1 kk0 kk1 u0 u1 u2 u3 u4 u5 u6 u7 t0 t1 t2 t3 t4 t5 t6 t7 h0 n0 _ s₁.heap _
            rw [e0]
            exact ⟨by rw [own_same, if_pos hc104, if_pos hc108, if_pos hc112, if_neg hc116], N0, rfl⟩
      · obtain ⟨fs, hr, hrun, hended, hW, hsame⟩ := X0.leave (v := some (.int (0 : Int32))) (fun h => by rw [Bd.returns] at h; cases h)
        refine ⟨_, _, pre111 _ ?_, hrun, hended, _, _, rfl, ?_, ⟨_, rfl⟩, hW, hsame.mono (by decide) (by decide)⟩
        · show Steps p.tables e below (s₁.setTop (mkF m 27 #[.val (.ref a0), .val (.ref a1)] [(.int (lcmpW u2 t2))])) _
          refine XS.ifYes X0.here hx rfl (pc0 := 27) (pc' := 88) rfl (hb hby d5_27) rfl ((if0 _ _).trans (feq (fun q => hc112 ((lw_eq u2 t2).mp q))).2) (by decide) (by decide) ?_
          refine XS.iconst X0.here hx rfl (hb hby d5_88) ?_
          show Steps p.tables e below (s₁.setTop (mkF m 89 #[.val (.ref a0), .val (.ref a1)] [(.int (0 : Int32))])) _
          exact retN X0 hx (t := .boolean) Bd.returns (by simp) (hb hby d5_89) hr
        · show Q5 Z a0 a1 kk0 kk1 u0 u1 u2 u3 u4 u5 u6 u7 t0 t1 t2 t3 t4 t5 t6 t7 h0 n0 _ s₁.heap _
          rw [e0]
          exact ⟨by rw [own_same, if_pos hc104, if_pos hc108, if_neg hc112], N0, rfl⟩
    · obtain ⟨fs, hr, hrun, hended, hW, hsame⟩ := X0.leave (v := some (.int (0 : Int32))) (fun h => by rw [Bd.returns] at h; cases h)
      refine ⟨_, _, pre107 _ ?_, hrun, hended, _, _, rfl, ?_, ⟨_, rfl⟩, hW, hsame.mono (by decide) (by decide)⟩
      · show Steps p.tables e below (s₁.setTop (mkF m 17 #[.val (.ref a0), .val (.ref a1)] [(.int (lcmpW u1 t1))])) _
        refine XS.ifYes X0.here hx rfl (pc0 := 17) (pc' := 88) rfl (hb hby d5_17) rfl ((if0 _ _).trans (feq (fun q => hc108 ((lw_eq u1 t1).mp q))).2) (by decide) (by decide) ?_
        refine XS.iconst X0.here hx rfl (hb hby d5_88) ?_
        show Steps p.tables e below (s₁.setTop (mkF m 89 #[.val (.ref a0), .val (.ref a1)] [(.int (0 : Int32))])) _
        exact retN X0 hx (t := .boolean) Bd.returns (by simp) (hb hby d5_89) hr
      · show Q5 Z a0 a1 kk0 kk1 u0 u1 u2 u3 u4 u5 u6 u7 t0 t1 t2 t3 t4 t5 t6 t7 h0 n0 _ s₁.heap _
        rw [e0]
        exact ⟨by rw [own_same, if_pos hc104, if_neg hc108], N0, rfl⟩
  · obtain ⟨fs, hr, hrun, hended, hW, hsame⟩ := X0.leave (v := some (.int (0 : Int32))) (fun h => by rw [Bd.returns] at h; cases h)
    refine ⟨_, _, pre103 _ ?_, hrun, hended, _, _, rfl, ?_, ⟨_, rfl⟩, hW, hsame.mono (by decide) (by decide)⟩
    · show Steps p.tables e below (s₁.setTop (mkF m 7 #[.val (.ref a0), .val (.ref a1)] [(.int (lcmpW u0 t0))])) _
      refine XS.ifYes X0.here hx rfl (pc0 := 7) (pc' := 88) rfl (hb hby d5_7) rfl ((if0 _ _).trans (feq (fun q => hc104 ((lw_eq u0 t0).mp q))).2) (by decide) (by decide) ?_
      refine XS.iconst X0.here hx rfl (hb hby d5_88) ?_
      show Steps p.tables e below (s₁.setTop (mkF m 89 #[.val (.ref a0), .val (.ref a1)] [(.int (0 : Int32))])) _
      exact retN X0 hx (t := .boolean) Bd.returns (by simp) (hb hby d5_89) hr
    · show Q5 Z a0 a1 kk0 kk1 u0 u1 u2 u3 u4 u5 u6 u7 t0 t1 t2 t3 t4 t5 t6 t7 h0 n0 _ s₁.heap _
      rw [e0]
      exact ⟨by rw [own_same, if_neg hc104], N0, rfl⟩
def own_ir (v : Int64) : Int32 := if v < (0 : Int64) then 0 else if (4294967295 : Int64) < v then 0 else 1
theorem own_ir_yes {v : Int64} (h : own_R v) : own_ir v = (1 : Int32) := by
  unfold own_ir
  obtain ⟨h1, h2⟩ := h
  rw [if_neg (by rw [Int64.lt_iff_toInt_lt, show (0 : Int64).toInt = 0 by decide]; omega), if_neg (by rw [Int64.lt_iff_toInt_lt, show (4294967295 : Int64).toInt = 4294967295 by decide]; omega)]
theorem d7_0 : decode method_6_code 0 = .ok (.lload_n 0, 1) := by decide +kernel
theorem d7_1 : decode method_6_code 1 = .ok (.lconst 0, 1) := by decide +kernel
theorem d7_2 : decode method_6_code 2 = .ok (.lcmp, 1) := by decide +kernel
theorem d7_3 : decode method_6_code 3 = .ok (.ifCond .lt 15, 3) := by decide +kernel
theorem d7_18 : decode method_6_code 18 = .ok (.iconst 0, 1) := by decide +kernel
theorem d7_19 : decode method_6_code 19 = .ok (.ireturn, 1) := by decide +kernel
theorem d7_6 : decode method_6_code 6 = .ok (.lload_n 0, 1) := by decide +kernel
theorem d7_7 : decode method_6_code 7 = .ok (.ldc2_w 41, 3) := by decide +kernel
theorem d7_10 : decode method_6_code 10 = .ok (.lcmp, 1) := by decide +kernel
theorem d7_11 : decode method_6_code 11 = .ok (.ifCond .gt 7, 3) := by decide +kernel
theorem d7_14 : decode method_6_code 14 = .ok (.iconst 1, 1) := by decide +kernel
theorem d7_15 : decode method_6_code 15 = .ok (.goto 4, 3) := by decide +kernel
theorem ef_rm7 (m : MethodId) (x0 : Int64) : entryFrame m #[(.long x0)] 2 = mkF m 0 #[.val (.long x0), .second] [] := by first | (simp [entryFrame, mkF, argsToLocals, Value.category]; done) | rfl
def Q7 (Z : State) (q0 : Int64) (h0 : Heap) (n0 : Nat) (v : Option Value) (h : Heap) (L : List Loc) : Prop := v = some (.int (own_ir q0)) ∧ Fr n0 L ∧ h = h0
set_option maxRecDepth 65536 in
set_option maxHeartbeats 40000000 in
theorem rm7 (l : Launch) (Z : State) (aw : Array Value) (hw : ∀ d ∈ tables_1, d.before aw Z = true) (ws : List Jvm.Cond) (q0 : Int64) (h0 : Heap) (n0 : Nat) (Z0 : n0 ≤ h0.size) :
    MetFree l (⟨"com/example/serialroute/serialroute/core/P256FieldSubtractPinLaw", "inRange", "(J)Z"⟩ : MethodName) (head1 (Jvm.Cond.code (⟨"com/example/serialroute/serialroute/core/P256FieldSubtractPinLaw", "inRange", "(J)Z"⟩ : MethodName) method_6_code 2 (some .boolean) :: ws) ({ frames := 0, cells := 0, slots := 0, locals := 0 } : Room)) (fun a U => a = #[(.long q0)] ∧ Z.Warmed39 U.vm ∧ U.heap = h0) (fun _ _ _ _ _ => True) (fun _ U oc U' => ∃ v L, oc = .returned v ∧ Q7 Z q0 h0 n0 v U'.heap L ∧ FrameEnd U oc U' L ({ frames := 0, cells := 0, slots := 0, locals := 0 } : Room).cells ({ frames := 0, cells := 0, slots := 0, locals := 0 } : Room).slots) := by
  refine MetFree.of_bodySF (plainFor_of_name pn_0) hisR ?_
  intro p e s m args below meth c s₁ Bd hml0 hP hK
  obtain ⟨rfl, hZ, hh⟩ := hP
  have hx := Bd.exec
  have hby := Bd.bytes
  have hml : c.maxLocals = 2 := hml0
  have hown : s.vm.findClass "com/example/serialroute/serialroute/core/P256FieldSubtractPinLaw" = some m.cls := findClass_of_methodNamed Bd.named
  have hnm := (name_of_methodNamed Bd.named Bd.method).1
  have X0 : Stand p l e ({ frames := 0, cells := 0, slots := 0, locals := 0 } : Room) s m #[(.long q0)] below meth c s₁ [] 0 0 := Stand.of_body Bd
  have e0 : s₁.heap = h0 := by rw [← hh, Bd.state]; rfl
  have N0 := Fr.nil n0
  have pre0 : ∀ t, Steps p.tables e below (s₁.setTop (mkF m 0 #[.val (.long q0), .second] [])) t → Steps p.tables e below (s₁.setTop (entryFrame m #[(.long q0)] 2)) t := fun t k => castTop (ef_rm7 m q0) k
  have pre101 : ∀ t, Steps p.tables e below (s₁.setTop (mkF m 3 #[.val (.long q0), .second] [(.int (lcmpW q0 (0 : Int64)))])) t → Steps p.tables e below (s₁.setTop (entryFrame m #[(.long q0)] 2)) t := fun t k => by
    refine pre0 t ?_
    show Steps p.tables e below (s₁.setTop (mkF m 0 #[.val (.long q0), .second] [])) _
    refine XS.lloadN X0.here hx rfl (hb hby d7_0) rfl ?_
    refine XS.lconst X0.here hx rfl (hb hby d7_1) ?_
    refine XS.lcmp X0.here hx rfl (hb hby d7_2) rfl ?_
    exact k
  by_cases hc102 : q0 < (0 : Int64)
  · obtain ⟨fs, hr, hrun, hended, hW, hsame⟩ := X0.leave (v := some (.int (0 : Int32))) (fun h => by rw [Bd.returns] at h; cases h)
    refine ⟨_, _, pre101 _ ?_, hrun, hended, _, _, rfl, ?_, ⟨_, rfl⟩, hW, hsame.mono (by decide) (by decide)⟩
    · show Steps p.tables e below (s₁.setTop (mkF m 3 #[.val (.long q0), .second] [(.int (lcmpW q0 (0 : Int64)))])) _
      refine XS.ifYes X0.here hx rfl (pc0 := 3) (pc' := 18) rfl (hb hby d7_3) rfl ((if0 _ _).trans (tlt ((lw_lt q0 (0 : Int64)).mpr hc102)).1) (by decide) (by decide) ?_
      refine XS.iconst X0.here hx rfl (hb hby d7_18) ?_
      show Steps p.tables e below (s₁.setTop (mkF m 19 #[.val (.long q0), .second] [(.int (0 : Int32))])) _
      exact retN X0 hx (t := .boolean) Bd.returns (by simp) (hb hby d7_19) hr
    · show Q7 Z q0 h0 n0 _ s₁.heap _
      rw [e0]
      exact ⟨by rw [own_ir, if_pos hc102], N0, rfl⟩
  · have pre103 : ∀ t, Steps p.tables e below (s₁.setTop (mkF m 11 #[.val (.long q0), .second] [(.int (lcmpW q0 (4294967295 : Int64)))])) t → Steps p.tables e below (s₁.setTop (entryFrame m #[(.long q0)] 2)) t := fun t k => by
      refine pre101 t ?_
      show Steps p.tables e below (s₁.setTop (mkF m 3 #[.val (.long q0), .second] [(.int (lcmpW q0 (0 : Int64)))])) _
      refine XS.ifNo X0.here hx rfl (hb hby d7_3) rfl ((if0 _ _).trans (flt (fun q => hc102 ((lw_lt q0 (0 : Int64)).mp q))).1) ?_
      refine XS.lloadN X0.here hx rfl (hb hby d7_6) rfl ?_
      show Steps p.tables e below (s₁.setTop (mkF m 7 #[.val (.long q0), .second] [(.long q0)])) _
      refine X0.ldc2Long hx hown (mvT hZ (hw _ (List.mem_of_getElem? (i := 9) rfl))) (g := (mkF m 7 #[.val (.long q0), .second] [(.long q0)])) rfl (hb hby d7_7) _ ?_
      refine XS.lcmp X0.here hx rfl (hb hby d7_10) rfl ?_
      exact k
    by_cases hc104 : (4294967295 : Int64) < q0
    · obtain ⟨fs, hr, hrun, hended, hW, hsame⟩ := X0.leave (v := some (.int (0 : Int32))) (fun h => by rw [Bd.returns] at h; cases h)
      refine ⟨_, _, pre103 _ ?_, hrun, hended, _, _, rfl, ?_, ⟨_, rfl⟩, hW, hsame.mono (by decide) (by decide)⟩
      · show Steps p.tables e below (s₁.setTop (mkF m 11 #[.val (.long q0), .second] [(.int (lcmpW q0 (4294967295 : Int64)))])) _
        refine XS.ifYes X0.here hx rfl (pc0 := 11) (pc' := 18) rfl (hb hby d7_11) rfl ((if0 _ _).trans (tlt ((lw_gt q0 (4294967295 : Int64)).mpr hc104)).2.2.1) (by decide) (by decide) ?_
        refine XS.iconst X0.here hx rfl (hb hby d7_18) ?_
        show Steps p.tables e below (s₁.setTop (mkF m 19 #[.val (.long q0), .second] [(.int (0 : Int32))])) _
        exact retN X0 hx (t := .boolean) Bd.returns (by simp) (hb hby d7_19) hr
      · show Q7 Z q0 h0 n0 _ s₁.heap _
        rw [e0]
        exact ⟨by rw [own_ir, if_neg hc102, if_pos hc104], N0, rfl⟩
    · obtain ⟨fs, hr, hrun, hended, hW, hsame⟩ := X0.leave (v := some (.int (1 : Int32))) (fun h => by rw [Bd.returns] at h; cases h)
      refine ⟨_, _, pre103 _ ?_, hrun, hended, _, _, rfl, ?_, ⟨_, rfl⟩, hW, hsame.mono (by decide) (by decide)⟩
      · show Steps p.tables e below (s₁.setTop (mkF m 11 #[.val (.long q0), .second] [(.int (lcmpW q0 (4294967295 : Int64)))])) _
        refine XS.ifNo X0.here hx rfl (hb hby d7_11) rfl ((if0 _ _).trans (flt (fun q => hc104 ((lw_gt q0 (4294967295 : Int64)).mp q))).2.2.1) ?_
        refine XS.iconst X0.here hx rfl (hb hby d7_14) ?_
        refine XS.goto X0.here hx rfl (pc0 := 15) (pc' := 19) rfl (hb hby d7_15) (by decide) (by decide) ?_
        show Steps p.tables e below (s₁.setTop (mkF m 19 #[.val (.long q0), .second] [(.int (1 : Int32))])) _
        exact retN X0 hx (t := .boolean) Bd.returns (by simp) (hb hby d7_19) hr
      · show Q7 Z q0 h0 n0 _ s₁.heap _
        rw [e0]
        exact ⟨by rw [own_ir, if_neg hc102, if_neg hc104], N0, rfl⟩
theorem d6_0 : decode method_7_code 0 = .ok (.aload_n 0, 1) := by decide +kernel
theorem d6_1 : decode method_7_code 1 = .ok (.iconst 0, 1) := by decide +kernel
theorem d6_2 : decode method_7_code 2 = .ok (.laload, 1) := by decide +kernel
theorem d6_3 : decode method_7_code 3 = .ok (.invokestatic 49, 3) := by decide +kernel
theorem pd_2 : parseMethodDescriptor "(J)Z" = some ⟨[.long], some .boolean⟩ := by decide +kernel
theorem d6_6 : decode method_7_code 6 = .ok (.ifCond .eq 30, 3) := by decide +kernel
theorem d6_9 : decode method_7_code 9 = .ok (.aload_n 0, 1) := by decide +kernel
theorem d6_10 : decode method_7_code 10 = .ok (.iconst 1, 1) := by decide +kernel
theorem d6_11 : decode method_7_code 11 = .ok (.laload, 1) := by decide +kernel
theorem d6_12 : decode method_7_code 12 = .ok (.invokestatic 49, 3) := by decide +kernel
theorem d6_15 : decode method_7_code 15 = .ok (.ifCond .eq 21, 3) := by decide +kernel
theorem d6_18 : decode method_7_code 18 = .ok (.aload_n 0, 1) := by decide +kernel
theorem d6_19 : decode method_7_code 19 = .ok (.iconst 2, 1) := by decide +kernel
theorem d6_20 : decode method_7_code 20 = .ok (.laload, 1) := by decide +kernel
theorem d6_21 : decode method_7_code 21 = .ok (.invokestatic 49, 3) := by decide +kernel
theorem d6_24 : decode method_7_code 24 = .ok (.ifCond .eq 12, 3) := by decide +kernel
theorem d6_27 : decode method_7_code 27 = .ok (.aload_n 0, 1) := by decide +kernel
theorem d6_28 : decode method_7_code 28 = .ok (.iconst 3, 1) := by decide +kernel
theorem d6_29 : decode method_7_code 29 = .ok (.laload, 1) := by decide +kernel
theorem d6_30 : decode method_7_code 30 = .ok (.invokestatic 49, 3) := by decide +kernel
theorem d6_33 : decode method_7_code 33 = .ok (.ifCond .ne 5, 3) := by decide +kernel
theorem d6_38 : decode method_7_code 38 = .ok (.aload_n 0, 1) := by decide +kernel
theorem d6_39 : decode method_7_code 39 = .ok (.iconst 4, 1) := by decide +kernel
theorem d6_40 : decode method_7_code 40 = .ok (.laload, 1) := by decide +kernel
theorem d6_41 : decode method_7_code 41 = .ok (.invokestatic 49, 3) := by decide +kernel
theorem d6_44 : decode method_7_code 44 = .ok (.ifCond .eq 32, 3) := by decide +kernel
theorem d6_47 : decode method_7_code 47 = .ok (.aload_n 0, 1) := by decide +kernel
theorem d6_48 : decode method_7_code 48 = .ok (.iconst 5, 1) := by decide +kernel
theorem d6_49 : decode method_7_code 49 = .ok (.laload, 1) := by decide +kernel
theorem d6_50 : decode method_7_code 50 = .ok (.invokestatic 49, 3) := by decide +kernel
theorem d6_53 : decode method_7_code 53 = .ok (.ifCond .eq 23, 3) := by decide +kernel
theorem d6_56 : decode method_7_code 56 = .ok (.aload_n 0, 1) := by decide +kernel
theorem d6_57 : decode method_7_code 57 = .ok (.bipush 6, 2) := by decide +kernel
theorem d6_59 : decode method_7_code 59 = .ok (.laload, 1) := by decide +kernel
theorem d6_60 : decode method_7_code 60 = .ok (.invokestatic 49, 3) := by decide +kernel
theorem d6_63 : decode method_7_code 63 = .ok (.ifCond .eq 13, 3) := by decide +kernel
theorem d6_66 : decode method_7_code 66 = .ok (.aload_n 0, 1) := by decide +kernel
theorem d6_67 : decode method_7_code 67 = .ok (.bipush 7, 2) := by decide +kernel
theorem d6_69 : decode method_7_code 69 = .ok (.laload, 1) := by decide +kernel
theorem d6_70 : decode method_7_code 70 = .ok (.invokestatic 49, 3) := by decide +kernel
theorem d6_73 : decode method_7_code 73 = .ok (.ifCond .ne 5, 3) := by decide +kernel
theorem d6_78 : decode method_7_code 78 = .ok (.aload_n 0, 1) := by decide +kernel
theorem d6_79 : decode method_7_code 79 = .ok (.invokestatic 36, 3) := by decide +kernel
theorem d6_82 : decode method_7_code 82 = .ok (.ireturn, 1) := by decide +kernel
theorem ef_rm6 (m : MethodId) (x0 : Addr) : entryFrame m #[(.ref x0)] 1 = mkF m 0 #[.val (.ref x0)] [] := by first | (simp [entryFrame, mkF, argsToLocals, Value.category]; done) | rfl
def Q6 (Z : State) (a0 : Addr) (kk0 : ClassId) (u0 : Int64) (u1 : Int64) (u2 : Int64) (u3 : Int64) (u4 : Int64) (u5 : Int64) (u6 : Int64) (u7 : Int64) (h0 : Heap) (n0 : Nat) (v : Option Value) (h : Heap) (L : List Loc) : Prop := v = some (.int 1) ∧ Fr n0 L ∧ h = h0
set_option maxRecDepth 65536 in
set_option maxHeartbeats 40000000 in
theorem rm6 (l : Launch) (Z : State) (aw : Array Value) (hw : ∀ d ∈ tables_1, d.before aw Z = true) (ws : List Jvm.Cond) (a0 : Addr) (kk0 : ClassId) (u0 : Int64) (u1 : Int64) (u2 : Int64) (u3 : Int64) (u4 : Int64) (u5 : Int64) (u6 : Int64) (u7 : Int64) (h0 : Heap) (n0 : Nat) (Z0 : n0 ≤ h0.size) (V0 : Arv Z h0 a0 kk0 .long (8 : Int32) [(.long u0), (.long u1), (.long u2), (.long u3), (.long u4), (.long u5), (.long u6), (.long u7)] (.long (0 : Int64))) (hRR : own_RR u0 u1 u2 u3 u4 u5 u6 u7) (hlt : own_W u0 u1 u2 u3 u4 u5 u6 u7 < own_P) :
    MetFree l (⟨"com/example/serialroute/serialroute/core/P256FieldSubtractPinLaw", "canonical", "([J)Z"⟩ : MethodName) (head1 (Jvm.Cond.code (⟨"com/example/serialroute/serialroute/core/P256FieldSubtractPinLaw", "canonical", "([J)Z"⟩ : MethodName) method_7_code 1 (some .boolean) :: ws) ({ frames := 1, cells := 0, slots := 0, locals := 13 } : Room)) (fun a U => a = #[(.ref a0)] ∧ Z.Warmed39 U.vm ∧ U.heap = h0) (fun _ _ _ _ _ => True) (fun _ U oc U' => ∃ v L, oc = .returned v ∧ Q6 Z a0 kk0 u0 u1 u2 u3 u4 u5 u6 u7 h0 n0 v U'.heap L ∧ FrameEnd U oc U' L ({ frames := 1, cells := 0, slots := 0, locals := 13 } : Room).cells ({ frames := 1, cells := 0, slots := 0, locals := 13 } : Room).slots) := by
  refine MetFree.of_bodySF (plainFor_of_name pn_0) hisR ?_
  intro p e s m args below meth c s₁ Bd hml0 hP hK
  obtain ⟨rfl, hZ, hh⟩ := hP
  have hx := Bd.exec
  have hby := Bd.bytes
  have hml : c.maxLocals = 1 := hml0
  have hown : s.vm.findClass "com/example/serialroute/serialroute/core/P256FieldSubtractPinLaw" = some m.cls := findClass_of_methodNamed Bd.named
  have hnm := (name_of_methodNamed Bd.named Bd.method).1
  have X0 : Stand p l e ({ frames := 1, cells := 0, slots := 0, locals := 13 } : Room) s m #[(.ref a0)] below meth c s₁ [] 0 0 := Stand.of_body Bd
  have e0 : s₁.heap = h0 := by rw [← hh, Bd.state]; rfl
  have N0 := Fr.nil n0
  have pre0 : ∀ t, Steps p.tables e below (s₁.setTop (mkF m 0 #[.val (.ref a0)] [])) t → Steps p.tables e below (s₁.setTop (entryFrame m #[(.ref a0)] 1)) t := fun t k => castTop (ef_rm6 m a0) k
  obtain ⟨hR0, hR1, hR2, hR3, hR4, hR5, hR6, hR7⟩ := id hRR
  obtain ⟨cl101, Ar101, q101, S101, M101, H101, G101⟩ := id V0
  obtain ⟨_, _, ⟨T102, L102, k102, n102⟩, -, X102, ⟨Lc102, hQ102, l102, y102, z102⟩, st102⟩ := Jvm.LawKit.callS X0 hx (y := (⟨"com/example/serialroute/serialroute/core/P256FieldSubtractPinLaw", "inRange", "(J)Z"⟩ : MethodName)) hown (mvT hZ (hw _ (List.mem_of_getElem? (i := 24) rfl))) (mvT hZ (hw _ (List.mem_of_getElem? (i := 25) rfl))) (mvT hZ (hw _ (List.mem_of_getElem? (i := 2) rfl))) (mvT hZ (hw _ (List.mem_of_getElem? (i := 26) rfl))) (by decide) (backOf (W := 0) (rm7 l Z aw hw [] u0 h0 n0 Z0 ) hZ (hw _ (List.mem_of_getElem? (i := 26) rfl)) (hw _ (List.mem_of_getElem? (i := 2) rfl)) (by decide) (by decide)) (g := (mkF m 3 #[.val (.ref a0)] [(.long u0)])) rfl (by rw [hml]; rfl) (argsL := [(.long u0)]) (rest := []) (lenOf pd_2 rfl) rfl (by show 2 * 0 + _ ≤ _; exact Nat.le_of_eq rfl) (hb hby d6_3) (fun _ _ => ⟨rfl, e0, (by decide : 0 + 0 ≤ _), (by decide : 0 + 0 ≤ _)⟩)
  dsimp only [Pt.U, Pt.locs, Pt.cells, Pt.slots] at X102 l102 y102 z102 st102 hQ102
  rw [l102, y102, z102] at X102
  obtain ⟨hv102, N102q, e102⟩ := hQ102
  rw [own_ir_yes hR0] at hv102
  subst hv102
  have N102 := Fr.app N0 N102q
  obtain ⟨cl103, Ar103, q103, S103, M103, H103, G103⟩ := id V0
  obtain ⟨_, _, ⟨T104, L104, k104, n104⟩, -, X104, ⟨Lc104, hQ104, l104, y104, z104⟩, st104⟩ := Jvm.LawKit.callS X102 hx (y := (⟨"com/example/serialroute/serialroute/core/P256FieldSubtractPinLaw", "inRange", "(J)Z"⟩ : MethodName)) hown (mvT hZ (hw _ (List.mem_of_getElem? (i := 24) rfl))) (mvT hZ (hw _ (List.mem_of_getElem? (i := 25) rfl))) (mvT hZ (hw _ (List.mem_of_getElem? (i := 2) rfl))) (mvT hZ (hw _ (List.mem_of_getElem? (i := 26) rfl))) (by decide) (backOf (W := 0) (rm7 l Z aw hw [] u1 h0 n0 Z0 ) hZ (hw _ (List.mem_of_getElem? (i := 26) rfl)) (hw _ (List.mem_of_getElem? (i := 2) rfl)) (by decide) (by decide)) (g := (mkF m 12 #[.val (.ref a0)] [(.long u1)])) rfl (by rw [hml]; rfl) (argsL := [(.long u1)]) (rest := []) (lenOf pd_2 rfl) rfl (by show 2 * 0 + _ ≤ _; exact Nat.le_of_eq rfl) (hb hby d6_12) (fun _ _ => ⟨rfl, e102, (by decide : 0 + 0 ≤ _), (by decide : 0 + 0 ≤ _)⟩)
  dsimp only [Pt.U, Pt.locs, Pt.cells, Pt.slots] at X104 l104 y104 z104 st104 hQ104
  rw [l104, y104, z104] at X104
  obtain ⟨hv104, N104q, e104⟩ := hQ104
  rw [own_ir_yes hR1] at hv104
  subst hv104
  have N104 := Fr.app N102 N104q
  obtain ⟨cl105, Ar105, q105, S105, M105, H105, G105⟩ := id V0
  obtain ⟨_, _, ⟨T106, L106, k106, n106⟩, -, X106, ⟨Lc106, hQ106, l106, y106, z106⟩, st106⟩ := Jvm.LawKit.callS X104 hx (y := (⟨"com/example/serialroute/serialroute/core/P256FieldSubtractPinLaw", "inRange", "(J)Z"⟩ : MethodName)) hown (mvT hZ (hw _ (List.mem_of_getElem? (i := 24) rfl))) (mvT hZ (hw _ (List.mem_of_getElem? (i := 25) rfl))) (mvT hZ (hw _ (List.mem_of_getElem? (i := 2) rfl))) (mvT hZ (hw _ (List.mem_of_getElem? (i := 26) rfl))) (by decide) (backOf (W := 0) (rm7 l Z aw hw [] u2 h0 n0 Z0 ) hZ (hw _ (List.mem_of_getElem? (i := 26) rfl)) (hw _ (List.mem_of_getElem? (i := 2) rfl)) (by decide) (by decide)) (g := (mkF m 21 #[.val (.ref a0)] [(.long u2)])) rfl (by rw [hml]; rfl) (argsL := [(.long u2)]) (rest := []) (lenOf pd_2 rfl) rfl (by show 2 * 0 + _ ≤ _; exact Nat.le_of_eq rfl) (hb hby d6_21) (fun _ _ => ⟨rfl, e104, (by decide : 0 + 0 ≤ _), (by decide : 0 + 0 ≤ _)⟩)
  dsimp only [Pt.U, Pt.locs, Pt.cells, Pt.slots] at X106 l106 y106 z106 st106 hQ106
  rw [l106, y106, z106] at X106
  obtain ⟨hv106, N106q, e106⟩ := hQ106
  rw [own_ir_yes hR2] at hv106
  subst hv106
  have N106 := Fr.app N104 N106q
  obtain ⟨cl107, Ar107, q107, S107, M107, H107, G107⟩ := id V0
  obtain ⟨_, _, ⟨T108, L108, k108, n108⟩, -, X108, ⟨Lc108, hQ108, l108, y108, z108⟩, st108⟩ := Jvm.LawKit.callS X106 hx (y := (⟨"com/example/serialroute/serialroute/core/P256FieldSubtractPinLaw", "inRange", "(J)Z"⟩ : MethodName)) hown (mvT hZ (hw _ (List.mem_of_getElem? (i := 24) rfl))) (mvT hZ (hw _ (List.mem_of_getElem? (i := 25) rfl))) (mvT hZ (hw _ (List.mem_of_getElem? (i := 2) rfl))) (mvT hZ (hw _ (List.mem_of_getElem? (i := 26) rfl))) (by decide) (backOf (W := 0) (rm7 l Z aw hw [] u3 h0 n0 Z0 ) hZ (hw _ (List.mem_of_getElem? (i := 26) rfl)) (hw _ (List.mem_of_getElem? (i := 2) rfl)) (by decide) (by decide)) (g := (mkF m 30 #[.val (.ref a0)] [(.long u3)])) rfl (by rw [hml]; rfl) (argsL := [(.long u3)]) (rest := []) (lenOf pd_2 rfl) rfl (by show 2 * 0 + _ ≤ _; exact Nat.le_of_eq rfl) (hb hby d6_30) (fun _ _ => ⟨rfl, e106, (by decide : 0 + 0 ≤ _), (by decide : 0 + 0 ≤ _)⟩)
  dsimp only [Pt.U, Pt.locs, Pt.cells, Pt.slots] at X108 l108 y108 z108 st108 hQ108
  rw [l108, y108, z108] at X108
  obtain ⟨hv108, N108q, e108⟩ := hQ108
  rw [own_ir_yes hR3] at hv108
  subst hv108
  have N108 := Fr.app N106 N108q
  obtain ⟨cl109, Ar109, q109, S109, M109, H109, G109⟩ := id V0
  obtain ⟨_, _, ⟨T110, L110, k110, n110⟩, -, X110, ⟨Lc110, hQ110, l110, y110, z110⟩, st110⟩ := Jvm.LawKit.callS X108 hx (y := (⟨"com/example/serialroute/serialroute/core/P256FieldSubtractPinLaw", "inRange", "(J)Z"⟩ : MethodName)) hown (mvT hZ (hw _ (List.mem_of_getElem? (i := 24) rfl))) (mvT hZ (hw _ (List.mem_of_getElem? (i := 25) rfl))) (mvT hZ (hw _ (List.mem_of_getElem? (i := 2) rfl))) (mvT hZ (hw _ (List.mem_of_getElem? (i := 26) rfl))) (by decide) (backOf (W := 0) (rm7 l Z aw hw [] u4 h0 n0 Z0 ) hZ (hw _ (List.mem_of_getElem? (i := 26) rfl)) (hw _ (List.mem_of_getElem? (i := 2) rfl)) (by decide) (by decide)) (g := (mkF m 41 #[.val (.ref a0)] [(.long u4)])) rfl (by rw [hml]; rfl) (argsL := [(.long u4)]) (rest := []) (lenOf pd_2 rfl) rfl (by show 2 * 0 + _ ≤ _; exact Nat.le_of_eq rfl) (hb hby d6_41) (fun _ _ => ⟨rfl, e108, (by decide : 0 + 0 ≤ _), (by decide : 0 + 0 ≤ _)⟩)
  dsimp only [Pt.U, Pt.locs, Pt.cells, Pt.slots] at X110 l110 y110 z110 st110 hQ110
  rw [l110, y110, z110] at X110
  obtain ⟨hv110, N110q, e110⟩ := hQ110
  rw [own_ir_yes hR4] at hv110
  subst hv110
  have N110 := Fr.app N108 N110q
  obtain ⟨cl111, Ar111, q111, S111, M111, H111, G111⟩ := id V0
  obtain ⟨_, _, ⟨T112, L112, k112, n112⟩, -, X112, ⟨Lc112, hQ112, l112, y112, z112⟩, st112⟩ := Jvm.LawKit.callS X110 hx (y := (⟨"com/example/serialroute/serialroute/core/P256FieldSubtractPinLaw", "inRange", "(J)Z"⟩ : MethodName)) hown (mvT hZ (hw _ (List.mem_of_getElem? (i := 24) rfl))) (mvT hZ (hw _ (List.mem_of_getElem? (i := 25) rfl))) (mvT hZ (hw _ (List.mem_of_getElem? (i := 2) rfl))) (mvT hZ (hw _ (List.mem_of_getElem? (i := 26) rfl))) (by decide) (backOf (W := 0) (rm7 l Z aw hw [] u5 h0 n0 Z0 ) hZ (hw _ (List.mem_of_getElem? (i := 26) rfl)) (hw _ (List.mem_of_getElem? (i := 2) rfl)) (by decide) (by decide)) (g := (mkF m 50 #[.val (.ref a0)] [(.long u5)])) rfl (by rw [hml]; rfl) (argsL := [(.long u5)]) (rest := []) (lenOf pd_2 rfl) rfl (by show 2 * 0 + _ ≤ _; exact Nat.le_of_eq rfl) (hb hby d6_50) (fun _ _ => ⟨rfl, e110, (by decide : 0 + 0 ≤ _), (by decide : 0 + 0 ≤ _)⟩)
  dsimp only [Pt.U, Pt.locs, Pt.cells, Pt.slots] at X112 l112 y112 z112 st112 hQ112
  rw [l112, y112, z112] at X112
  obtain ⟨hv112, N112q, e112⟩ := hQ112
  rw [own_ir_yes hR5] at hv112
  subst hv112
  have N112 := Fr.app N110 N112q
  obtain ⟨cl113, Ar113, q113, S113, M113, H113, G113⟩ := id V0
  obtain ⟨_, _, ⟨T114, L114, k114, n114⟩, -, X114, ⟨Lc114, hQ114, l114, y114, z114⟩, st114⟩ := Jvm.LawKit.callS X112 hx (y := (⟨"com/example/serialroute/serialroute/core/P256FieldSubtractPinLaw", "inRange", "(J)Z"⟩ : MethodName)) hown (mvT hZ (hw _ (List.mem_of_getElem? (i := 24) rfl))) (mvT hZ (hw _ (List.mem_of_getElem? (i := 25) rfl))) (mvT hZ (hw _ (List.mem_of_getElem? (i := 2) rfl))) (mvT hZ (hw _ (List.mem_of_getElem? (i := 26) rfl))) (by decide) (backOf (W := 0) (rm7 l Z aw hw [] u6 h0 n0 Z0 ) hZ (hw _ (List.mem_of_getElem? (i := 26) rfl)) (hw _ (List.mem_of_getElem? (i := 2) rfl)) (by decide) (by decide)) (g := (mkF m 60 #[.val (.ref a0)] [(.long u6)])) rfl (by rw [hml]; rfl) (argsL := [(.long u6)]) (rest := []) (lenOf pd_2 rfl) rfl (by show 2 * 0 + _ ≤ _; exact Nat.le_of_eq rfl) (hb hby d6_60) (fun _ _ => ⟨rfl, e112, (by decide : 0 + 0 ≤ _), (by decide : 0 + 0 ≤ _)⟩)
  dsimp only [Pt.U, Pt.locs, Pt.cells, Pt.slots] at X114 l114 y114 z114 st114 hQ114
  rw [l114, y114, z114] at X114
  obtain ⟨hv114, N114q, e114⟩ := hQ114
  rw [own_ir_yes hR6] at hv114
  subst hv114
  have N114 := Fr.app N112 N114q
  obtain ⟨cl115, Ar115, q115, S115, M115, H115, G115⟩ := id V0
  obtain ⟨_, _, ⟨T116, L116, k116, n116⟩, -, X116, ⟨Lc116, hQ116, l116, y116, z116⟩, st116⟩ := Jvm.LawKit.callS X114 hx (y := (⟨"com/example/serialroute/serialroute/core/P256FieldSubtractPinLaw", "inRange", "(J)Z"⟩ : MethodName)) hown (mvT hZ (hw _ (List.mem_of_getElem? (i := 24) rfl))) (mvT hZ (hw _ (List.mem_of_getElem? (i := 25) rfl))) (mvT hZ (hw _ (List.mem_of_getElem? (i := 2) rfl))) (mvT hZ (hw _ (List.mem_of_getElem? (i := 26) rfl))) (by decide) (backOf (W := 0) (rm7 l Z aw hw [] u7 h0 n0 Z0 ) hZ (hw _ (List.mem_of_getElem? (i := 26) rfl)) (hw _ (List.mem_of_getElem? (i := 2) rfl)) (by decide) (by decide)) (g := (mkF m 70 #[.val (.ref a0)] [(.long u7)])) rfl (by rw [hml]; rfl) (argsL := [(.long u7)]) (rest := []) (lenOf pd_2 rfl) rfl (by show 2 * 0 + _ ≤ _; exact Nat.le_of_eq rfl) (hb hby d6_70) (fun _ _ => ⟨rfl, e114, (by decide : 0 + 0 ≤ _), (by decide : 0 + 0 ≤ _)⟩)
  dsimp only [Pt.U, Pt.locs, Pt.cells, Pt.slots] at X116 l116 y116 z116 st116 hQ116
  rw [l116, y116, z116] at X116
  obtain ⟨hv116, N116q, e116⟩ := hQ116
  rw [own_ir_yes hR7] at hv116
  subst hv116
  have N116 := Fr.app N114 N116q
  obtain ⟨_, _, ⟨T117, L117, k117, n117⟩, -, X117, ⟨Lc117, hQ117, l117, y117, z117⟩, st117⟩ := Jvm.LawKit.callS X116 hx (y := (⟨"com/example/serialroute/serialroute/core/P256FieldSubtractPinLaw", "below", "([J)Z"⟩ : MethodName)) hown (mvT hZ (hw _ (List.mem_of_getElem? (i := 10) rfl))) (mvT hZ (hw _ (List.mem_of_getElem? (i := 11) rfl))) (mvT hZ (hw _ (List.mem_of_getElem? (i := 2) rfl))) (mvT hZ (hw _ (List.mem_of_getElem? (i := 12) rfl))) (by decide) (backOf (W := 0) (rm3 l Z aw hw [] a0 kk0 u0 u1 u2 u3 u4 u5 u6 u7 h0 n0 Z0 V0) hZ (hw _ (List.mem_of_getElem? (i := 12) rfl)) (hw _ (List.mem_of_getElem? (i := 2) rfl)) (by decide) (by decide)) (g := (mkF m 79 #[.val (.ref a0)] [(.ref a0)])) rfl (by rw [hml]; rfl) (argsL := [(.ref a0)]) (rest := []) (lenOf pd_1 rfl) rfl (by show 2 * 0 + _ ≤ _; exact Nat.le_of_eq rfl) (hb hby d6_79) (fun _ _ => ⟨rfl, e116, (by decide : 0 + 0 ≤ _), (by decide : 0 + 0 ≤ _)⟩)
  dsimp only [Pt.U, Pt.locs, Pt.cells, Pt.slots] at X117 l117 y117 z117 st117 hQ117
  rw [l117, y117, z117] at X117
  obtain ⟨hv117, N117q, e117⟩ := hQ117
  rw [own_below_yes hRR hlt] at hv117
  subst hv117
  have N117 := Fr.app N116 N117q
  obtain ⟨fs, hr, hrun, hended, hW, hsame⟩ := X117.leave (v := some (.int (1 : Int32))) (fun h => by rw [Bd.returns] at h; cases h)
  refine ⟨_, _, pre0 _ ?_, hrun, hended, _, _, rfl, ?_, ⟨_, rfl⟩, hW, hsame.mono (by decide) (by decide)⟩
  · show Steps p.tables e below (s₁.setTop (mkF m 0 #[.val (.ref a0)] [])) _
    refine XS.aloadN X0.here hx rfl (hb hby d6_0) rfl rfl ?_
    refine XS.iconst X0.here hx rfl (hb hby d6_1) ?_
    show Steps p.tables e below (s₁.setTop (mkF m 2 #[.val (.ref a0)] [(.int (0 : Int32)), (.ref a0)])) _
    have hin101 : ¬ ((0 : Int32) < 0 ∨ cl101.slots.size ≤ ((0 : Int32)).toNatClampNeg) := (inb_of S101 ⟨by decide, by decide⟩)
    refine X0.laload hx (j := (0 : Int32)) (v := (.long u0)) (by rw [e0]; exact Ar101.1) (State.isArrayOf_alike hZ.alike Ar101.2.1) Ar101.2.2 hin101 (H101.at hin101 rfl) (g := (mkF m 2 #[.val (.ref a0)] [(.int (0 : Int32)), (.ref a0)])) rfl rfl (hb hby d6_2) _ ?_
    show Steps p.tables e below (s₁.setTop (mkF m 3 #[.val (.ref a0)] [(.long u0)])) _
    refine st102 _ ?_
    refine XS.ifNo X102.here hx rfl (hb hby d6_6) rfl ((if0 _ _).trans (feq (by decide : ¬ ((1 : Int32) = (0 : Int32)))).1) ?_
    refine XS.aloadN X102.here hx rfl (hb hby d6_9) rfl rfl ?_
    refine XS.iconst X102.here hx rfl (hb hby d6_10) ?_
    show Steps p.tables e below (T102.setTop (mkF m 11 #[.val (.ref a0)] [(.int (1 : Int32)), (.ref a0)])) _
    have hin103 : ¬ ((1 : Int32) < 0 ∨ cl103.slots.size ≤ ((1 : Int32)).toNatClampNeg) := (inb_of S103 ⟨by decide, by decide⟩)
    refine X102.laload hx (j := (1 : Int32)) (v := (.long u1)) (by rw [e102]; exact Ar103.1) (State.isArrayOf_alike hZ.alike Ar103.2.1) Ar103.2.2 hin103 (H103.at hin103 rfl) (g := (mkF m 11 #[.val (.ref a0)] [(.int (1 : Int32)), (.ref a0)])) rfl rfl (hb hby d6_11) _ ?_
    show Steps p.tables e below (T102.setTop (mkF m 12 #[.val (.ref a0)] [(.long u1)])) _
    refine st104 _ ?_
    refine XS.ifNo X104.here hx rfl (hb hby d6_15) rfl ((if0 _ _).trans (feq (by decide : ¬ ((1 : Int32) = (0 : Int32)))).1) ?_
    refine XS.aloadN X104.here hx rfl (hb hby d6_18) rfl rfl ?_
    refine XS.iconst X104.here hx rfl (hb hby d6_19) ?_
    show Steps p.tables e below (T104.setTop (mkF m 20 #[.val (.ref a0)] [(.int (2 : Int32)), (.ref a0)])) _
    have hin105 : ¬ ((2 : Int32) < 0 ∨ cl105.slots.size ≤ ((2 : Int32)).toNatClampNeg) := (inb_of S105 ⟨by decide, by decide⟩)
    refine X104.laload hx (j := (2 : Int32)) (v := (.long u2)) (by rw [e104]; exact Ar105.1) (State.isArrayOf_alike hZ.alike Ar105.2.1) Ar105.2.2 hin105 (H105.at hin105 rfl) (g := (mkF m 20 #[.val (.ref a0)] [(.int (2 : Int32)), (.ref a0)])) rfl rfl (hb hby d6_20) _ ?_
    show Steps p.tables e below (T104.setTop (mkF m 21 #[.val (.ref a0)] [(.long u2)])) _
    refine st106 _ ?_
    refine XS.ifNo X106.here hx rfl (hb hby d6_24) rfl ((if0 _ _).trans (feq (by decide : ¬ ((1 : Int32) = (0 : Int32)))).1) ?_
    refine XS.aloadN X106.here hx rfl (hb hby d6_27) rfl rfl ?_
    refine XS.iconst X106.here hx rfl (hb hby d6_28) ?_
    show Steps p.tables e below (T106.setTop (mkF m 29 #[.val (.ref a0)] [(.int (3 : Int32)), (.ref a0)])) _
    have hin107 : ¬ ((3 : Int32) < 0 ∨ cl107.slots.size ≤ ((3 : Int32)).toNatClampNeg) := (inb_of S107 ⟨by decide, by decide⟩)
    refine X106.laload hx (j := (3 : Int32)) (v := (.long u3)) (by rw [e106]; exact Ar107.1) (State.isArrayOf_alike hZ.alike Ar107.2.1) Ar107.2.2 hin107 (H107.at hin107 rfl) (g := (mkF m 29 #[.val (.ref a0)] [(.int (3 : Int32)), (.ref a0)])) rfl rfl (hb hby d6_29) _ ?_
    show Steps p.tables e below (T106.setTop (mkF m 30 #[.val (.ref a0)] [(.long u3)])) _
    refine st108 _ ?_
    refine XS.ifYes X108.here hx rfl (pc0 := 33) (pc' := 38) rfl (hb hby d6_33) rfl ((if0 _ _).trans (feq (by decide : ¬ ((1 : Int32) = (0 : Int32)))).2) (by decide) (by decide) ?_
    refine XS.aloadN X108.here hx rfl (hb hby d6_38) rfl rfl ?_
    refine XS.iconst X108.here hx rfl (hb hby d6_39) ?_
    show Steps p.tables e below (T108.setTop (mkF m 40 #[.val (.ref a0)] [(.int (4 : Int32)), (.ref a0)])) _
    have hin109 : ¬ ((4 : Int32) < 0 ∨ cl109.slots.size ≤ ((4 : Int32)).toNatClampNeg) := (inb_of S109 ⟨by decide, by decide⟩)
    refine X108.laload hx (j := (4 : Int32)) (v := (.long u4)) (by rw [e108]; exact Ar109.1) (State.isArrayOf_alike hZ.alike Ar109.2.1) Ar109.2.2 hin109 (H109.at hin109 rfl) (g := (mkF m 40 #[.val (.ref a0)] [(.int (4 : Int32)), (.ref a0)])) rfl rfl (hb hby d6_40) _ ?_
    show Steps p.tables e below (T108.setTop (mkF m 41 #[.val (.ref a0)] [(.long u4)])) _
    refine st110 _ ?_
    refine XS.ifNo X110.here hx rfl (hb hby d6_44) rfl ((if0 _ _).trans (feq (by decide : ¬ ((1 : Int32) = (0 : Int32)))).1) ?_
    refine XS.aloadN X110.here hx rfl (hb hby d6_47) rfl rfl ?_
    refine XS.iconst X110.here hx rfl (hb hby d6_48) ?_
    show Steps p.tables e below (T110.setTop (mkF m 49 #[.val (.ref a0)] [(.int (5 : Int32)), (.ref a0)])) _
    have hin111 : ¬ ((5 : Int32) < 0 ∨ cl111.slots.size ≤ ((5 : Int32)).toNatClampNeg) := (inb_of S111 ⟨by decide, by decide⟩)
    refine X110.laload hx (j := (5 : Int32)) (v := (.long u5)) (by rw [e110]; exact Ar111.1) (State.isArrayOf_alike hZ.alike Ar111.2.1) Ar111.2.2 hin111 (H111.at hin111 rfl) (g := (mkF m 49 #[.val (.ref a0)] [(.int (5 : Int32)), (.ref a0)])) rfl rfl (hb hby d6_49) _ ?_
    show Steps p.tables e below (T110.setTop (mkF m 50 #[.val (.ref a0)] [(.long u5)])) _
    refine st112 _ ?_
    refine XS.ifNo X112.here hx rfl (hb hby d6_53) rfl ((if0 _ _).trans (feq (by decide : ¬ ((1 : Int32) = (0 : Int32)))).1) ?_
    refine XS.aloadN X112.here hx rfl (hb hby d6_56) rfl rfl ?_
    refine XS.bipush X112.here hx rfl (hb hby d6_57) ?_
    show Steps p.tables e below (T112.setTop (mkF m 59 #[.val (.ref a0)] [(.int (6 : Int32)), (.ref a0)])) _
    have hin113 : ¬ ((6 : Int32) < 0 ∨ cl113.slots.size ≤ ((6 : Int32)).toNatClampNeg) := (inb_of S113 ⟨by decide, by decide⟩)
    refine X112.laload hx (j := (6 : Int32)) (v := (.long u6)) (by rw [e112]; exact Ar113.1) (State.isArrayOf_alike hZ.alike Ar113.2.1) Ar113.2.2 hin113 (H113.at hin113 rfl) (g := (mkF m 59 #[.val (.ref a0)] [(.int (6 : Int32)), (.ref a0)])) rfl rfl (hb hby d6_59) _ ?_
    show Steps p.tables e below (T112.setTop (mkF m 60 #[.val (.ref a0)] [(.long u6)])) _
    refine st114 _ ?_
    refine XS.ifNo X114.here hx rfl (hb hby d6_63) rfl ((if0 _ _).trans (feq (by decide : ¬ ((1 : Int32) = (0 : Int32)))).1) ?_
    refine XS.aloadN X114.here hx rfl (hb hby d6_66) rfl rfl ?_
    refine XS.bipush X114.here hx rfl (hb hby d6_67) ?_
    show Steps p.tables e below (T114.setTop (mkF m 69 #[.val (.ref a0)] [(.int (7 : Int32)), (.ref a0)])) _
    have hin115 : ¬ ((7 : Int32) < 0 ∨ cl115.slots.size ≤ ((7 : Int32)).toNatClampNeg) := (inb_of S115 ⟨by decide, by decide⟩)
    refine X114.laload hx (j := (7 : Int32)) (v := (.long u7)) (by rw [e114]; exact Ar115.1) (State.isArrayOf_alike hZ.alike Ar115.2.1) Ar115.2.2 hin115 (H115.at hin115 rfl) (g := (mkF m 69 #[.val (.ref a0)] [(.int (7 : Int32)), (.ref a0)])) rfl rfl (hb hby d6_69) _ ?_
    show Steps p.tables e below (T114.setTop (mkF m 70 #[.val (.ref a0)] [(.long u7)])) _
    refine st116 _ ?_
    refine XS.ifYes X116.here hx rfl (pc0 := 73) (pc' := 78) rfl (hb hby d6_73) rfl ((if0 _ _).trans (feq (by decide : ¬ ((1 : Int32) = (0 : Int32)))).2) (by decide) (by decide) ?_
    refine XS.aloadN X116.here hx rfl (hb hby d6_78) rfl rfl ?_
    show Steps p.tables e below (T116.setTop (mkF m 79 #[.val (.ref a0)] [(.ref a0)])) _
    refine st117 _ ?_
    show Steps p.tables e below (T117.setTop (mkF m 82 #[.val (.ref a0)] [(.int (1 : Int32))])) _
    exact retN X117 hx (t := .boolean) Bd.returns (by simp) (hb hby d6_82) hr
  · show Q6 Z a0 kk0 u0 u1 u2 u3 u4 u5 u6 u7 h0 n0 _ T117.heap _
    rw [e117]
    exact ⟨rfl, N117, rfl⟩
def own_bp (u0 u1 u2 u3 u4 u5 u6 u7 : Int64) : Int32 := if u7 = (4294967295 : Int64) then (if u6 = (1 : Int64) then (if u5 = (0 : Int64) then (if u4 = (0 : Int64) then (if u3 = (0 : Int64) then (if u2 = (4294967295 : Int64) then (if u1 = (4294967295 : Int64) then (if u0 = (4294967295 : Int64) then (0) else if u0 < (4294967295 : Int64) then 1 else 0) else if u1 < (4294967295 : Int64) then 1 else 0) else if u2 < (4294967295 : Int64) then 1 else 0) else if u3 < (0 : Int64) then 1 else 0) else if u4 < (0 : Int64) then 1 else 0) else if u5 < (0 : Int64) then 1 else 0) else if u6 < (1 : Int64) then 1 else 0) else if u7 < (4294967295 : Int64) then 1 else 0
theorem own_bp_lt {e0 e1 e2 e3 e4 e5 e6 e7 : Int64} (h : own_RR e0 e1 e2 e3 e4 e5 e6 e7) (q : ¬ own_bp e0 e1 e2 e3 e4 e5 e6 e7 = (0 : Int32)) : own_W e0 e1 e2 e3 e4 e5 e6 e7 < own_P := by
  obtain ⟨⟨h0, g0⟩, ⟨h1, g1⟩, ⟨h2, g2⟩, ⟨h3, g3⟩, ⟨h4, g4⟩, ⟨h5, g5⟩, ⟨h6, g6⟩, ⟨h7, g7⟩⟩ := h
  unfold own_W own_P
  unfold own_bp at q
  simp only [← Int64.toInt_inj, Int64.lt_iff_toInt_lt, show (0 : Int64).toInt = 0 by decide, show (1 : Int64).toInt = 1 by decide, show (4294967295 : Int64).toInt = 4294967295 by decide] at q
  repeat' split at q
  all_goals first | omega | exact absurd rfl q
theorem own_bp_ge {e0 e1 e2 e3 e4 e5 e6 e7 : Int64} (h : own_RR e0 e1 e2 e3 e4 e5 e6 e7) (q : own_bp e0 e1 e2 e3 e4 e5 e6 e7 = (0 : Int32)) : own_P ≤ own_W e0 e1 e2 e3 e4 e5 e6 e7 := by
  obtain ⟨⟨h0, g0⟩, ⟨h1, g1⟩, ⟨h2, g2⟩, ⟨h3, g3⟩, ⟨h4, g4⟩, ⟨h5, g5⟩, ⟨h6, g6⟩, ⟨h7, g7⟩⟩ := h
  unfold own_W own_P
  unfold own_bp at q
  simp only [← Int64.toInt_inj, Int64.lt_iff_toInt_lt, show (0 : Int64).toInt = 0 by decide, show (1 : Int64).toInt = 1 by decide, show (4294967295 : Int64).toInt = 4294967295 by decide] at q
  repeat' split at q
  all_goals first | omega | exact absurd q (by decide)
theorem own_fin_sub0 {a0 a1 a2 a3 a4 a5 a6 a7 b0 b1 b2 b3 b4 b5 b6 b7 o0 o1 o2 o3 o4 o5 o6 o7 c8 : Int64}  (hA : own_W a0 a1 a2 a3 a4 a5 a6 a7 < own_P) (hB : own_W b0 b1 b2 b3 b4 b5 b6 b7 < own_P) (RA : own_RR a0 a1 a2 a3 a4 a5 a6 a7) (RB : own_RR b0 b1 b2 b3 b4 b5 b6 b7) (tel : own_W o0 o1 o2 o3 o4 o5 o6 o7 + 115792089237316195423570985008687907853269984665640564039457584007913129639936 * c8.toInt = own_W a0 a1 a2 a3 a4 a5 a6 a7 - own_W b0 b1 b2 b3 b4 b5 b6 b7) (hc : c8 = (0 : Int64)) : own_W o0 o1 o2 o3 o4 o5 o6 o7 < own_P ∧ (own_W o0 o1 o2 o3 o4 o5 o6 o7 = own_W a0 a1 a2 a3 a4 a5 a6 a7 - own_W b0 b1 b2 b3 b4 b5 b6 b7 ∨ own_W o0 o1 o2 o3 o4 o5 o6 o7 = own_W a0 a1 a2 a3 a4 a5 a6 a7 - own_W b0 b1 b2 b3 b4 b5 b6 b7 + own_P) := by
  have wa := own_Wb RA
  have wb := own_Wb RB
  have z : (0 : Int64).toInt = 0 := by decide
  rw [hc, z] at tel
  refine ⟨?_, Or.inl ?_⟩ <;> omega
theorem own_fin_sub1 {a0 a1 a2 a3 a4 a5 a6 a7 b0 b1 b2 b3 b4 b5 b6 b7 o0 o1 o2 o3 o4 o5 o6 o7 k0 k1 k2 k3 k4 k5 k6 k7 c8 : Int64} {c : Int} (hA : own_W a0 a1 a2 a3 a4 a5 a6 a7 < own_P) (hB : own_W b0 b1 b2 b3 b4 b5 b6 b7 < own_P) (RA : own_RR a0 a1 a2 a3 a4 a5 a6 a7) (RB : own_RR b0 b1 b2 b3 b4 b5 b6 b7) (ro : own_RR o0 o1 o2 o3 o4 o5 o6 o7) (tel : own_W o0 o1 o2 o3 o4 o5 o6 o7 + 115792089237316195423570985008687907853269984665640564039457584007913129639936 * c8.toInt = own_W a0 a1 a2 a3 a4 a5 a6 a7 - own_W b0 b1 b2 b3 b4 b5 b6 b7) (h8 : -1 ≤ c8.toInt ∧ c8.toInt ≤ 0) (hc : ¬ c8 = (0 : Int64)) (Rk : own_RR k0 k1 k2 k3 k4 k5 k6 k7) (Q : own_W k0 k1 k2 k3 k4 k5 k6 k7 + 115792089237316195423570985008687907853269984665640564039457584007913129639936 * c = own_W o0 o1 o2 o3 o4 o5 o6 o7 + own_P) (Cq : 0 ≤ c ∧ c ≤ 1) : own_W k0 k1 k2 k3 k4 k5 k6 k7 < own_P ∧ (own_W k0 k1 k2 k3 k4 k5 k6 k7 = own_W a0 a1 a2 a3 a4 a5 a6 a7 - own_W b0 b1 b2 b3 b4 b5 b6 b7 ∨ own_W k0 k1 k2 k3 k4 k5 k6 k7 = own_W a0 a1 a2 a3 a4 a5 a6 a7 - own_W b0 b1 b2 b3 b4 b5 b6 b7 + own_P) := by
  have wa := own_Wb RA
  have wb := own_Wb RB
  have z : (0 : Int64).toInt = 0 := by decide
  have n8 : c8.toInt ≠ 0 := fun q => hc (Int64.toInt_inj.mp (by rw [q, z]))
  have wo := own_Wb ro
  have wk := own_Wb Rk
  have hP : own_P = 115792089210356248762697446949407573530086143415290314195533631308867097853951 := rfl
  refine ⟨?_, Or.inr ?_⟩ <;> omega
theorem own_fin_add0 {a0 a1 a2 a3 a4 a5 a6 a7 b0 b1 b2 b3 b4 b5 b6 b7 o0 o1 o2 o3 o4 o5 o6 o7 c8 : Int64}  (hA : own_W a0 a1 a2 a3 a4 a5 a6 a7 < own_P) (hB : own_W b0 b1 b2 b3 b4 b5 b6 b7 < own_P) (RA : own_RR a0 a1 a2 a3 a4 a5 a6 a7) (RB : own_RR b0 b1 b2 b3 b4 b5 b6 b7) (ro : own_RR o0 o1 o2 o3 o4 o5 o6 o7) (tel : own_W o0 o1 o2 o3 o4 o5 o6 o7 + 115792089237316195423570985008687907853269984665640564039457584007913129639936 * c8.toInt = own_W a0 a1 a2 a3 a4 a5 a6 a7 + own_W b0 b1 b2 b3 b4 b5 b6 b7) (hc : c8 = (0 : Int64)) (hb : ¬ own_bp o0 o1 o2 o3 o4 o5 o6 o7 = (0 : Int32)) : own_W o0 o1 o2 o3 o4 o5 o6 o7 < own_P ∧ (own_W o0 o1 o2 o3 o4 o5 o6 o7 = own_W a0 a1 a2 a3 a4 a5 a6 a7 + own_W b0 b1 b2 b3 b4 b5 b6 b7 ∨ own_W o0 o1 o2 o3 o4 o5 o6 o7 = own_W a0 a1 a2 a3 a4 a5 a6 a7 + own_W b0 b1 b2 b3 b4 b5 b6 b7 - own_P) := by
  have wa := own_Wb RA
  have wb := own_Wb RB
  have z : (0 : Int64).toInt = 0 := by decide
  rw [hc, z] at tel
  have hl := own_bp_lt ro hb
  refine ⟨hl, Or.inl ?_⟩
  omega
theorem own_fin_add1 {a0 a1 a2 a3 a4 a5 a6 a7 b0 b1 b2 b3 b4 b5 b6 b7 o0 o1 o2 o3 o4 o5 o6 o7 k0 k1 k2 k3 k4 k5 k6 k7 c8 : Int64} {c : Int} (hA : own_W a0 a1 a2 a3 a4 a5 a6 a7 < own_P) (hB : own_W b0 b1 b2 b3 b4 b5 b6 b7 < own_P) (RA : own_RR a0 a1 a2 a3 a4 a5 a6 a7) (RB : own_RR b0 b1 b2 b3 b4 b5 b6 b7) (ro : own_RR o0 o1 o2 o3 o4 o5 o6 o7) (tel : own_W o0 o1 o2 o3 o4 o5 o6 o7 + 115792089237316195423570985008687907853269984665640564039457584007913129639936 * c8.toInt = own_W a0 a1 a2 a3 a4 a5 a6 a7 + own_W b0 b1 b2 b3 b4 b5 b6 b7) (hc : c8 = (0 : Int64)) (hb : own_bp o0 o1 o2 o3 o4 o5 o6 o7 = (0 : Int32)) (Rk : own_RR k0 k1 k2 k3 k4 k5 k6 k7) (Q : own_W k0 k1 k2 k3 k4 k5 k6 k7 + 115792089237316195423570985008687907853269984665640564039457584007913129639936 * c = own_W o0 o1 o2 o3 o4 o5 o6 o7 - own_P) (Cq : -1 ≤ c ∧ c ≤ 0) : own_W k0 k1 k2 k3 k4 k5 k6 k7 < own_P ∧ (own_W k0 k1 k2 k3 k4 k5 k6 k7 = own_W a0 a1 a2 a3 a4 a5 a6 a7 + own_W b0 b1 b2 b3 b4 b5 b6 b7 ∨ own_W k0 k1 k2 k3 k4 k5 k6 k7 = own_W a0 a1 a2 a3 a4 a5 a6 a7 + own_W b0 b1 b2 b3 b4 b5 b6 b7 - own_P) := by
  have wa := own_Wb RA
  have wb := own_Wb RB
  have z : (0 : Int64).toInt = 0 := by decide
  have wo := own_Wb ro
  have wk := own_Wb Rk
  have hP : own_P = 115792089210356248762697446949407573530086143415290314195533631308867097853951 := rfl
  rw [hc, z] at tel
  have hl := own_bp_ge ro hb
  refine ⟨?_, Or.inr ?_⟩ <;> omega
theorem own_fin_add2 {a0 a1 a2 a3 a4 a5 a6 a7 b0 b1 b2 b3 b4 b5 b6 b7 o0 o1 o2 o3 o4 o5 o6 o7 k0 k1 k2 k3 k4 k5 k6 k7 c8 : Int64} {c : Int} (hA : own_W a0 a1 a2 a3 a4 a5 a6 a7 < own_P) (hB : own_W b0 b1 b2 b3 b4 b5 b6 b7 < own_P) (RA : own_RR a0 a1 a2 a3 a4 a5 a6 a7) (RB : own_RR b0 b1 b2 b3 b4 b5 b6 b7) (ro : own_RR o0 o1 o2 o3 o4 o5 o6 o7) (tel : own_W o0 o1 o2 o3 o4 o5 o6 o7 + 115792089237316195423570985008687907853269984665640564039457584007913129639936 * c8.toInt = own_W a0 a1 a2 a3 a4 a5 a6 a7 + own_W b0 b1 b2 b3 b4 b5 b6 b7) (h8 : 0 ≤ c8.toInt ∧ c8.toInt ≤ 1) (hc : ¬ c8 = (0 : Int64)) (Rk : own_RR k0 k1 k2 k3 k4 k5 k6 k7) (Q : own_W k0 k1 k2 k3 k4 k5 k6 k7 + 115792089237316195423570985008687907853269984665640564039457584007913129639936 * c = own_W o0 o1 o2 o3 o4 o5 o6 o7 - own_P) (Cq : -1 ≤ c ∧ c ≤ 0) : own_W k0 k1 k2 k3 k4 k5 k6 k7 < own_P ∧ (own_W k0 k1 k2 k3 k4 k5 k6 k7 = own_W a0 a1 a2 a3 a4 a5 a6 a7 + own_W b0 b1 b2 b3 b4 b5 b6 b7 ∨ own_W k0 k1 k2 k3 k4 k5 k6 k7 = own_W a0 a1 a2 a3 a4 a5 a6 a7 + own_W b0 b1 b2 b3 b4 b5 b6 b7 - own_P) := by
  have wa := own_Wb RA
  have wb := own_Wb RB
  have z : (0 : Int64).toInt = 0 := by decide
  have n8 : c8.toInt ≠ 0 := fun q => hc (Int64.toInt_inj.mp (by rw [q, z]))
  have wo := own_Wb ro
  have wk := own_Wb Rk
  have hP : own_P = 115792089210356248762697446949407573530086143415290314195533631308867097853951 := rfl
  refine ⟨?_, Or.inr ?_⟩ <;> omega
theorem d9_0 : decode prog_29_method_13_code 0 = .ok (.bipush 7, 2) := by decide +kernel
theorem d9_2 : decode prog_29_method_13_code 2 = .ok (.istore_n 1, 1) := by decide +kernel
theorem d9_3 : decode prog_29_method_13_code 3 = .ok (.iload_n 1, 1) := by decide +kernel
theorem d9_4 : decode prog_29_method_13_code 4 = .ok (.ifCond .lt 39, 3) := by decide +kernel
theorem d9_7 : decode prog_29_method_13_code 7 = .ok (.aload_n 0, 1) := by decide +kernel
theorem d9_8 : decode prog_29_method_13_code 8 = .ok (.iload_n 1, 1) := by decide +kernel
theorem d9_9 : decode prog_29_method_13_code 9 = .ok (.laload, 1) := by decide +kernel
theorem d9_10 : decode prog_29_method_13_code 10 = .ok (.getstatic 82, 3) := by decide +kernel
theorem d9_13 : decode prog_29_method_13_code 13 = .ok (.iload_n 1, 1) := by decide +kernel
theorem d9_14 : decode prog_29_method_13_code 14 = .ok (.laload, 1) := by decide +kernel
theorem d9_15 : decode prog_29_method_13_code 15 = .ok (.lcmp, 1) := by decide +kernel
theorem d9_16 : decode prog_29_method_13_code 16 = .ok (.ifCond .eq 21, 3) := by decide +kernel
theorem d9_37 : decode prog_29_method_13_code 37 = .ok (.iinc 1 (-1), 3) := by decide +kernel
theorem d9_40 : decode prog_29_method_13_code 40 = .ok (.goto (-37), 3) := by decide +kernel
theorem d9_43 : decode prog_29_method_13_code 43 = .ok (.iconst 0, 1) := by decide +kernel
theorem d9_44 : decode prog_29_method_13_code 44 = .ok (.ireturn, 1) := by decide +kernel
theorem d9_19 : decode prog_29_method_13_code 19 = .ok (.aload_n 0, 1) := by decide +kernel
theorem d9_20 : decode prog_29_method_13_code 20 = .ok (.iload_n 1, 1) := by decide +kernel
theorem d9_21 : decode prog_29_method_13_code 21 = .ok (.laload, 1) := by decide +kernel
theorem d9_22 : decode prog_29_method_13_code 22 = .ok (.getstatic 82, 3) := by decide +kernel
theorem d9_25 : decode prog_29_method_13_code 25 = .ok (.iload_n 1, 1) := by decide +kernel
theorem d9_26 : decode prog_29_method_13_code 26 = .ok (.laload, 1) := by decide +kernel
theorem d9_27 : decode prog_29_method_13_code 27 = .ok (.lcmp, 1) := by decide +kernel
theorem d9_28 : decode prog_29_method_13_code 28 = .ok (.ifCond .ge 7, 3) := by decide +kernel
theorem d9_31 : decode prog_29_method_13_code 31 = .ok (.iconst 1, 1) := by decide +kernel
theorem d9_32 : decode prog_29_method_13_code 32 = .ok (.goto 4, 3) := by decide +kernel
theorem d9_36 : decode prog_29_method_13_code 36 = .ok (.ireturn, 1) := by decide +kernel
theorem d9_35 : decode prog_29_method_13_code 35 = .ok (.iconst 0, 1) := by decide +kernel
theorem ef_rm9 (m : MethodId) (x0 : Addr) : entryFrame m #[(.ref x0)] 2 = mkF m 0 #[.val (.ref x0), .unset] [] := by first | (simp [entryFrame, mkF, argsToLocals, Value.category]; done) | rfl
theorem pn_1 : plainName "com/example/serialroute/serialroute/core/P256Field" = true := by first | (simp [plainName, overriddenIn]; done) | decide +kernel
def Q9 (Z : State) (a0 : Addr) (wp : Addr) (kp : ClassId) (kk0 : ClassId) (u0 : Int64) (u1 : Int64) (u2 : Int64) (u3 : Int64) (u4 : Int64) (u5 : Int64) (u6 : Int64) (u7 : Int64) (h0 : Heap) (n0 : Nat) (v : Option Value) (h : Heap) (L : List Loc) : Prop := v = some (.int (own_bp u0 u1 u2 u3 u4 u5 u6 u7)) ∧ Fr n0 L ∧ h = h0
set_option maxRecDepth 65536 in
set_option maxHeartbeats 40000000 in
theorem rm9 (l : Launch) (Z : State) (aw : Array Value) (hw : ∀ d ∈ tables_1, d.before aw Z = true) (ws : List Jvm.Cond) (a0 : Addr) (wp : Addr) (kp : ClassId) (kk0 : ClassId) (u0 : Int64) (u1 : Int64) (u2 : Int64) (u3 : Int64) (u4 : Int64) (u5 : Int64) (u6 : Int64) (u7 : Int64) (h0 : Heap) (n0 : Nat) (Z0 : n0 ≤ h0.size) (SP : Sta Z h0 "com/example/serialroute/serialroute/core/P256Field" "P_WORDS" "[J" (.ref wp)) (VP : Arv Z h0 wp kp .long (8 : Int32) [(.long (4294967295 : Int64)), (.long (4294967295 : Int64)), (.long (4294967295 : Int64)), (.long (0 : Int64)), (.long (0 : Int64)), (.long (0 : Int64)), (.long (1 : Int64)), (.long (4294967295 : Int64))] (.long (0 : Int64))) (V0 : Arv Z h0 a0 kk0 .long (8 : Int32) [(.long u0), (.long u1), (.long u2), (.long u3), (.long u4), (.long u5), (.long u6), (.long u7)] (.long (0 : Int64))) :
    MetFree l (⟨"com/example/serialroute/serialroute/core/P256Field", "belowP", "([J)Z"⟩ : MethodName) (head1 (Jvm.Cond.code (⟨"com/example/serialroute/serialroute/core/P256Field", "belowP", "([J)Z"⟩ : MethodName) prog_29_method_13_code 2 (some .boolean) :: ws) ({ frames := 0, cells := 0, slots := 0, locals := 0 } : Room)) (fun a U => a = #[(.ref a0)] ∧ Z.Warmed39 U.vm ∧ U.heap = h0) (fun _ _ _ _ _ => True) (fun _ U oc U' => ∃ v L, oc = .returned v ∧ Q9 Z a0 wp kp kk0 u0 u1 u2 u3 u4 u5 u6 u7 h0 n0 v U'.heap L ∧ FrameEnd U oc U' L ({ frames := 0, cells := 0, slots := 0, locals := 0 } : Room).cells ({ frames := 0, cells := 0, slots := 0, locals := 0 } : Room).slots) := by
  refine MetFree.of_bodySF (plainFor_of_name pn_1) hisR ?_
  intro p e s m args below meth c s₁ Bd hml0 hP hK
  obtain ⟨rfl, hZ, hh⟩ := hP
  have hx := Bd.exec
  have hby := Bd.bytes
  have hml : c.maxLocals = 2 := hml0
  have hown : s.vm.findClass "com/example/serialroute/serialroute/core/P256Field" = some m.cls := findClass_of_methodNamed Bd.named
  have hnm := (name_of_methodNamed Bd.named Bd.method).1
  have X0 : Stand p l e ({ frames := 0, cells := 0, slots := 0, locals := 0 } : Room) s m #[(.ref a0)] below meth c s₁ [] 0 0 := Stand.of_body Bd
  have e0 : s₁.heap = h0 := by rw [← hh, Bd.state]; rfl
  have N0 := Fr.nil n0
  have pre0 : ∀ t, Steps p.tables e below (s₁.setTop (mkF m 0 #[.val (.ref a0), .unset] [])) t → Steps p.tables e below (s₁.setTop (entryFrame m #[(.ref a0)] 2)) t := fun t k => castTop (ef_rm9 m a0) k
  obtain ⟨cl101, Ar101, q101, S101, M101, H101, G101⟩ := id V0
  obtain ⟨T102, X102, e102, st102⟩ := getS2 X0 hx hZ hown (host := "") (Or.inl (hw _ (List.mem_of_getElem? (i := 33) rfl))) Via.refl e0 SP (g := (mkF m 10 #[.val (.ref a0), .val (.int (7 : Int32))] [(.long u7)])) rfl (hb hby d9_10)
  obtain ⟨cl103, Ar103, q103, S103, M103, H103, G103⟩ := id VP
  have pre104 : ∀ t, Steps p.tables e below (T102.setTop (mkF m 16 #[.val (.ref a0), .val (.int (7 : Int32))] [(.int (lcmpW u7 (4294967295 : Int64)))])) t → Steps p.tables e below (s₁.setTop (entryFrame m #[(.ref a0)] 2)) t := fun t k => by
    refine pre0 t ?_
    show Steps p.tables e below (s₁.setTop (mkF m 0 #[.val (.ref a0), .unset] [])) _
    refine XS.bipush X0.here hx rfl (hb hby d9_0) ?_
    refine XS.istoreN X0.here hx rfl (hb hby d9_2) rfl (l' := #[.val (.ref a0), .val (.int (7 : Int32))]) rfl ?_
    refine XS.iloadN X0.here hx rfl (hb hby d9_3) rfl ?_
    refine XS.ifNo X0.here hx rfl (hb hby d9_4) rfl ((if0 _ _).trans (flt (by decide : ¬ ((7 : Int32) < (0 : Int32)))).1) ?_
    show Steps p.tables e below (s₁.setTop (mkF m 7 #[.val (.ref a0), .val (.int (7 : Int32))] [])) _
    refine XS.aloadN X0.here hx rfl (hb hby d9_7) rfl rfl ?_
    refine XS.iloadN X0.here hx rfl (hb hby d9_8) rfl ?_
    show Steps p.tables e below (s₁.setTop (mkF m 9 #[.val (.ref a0), .val (.int (7 : Int32))] [(.int (7 : Int32)), (.ref a0)])) _
    have hin101 : ¬ ((7 : Int32) < 0 ∨ cl101.slots.size ≤ ((7 : Int32)).toNatClampNeg) := (inb_of S101 ⟨by decide, by decide⟩)
    refine X0.laload hx (j := (7 : Int32)) (v := (.long u7)) (by rw [e0]; exact Ar101.1) (State.isArrayOf_alike hZ.alike Ar101.2.1) Ar101.2.2 hin101 (H101.at hin101 rfl) (g := (mkF m 9 #[.val (.ref a0), .val (.int (7 : Int32))] [(.int (7 : Int32)), (.ref a0)])) rfl rfl (hb hby d9_9) _ ?_
    show Steps p.tables e below (s₁.setTop (mkF m 10 #[.val (.ref a0), .val (.int (7 : Int32))] [(.long u7)])) _
    refine st102 _ ?_
    refine XS.iloadN X102.here hx rfl (hb hby d9_13) rfl ?_
    show Steps p.tables e below (T102.setTop (mkF m 14 #[.val (.ref a0), .val (.int (7 : Int32))] [(.int (7 : Int32)), (.ref wp), (.long u7)])) _
    have hin103 : ¬ ((7 : Int32) < 0 ∨ cl103.slots.size ≤ ((7 : Int32)).toNatClampNeg) := (inb_of S103 ⟨by decide, by decide⟩)
    refine X102.laload hx (j := (7 : Int32)) (v := (.long (4294967295 : Int64))) (by rw [e102]; exact Ar103.1) (State.isArrayOf_alike hZ.alike Ar103.2.1) Ar103.2.2 hin103 (H103.at hin103 rfl) (g := (mkF m 14 #[.val (.ref a0), .val (.int (7 : Int32))] [(.int (7 : Int32)), (.ref wp), (.long u7)])) rfl rfl (hb hby d9_14) _ ?_
    refine XS.lcmp X102.here hx rfl (hb hby d9_15) rfl ?_
    exact k
  by_cases hc105 : u7 = (4294967295 : Int64)
  · obtain ⟨cl106, Ar106, q106, S106, M106, H106, G106⟩ := id V0
    obtain ⟨T107, X107, e107, st107⟩ := getS2 X102 hx hZ hown (host := "") (Or.inl (hw _ (List.mem_of_getElem? (i := 33) rfl))) Via.refl e102 SP (g := (mkF m 10 #[.val (.ref a0), .val (.int (6 : Int32))] [(.long u6)])) rfl (hb hby d9_10)
    obtain ⟨cl108, Ar108, q108, S108, M108, H108, G108⟩ := id VP
    have pre109 : ∀ t, Steps p.tables e below (T107.setTop (mkF m 16 #[.val (.ref a0), .val (.int (6 : Int32))] [(.int (lcmpW u6 (1 : Int64)))])) t → Steps p.tables e below (s₁.setTop (entryFrame m #[(.ref a0)] 2)) t := fun t k => by
      refine pre104 t ?_
      show Steps p.tables e below (T102.setTop (mkF m 16 #[.val (.ref a0), .val (.int (7 : Int32))] [(.int (lcmpW u7 (4294967295 : Int64)))])) _
      refine XS.ifYes X102.here hx rfl (pc0 := 16) (pc' := 37) rfl (hb hby d9_16) rfl ((if0 _ _).trans (teq ((lw_eq u7 (4294967295 : Int64)).mpr hc105)).1) (by decide) (by decide) ?_
      refine XS.iinc X102.here hx rfl (hb hby d9_37) rfl (l' := #[.val (.ref a0), .val (.int (6 : Int32))]) rfl ?_
      refine XS.goto X102.here hx rfl (pc0 := 40) (pc' := 3) rfl (hb hby d9_40) (by decide) (by decide) ?_
      refine XS.iloadN X102.here hx rfl (hb hby d9_3) rfl ?_
      show Steps p.tables e below (T102.setTop (mkF m 4 #[.val (.ref a0), .val (.int (6 : Int32))] [(.int (6 : Int32))])) _
      refine XS.ifNo X102.here hx rfl (hb hby d9_4) rfl ((if0 _ _).trans (flt (by decide : ¬ ((6 : Int32) < (0 : Int32)))).1) ?_
      refine XS.aloadN X102.here hx rfl (hb hby d9_7) rfl rfl ?_
      refine XS.iloadN X102.here hx rfl (hb hby d9_8) rfl ?_
      show Steps p.tables e below (T102.setTop (mkF m 9 #[.val (.ref a0), .val (.int (6 : Int32))] [(.int (6 : Int32)), (.ref a0)])) _
      have hin106 : ¬ ((6 : Int32) < 0 ∨ cl106.slots.size ≤ ((6 : Int32)).toNatClampNeg) := (inb_of S106 ⟨by decide, by decide⟩)
      refine X102.laload hx (j := (6 : Int32)) (v := (.long u6)) (by rw [e102]; exact Ar106.1) (State.isArrayOf_alike hZ.alike Ar106.2.1) Ar106.2.2 hin106 (H106.at hin106 rfl) (g := (mkF m 9 #[.val (.ref a0), .val (.int (6 : Int32))] [(.int (6 : Int32)), (.ref a0)])) rfl rfl (hb hby d9_9) _ ?_
      show Steps p.tables e below (T102.setTop (mkF m 10 #[.val (.ref a0), .val (.int (6 : Int32))] [(.long u6)])) _
      refine st107 _ ?_
      refine XS.iloadN X107.here hx rfl (hb hby d9_13) rfl ?_
      show Steps p.tables e below (T107.setTop (mkF m 14 #[.val (.ref a0), .val (.int (6 : Int32))] [(.int (6 : Int32)), (.ref wp), (.long u6)])) _
      have hin108 : ¬ ((6 : Int32) < 0 ∨ cl108.slots.size ≤ ((6 : Int32)).toNatClampNeg) := (inb_of S108 ⟨by decide, by decide⟩)
      refine X107.laload hx (j := (6 : Int32)) (v := (.long (1 : Int64))) (by rw [e107]; exact Ar108.1) (State.isArrayOf_alike hZ.alike Ar108.2.1) Ar108.2.2 hin108 (H108.at hin108 rfl) (g := (mkF m 14 #[.val (.ref a0), .val (.int (6 : Int32))] [(.int (6 : Int32)), (.ref wp), (.long u6)])) rfl rfl (hb hby d9_14) _ ?_
      refine XS.lcmp X107.here hx rfl (hb hby d9_15) rfl ?_
      exact k
    by_cases hc110 : u6 = (1 : Int64)
    · obtain ⟨cl111, Ar111, q111, S111, M111, H111, G111⟩ := id V0
      obtain ⟨T112, X112, e112, st112⟩ := getS2 X107 hx hZ hown (host := "") (Or.inl (hw _ (List.mem_of_getElem? (i := 33) rfl))) Via.refl e107 SP (g := (mkF m 10 #[.val (.ref a0), .val (.int (5 : Int32))] [(.long u5)])) rfl (hb hby d9_10)
      obtain ⟨cl113, Ar113, q113, S113, M113, H113, G113⟩ := id VP
      have pre114 : ∀ t, Steps p.tables e below (T112.setTop (mkF m 16 #[.val (.ref a0), .val (.int (5 : Int32))] [(.int (lcmpW u5 (0 : Int64)))])) t → Steps p.tables e below (s₁.setTop (entryFrame m #[(.ref a0)] 2)) t := fun t k => by
        refine pre109 t ?_
        show Steps p.tables e below (T107.setTop (mkF m 16 #[.val (.ref a0), .val (.int (6 : Int32))] [(.int (lcmpW u6 (1 : Int64)))])) _
        refine XS.ifYes X107.here hx rfl (pc0 := 16) (pc' := 37) rfl (hb hby d9_16) rfl ((if0 _ _).trans (teq ((lw_eq u6 (1 : Int64)).mpr hc110)).1) (by decide) (by decide) ?_
        refine XS.iinc X107.here hx rfl (hb hby d9_37) rfl (l' := #[.val (.ref a0), .val (.int (5 : Int32))]) rfl ?_
        refine XS.goto X107.here hx rfl (pc0 := 40) (pc' := 3) rfl (hb hby d9_40) (by decide) (by decide) ?_
        refine XS.iloadN X107.here hx rfl (hb hby d9_3) rfl ?_
        show Steps p.tables e below (T107.setTop (mkF m 4 #[.val (.ref a0), .val (.int (5 : Int32))] [(.int (5 : Int32))])) _
        refine XS.ifNo X107.here hx rfl (hb hby d9_4) rfl ((if0 _ _).trans (flt (by decide : ¬ ((5 : Int32) < (0 : Int32)))).1) ?_
        refine XS.aloadN X107.here hx rfl (hb hby d9_7) rfl rfl ?_
        refine XS.iloadN X107.here hx rfl (hb hby d9_8) rfl ?_
        show Steps p.tables e below (T107.setTop (mkF m 9 #[.val (.ref a0), .val (.int (5 : Int32))] [(.int (5 : Int32)), (.ref a0)])) _
        have hin111 : ¬ ((5 : Int32) < 0 ∨ cl111.slots.size ≤ ((5 : Int32)).toNatClampNeg) := (inb_of S111 ⟨by decide, by decide⟩)
        refine X107.laload hx (j := (5 : Int32)) (v := (.long u5)) (by rw [e107]; exact Ar111.1) (State.isArrayOf_alike hZ.alike Ar111.2.1) Ar111.2.2 hin111 (H111.at hin111 rfl) (g := (mkF m 9 #[.val (.ref a0), .val (.int (5 : Int32))] [(.int (5 : Int32)), (.ref a0)])) rfl rfl (hb hby d9_9) _ ?_
        show Steps p.tables e below (T107.setTop (mkF m 10 #[.val (.ref a0), .val (.int (5 : Int32))] [(.long u5)])) _
        refine st112 _ ?_
        refine XS.iloadN X112.here hx rfl (hb hby d9_13) rfl ?_
        show Steps p.tables e below (T112.setTop (mkF m 14 #[.val (.ref a0), .val (.int (5 : Int32))] [(.int (5 : Int32)), (.ref wp), (.long u5)])) _
        have hin113 : ¬ ((5 : Int32) < 0 ∨ cl113.slots.size ≤ ((5 : Int32)).toNatClampNeg) := (inb_of S113 ⟨by decide, by decide⟩)
        refine X112.laload hx (j := (5 : Int32)) (v := (.long (0 : Int64))) (by rw [e112]; exact Ar113.1) (State.isArrayOf_alike hZ.alike Ar113.2.1) Ar113.2.2 hin113 (H113.at hin113 rfl) (g := (mkF m 14 #[.val (.ref a0), .val (.int (5 : Int32))] [(.int (5 : Int32)), (.ref wp), (.long u5)])) rfl rfl (hb hby d9_14) _ ?_
        refine XS.lcmp X112.here hx rfl (hb hby d9_15) rfl ?_
        exact k
      by_cases hc115 : u5 = (0 : Int64)
      · obtain ⟨cl116, Ar116, q116, S116, M116, H116, G116⟩ := id V0
        obtain ⟨T117, X117, e117, st117⟩ := getS2 X112 hx hZ hown (host := "") (Or.inl (hw _ (List.mem_of_getElem? (i := 33) rfl))) Via.refl e112 SP (g := (mkF m 10 #[.val (.ref a0), .val (.int (4 : Int32))] [(.long u4)])) rfl (hb hby d9_10)
        obtain ⟨cl118, Ar118, q118, S118, M118, H118, G118⟩ := id VP
        have pre119 : ∀ t, Steps p.tables e below (T117.setTop (mkF m 16 #[.val (.ref a0), .val (.int (4 : Int32))] [(.int (lcmpW u4 (0 : Int64)))])) t → Steps p.tables e below (s₁.setTop (entryFrame m #[(.ref a0)] 2)) t := fun t k => by
          refine pre114 t ?_
          show Steps p.tables e below (T112.setTop (mkF m 16 #[.val (.ref a0), .val (.int (5 : Int32))] [(.int (lcmpW u5 (0 : Int64)))])) _
          refine XS.ifYes X112.here hx rfl (pc0 := 16) (pc' := 37) rfl (hb hby d9_16) rfl ((if0 _ _).trans (teq ((lw_eq u5 (0 : Int64)).mpr hc115)).1) (by decide) (by decide) ?_
          refine XS.iinc X112.here hx rfl (hb hby d9_37) rfl (l' := #[.val (.ref a0), .val (.int (4 : Int32))]) rfl ?_
          refine XS.goto X112.here hx rfl (pc0 := 40) (pc' := 3) rfl (hb hby d9_40) (by decide) (by decide) ?_
          refine XS.iloadN X112.here hx rfl (hb hby d9_3) rfl ?_
          show Steps p.tables e below (T112.setTop (mkF m 4 #[.val (.ref a0), .val (.int (4 : Int32))] [(.int (4 : Int32))])) _
          refine XS.ifNo X112.here hx rfl (hb hby d9_4) rfl ((if0 _ _).trans (flt (by decide : ¬ ((4 : Int32) < (0 : Int32)))).1) ?_
          refine XS.aloadN X112.here hx rfl (hb hby d9_7) rfl rfl ?_
          refine XS.iloadN X112.here hx rfl (hb hby d9_8) rfl ?_
          show Steps p.tables e below (T112.setTop (mkF m 9 #[.val (.ref a0), .val (.int (4 : Int32))] [(.int (4 : Int32)), (.ref a0)])) _
          have hin116 : ¬ ((4 : Int32) < 0 ∨ cl116.slots.size ≤ ((4 : Int32)).toNatClampNeg) := (inb_of S116 ⟨by decide, by decide⟩)
          refine X112.laload hx (j := (4 : Int32)) (v := (.long u4)) (by rw [e112]; exact Ar116.1) (State.isArrayOf_alike hZ.alike Ar116.2.1) Ar116.2.2 hin116 (H116.at hin116 rfl) (g := (mkF m 9 #[.val (.ref a0), .val (.int (4 : Int32))] [(.int (4 : Int32)), (.ref a0)])) rfl rfl (hb hby d9_9) _ ?_
          show Steps p.tables e below (T112.setTop (mkF m 10 #[.val (.ref a0), .val (.int (4 : Int32))] [(.long u4)])) _
          refine st117 _ ?_
          refine XS.iloadN X117.here hx rfl (hb hby d9_13) rfl ?_
          show Steps p.tables e below (T117.setTop (mkF m 14 #[.val (.ref a0), .val (.int (4 : Int32))] [(.int (4 : Int32)), (.ref wp), (.long u4)])) _
          have hin118 : ¬ ((4 : Int32) < 0 ∨ cl118.slots.size ≤ ((4 : Int32)).toNatClampNeg) := (inb_of S118 ⟨by decide, by decide⟩)
          refine X117.laload hx (j := (4 : Int32)) (v := (.long (0 : Int64))) (by rw [e117]; exact Ar118.1) (State.isArrayOf_alike hZ.alike Ar118.2.1) Ar118.2.2 hin118 (H118.at hin118 rfl) (g := (mkF m 14 #[.val (.ref a0), .val (.int (4 : Int32))] [(.int (4 : Int32)), (.ref wp), (.long u4)])) rfl rfl (hb hby d9_14) _ ?_
          refine XS.lcmp X117.here hx rfl (hb hby d9_15) rfl ?_
          exact k
        by_cases hc120 : u4 = (0 : Int64)
        · obtain ⟨cl121, Ar121, q121, S121, M121, H121, G121⟩ := id V0
          obtain ⟨T122, X122, e122, st122⟩ := getS2 X117 hx hZ hown (host := "") (Or.inl (hw _ (List.mem_of_getElem? (i := 33) rfl))) Via.refl e117 SP (g := (mkF m 10 #[.val (.ref a0), .val (.int (3 : Int32))] [(.long u3)])) rfl (hb hby d9_10)
          obtain ⟨cl123, Ar123, q123, S123, M123, H123, G123⟩ := id VP
          have pre124 : ∀ t, Steps p.tables e below (T122.setTop (mkF m 16 #[.val (.ref a0), .val (.int (3 : Int32))] [(.int (lcmpW u3 (0 : Int64)))])) t → Steps p.tables e below (s₁.setTop (entryFrame m #[(.ref a0)] 2)) t := fun t k => by
            refine pre119 t ?_
            show Steps p.tables e below (T117.setTop (mkF m 16 #[.val (.ref a0), .val (.int (4 : Int32))] [(.int (lcmpW u4 (0 : Int64)))])) _
            refine XS.ifYes X117.here hx rfl (pc0 := 16) (pc' := 37) rfl (hb hby d9_16) rfl ((if0 _ _).trans (teq ((lw_eq u4 (0 : Int64)).mpr hc120)).1) (by decide) (by decide) ?_
            refine XS.iinc X117.here hx rfl (hb hby d9_37) rfl (l' := #[.val (.ref a0), .val (.int (3 : Int32))]) rfl ?_
            refine XS.goto X117.here hx rfl (pc0 := 40) (pc' := 3) rfl (hb hby d9_40) (by decide) (by decide) ?_
            refine XS.iloadN X117.here hx rfl (hb hby d9_3) rfl ?_
            show Steps p.tables e below (T117.setTop (mkF m 4 #[.val (.ref a0), .val (.int (3 : Int32))] [(.int (3 : Int32))])) _
            refine XS.ifNo X117.here hx rfl (hb hby d9_4) rfl ((if0 _ _).trans (flt (by decide : ¬ ((3 : Int32) < (0 : Int32)))).1) ?_
            refine XS.aloadN X117.here hx rfl (hb hby d9_7) rfl rfl ?_
            refine XS.iloadN X117.here hx rfl (hb hby d9_8) rfl ?_
            show Steps p.tables e below (T117.setTop (mkF m 9 #[.val (.ref a0), .val (.int (3 : Int32))] [(.int (3 : Int32)), (.ref a0)])) _
            have hin121 : ¬ ((3 : Int32) < 0 ∨ cl121.slots.size ≤ ((3 : Int32)).toNatClampNeg) := (inb_of S121 ⟨by decide, by decide⟩)
            refine X117.laload hx (j := (3 : Int32)) (v := (.long u3)) (by rw [e117]; exact Ar121.1) (State.isArrayOf_alike hZ.alike Ar121.2.1) Ar121.2.2 hin121 (H121.at hin121 rfl) (g := (mkF m 9 #[.val (.ref a0), .val (.int (3 : Int32))] [(.int (3 : Int32)), (.ref a0)])) rfl rfl (hb hby d9_9) _ ?_
            show Steps p.tables e below (T117.setTop (mkF m 10 #[.val (.ref a0), .val (.int (3 : Int32))] [(.long u3)])) _
            refine st122 _ ?_
            refine XS.iloadN X122.here hx rfl (hb hby d9_13) rfl ?_
            show Steps p.tables e below (T122.setTop (mkF m 14 #[.val (.ref a0), .val (.int (3 : Int32))] [(.int (3 : Int32)), (.ref wp), (.long u3)])) _
            have hin123 : ¬ ((3 : Int32) < 0 ∨ cl123.slots.size ≤ ((3 : Int32)).toNatClampNeg) := (inb_of S123 ⟨by decide, by decide⟩)
            refine X122.laload hx (j := (3 : Int32)) (v := (.long (0 : Int64))) (by rw [e122]; exact Ar123.1) (State.isArrayOf_alike hZ.alike Ar123.2.1) Ar123.2.2 hin123 (H123.at hin123 rfl) (g := (mkF m 14 #[.val (.ref a0), .val (.int (3 : Int32))] [(.int (3 : Int32)), (.ref wp), (.long u3)])) rfl rfl (hb hby d9_14) _ ?_
            refine XS.lcmp X122.here hx rfl (hb hby d9_15) rfl ?_
            exact k
          by_cases hc125 : u3 = (0 : Int64)
          · obtain ⟨cl126, Ar126, q126, S126, M126, H126, G126⟩ := id V0
            obtain ⟨T127, X127, e127, st127⟩ := getS2 X122 hx hZ hown (host := "") (Or.inl (hw _ (List.mem_of_getElem? (i := 33) rfl))) Via.refl e122 SP (g := (mkF m 10 #[.val (.ref a0), .val (.int (2 : Int32))] [(.long u2)])) rfl (hb hby d9_10)
            obtain ⟨cl128, Ar128, q128, S128, M128, H128, G128⟩ := id VP
            have pre129 : ∀ t, Steps p.tables e below (T127.setTop (mkF m 16 #[.val (.ref a0), .val (.int (2 : Int32))] [(.int (lcmpW u2 (4294967295 : Int64)))])) t → Steps p.tables e below (s₁.setTop (entryFrame m #[(.ref a0)] 2)) t := fun t k => by
              refine pre124 t ?_
              show Steps p.tables e below (T122.setTop (mkF m 16 #[.val (.ref a0), .val (.int (3 : Int32))] [(.int (lcmpW u3 (0 : Int64)))])) _
              refine XS.ifYes X122.here hx rfl (pc0 := 16) (pc' := 37) rfl (hb hby d9_16) rfl ((if0 _ _).trans (teq ((lw_eq u3 (0 : Int64)).mpr hc125)).1) (by decide) (by decide) ?_
              refine XS.iinc X122.here hx rfl (hb hby d9_37) rfl (l' := #[.val (.ref a0), .val (.int (2 : Int32))]) rfl ?_
              refine XS.goto X122.here hx rfl (pc0 := 40) (pc' := 3) rfl (hb hby d9_40) (by decide) (by decide) ?_
              refine XS.iloadN X122.here hx rfl (hb hby d9_3) rfl ?_
              show Steps p.tables e below (T122.setTop (mkF m 4 #[.val (.ref a0), .val (.int (2 : Int32))] [(.int (2 : Int32))])) _
              refine XS.ifNo X122.here hx rfl (hb hby d9_4) rfl ((if0 _ _).trans (flt (by decide : ¬ ((2 : Int32) < (0 : Int32)))).1) ?_
              refine XS.aloadN X122.here hx rfl (hb hby d9_7) rfl rfl ?_
              refine XS.iloadN X122.here hx rfl (hb hby d9_8) rfl ?_
              show Steps p.tables e below (T122.setTop (mkF m 9 #[.val (.ref a0), .val (.int (2 : Int32))] [(.int (2 : Int32)), (.ref a0)])) _
              have hin126 : ¬ ((2 : Int32) < 0 ∨ cl126.slots.size ≤ ((2 : Int32)).toNatClampNeg) := (inb_of S126 ⟨by decide, by decide⟩)
              refine X122.laload hx (j := (2 : Int32)) (v := (.long u2)) (by rw [e122]; exact Ar126.1) (State.isArrayOf_alike hZ.alike Ar126.2.1) Ar126.2.2 hin126 (H126.at hin126 rfl) (g := (mkF m 9 #[.val (.ref a0), .val (.int (2 : Int32))] [(.int (2 : Int32)), (.ref a0)])) rfl rfl (hb hby d9_9) _ ?_
              show Steps p.tables e below (T122.setTop (mkF m 10 #[.val (.ref a0), .val (.int (2 : Int32))] [(.long u2)])) _
              refine st127 _ ?_
              refine XS.iloadN X127.here hx rfl (hb hby d9_13) rfl ?_
              show Steps p.tables e below (T127.setTop (mkF m 14 #[.val (.ref a0), .val (.int (2 : Int32))] [(.int (2 : Int32)), (.ref wp), (.long u2)])) _
              have hin128 : ¬ ((2 : Int32) < 0 ∨ cl128.slots.size ≤ ((2 : Int32)).toNatClampNeg) := (inb_of S128 ⟨by decide, by decide⟩)
              refine X127.laload hx (j := (2 : Int32)) (v := (.long (4294967295 : Int64))) (by rw [e127]; exact Ar128.1) (State.isArrayOf_alike hZ.alike Ar128.2.1) Ar128.2.2 hin128 (H128.at hin128 rfl) (g := (mkF m 14 #[.val (.ref a0), .val (.int (2 : Int32))] [(.int (2 : Int32)), (.ref wp), (.long u2)])) rfl rfl (hb hby d9_14) _ ?_
              refine XS.lcmp X127.here hx rfl (hb hby d9_15) rfl ?_
              exact k
            by_cases hc130 : u2 = (4294967295 : Int64)
            · obtain ⟨cl131, Ar131, q131, S131, M131, H131, G131⟩ := id V0
              obtain ⟨T132, X132, e132, st132⟩ := getS2 X127 hx hZ hown (host := "") (Or.inl (hw _ (List.mem_of_getElem? (i := 33) rfl))) Via.refl e127 SP (g := (mkF m 10 #[.val (.ref a0), .val (.int (1 : Int32))] [(.long u1)])) rfl (hb hby d9_10)
              obtain ⟨cl133, Ar133, q133, S133, M133, H133, G133⟩ := id VP
              have pre134 : ∀ t, Steps p.tables e below (T132.setTop (mkF m 16 #[.val (.ref a0), .val (.int (1 : Int32))] [(.int (lcmpW u1 (4294967295 : Int64)))])) t → Steps p.tables e below (s₁.setTop (entryFrame m #[(.ref a0)] 2)) t := fun t k => by
                refine pre129 t ?_
                show Steps p.tables e below (T127.setTop (mkF m 16 #[.val (.ref a0), .val (.int (2 : Int32))] [(.int (lcmpW u2 (4294967295 : Int64)))])) _
                refine XS.ifYes X127.here hx rfl (pc0 := 16) (pc' := 37) rfl (hb hby d9_16) rfl ((if0 _ _).trans (teq ((lw_eq u2 (4294967295 : Int64)).mpr hc130)).1) (by decide) (by decide) ?_
                refine XS.iinc X127.here hx rfl (hb hby d9_37) rfl (l' := #[.val (.ref a0), .val (.int (1 : Int32))]) rfl ?_
                refine XS.goto X127.here hx rfl (pc0 := 40) (pc' := 3) rfl (hb hby d9_40) (by decide) (by decide) ?_
                refine XS.iloadN X127.here hx rfl (hb hby d9_3) rfl ?_
                show Steps p.tables e below (T127.setTop (mkF m 4 #[.val (.ref a0), .val (.int (1 : Int32))] [(.int (1 : Int32))])) _
                refine XS.ifNo X127.here hx rfl (hb hby d9_4) rfl ((if0 _ _).trans (flt (by decide : ¬ ((1 : Int32) < (0 : Int32)))).1) ?_
                refine XS.aloadN X127.here hx rfl (hb hby d9_7) rfl rfl ?_
                refine XS.iloadN X127.here hx rfl (hb hby d9_8) rfl ?_
                show Steps p.tables e below (T127.setTop (mkF m 9 #[.val (.ref a0), .val (.int (1 : Int32))] [(.int (1 : Int32)), (.ref a0)])) _
                have hin131 : ¬ ((1 : Int32) < 0 ∨ cl131.slots.size ≤ ((1 : Int32)).toNatClampNeg) := (inb_of S131 ⟨by decide, by decide⟩)
                refine X127.laload hx (j := (1 : Int32)) (v := (.long u1)) (by rw [e127]; exact Ar131.1) (State.isArrayOf_alike hZ.alike Ar131.2.1) Ar131.2.2 hin131 (H131.at hin131 rfl) (g := (mkF m 9 #[.val (.ref a0), .val (.int (1 : Int32))] [(.int (1 : Int32)), (.ref a0)])) rfl rfl (hb hby d9_9) _ ?_
                show Steps p.tables e below (T127.setTop (mkF m 10 #[.val (.ref a0), .val (.int (1 : Int32))] [(.long u1)])) _
                refine st132 _ ?_
                refine XS.iloadN X132.here hx rfl (hb hby d9_13) rfl ?_
                show Steps p.tables e below (T132.setTop (mkF m 14 #[.val (.ref a0), .val (.int (1 : Int32))] [(.int (1 : Int32)), (.ref wp), (.long u1)])) _
                have hin133 : ¬ ((1 : Int32) < 0 ∨ cl133.slots.size ≤ ((1 : Int32)).toNatClampNeg) := (inb_of S133 ⟨by decide, by decide⟩)
                refine X132.laload hx (j := (1 : Int32)) (v := (.long (4294967295 : Int64))) (by rw [e132]; exact Ar133.1) (State.isArrayOf_alike hZ.alike Ar133.2.1) Ar133.2.2 hin133 (H133.at hin133 rfl) (g := (mkF m 14 #[.val (.ref a0), .val (.int (1 : Int32))] [(.int (1 : Int32)), (.ref wp), (.long u1)])) rfl rfl (hb hby d9_14) _ ?_
                refine XS.lcmp X132.here hx rfl (hb hby d9_15) rfl ?_
                exact k
              by_cases hc135 : u1 = (4294967295 : Int64)
              · obtain ⟨cl136, Ar136, q136, S136, M136, H136, G136⟩ := id V0
                obtain ⟨T137, X137, e137, st137⟩ := getS2 X132 hx hZ hown (host := "") (Or.inl (hw _ (List.mem_of_getElem? (i := 33) rfl))) Via.refl e132 SP (g := (mkF m 10 #[.val (.ref a0), .val (.int (0 : Int32))] [(.long u0)])) rfl (hb hby d9_10)
                obtain ⟨cl138, Ar138, q138, S138, M138, H138, G138⟩ := id VP
                have pre139 : ∀ t, Steps p.tables e below (T137.setTop (mkF m 16 #[.val (.ref a0), .val (.int (0 : Int32))] [(.int (lcmpW u0 (4294967295 : Int64)))])) t → Steps p.tables e below (s₁.setTop (entryFrame m #[(.ref a0)] 2)) t := fun t k => by
                  refine pre134 t ?_
                  show Steps p.tables e below (T132.setTop (mkF m 16 #[.val (.ref a0), .val (.int (1 : Int32))] [(.int (lcmpW u1 (4294967295 : Int64)))])) _
                  refine XS.ifYes X132.here hx rfl (pc0 := 16) (pc' := 37) rfl (hb hby d9_16) rfl ((if0 _ _).trans (teq ((lw_eq u1 (4294967295 : Int64)).mpr hc135)).1) (by decide) (by decide) ?_
                  refine XS.iinc X132.here hx rfl (hb hby d9_37) rfl (l' := #[.val (.ref a0), .val (.int (0 : Int32))]) rfl ?_
                  refine XS.goto X132.here hx rfl (pc0 := 40) (pc' := 3) rfl (hb hby d9_40) (by decide) (by decide) ?_
                  refine XS.iloadN X132.here hx rfl (hb hby d9_3) rfl ?_
                  show Steps p.tables e below (T132.setTop (mkF m 4 #[.val (.ref a0), .val (.int (0 : Int32))] [(.int (0 : Int32))])) _
                  refine XS.ifNo X132.here hx rfl (hb hby d9_4) rfl ((if0 _ _).trans (flt (by decide : ¬ ((0 : Int32) < (0 : Int32)))).1) ?_
                  refine XS.aloadN X132.here hx rfl (hb hby d9_7) rfl rfl ?_
                  refine XS.iloadN X132.here hx rfl (hb hby d9_8) rfl ?_
                  show Steps p.tables e below (T132.setTop (mkF m 9 #[.val (.ref a0), .val (.int (0 : Int32))] [(.int (0 : Int32)), (.ref a0)])) _
                  have hin136 : ¬ ((0 : Int32) < 0 ∨ cl136.slots.size ≤ ((0 : Int32)).toNatClampNeg) := (inb_of S136 ⟨by decide, by decide⟩)
                  refine X132.laload hx (j := (0 : Int32)) (v := (.long u0)) (by rw [e132]; exact Ar136.1) (State.isArrayOf_alike hZ.alike Ar136.2.1) Ar136.2.2 hin136 (H136.at hin136 rfl) (g := (mkF m 9 #[.val (.ref a0), .val (.int (0 : Int32))] [(.int (0 : Int32)), (.ref a0)])) rfl rfl (hb hby d9_9) _ ?_
                  show Steps p.tables e below (T132.setTop (mkF m 10 #[.val (.ref a0), .val (.int (0 : Int32))] [(.long u0)])) _
                  refine st137 _ ?_
                  refine XS.iloadN X137.here hx rfl (hb hby d9_13) rfl ?_
                  show Steps p.tables e below (T137.setTop (mkF m 14 #[.val (.ref a0), .val (.int (0 : Int32))] [(.int (0 : Int32)), (.ref wp), (.long u0)])) _
                  have hin138 : ¬ ((0 : Int32) < 0 ∨ cl138.slots.size ≤ ((0 : Int32)).toNatClampNeg) := (inb_of S138 ⟨by decide, by decide⟩)
                  refine X137.laload hx (j := (0 : Int32)) (v := (.long (4294967295 : Int64))) (by rw [e137]; exact Ar138.1) (State.isArrayOf_alike hZ.alike Ar138.2.1) Ar138.2.2 hin138 (H138.at hin138 rfl) (g := (mkF m 14 #[.val (.ref a0), .val (.int (0 : Int32))] [(.int (0 : Int32)), (.ref wp), (.long u0)])) rfl rfl (hb hby d9_14) _ ?_
                  refine XS.lcmp X137.here hx rfl (hb hby d9_15) rfl ?_
                  exact k
                by_cases hc140 : u0 = (4294967295 : Int64)
                · obtain ⟨fs, hr, hrun, hended, hW, hsame⟩ := X137.leave (v := some (.int (0 : Int32))) (fun h => by rw [Bd.returns] at h; cases h)
                  refine ⟨_, _, pre139 _ ?_, hrun, hended, _, _, rfl, ?_, ⟨_, rfl⟩, hW, hsame.mono (by decide) (by decide)⟩
                  · show Steps p.tables e below (T137.setTop (mkF m 16 #[.val (.ref a0), .val (.int (0 : Int32))] [(.int (lcmpW u0 (4294967295 : Int64)))])) _
                    refine XS.ifYes X137.here hx rfl (pc0 := 16) (pc' := 37) rfl (hb hby d9_16) rfl ((if0 _ _).trans (teq ((lw_eq u0 (4294967295 : Int64)).mpr hc140)).1) (by decide) (by decide) ?_
                    refine XS.iinc X137.here hx rfl (hb hby d9_37) rfl (l' := #[.val (.ref a0), .val (.int (-1 : Int32))]) rfl ?_
                    refine XS.goto X137.here hx rfl (pc0 := 40) (pc' := 3) rfl (hb hby d9_40) (by decide) (by decide) ?_
                    refine XS.iloadN X137.here hx rfl (hb hby d9_3) rfl ?_
                    show Steps p.tables e below (T137.setTop (mkF m 4 #[.val (.ref a0), .val (.int (-1 : Int32))] [(.int (-1 : Int32))])) _
                    refine XS.ifYes X137.here hx rfl (pc0 := 4) (pc' := 43) rfl (hb hby d9_4) rfl ((if0 _ _).trans (tlt (by decide : (-1 : Int32) < (0 : Int32))).1) (by decide) (by decide) ?_
                    refine XS.iconst X137.here hx rfl (hb hby d9_43) ?_
                    show Steps p.tables e below (T137.setTop (mkF m 44 #[.val (.ref a0), .val (.int (-1 : Int32))] [(.int (0 : Int32))])) _
                    exact retN X137 hx (t := .boolean) Bd.returns (by simp) (hb hby d9_44) hr
                  · show Q9 Z a0 wp kp kk0 u0 u1 u2 u3 u4 u5 u6 u7 h0 n0 _ T137.heap _
                    rw [e137]
                    exact ⟨by rw [own_bp, if_pos hc105, if_pos hc110, if_pos hc115, if_pos hc120, if_pos hc125, if_pos hc130, if_pos hc135, if_pos hc140], N0, rfl⟩
                · obtain ⟨cl141, Ar141, q141, S141, M141, H141, G141⟩ := id V0
                  obtain ⟨T142, X142, e142, st142⟩ := getS2 X137 hx hZ hown (host := "") (Or.inl (hw _ (List.mem_of_getElem? (i := 33) rfl))) Via.refl e137 SP (g := (mkF m 22 #[.val (.ref a0), .val (.int (0 : Int32))] [(.long u0)])) rfl (hb hby d9_22)
                  obtain ⟨cl143, Ar143, q143, S143, M143, H143, G143⟩ := id VP
                  have pre144 : ∀ t, Steps p.tables e below (T142.setTop (mkF m 28 #[.val (.ref a0), .val (.int (0 : Int32))] [(.int (lcmpW u0 (4294967295 : Int64)))])) t → Steps p.tables e below (s₁.setTop (entryFrame m #[(.ref a0)] 2)) t := fun t k => by
                    refine pre139 t ?_
                    show Steps p.tables e below (T137.setTop (mkF m 16 #[.val (.ref a0), .val (.int (0 : Int32))] [(.int (lcmpW u0 (4294967295 : Int64)))])) _
                    refine XS.ifNo X137.here hx rfl (hb hby d9_16) rfl ((if0 _ _).trans (feq (fun q => hc140 ((lw_eq u0 (4294967295 : Int64)).mp q))).1) ?_
                    refine XS.aloadN X137.here hx rfl (hb hby d9_19) rfl rfl ?_
                    refine XS.iloadN X137.here hx rfl (hb hby d9_20) rfl ?_
                    show Steps p.tables e below (T137.setTop (mkF m 21 #[.val (.ref a0), .val (.int (0 : Int32))] [(.int (0 : Int32)), (.ref a0)])) _
                    have hin141 : ¬ ((0 : Int32) < 0 ∨ cl141.slots.size ≤ ((0 : Int32)).toNatClampNeg) := (inb_of S141 ⟨by decide, by decide⟩)
                    refine X137.laload hx (j := (0 : Int32)) (v := (.long u0)) (by rw [e137]; exact Ar141.1) (State.isArrayOf_alike hZ.alike Ar141.2.1) Ar141.2.2 hin141 (H141.at hin141 rfl) (g := (mkF m 21 #[.val (.ref a0), .val (.int (0 : Int32))] [(.int (0 : Int32)), (.ref a0)])) rfl rfl (hb hby d9_21) _ ?_
                    show Steps p.tables e below (T137.setTop (mkF m 22 #[.val (.ref a0), .val (.int (0 : Int32))] [(.long u0)])) _
                    refine st142 _ ?_
                    refine XS.iloadN X142.here hx rfl (hb hby d9_25) rfl ?_
                    show Steps p.tables e below (T142.setTop (mkF m 26 #[.val (.ref a0), .val (.int (0 : Int32))] [(.int (0 : Int32)), (.ref wp), (.long u0)])) _
                    have hin143 : ¬ ((0 : Int32) < 0 ∨ cl143.slots.size ≤ ((0 : Int32)).toNatClampNeg) := (inb_of S143 ⟨by decide, by decide⟩)
                    refine X142.laload hx (j := (0 : Int32)) (v := (.long (4294967295 : Int64))) (by rw [e142]; exact Ar143.1) (State.isArrayOf_alike hZ.alike Ar143.2.1) Ar143.2.2 hin143 (H143.at hin143 rfl) (g := (mkF m 26 #[.val (.ref a0), .val (.int (0 : Int32))] [(.int (0 : Int32)), (.ref wp), (.long u0)])) rfl rfl (hb hby d9_26) _ ?_
                    refine XS.lcmp X142.here hx rfl (hb hby d9_27) rfl ?_
                    exact k
                  by_cases hc145 : u0 < (4294967295 : Int64)
                  · obtain ⟨fs, hr, hrun, hended, hW, hsame⟩ := X142.leave (v := some (.int (1 : Int32))) (fun h => by rw [Bd.returns] at h; cases h)
                    refine ⟨_, _, pre144 _ ?_, hrun, hended, _, _, rfl, ?_, ⟨_, rfl⟩, hW, hsame.mono (by decide) (by decide)⟩
                    · show Steps p.tables e below (T142.setTop (mkF m 28 #[.val (.ref a0), .val (.int (0 : Int32))] [(.int (lcmpW u0 (4294967295 : Int64)))])) _
                      refine XS.ifNo X142.here hx rfl (hb hby d9_28) rfl ((if0 _ _).trans (tlt ((lw_lt u0 (4294967295 : Int64)).mpr hc145)).2.1) ?_
                      refine XS.iconst X142.here hx rfl (hb hby d9_31) ?_
                      refine XS.goto X142.here hx rfl (pc0 := 32) (pc' := 36) rfl (hb hby d9_32) (by decide) (by decide) ?_
                      show Steps p.tables e below (T142.setTop (mkF m 36 #[.val (.ref a0), .val (.int (0 : Int32))] [(.int (1 : Int32))])) _
                      exact retN X142 hx (t := .boolean) Bd.returns (by simp) (hb hby d9_36) hr
                    · show Q9 Z a0 wp kp kk0 u0 u1 u2 u3 u4 u5 u6 u7 h0 n0 _ T142.heap _
                      rw [e142]
                      exact ⟨by rw [own_bp, if_pos hc105, if_pos hc110, if_pos hc115, if_pos hc120, if_pos hc125, if_pos hc130, if_pos hc135, if_neg hc140, if_pos hc145], N0, rfl⟩
                  · obtain ⟨fs, hr, hrun, hended, hW, hsame⟩ := X142.leave (v := some (.int (0 : Int32))) (fun h => by rw [Bd.returns] at h; cases h)
                    refine ⟨_, _, pre144 _ ?_, hrun, hended, _, _, rfl, ?_, ⟨_, rfl⟩, hW, hsame.mono (by decide) (by decide)⟩
                    · show Steps p.tables e below (T142.setTop (mkF m 28 #[.val (.ref a0), .val (.int (0 : Int32))] [(.int (lcmpW u0 (4294967295 : Int64)))])) _
                      refine XS.ifYes X142.here hx rfl (pc0 := 28) (pc' := 35) rfl (hb hby d9_28) rfl ((if0 _ _).trans (flt (fun q => hc145 ((lw_lt u0 (4294967295 : Int64)).mp q))).2.1) (by decide) (by decide) ?_
                      refine XS.iconst X142.here hx rfl (hb hby d9_35) ?_
                      show Steps p.tables e below (T142.setTop (mkF m 36 #[.val (.ref a0), .val (.int (0 : Int32))] [(.int (0 : Int32))])) _
                      exact retN X142 hx (t := .boolean) Bd.returns (by simp) (hb hby d9_36) hr
                    · show Q9 Z a0 wp kp kk0 u0 u1 u2 u3 u4 u5 u6 u7 h0 n0 _ T142.heap _
                      rw [e142]
                      exact ⟨by rw [own_bp, if_pos hc105, if_pos hc110, if_pos hc115, if_pos hc120, if_pos hc125, if_pos hc130, if_pos hc135, if_neg hc140, if_neg hc145], N0, rfl⟩
              · obtain ⟨cl146, Ar146, q146, S146, M146, H146, G146⟩ := id V0
                obtain ⟨T147, X147, e147, st147⟩ := getS2 X132 hx hZ hown (host := "") (Or.inl (hw _ (List.mem_of_getElem? (i := 33) rfl))) Via.refl e132 SP (g := (mkF m 22 #[.val (.ref a0), .val (.int (1 : Int32))] [(.long u1)])) rfl (hb hby d9_22)
                obtain ⟨cl148, Ar148, q148, S148, M148, H148, G148⟩ := id VP
                have pre149 : ∀ t, Steps p.tables e below (T147.setTop (mkF m 28 #[.val (.ref a0), .val (.int (1 : Int32))] [(.int (lcmpW u1 (4294967295 : Int64)))])) t → Steps p.tables e below (s₁.setTop (entryFrame m #[(.ref a0)] 2)) t := fun t k => by
                  refine pre134 t ?_
                  show Steps p.tables e below (T132.setTop (mkF m 16 #[.val (.ref a0), .val (.int (1 : Int32))] [(.int (lcmpW u1 (4294967295 : Int64)))])) _
                  refine XS.ifNo X132.here hx rfl (hb hby d9_16) rfl ((if0 _ _).trans (feq (fun q => hc135 ((lw_eq u1 (4294967295 : Int64)).mp q))).1) ?_
                  refine XS.aloadN X132.here hx rfl (hb hby d9_19) rfl rfl ?_
                  refine XS.iloadN X132.here hx rfl (hb hby d9_20) rfl ?_
                  show Steps p.tables e below (T132.setTop (mkF m 21 #[.val (.ref a0), .val (.int (1 : Int32))] [(.int (1 : Int32)), (.ref a0)])) _
                  have hin146 : ¬ ((1 : Int32) < 0 ∨ cl146.slots.size ≤ ((1 : Int32)).toNatClampNeg) := (inb_of S146 ⟨by decide, by decide⟩)
                  refine X132.laload hx (j := (1 : Int32)) (v := (.long u1)) (by rw [e132]; exact Ar146.1) (State.isArrayOf_alike hZ.alike Ar146.2.1) Ar146.2.2 hin146 (H146.at hin146 rfl) (g := (mkF m 21 #[.val (.ref a0), .val (.int (1 : Int32))] [(.int (1 : Int32)), (.ref a0)])) rfl rfl (hb hby d9_21) _ ?_
                  show Steps p.tables e below (T132.setTop (mkF m 22 #[.val (.ref a0), .val (.int (1 : Int32))] [(.long u1)])) _
                  refine st147 _ ?_
                  refine XS.iloadN X147.here hx rfl (hb hby d9_25) rfl ?_
                  show Steps p.tables e below (T147.setTop (mkF m 26 #[.val (.ref a0), .val (.int (1 : Int32))] [(.int (1 : Int32)), (.ref wp), (.long u1)])) _
                  have hin148 : ¬ ((1 : Int32) < 0 ∨ cl148.slots.size ≤ ((1 : Int32)).toNatClampNeg) := (inb_of S148 ⟨by decide, by decide⟩)
                  refine X147.laload hx (j := (1 : Int32)) (v := (.long (4294967295 : Int64))) (by rw [e147]; exact Ar148.1) (State.isArrayOf_alike hZ.alike Ar148.2.1) Ar148.2.2 hin148 (H148.at hin148 rfl) (g := (mkF m 26 #[.val (.ref a0), .val (.int (1 : Int32))] [(.int (1 : Int32)), (.ref wp), (.long u1)])) rfl rfl (hb hby d9_26) _ ?_
                  refine XS.lcmp X147.here hx rfl (hb hby d9_27) rfl ?_
                  exact k
                by_cases hc150 : u1 < (4294967295 : Int64)
                · obtain ⟨fs, hr, hrun, hended, hW, hsame⟩ := X147.leave (v := some (.int (1 : Int32))) (fun h => by rw [Bd.returns] at h; cases h)
                  refine ⟨_, _, pre149 _ ?_, hrun, hended, _, _, rfl, ?_, ⟨_, rfl⟩, hW, hsame.mono (by decide) (by decide)⟩
                  · show Steps p.tables e below (T147.setTop (mkF m 28 #[.val (.ref a0), .val (.int (1 : Int32))] [(.int (lcmpW u1 (4294967295 : Int64)))])) _
                    refine XS.ifNo X147.here hx rfl (hb hby d9_28) rfl ((if0 _ _).trans (tlt ((lw_lt u1 (4294967295 : Int64)).mpr hc150)).2.1) ?_
                    refine XS.iconst X147.here hx rfl (hb hby d9_31) ?_
                    refine XS.goto X147.here hx rfl (pc0 := 32) (pc' := 36) rfl (hb hby d9_32) (by decide) (by decide) ?_
                    show Steps p.tables e below (T147.setTop (mkF m 36 #[.val (.ref a0), .val (.int (1 : Int32))] [(.int (1 : Int32))])) _
                    exact retN X147 hx (t := .boolean) Bd.returns (by simp) (hb hby d9_36) hr
                  · show Q9 Z a0 wp kp kk0 u0 u1 u2 u3 u4 u5 u6 u7 h0 n0 _ T147.heap _
                    rw [e147]
                    exact ⟨by rw [own_bp, if_pos hc105, if_pos hc110, if_pos hc115, if_pos hc120, if_pos hc125, if_pos hc130, if_neg hc135, if_pos hc150], N0, rfl⟩
                · obtain ⟨fs, hr, hrun, hended, hW, hsame⟩ := X147.leave (v := some (.int (0 : Int32))) (fun h => by rw [Bd.returns] at h; cases h)
                  refine ⟨_, _, pre149 _ ?_, hrun, hended, _, _, rfl, ?_, ⟨_, rfl⟩, hW, hsame.mono (by decide) (by decide)⟩
                  · show Steps p.tables e below (T147.setTop (mkF m 28 #[.val (.ref a0), .val (.int (1 : Int32))] [(.int (lcmpW u1 (4294967295 : Int64)))])) _
                    refine XS.ifYes X147.here hx rfl (pc0 := 28) (pc' := 35) rfl (hb hby d9_28) rfl ((if0 _ _).trans (flt (fun q => hc150 ((lw_lt u1 (4294967295 : Int64)).mp q))).2.1) (by decide) (by decide) ?_
                    refine XS.iconst X147.here hx rfl (hb hby d9_35) ?_
                    show Steps p.tables e below (T147.setTop (mkF m 36 #[.val (.ref a0), .val (.int (1 : Int32))] [(.int (0 : Int32))])) _
                    exact retN X147 hx (t := .boolean) Bd.returns (by simp) (hb hby d9_36) hr
                  · show Q9 Z a0 wp kp kk0 u0 u1 u2 u3 u4 u5 u6 u7 h0 n0 _ T147.heap _
                    rw [e147]
                    exact ⟨by rw [own_bp, if_pos hc105, if_pos hc110, if_pos hc115, if_pos hc120, if_pos hc125, if_pos hc130, if_neg hc135, if_neg hc150], N0, rfl⟩
            · obtain ⟨cl151, Ar151, q151, S151, M151, H151, G151⟩ := id V0
              obtain ⟨T152, X152, e152, st152⟩ := getS2 X127 hx hZ hown (host := "") (Or.inl (hw _ (List.mem_of_getElem? (i := 33) rfl))) Via.refl e127 SP (g := (mkF m 22 #[.val (.ref a0), .val (.int (2 : Int32))] [(.long u2)])) rfl (hb hby d9_22)
              obtain ⟨cl153, Ar153, q153, S153, M153, H153, G153⟩ := id VP
              have pre154 : ∀ t, Steps p.tables e below (T152.setTop (mkF m 28 #[.val (.ref a0), .val (.int (2 : Int32))] [(.int (lcmpW u2 (4294967295 : Int64)))])) t → Steps p.tables e below (s₁.setTop (entryFrame m #[(.ref a0)] 2)) t := fun t k => by
                refine pre129 t ?_
                show Steps p.tables e below (T127.setTop (mkF m 16 #[.val (.ref a0), .val (.int (2 : Int32))] [(.int (lcmpW u2 (4294967295 : Int64)))])) _
                refine XS.ifNo X127.here hx rfl (hb hby d9_16) rfl ((if0 _ _).trans (feq (fun q => hc130 ((lw_eq u2 (4294967295 : Int64)).mp q))).1) ?_
                refine XS.aloadN X127.here hx rfl (hb hby d9_19) rfl rfl ?_
                refine XS.iloadN X127.here hx rfl (hb hby d9_20) rfl ?_
                show Steps p.tables e below (T127.setTop (mkF m 21 #[.val (.ref a0), .val (.int (2 : Int32))] [(.int (2 : Int32)), (.ref a0)])) _
                have hin151 : ¬ ((2 : Int32) < 0 ∨ cl151.slots.size ≤ ((2 : Int32)).toNatClampNeg) := (inb_of S151 ⟨by decide, by decide⟩)
                refine X127.laload hx (j := (2 : Int32)) (v := (.long u2)) (by rw [e127]; exact Ar151.1) (State.isArrayOf_alike hZ.alike Ar151.2.1) Ar151.2.2 hin151 (H151.at hin151 rfl) (g := (mkF m 21 #[.val (.ref a0), .val (.int (2 : Int32))] [(.int (2 : Int32)), (.ref a0)])) rfl rfl (hb hby d9_21) _ ?_
                show Steps p.tables e below (T127.setTop (mkF m 22 #[.val (.ref a0), .val (.int (2 : Int32))] [(.long u2)])) _
                refine st152 _ ?_
                refine XS.iloadN X152.here hx rfl (hb hby d9_25) rfl ?_
                show Steps p.tables e below (T152.setTop (mkF m 26 #[.val (.ref a0), .val (.int (2 : Int32))] [(.int (2 : Int32)), (.ref wp), (.long u2)])) _
                have hin153 : ¬ ((2 : Int32) < 0 ∨ cl153.slots.size ≤ ((2 : Int32)).toNatClampNeg) := (inb_of S153 ⟨by decide, by decide⟩)
                refine X152.laload hx (j := (2 : Int32)) (v := (.long (4294967295 : Int64))) (by rw [e152]; exact Ar153.1) (State.isArrayOf_alike hZ.alike Ar153.2.1) Ar153.2.2 hin153 (H153.at hin153 rfl) (g := (mkF m 26 #[.val (.ref a0), .val (.int (2 : Int32))] [(.int (2 : Int32)), (.ref wp), (.long u2)])) rfl rfl (hb hby d9_26) _ ?_
                refine XS.lcmp X152.here hx rfl (hb hby d9_27) rfl ?_
                exact k
              by_cases hc155 : u2 < (4294967295 : Int64)
              · obtain ⟨fs, hr, hrun, hended, hW, hsame⟩ := X152.leave (v := some (.int (1 : Int32))) (fun h => by rw [Bd.returns] at h; cases h)
                refine ⟨_, _, pre154 _ ?_, hrun, hended, _, _, rfl, ?_, ⟨_, rfl⟩, hW, hsame.mono (by decide) (by decide)⟩
                · show Steps p.tables e below (T152.setTop (mkF m 28 #[.val (.ref a0), .val (.int (2 : Int32))] [(.int (lcmpW u2 (4294967295 : Int64)))])) _
                  refine XS.ifNo X152.here hx rfl (hb hby d9_28) rfl ((if0 _ _).trans (tlt ((lw_lt u2 (4294967295 : Int64)).mpr hc155)).2.1) ?_
                  refine XS.iconst X152.here hx rfl (hb hby d9_31) ?_
                  refine XS.goto X152.here hx rfl (pc0 := 32) (pc' := 36) rfl (hb hby d9_32) (by decide) (by decide) ?_
                  show Steps p.tables e below (T152.setTop (mkF m 36 #[.val (.ref a0), .val (.int (2 : Int32))] [(.int (1 : Int32))])) _
                  exact retN X152 hx (t := .boolean) Bd.returns (by simp) (hb hby d9_36) hr
                · show Q9 Z a0 wp kp kk0 u0 u1 u2 u3 u4 u5 u6 u7 h0 n0 _ T152.heap _
                  rw [e152]
                  exact ⟨by rw [own_bp, if_pos hc105, if_pos hc110, if_pos hc115, if_pos hc120, if_pos hc125, if_neg hc130, if_pos hc155], N0, rfl⟩
              · obtain ⟨fs, hr, hrun, hended, hW, hsame⟩ := X152.leave (v := some (.int (0 : Int32))) (fun h => by rw [Bd.returns] at h; cases h)
                refine ⟨_, _, pre154 _ ?_, hrun, hended, _, _, rfl, ?_, ⟨_, rfl⟩, hW, hsame.mono (by decide) (by decide)⟩
                · show Steps p.tables e below (T152.setTop (mkF m 28 #[.val (.ref a0), .val (.int (2 : Int32))] [(.int (lcmpW u2 (4294967295 : Int64)))])) _
                  refine XS.ifYes X152.here hx rfl (pc0 := 28) (pc' := 35) rfl (hb hby d9_28) rfl ((if0 _ _).trans (flt (fun q => hc155 ((lw_lt u2 (4294967295 : Int64)).mp q))).2.1) (by decide) (by decide) ?_
                  refine XS.iconst X152.here hx rfl (hb hby d9_35) ?_
                  show Steps p.tables e below (T152.setTop (mkF m 36 #[.val (.ref a0), .val (.int (2 : Int32))] [(.int (0 : Int32))])) _
                  exact retN X152 hx (t := .boolean) Bd.returns (by simp) (hb hby d9_36) hr
                · show Q9 Z a0 wp kp kk0 u0 u1 u2 u3 u4 u5 u6 u7 h0 n0 _ T152.heap _
                  rw [e152]
                  exact ⟨by rw [own_bp, if_pos hc105, if_pos hc110, if_pos hc115, if_pos hc120, if_pos hc125, if_neg hc130, if_neg hc155], N0, rfl⟩
          · obtain ⟨cl156, Ar156, q156, S156, M156, H156, G156⟩ := id V0
            obtain ⟨T157, X157, e157, st157⟩ := getS2 X122 hx hZ hown (host := "") (Or.inl (hw _ (List.mem_of_getElem? (i := 33) rfl))) Via.refl e122 SP (g := (mkF m 22 #[.val (.ref a0), .val (.int (3 : Int32))] [(.long u3)])) rfl (hb hby d9_22)
            obtain ⟨cl158, Ar158, q158, S158, M158, H158, G158⟩ := id VP
            have pre159 : ∀ t, Steps p.tables e below (T157.setTop (mkF m 28 #[.val (.ref a0), .val (.int (3 : Int32))] [(.int (lcmpW u3 (0 : Int64)))])) t → Steps p.tables e below (s₁.setTop (entryFrame m #[(.ref a0)] 2)) t := fun t k => by
              refine pre124 t ?_
              show Steps p.tables e below (T122.setTop (mkF m 16 #[.val (.ref a0), .val (.int (3 : Int32))] [(.int (lcmpW u3 (0 : Int64)))])) _
              refine XS.ifNo X122.here hx rfl (hb hby d9_16) rfl ((if0 _ _).trans (feq (fun q => hc125 ((lw_eq u3 (0 : Int64)).mp q))).1) ?_
              refine XS.aloadN X122.here hx rfl (hb hby d9_19) rfl rfl ?_
              refine XS.iloadN X122.here hx rfl (hb hby d9_20) rfl ?_
              show Steps p.tables e below (T122.setTop (mkF m 21 #[.val (.ref a0), .val (.int (3 : Int32))] [(.int (3 : Int32)), (.ref a0)])) _
              have hin156 : ¬ ((3 : Int32) < 0 ∨ cl156.slots.size ≤ ((3 : Int32)).toNatClampNeg) := (inb_of S156 ⟨by decide, by decide⟩)
              refine X122.laload hx (j := (3 : Int32)) (v := (.long u3)) (by rw [e122]; exact Ar156.1) (State.isArrayOf_alike hZ.alike Ar156.2.1) Ar156.2.2 hin156 (H156.at hin156 rfl) (g := (mkF m 21 #[.val (.ref a0), .val (.int (3 : Int32))] [(.int (3 : Int32)), (.ref a0)])) rfl rfl (hb hby d9_21) _ ?_
              show Steps p.tables e below (T122.setTop (mkF m 22 #[.val (.ref a0), .val (.int (3 : Int32))] [(.long u3)])) _
              refine st157 _ ?_
              refine XS.iloadN X157.here hx rfl (hb hby d9_25) rfl ?_
              show Steps p.tables e below (T157.setTop (mkF m 26 #[.val (.ref a0), .val (.int (3 : Int32))] [(.int (3 : Int32)), (.ref wp), (.long u3)])) _
              have hin158 : ¬ ((3 : Int32) < 0 ∨ cl158.slots.size ≤ ((3 : Int32)).toNatClampNeg) := (inb_of S158 ⟨by decide, by decide⟩)
              refine X157.laload hx (j := (3 : Int32)) (v := (.long (0 : Int64))) (by rw [e157]; exact Ar158.1) (State.isArrayOf_alike hZ.alike Ar158.2.1) Ar158.2.2 hin158 (H158.at hin158 rfl) (g := (mkF m 26 #[.val (.ref a0), .val (.int (3 : Int32))] [(.int (3 : Int32)), (.ref wp), (.long u3)])) rfl rfl (hb hby d9_26) _ ?_
              refine XS.lcmp X157.here hx rfl (hb hby d9_27) rfl ?_
              exact k
            by_cases hc160 : u3 < (0 : Int64)
            · obtain ⟨fs, hr, hrun, hended, hW, hsame⟩ := X157.leave (v := some (.int (1 : Int32))) (fun h => by rw [Bd.returns] at h; cases h)
              refine ⟨_, _, pre159 _ ?_, hrun, hended, _, _, rfl, ?_, ⟨_, rfl⟩, hW, hsame.mono (by decide) (by decide)⟩
              · show Steps p.tables e below (T157.setTop (mkF m 28 #[.val (.ref a0), .val (.int (3 : Int32))] [(.int (lcmpW u3 (0 : Int64)))])) _
                refine XS.ifNo X157.here hx rfl (hb hby d9_28) rfl ((if0 _ _).trans (tlt ((lw_lt u3 (0 : Int64)).mpr hc160)).2.1) ?_
                refine XS.iconst X157.here hx rfl (hb hby d9_31) ?_
                refine XS.goto X157.here hx rfl (pc0 := 32) (pc' := 36) rfl (hb hby d9_32) (by decide) (by decide) ?_
                show Steps p.tables e below (T157.setTop (mkF m 36 #[.val (.ref a0), .val (.int (3 : Int32))] [(.int (1 : Int32))])) _
                exact retN X157 hx (t := .boolean) Bd.returns (by simp) (hb hby d9_36) hr
              · show Q9 Z a0 wp kp kk0 u0 u1 u2 u3 u4 u5 u6 u7 h0 n0 _ T157.heap _
                rw [e157]
                exact ⟨by rw [own_bp, if_pos hc105, if_pos hc110, if_pos hc115, if_pos hc120, if_neg hc125, if_pos hc160], N0, rfl⟩
            · obtain ⟨fs, hr, hrun, hended, hW, hsame⟩ := X157.leave (v := some (.int (0 : Int32))) (fun h => by rw [Bd.returns] at h; cases h)
              refine ⟨_, _, pre159 _ ?_, hrun, hended, _, _, rfl, ?_, ⟨_, rfl⟩, hW, hsame.mono (by decide) (by decide)⟩
              · show Steps p.tables e below (T157.setTop (mkF m 28 #[.val (.ref a0), .val (.int (3 : Int32))] [(.int (lcmpW u3 (0 : Int64)))])) _
                refine XS.ifYes X157.here hx rfl (pc0 := 28) (pc' := 35) rfl (hb hby d9_28) rfl ((if0 _ _).trans (flt (fun q => hc160 ((lw_lt u3 (0 : Int64)).mp q))).2.1) (by decide) (by decide) ?_
                refine XS.iconst X157.here hx rfl (hb hby d9_35) ?_
                show Steps p.tables e below (T157.setTop (mkF m 36 #[.val (.ref a0), .val (.int (3 : Int32))] [(.int (0 : Int32))])) _
                exact retN X157 hx (t := .boolean) Bd.returns (by simp) (hb hby d9_36) hr
              · show Q9 Z a0 wp kp kk0 u0 u1 u2 u3 u4 u5 u6 u7 h0 n0 _ T157.heap _
                rw [e157]
                exact ⟨by rw [own_bp, if_pos hc105, if_pos hc110, if_pos hc115, if_pos hc120, if_neg hc125, if_neg hc160], N0, rfl⟩
        · obtain ⟨cl161, Ar161, q161, S161, M161, H161, G161⟩ := id V0
          obtain ⟨T162, X162, e162, st162⟩ := getS2 X117 hx hZ hown (host := "") (Or.inl (hw _ (List.mem_of_getElem? (i := 33) rfl))) Via.refl e117 SP (g := (mkF m 22 #[.val (.ref a0), .val (.int (4 : Int32))] [(.long u4)])) rfl (hb hby d9_22)
          obtain ⟨cl163, Ar163, q163, S163, M163, H163, G163⟩ := id VP
          have pre164 : ∀ t, Steps p.tables e below (T162.setTop (mkF m 28 #[.val (.ref a0), .val (.int (4 : Int32))] [(.int (lcmpW u4 (0 : Int64)))])) t → Steps p.tables e below (s₁.setTop (entryFrame m #[(.ref a0)] 2)) t := fun t k => by
            refine pre119 t ?_
            show Steps p.tables e below (T117.setTop (mkF m 16 #[.val (.ref a0), .val (.int (4 : Int32))] [(.int (lcmpW u4 (0 : Int64)))])) _
            refine XS.ifNo X117.here hx rfl (hb hby d9_16) rfl ((if0 _ _).trans (feq (fun q => hc120 ((lw_eq u4 (0 : Int64)).mp q))).1) ?_
            refine XS.aloadN X117.here hx rfl (hb hby d9_19) rfl rfl ?_
            refine XS.iloadN X117.here hx rfl (hb hby d9_20) rfl ?_
            show Steps p.tables e below (T117.setTop (mkF m 21 #[.val (.ref a0), .val (.int (4 : Int32))] [(.int (4 : Int32)), (.ref a0)])) _
            have hin161 : ¬ ((4 : Int32) < 0 ∨ cl161.slots.size ≤ ((4 : Int32)).toNatClampNeg) := (inb_of S161 ⟨by decide, by decide⟩)
            refine X117.laload hx (j := (4 : Int32)) (v := (.long u4)) (by rw [e117]; exact Ar161.1) (State.isArrayOf_alike hZ.alike Ar161.2.1) Ar161.2.2 hin161 (H161.at hin161 rfl) (g := (mkF m 21 #[.val (.ref a0), .val (.int (4 : Int32))] [(.int (4 : Int32)), (.ref a0)])) rfl rfl (hb hby d9_21) _ ?_
            show Steps p.tables e below (T117.setTop (mkF m 22 #[.val (.ref a0), .val (.int (4 : Int32))] [(.long u4)])) _
            refine st162 _ ?_
            refine XS.iloadN X162.here hx rfl (hb hby d9_25) rfl ?_
            show Steps p.tables e below (T162.setTop (mkF m 26 #[.val (.ref a0), .val (.int (4 : Int32))] [(.int (4 : Int32)), (.ref wp), (.long u4)])) _
            have hin163 : ¬ ((4 : Int32) < 0 ∨ cl163.slots.size ≤ ((4 : Int32)).toNatClampNeg) := (inb_of S163 ⟨by decide, by decide⟩)
            refine X162.laload hx (j := (4 : Int32)) (v := (.long (0 : Int64))) (by rw [e162]; exact Ar163.1) (State.isArrayOf_alike hZ.alike Ar163.2.1) Ar163.2.2 hin163 (H163.at hin163 rfl) (g := (mkF m 26 #[.val (.ref a0), .val (.int (4 : Int32))] [(.int (4 : Int32)), (.ref wp), (.long u4)])) rfl rfl (hb hby d9_26) _ ?_
            refine XS.lcmp X162.here hx rfl (hb hby d9_27) rfl ?_
            exact k
          by_cases hc165 : u4 < (0 : Int64)
          · obtain ⟨fs, hr, hrun, hended, hW, hsame⟩ := X162.leave (v := some (.int (1 : Int32))) (fun h => by rw [Bd.returns] at h; cases h)
            refine ⟨_, _, pre164 _ ?_, hrun, hended, _, _, rfl, ?_, ⟨_, rfl⟩, hW, hsame.mono (by decide) (by decide)⟩
            · show Steps p.tables e below (T162.setTop (mkF m 28 #[.val (.ref a0), .val (.int (4 : Int32))] [(.int (lcmpW u4 (0 : Int64)))])) _
              refine XS.ifNo X162.here hx rfl (hb hby d9_28) rfl ((if0 _ _).trans (tlt ((lw_lt u4 (0 : Int64)).mpr hc165)).2.1) ?_
              refine XS.iconst X162.here hx rfl (hb hby d9_31) ?_
              refine XS.goto X162.here hx rfl (pc0 := 32) (pc' := 36) rfl (hb hby d9_32) (by decide) (by decide) ?_
              show Steps p.tables e below (T162.setTop (mkF m 36 #[.val (.ref a0), .val (.int (4 : Int32))] [(.int (1 : Int32))])) _
              exact retN X162 hx (t := .boolean) Bd.returns (by simp) (hb hby d9_36) hr
            · show Q9 Z a0 wp kp kk0 u0 u1 u2 u3 u4 u5 u6 u7 h0 n0 _ T162.heap _
              rw [e162]
              exact ⟨by rw [own_bp, if_pos hc105, if_pos hc110, if_pos hc115, if_neg hc120, if_pos hc165], N0, rfl⟩
          · obtain ⟨fs, hr, hrun, hended, hW, hsame⟩ := X162.leave (v := some (.int (0 : Int32))) (fun h => by rw [Bd.returns] at h; cases h)
            refine ⟨_, _, pre164 _ ?_, hrun, hended, _, _, rfl, ?_, ⟨_, rfl⟩, hW, hsame.mono (by decide) (by decide)⟩
            · show Steps p.tables e below (T162.setTop (mkF m 28 #[.val (.ref a0), .val (.int (4 : Int32))] [(.int (lcmpW u4 (0 : Int64)))])) _
              refine XS.ifYes X162.here hx rfl (pc0 := 28) (pc' := 35) rfl (hb hby d9_28) rfl ((if0 _ _).trans (flt (fun q => hc165 ((lw_lt u4 (0 : Int64)).mp q))).2.1) (by decide) (by decide) ?_
              refine XS.iconst X162.here hx rfl (hb hby d9_35) ?_
              show Steps p.tables e below (T162.setTop (mkF m 36 #[.val (.ref a0), .val (.int (4 : Int32))] [(.int (0 : Int32))])) _
              exact retN X162 hx (t := .boolean) Bd.returns (by simp) (hb hby d9_36) hr
            · show Q9 Z a0 wp kp kk0 u0 u1 u2 u3 u4 u5 u6 u7 h0 n0 _ T162.heap _
              rw [e162]
              exact ⟨by rw [own_bp, if_pos hc105, if_pos hc110, if_pos hc115, if_neg hc120, if_neg hc165], N0, rfl⟩
      · obtain ⟨cl166, Ar166, q166, S166, M166, H166, G166⟩ := id V0
        obtain ⟨T167, X167, e167, st167⟩ := getS2 X112 hx hZ hown (host := "") (Or.inl (hw _ (List.mem_of_getElem? (i := 33) rfl))) Via.refl e112 SP (g := (mkF m 22 #[.val (.ref a0), .val (.int (5 : Int32))] [(.long u5)])) rfl (hb hby d9_22)
        obtain ⟨cl168, Ar168, q168, S168, M168, H168, G168⟩ := id VP
        have pre169 : ∀ t, Steps p.tables e below (T167.setTop (mkF m 28 #[.val (.ref a0), .val (.int (5 : Int32))] [(.int (lcmpW u5 (0 : Int64)))])) t → Steps p.tables e below (s₁.setTop (entryFrame m #[(.ref a0)] 2)) t := fun t k => by
          refine pre114 t ?_
          show Steps p.tables e below (T112.setTop (mkF m 16 #[.val (.ref a0), .val (.int (5 : Int32))] [(.int (lcmpW u5 (0 : Int64)))])) _
          refine XS.ifNo X112.here hx rfl (hb hby d9_16) rfl ((if0 _ _).trans (feq (fun q => hc115 ((lw_eq u5 (0 : Int64)).mp q))).1) ?_
          refine XS.aloadN X112.here hx rfl (hb hby d9_19) rfl rfl ?_
          refine XS.iloadN X112.here hx rfl (hb hby d9_20) rfl ?_
          show Steps p.tables e below (T112.setTop (mkF m 21 #[.val (.ref a0), .val (.int (5 : Int32))] [(.int (5 : Int32)), (.ref a0)])) _
          have hin166 : ¬ ((5 : Int32) < 0 ∨ cl166.slots.size ≤ ((5 : Int32)).toNatClampNeg) := (inb_of S166 ⟨by decide, by decide⟩)
          refine X112.laload hx (j := (5 : Int32)) (v := (.long u5)) (by rw [e112]; exact Ar166.1) (State.isArrayOf_alike hZ.alike Ar166.2.1) Ar166.2.2 hin166 (H166.at hin166 rfl) (g := (mkF m 21 #[.val (.ref a0), .val (.int (5 : Int32))] [(.int (5 : Int32)), (.ref a0)])) rfl rfl (hb hby d9_21) _ ?_
          show Steps p.tables e below (T112.setTop (mkF m 22 #[.val (.ref a0), .val (.int (5 : Int32))] [(.long u5)])) _
          refine st167 _ ?_
          refine XS.iloadN X167.here hx rfl (hb hby d9_25) rfl ?_
          show Steps p.tables e below (T167.setTop (mkF m 26 #[.val (.ref a0), .val (.int (5 : Int32))] [(.int (5 : Int32)), (.ref wp), (.long u5)])) _
          have hin168 : ¬ ((5 : Int32) < 0 ∨ cl168.slots.size ≤ ((5 : Int32)).toNatClampNeg) := (inb_of S168 ⟨by decide, by decide⟩)
          refine X167.laload hx (j := (5 : Int32)) (v := (.long (0 : Int64))) (by rw [e167]; exact Ar168.1) (State.isArrayOf_alike hZ.alike Ar168.2.1) Ar168.2.2 hin168 (H168.at hin168 rfl) (g := (mkF m 26 #[.val (.ref a0), .val (.int (5 : Int32))] [(.int (5 : Int32)), (.ref wp), (.long u5)])) rfl rfl (hb hby d9_26) _ ?_
          refine XS.lcmp X167.here hx rfl (hb hby d9_27) rfl ?_
          exact k
        by_cases hc170 : u5 < (0 : Int64)
        · obtain ⟨fs, hr, hrun, hended, hW, hsame⟩ := X167.leave (v := some (.int (1 : Int32))) (fun h => by rw [Bd.returns] at h; cases h)
          refine ⟨_, _, pre169 _ ?_, hrun, hended, _, _, rfl, ?_, ⟨_, rfl⟩, hW, hsame.mono (by decide) (by decide)⟩
          · show Steps p.tables e below (T167.setTop (mkF m 28 #[.val (.ref a0), .val (.int (5 : Int32))] [(.int (lcmpW u5 (0 : Int64)))])) _
            refine XS.ifNo X167.here hx rfl (hb hby d9_28) rfl ((if0 _ _).trans (tlt ((lw_lt u5 (0 : Int64)).mpr hc170)).2.1) ?_
            refine XS.iconst X167.here hx rfl (hb hby d9_31) ?_
            refine XS.goto X167.here hx rfl (pc0 := 32) (pc' := 36) rfl (hb hby d9_32) (by decide) (by decide) ?_
            show Steps p.tables e below (T167.setTop (mkF m 36 #[.val (.ref a0), .val (.int (5 : Int32))] [(.int (1 : Int32))])) _
            exact retN X167 hx (t := .boolean) Bd.returns (by simp) (hb hby d9_36) hr
          · show Q9 Z a0 wp kp kk0 u0 u1 u2 u3 u4 u5 u6 u7 h0 n0 _ T167.heap _
            rw [e167]
            exact ⟨by rw [own_bp, if_pos hc105, if_pos hc110, if_neg hc115, if_pos hc170], N0, rfl⟩
        · obtain ⟨fs, hr, hrun, hended, hW, hsame⟩ := X167.leave (v := some (.int (0 : Int32))) (fun h => by rw [Bd.returns] at h; cases h)
          refine ⟨_, _, pre169 _ ?_, hrun, hended, _, _, rfl, ?_, ⟨_, rfl⟩, hW, hsame.mono (by decide) (by decide)⟩
          · show Steps p.tables e below (T167.setTop (mkF m 28 #[.val (.ref a0), .val (.int (5 : Int32))] [(.int (lcmpW u5 (0 : Int64)))])) _
            refine XS.ifYes X167.here hx rfl (pc0 := 28) (pc' := 35) rfl (hb hby d9_28) rfl ((if0 _ _).trans (flt (fun q => hc170 ((lw_lt u5 (0 : Int64)).mp q))).2.1) (by decide) (by decide) ?_
            refine XS.iconst X167.here hx rfl (hb hby d9_35) ?_
            show Steps p.tables e below (T167.setTop (mkF m 36 #[.val (.ref a0), .val (.int (5 : Int32))] [(.int (0 : Int32))])) _
            exact retN X167 hx (t := .boolean) Bd.returns (by simp) (hb hby d9_36) hr
          · show Q9 Z a0 wp kp kk0 u0 u1 u2 u3 u4 u5 u6 u7 h0 n0 _ T167.heap _
            rw [e167]
            exact ⟨by rw [own_bp, if_pos hc105, if_pos hc110, if_neg hc115, if_neg hc170], N0, rfl⟩
    · obtain ⟨cl171, Ar171, q171, S171, M171, H171, G171⟩ := id V0
      obtain ⟨T172, X172, e172, st172⟩ := getS2 X107 hx hZ hown (host := "") (Or.inl (hw _ (List.mem_of_getElem? (i := 33) rfl))) Via.refl e107 SP (g := (mkF m 22 #[.val (.ref a0), .val (.int (6 : Int32))] [(.long u6)])) rfl (hb hby d9_22)
      obtain ⟨cl173, Ar173, q173, S173, M173, H173, G173⟩ := id VP
      have pre174 : ∀ t, Steps p.tables e below (T172.setTop (mkF m 28 #[.val (.ref a0), .val (.int (6 : Int32))] [(.int (lcmpW u6 (1 : Int64)))])) t → Steps p.tables e below (s₁.setTop (entryFrame m #[(.ref a0)] 2)) t := fun t k => by
        refine pre109 t ?_
        show Steps p.tables e below (T107.setTop (mkF m 16 #[.val (.ref a0), .val (.int (6 : Int32))] [(.int (lcmpW u6 (1 : Int64)))])) _
        refine XS.ifNo X107.here hx rfl (hb hby d9_16) rfl ((if0 _ _).trans (feq (fun q => hc110 ((lw_eq u6 (1 : Int64)).mp q))).1) ?_
        refine XS.aloadN X107.here hx rfl (hb hby d9_19) rfl rfl ?_
        refine XS.iloadN X107.here hx rfl (hb hby d9_20) rfl ?_
        show Steps p.tables e below (T107.setTop (mkF m 21 #[.val (.ref a0), .val (.int (6 : Int32))] [(.int (6 : Int32)), (.ref a0)])) _
        have hin171 : ¬ ((6 : Int32) < 0 ∨ cl171.slots.size ≤ ((6 : Int32)).toNatClampNeg) := (inb_of S171 ⟨by decide, by decide⟩)
        refine X107.laload hx (j := (6 : Int32)) (v := (.long u6)) (by rw [e107]; exact Ar171.1) (State.isArrayOf_alike hZ.alike Ar171.2.1) Ar171.2.2 hin171 (H171.at hin171 rfl) (g := (mkF m 21 #[.val (.ref a0), .val (.int (6 : Int32))] [(.int (6 : Int32)), (.ref a0)])) rfl rfl (hb hby d9_21) _ ?_
        show Steps p.tables e below (T107.setTop (mkF m 22 #[.val (.ref a0), .val (.int (6 : Int32))] [(.long u6)])) _
        refine st172 _ ?_
        refine XS.iloadN X172.here hx rfl (hb hby d9_25) rfl ?_
        show Steps p.tables e below (T172.setTop (mkF m 26 #[.val (.ref a0), .val (.int (6 : Int32))] [(.int (6 : Int32)), (.ref wp), (.long u6)])) _
        have hin173 : ¬ ((6 : Int32) < 0 ∨ cl173.slots.size ≤ ((6 : Int32)).toNatClampNeg) := (inb_of S173 ⟨by decide, by decide⟩)
        refine X172.laload hx (j := (6 : Int32)) (v := (.long (1 : Int64))) (by rw [e172]; exact Ar173.1) (State.isArrayOf_alike hZ.alike Ar173.2.1) Ar173.2.2 hin173 (H173.at hin173 rfl) (g := (mkF m 26 #[.val (.ref a0), .val (.int (6 : Int32))] [(.int (6 : Int32)), (.ref wp), (.long u6)])) rfl rfl (hb hby d9_26) _ ?_
        refine XS.lcmp X172.here hx rfl (hb hby d9_27) rfl ?_
        exact k
      by_cases hc175 : u6 < (1 : Int64)
      · obtain ⟨fs, hr, hrun, hended, hW, hsame⟩ := X172.leave (v := some (.int (1 : Int32))) (fun h => by rw [Bd.returns] at h; cases h)
        refine ⟨_, _, pre174 _ ?_, hrun, hended, _, _, rfl, ?_, ⟨_, rfl⟩, hW, hsame.mono (by decide) (by decide)⟩
        · show Steps p.tables e below (T172.setTop (mkF m 28 #[.val (.ref a0), .val (.int (6 : Int32))] [(.int (lcmpW u6 (1 : Int64)))])) _
          refine XS.ifNo X172.here hx rfl (hb hby d9_28) rfl ((if0 _ _).trans (tlt ((lw_lt u6 (1 : Int64)).mpr hc175)).2.1) ?_
          refine XS.iconst X172.here hx rfl (hb hby d9_31) ?_
          refine XS.goto X172.here hx rfl (pc0 := 32) (pc' := 36) rfl (hb hby d9_32) (by decide) (by decide) ?_
          show Steps p.tables e below (T172.setTop (mkF m 36 #[.val (.ref a0), .val (.int (6 : Int32))] [(.int (1 : Int32))])) _
          exact retN X172 hx (t := .boolean) Bd.returns (by simp) (hb hby d9_36) hr
        · show Q9 Z a0 wp kp kk0 u0 u1 u2 u3 u4 u5 u6 u7 h0 n0 _ T172.heap _
          rw [e172]
          exact ⟨by rw [own_bp, if_pos hc105, if_neg hc110, if_pos hc175], N0, rfl⟩
      · obtain ⟨fs, hr, hrun, hended, hW, hsame⟩ := X172.leave (v := some (.int (0 : Int32))) (fun h => by rw [Bd.returns] at h; cases h)
        refine ⟨_, _, pre174 _ ?_, hrun, hended, _, _, rfl, ?_, ⟨_, rfl⟩, hW, hsame.mono (by decide) (by decide)⟩
        · show Steps p.tables e below (T172.setTop (mkF m 28 #[.val (.ref a0), .val (.int (6 : Int32))] [(.int (lcmpW u6 (1 : Int64)))])) _
          refine XS.ifYes X172.here hx rfl (pc0 := 28) (pc' := 35) rfl (hb hby d9_28) rfl ((if0 _ _).trans (flt (fun q => hc175 ((lw_lt u6 (1 : Int64)).mp q))).2.1) (by decide) (by decide) ?_
          refine XS.iconst X172.here hx rfl (hb hby d9_35) ?_
          show Steps p.tables e below (T172.setTop (mkF m 36 #[.val (.ref a0), .val (.int (6 : Int32))] [(.int (0 : Int32))])) _
          exact retN X172 hx (t := .boolean) Bd.returns (by simp) (hb hby d9_36) hr
        · show Q9 Z a0 wp kp kk0 u0 u1 u2 u3 u4 u5 u6 u7 h0 n0 _ T172.heap _
          rw [e172]
          exact ⟨by rw [own_bp, if_pos hc105, if_neg hc110, if_neg hc175], N0, rfl⟩
  · obtain ⟨cl176, Ar176, q176, S176, M176, H176, G176⟩ := id V0
    obtain ⟨T177, X177, e177, st177⟩ := getS2 X102 hx hZ hown (host := "") (Or.inl (hw _ (List.mem_of_getElem? (i := 33) rfl))) Via.refl e102 SP (g := (mkF m 22 #[.val (.ref a0), .val (.int (7 : Int32))] [(.long u7)])) rfl (hb hby d9_22)
    obtain ⟨cl178, Ar178, q178, S178, M178, H178, G178⟩ := id VP
    have pre179 : ∀ t, Steps p.tables e below (T177.setTop (mkF m 28 #[.val (.ref a0), .val (.int (7 : Int32))] [(.int (lcmpW u7 (4294967295 : Int64)))])) t → Steps p.tables e below (s₁.setTop (entryFrame m #[(.ref a0)] 2)) t := fun t k => by
      refine pre104 t ?_
      show Steps p.tables e below (T102.setTop (mkF m 16 #[.val (.ref a0), .val (.int (7 : Int32))] [(.int (lcmpW u7 (4294967295 : Int64)))])) _
      refine XS.ifNo X102.here hx rfl (hb hby d9_16) rfl ((if0 _ _).trans (feq (fun q => hc105 ((lw_eq u7 (4294967295 : Int64)).mp q))).1) ?_
      refine XS.aloadN X102.here hx rfl (hb hby d9_19) rfl rfl ?_
      refine XS.iloadN X102.here hx rfl (hb hby d9_20) rfl ?_
      show Steps p.tables e below (T102.setTop (mkF m 21 #[.val (.ref a0), .val (.int (7 : Int32))] [(.int (7 : Int32)), (.ref a0)])) _
      have hin176 : ¬ ((7 : Int32) < 0 ∨ cl176.slots.size ≤ ((7 : Int32)).toNatClampNeg) := (inb_of S176 ⟨by decide, by decide⟩)
      refine X102.laload hx (j := (7 : Int32)) (v := (.long u7)) (by rw [e102]; exact Ar176.1) (State.isArrayOf_alike hZ.alike Ar176.2.1) Ar176.2.2 hin176 (H176.at hin176 rfl) (g := (mkF m 21 #[.val (.ref a0), .val (.int (7 : Int32))] [(.int (7 : Int32)), (.ref a0)])) rfl rfl (hb hby d9_21) _ ?_
      show Steps p.tables e below (T102.setTop (mkF m 22 #[.val (.ref a0), .val (.int (7 : Int32))] [(.long u7)])) _
      refine st177 _ ?_
      refine XS.iloadN X177.here hx rfl (hb hby d9_25) rfl ?_
      show Steps p.tables e below (T177.setTop (mkF m 26 #[.val (.ref a0), .val (.int (7 : Int32))] [(.int (7 : Int32)), (.ref wp), (.long u7)])) _
      have hin178 : ¬ ((7 : Int32) < 0 ∨ cl178.slots.size ≤ ((7 : Int32)).toNatClampNeg) := (inb_of S178 ⟨by decide, by decide⟩)
      refine X177.laload hx (j := (7 : Int32)) (v := (.long (4294967295 : Int64))) (by rw [e177]; exact Ar178.1) (State.isArrayOf_alike hZ.alike Ar178.2.1) Ar178.2.2 hin178 (H178.at hin178 rfl) (g := (mkF m 26 #[.val (.ref a0), .val (.int (7 : Int32))] [(.int (7 : Int32)), (.ref wp), (.long u7)])) rfl rfl (hb hby d9_26) _ ?_
      refine XS.lcmp X177.here hx rfl (hb hby d9_27) rfl ?_
      exact k
    by_cases hc180 : u7 < (4294967295 : Int64)
    · obtain ⟨fs, hr, hrun, hended, hW, hsame⟩ := X177.leave (v := some (.int (1 : Int32))) (fun h => by rw [Bd.returns] at h; cases h)
      refine ⟨_, _, pre179 _ ?_, hrun, hended, _, _, rfl, ?_, ⟨_, rfl⟩, hW, hsame.mono (by decide) (by decide)⟩
      · show Steps p.tables e below (T177.setTop (mkF m 28 #[.val (.ref a0), .val (.int (7 : Int32))] [(.int (lcmpW u7 (4294967295 : Int64)))])) _
        refine XS.ifNo X177.here hx rfl (hb hby d9_28) rfl ((if0 _ _).trans (tlt ((lw_lt u7 (4294967295 : Int64)).mpr hc180)).2.1) ?_
        refine XS.iconst X177.here hx rfl (hb hby d9_31) ?_
        refine XS.goto X177.here hx rfl (pc0 := 32) (pc' := 36) rfl (hb hby d9_32) (by decide) (by decide) ?_
        show Steps p.tables e below (T177.setTop (mkF m 36 #[.val (.ref a0), .val (.int (7 : Int32))] [(.int (1 : Int32))])) _
        exact retN X177 hx (t := .boolean) Bd.returns (by simp) (hb hby d9_36) hr
      · show Q9 Z a0 wp kp kk0 u0 u1 u2 u3 u4 u5 u6 u7 h0 n0 _ T177.heap _
        rw [e177]
        exact ⟨by rw [own_bp, if_neg hc105, if_pos hc180], N0, rfl⟩
    · obtain ⟨fs, hr, hrun, hended, hW, hsame⟩ := X177.leave (v := some (.int (0 : Int32))) (fun h => by rw [Bd.returns] at h; cases h)
      refine ⟨_, _, pre179 _ ?_, hrun, hended, _, _, rfl, ?_, ⟨_, rfl⟩, hW, hsame.mono (by decide) (by decide)⟩
      · show Steps p.tables e below (T177.setTop (mkF m 28 #[.val (.ref a0), .val (.int (7 : Int32))] [(.int (lcmpW u7 (4294967295 : Int64)))])) _
        refine XS.ifYes X177.here hx rfl (pc0 := 28) (pc' := 35) rfl (hb hby d9_28) rfl ((if0 _ _).trans (flt (fun q => hc180 ((lw_lt u7 (4294967295 : Int64)).mp q))).2.1) (by decide) (by decide) ?_
        refine XS.iconst X177.here hx rfl (hb hby d9_35) ?_
        show Steps p.tables e below (T177.setTop (mkF m 36 #[.val (.ref a0), .val (.int (7 : Int32))] [(.int (0 : Int32))])) _
        exact retN X177 hx (t := .boolean) Bd.returns (by simp) (hb hby d9_36) hr
      · show Q9 Z a0 wp kp kk0 u0 u1 u2 u3 u4 u5 u6 u7 h0 n0 _ T177.heap _
        rw [e177]
        exact ⟨by rw [own_bp, if_neg hc105, if_neg hc180], N0, rfl⟩
theorem d10_0 : decode prog_29_method_15_code 0 = .ok (.lconst 0, 1) := by decide +kernel
theorem d10_1 : decode prog_29_method_15_code 1 = .ok (.lstore_n 1, 1) := by decide +kernel
theorem d10_2 : decode prog_29_method_15_code 2 = .ok (.iconst 0, 1) := by decide +kernel
theorem d10_3 : decode prog_29_method_15_code 3 = .ok (.istore_n 3, 1) := by decide +kernel
theorem d10_4 : decode prog_29_method_15_code 4 = .ok (.iload_n 3, 1) := by decide +kernel
theorem d10_5 : decode prog_29_method_15_code 5 = .ok (.bipush 8, 2) := by decide +kernel
theorem d10_7 : decode prog_29_method_15_code 7 = .ok (.if_icmp .ge 34, 3) := by decide +kernel
theorem d10_10 : decode prog_29_method_15_code 10 = .ok (.lload_n 1, 1) := by decide +kernel
theorem d10_11 : decode prog_29_method_15_code 11 = .ok (.aload_n 0, 1) := by decide +kernel
theorem d10_12 : decode prog_29_method_15_code 12 = .ok (.iload_n 3, 1) := by decide +kernel
theorem d10_13 : decode prog_29_method_15_code 13 = .ok (.laload, 1) := by decide +kernel
theorem d10_14 : decode prog_29_method_15_code 14 = .ok (.getstatic 82, 3) := by decide +kernel
theorem d10_17 : decode prog_29_method_15_code 17 = .ok (.iload_n 3, 1) := by decide +kernel
theorem d10_18 : decode prog_29_method_15_code 18 = .ok (.laload, 1) := by decide +kernel
theorem d10_19 : decode prog_29_method_15_code 19 = .ok (.ladd, 1) := by decide +kernel
theorem d10_20 : decode prog_29_method_15_code 20 = .ok (.ladd, 1) := by decide +kernel
theorem d10_21 : decode prog_29_method_15_code 21 = .ok (.lstore_n 1, 1) := by decide +kernel
theorem d10_22 : decode prog_29_method_15_code 22 = .ok (.aload_n 0, 1) := by decide +kernel
theorem d10_23 : decode prog_29_method_15_code 23 = .ok (.iload_n 3, 1) := by decide +kernel
theorem d10_24 : decode prog_29_method_15_code 24 = .ok (.lload_n 1, 1) := by decide +kernel
theorem d10_25 : decode prog_29_method_15_code 25 = .ok (.ldc2_w 60, 3) := by decide +kernel
theorem d10_28 : decode prog_29_method_15_code 28 = .ok (.land, 1) := by decide +kernel
theorem d10_29 : decode prog_29_method_15_code 29 = .ok (.lastore, 1) := by decide +kernel
theorem d10_30 : decode prog_29_method_15_code 30 = .ok (.lload_n 1, 1) := by decide +kernel
theorem d10_31 : decode prog_29_method_15_code 31 = .ok (.bipush 32, 2) := by decide +kernel
theorem d10_33 : decode prog_29_method_15_code 33 = .ok (.lushr, 1) := by decide +kernel
theorem d10_34 : decode prog_29_method_15_code 34 = .ok (.lstore_n 1, 1) := by decide +kernel
theorem d10_35 : decode prog_29_method_15_code 35 = .ok (.iinc 3 1, 3) := by decide +kernel
theorem d10_38 : decode prog_29_method_15_code 38 = .ok (.goto (-34), 3) := by decide +kernel
theorem d10_41 : decode prog_29_method_15_code 41 = .ok (.return_, 1) := by decide +kernel
theorem ef_rm_addP (m : MethodId) (x0 : Addr) : entryFrame m #[(.ref x0)] 4 = mkF m 0 #[.val (.ref x0), .unset, .unset, .unset] [] := by first | (simp [entryFrame, mkF, argsToLocals, Value.category]; done) | rfl
def Q_rm_addP (Z : State) (a0 : Addr) (wp : Addr) (kp : ClassId) (kk0 : ClassId) (u0 : Int64) (u1 : Int64) (u2 : Int64) (u3 : Int64) (u4 : Int64) (u5 : Int64) (u6 : Int64) (u7 : Int64) (h0 : Heap) (n0 : Nat) (v : Option Value) (h : Heap) (L : List Loc) : Prop := v = none ∧ Fr n0 L ∧ Keep h0 h [a0] ∧ ∃ (o0 o1 o2 o3 o4 o5 o6 o7 : Int64) (c : Int), Arv Z h a0 kk0 .long (8 : Int32) [(.long o0), (.long o1), (.long o2), (.long o3), (.long o4), (.long o5), (.long o6), (.long o7)] (.long (0 : Int64)) ∧ own_RR o0 o1 o2 o3 o4 o5 o6 o7 ∧ own_W o0 o1 o2 o3 o4 o5 o6 o7 + 115792089237316195423570985008687907853269984665640564039457584007913129639936 * c = own_W u0 u1 u2 u3 u4 u5 u6 u7 + own_P ∧ 0 ≤ c ∧ c ≤ 1
set_option maxRecDepth 65536 in
set_option maxHeartbeats 40000000 in
theorem rm_addP (l : Launch) (Z : State) (aw : Array Value) (hw : ∀ d ∈ tables_1, d.before aw Z = true) (ws : List Jvm.Cond) (a0 : Addr) (wp : Addr) (kp : ClassId) (kk0 : ClassId) (u0 : Int64) (u1 : Int64) (u2 : Int64) (u3 : Int64) (u4 : Int64) (u5 : Int64) (u6 : Int64) (u7 : Int64) (h0 : Heap) (n0 : Nat) (Z0 : n0 ≤ h0.size) (SP : Sta Z h0 "com/example/serialroute/serialroute/core/P256Field" "P_WORDS" "[J" (.ref wp)) (VP : Arv Z h0 wp kp .long (8 : Int32) [(.long (4294967295 : Int64)), (.long (4294967295 : Int64)), (.long (4294967295 : Int64)), (.long (0 : Int64)), (.long (0 : Int64)), (.long (0 : Int64)), (.long (1 : Int64)), (.long (4294967295 : Int64))] (.long (0 : Int64))) (Va0 : Arv Z h0 a0 kk0 .long (8 : Int32) [(.long u0), (.long u1), (.long u2), (.long u3), (.long u4), (.long u5), (.long u6), (.long u7)] (.long (0 : Int64))) (g0 : n0 ≤ a0) (ne_wp_a0 : wp ≠ a0) (hR_a0 : own_RR u0 u1 u2 u3 u4 u5 u6 u7) :
    MetFree l (⟨"com/example/serialroute/serialroute/core/P256Field", "addP", "([J)V"⟩ : MethodName) (head1 (Jvm.Cond.code (⟨"com/example/serialroute/serialroute/core/P256Field", "addP", "([J)V"⟩ : MethodName) prog_29_method_15_code 4 none :: ws) ({ frames := 0, cells := 0, slots := 0, locals := 0 } : Room)) (fun a U => a = #[(.ref a0)] ∧ Z.Warmed39 U.vm ∧ U.heap = h0) (fun _ _ _ _ _ => True) (fun _ U oc U' => ∃ v L, oc = .returned v ∧ Q_rm_addP Z a0 wp kp kk0 u0 u1 u2 u3 u4 u5 u6 u7 h0 n0 v U'.heap L ∧ FrameEnd U oc U' L ({ frames := 0, cells := 0, slots := 0, locals := 0 } : Room).cells ({ frames := 0, cells := 0, slots := 0, locals := 0 } : Room).slots) := by
  refine MetFree.of_bodySF (plainFor_of_name pn_1) hisR ?_
  intro p e s m args below meth c s₁ Bd hml0 hP hK
  obtain ⟨rfl, hZ, hh⟩ := hP
  have hx := Bd.exec
  have hby := Bd.bytes
  have hml : c.maxLocals = 4 := hml0
  have hown : s.vm.findClass "com/example/serialroute/serialroute/core/P256Field" = some m.cls := findClass_of_methodNamed Bd.named
  have hnm := (name_of_methodNamed Bd.named Bd.method).1
  have X0 : Stand p l e ({ frames := 0, cells := 0, slots := 0, locals := 0 } : Room) s m #[(.ref a0)] below meth c s₁ [] 0 0 := Stand.of_body Bd
  have e0 : s₁.heap = h0 := by rw [← hh, Bd.state]; rfl
  have N0 := Fr.nil n0
  have pre0 : ∀ t, Steps p.tables e below (s₁.setTop (mkF m 0 #[.val (.ref a0), .unset, .unset, .unset] [])) t → Steps p.tables e below (s₁.setTop (entryFrame m #[(.ref a0)] 4)) t := fun t k => castTop (ef_rm_addP m a0) k
  obtain ⟨r_a00, r_a01, r_a02, r_a03, r_a04, r_a05, r_a06, r_a07⟩ := id hR_a0
  have hc0 : 0 ≤ ((0 : Int64)).toInt ∧ ((0 : Int64)).toInt ≤ 1 := by decide
  obtain ⟨cl101, Ar101, q101, S101, M101, H101, G101⟩ := id Va0
  obtain ⟨T102, X102, e102, st102⟩ := getS2 X0 hx hZ hown (host := "") (Or.inl (hw _ (List.mem_of_getElem? (i := 33) rfl))) Via.refl e0 SP (g := (mkF m 14 #[.val (.ref a0), .val (.long (0 : Int64)), .second, .val (.int (0 : Int32))] [(.long u0), (.long (0 : Int64))])) rfl (hb hby d10_14)
  obtain ⟨cl103, Ar103, q103, S103, M103, H103, G103⟩ := id VP
  obtain ⟨v104, gv104⟩ : ∃ z, z = ((0 : Int64) + (u0 + (4294967295 : Int64))) := ⟨_, rfl⟩
  obtain ⟨v105, gv105⟩ : ∃ z, z = (v104 &&& (4294967295 : Int64)) := ⟨_, rfl⟩
  obtain ⟨cl106, Ar106, q106, S106, M106, H106, G106⟩ := id Va0
  obtain ⟨T107, h107, X107, e107, W107, st107⟩ := stJ X102 hx hZ e102 Ar106 (j := (0 : Int32)) (inb_of S106 ⟨by decide, by decide⟩) (g := (mkF m 29 #[.val (.ref a0), .val (.long v104), .second, .val (.int (0 : Int32))] [(.long v105), (.int (0 : Int32)), (.ref a0)])) rfl rfl (hb hby d10_29)
  have V107 := Arv.set Ar106 q106 S106 M106 H106 G106 rfl W107 0 rfl (Nat.le_of_ble_eq_true rfl)
  have f108 := SP.wr W107
  have f109 := VP.other W107 ne_wp_a0
  have K107 : Keep h0 h107 [a0] := (Keep.refl h0 [a0]).wr W107 (Or.inl (List.mem_of_getElem? (i := 0) rfl))
  have N107 := Fr.snoc X107 N0 g0
  have Z107 : n0 ≤ h107.size := Nat.le_trans Z0 (Keep.of_wr W107).1
  have V107b : Arv Z h107 a0 kk0 .long (8 : Int32) [(.long v105), (.long u1), (.long u2), (.long u3), (.long u4), (.long u5), (.long u6), (.long u7)] (.long (0 : Int64)) := V107
  obtain ⟨v110, gv110⟩ : ∃ z, z = ((v104.toUInt64 >>> ((32 : Int32) &&& 0x3f).toInt64.toUInt64).toInt64) := ⟨_, rfl⟩
  obtain ⟨qv110, rv110, hcv110⟩ := own_add_step gv104 gv105 gv110 hc0 r_a00 (by unfold own_R; decide)
  obtain ⟨cl111, Ar111, q111, S111, M111, H111, G111⟩ := id V107b
  obtain ⟨T112, X112, e112, st112⟩ := getS2 X107 hx hZ hown (host := "") (Or.inl (hw _ (List.mem_of_getElem? (i := 33) rfl))) Via.refl e107 f108 (g := (mkF m 14 #[.val (.ref a0), .val (.long v110), .second, .val (.int (1 : Int32))] [(.long u1), (.long v110)])) rfl (hb hby d10_14)
  obtain ⟨cl113, Ar113, q113, S113, M113, H113, G113⟩ := id f109
  obtain ⟨v114, gv114⟩ : ∃ z, z = (v110 + (u1 + (4294967295 : Int64))) := ⟨_, rfl⟩
  obtain ⟨v115, gv115⟩ : ∃ z, z = (v114 &&& (4294967295 : Int64)) := ⟨_, rfl⟩
  obtain ⟨cl116, Ar116, q116, S116, M116, H116, G116⟩ := id V107b
  obtain ⟨T117, h117, X117, e117, W117, st117⟩ := stJ X112 hx hZ e112 Ar116 (j := (1 : Int32)) (inb_of S116 ⟨by decide, by decide⟩) (g := (mkF m 29 #[.val (.ref a0), .val (.long v114), .second, .val (.int (1 : Int32))] [(.long v115), (.int (1 : Int32)), (.ref a0)])) rfl rfl (hb hby d10_29)
  have V117 := Arv.set Ar116 q116 S116 M116 H116 G116 rfl W117 1 rfl (Nat.le_of_ble_eq_true rfl)
  have f118 := f108.wr W117
  have f119 := f109.other W117 ne_wp_a0
  have K117 : Keep h0 h117 [a0] := K107.wr W117 (Or.inl (List.mem_of_getElem? (i := 0) rfl))
  have N117 := Fr.snoc X117 N107 g0
  have Z117 : n0 ≤ h117.size := Nat.le_trans Z107 (Keep.of_wr W117).1
  have V117b : Arv Z h117 a0 kk0 .long (8 : Int32) [(.long v105), (.long v115), (.long u2), (.long u3), (.long u4), (.long u5), (.long u6), (.long u7)] (.long (0 : Int64)) := V117
  obtain ⟨v120, gv120⟩ : ∃ z, z = ((v114.toUInt64 >>> ((32 : Int32) &&& 0x3f).toInt64.toUInt64).toInt64) := ⟨_, rfl⟩
  obtain ⟨qv120, rv120, hcv120⟩ := own_add_step gv114 gv115 gv120 hcv110 r_a01 (by unfold own_R; decide)
  obtain ⟨cl121, Ar121, q121, S121, M121, H121, G121⟩ := id V117b
  obtain ⟨T122, X122, e122, st122⟩ := getS2 X117 hx hZ hown (host := "") (Or.inl (hw _ (List.mem_of_getElem? (i := 33) rfl))) Via.refl e117 f118 (g := (mkF m 14 #[.val (.ref a0), .val (.long v120), .second, .val (.int (2 : Int32))] [(.long u2), (.long v120)])) rfl (hb hby d10_14)
  obtain ⟨cl123, Ar123, q123, S123, M123, H123, G123⟩ := id f119
  obtain ⟨v124, gv124⟩ : ∃ z, z = (v120 + (u2 + (4294967295 : Int64))) := ⟨_, rfl⟩
  obtain ⟨v125, gv125⟩ : ∃ z, z = (v124 &&& (4294967295 : Int64)) := ⟨_, rfl⟩
  obtain ⟨cl126, Ar126, q126, S126, M126, H126, G126⟩ := id V117b
  obtain ⟨T127, h127, X127, e127, W127, st127⟩ := stJ X122 hx hZ e122 Ar126 (j := (2 : Int32)) (inb_of S126 ⟨by decide, by decide⟩) (g := (mkF m 29 #[.val (.ref a0), .val (.long v124), .second, .val (.int (2 : Int32))] [(.long v125), (.int (2 : Int32)), (.ref a0)])) rfl rfl (hb hby d10_29)
  have V127 := Arv.set Ar126 q126 S126 M126 H126 G126 rfl W127 2 rfl (Nat.le_of_ble_eq_true rfl)
  have f128 := f118.wr W127
  have f129 := f119.other W127 ne_wp_a0
  have K127 : Keep h0 h127 [a0] := K117.wr W127 (Or.inl (List.mem_of_getElem? (i := 0) rfl))
  have N127 := Fr.snoc X127 N117 g0
  have Z127 : n0 ≤ h127.size := Nat.le_trans Z117 (Keep.of_wr W127).1
  have V127b : Arv Z h127 a0 kk0 .long (8 : Int32) [(.long v105), (.long v115), (.long v125), (.long u3), (.long u4), (.long u5), (.long u6), (.long u7)] (.long (0 : Int64)) := V127
  obtain ⟨v130, gv130⟩ : ∃ z, z = ((v124.toUInt64 >>> ((32 : Int32) &&& 0x3f).toInt64.toUInt64).toInt64) := ⟨_, rfl⟩
  obtain ⟨qv130, rv130, hcv130⟩ := own_add_step gv124 gv125 gv130 hcv120 r_a02 (by unfold own_R; decide)
  obtain ⟨cl131, Ar131, q131, S131, M131, H131, G131⟩ := id V127b
  obtain ⟨T132, X132, e132, st132⟩ := getS2 X127 hx hZ hown (host := "") (Or.inl (hw _ (List.mem_of_getElem? (i := 33) rfl))) Via.refl e127 f128 (g := (mkF m 14 #[.val (.ref a0), .val (.long v130), .second, .val (.int (3 : Int32))] [(.long u3), (.long v130)])) rfl (hb hby d10_14)
  obtain ⟨cl133, Ar133, q133, S133, M133, H133, G133⟩ := id f129
  obtain ⟨v134, gv134⟩ : ∃ z, z = (v130 + (u3 + (0 : Int64))) := ⟨_, rfl⟩
  obtain ⟨v135, gv135⟩ : ∃ z, z = (v134 &&& (4294967295 : Int64)) := ⟨_, rfl⟩
  obtain ⟨cl136, Ar136, q136, S136, M136, H136, G136⟩ := id V127b
  obtain ⟨T137, h137, X137, e137, W137, st137⟩ := stJ X132 hx hZ e132 Ar136 (j := (3 : Int32)) (inb_of S136 ⟨by decide, by decide⟩) (g := (mkF m 29 #[.val (.ref a0), .val (.long v134), .second, .val (.int (3 : Int32))] [(.long v135), (.int (3 : Int32)), (.ref a0)])) rfl rfl (hb hby d10_29)
  have V137 := Arv.set Ar136 q136 S136 M136 H136 G136 rfl W137 3 rfl (Nat.le_of_ble_eq_true rfl)
  have f138 := f128.wr W137
  have f139 := f129.other W137 ne_wp_a0
  have K137 : Keep h0 h137 [a0] := K127.wr W137 (Or.inl (List.mem_of_getElem? (i := 0) rfl))
  have N137 := Fr.snoc X137 N127 g0
  have Z137 : n0 ≤ h137.size := Nat.le_trans Z127 (Keep.of_wr W137).1
  have V137b : Arv Z h137 a0 kk0 .long (8 : Int32) [(.long v105), (.long v115), (.long v125), (.long v135), (.long u4), (.long u5), (.long u6), (.long u7)] (.long (0 : Int64)) := V137
  obtain ⟨v140, gv140⟩ : ∃ z, z = ((v134.toUInt64 >>> ((32 : Int32) &&& 0x3f).toInt64.toUInt64).toInt64) := ⟨_, rfl⟩
  obtain ⟨qv140, rv140, hcv140⟩ := own_add_step gv134 gv135 gv140 hcv130 r_a03 (by unfold own_R; decide)
  obtain ⟨cl141, Ar141, q141, S141, M141, H141, G141⟩ := id V137b
  obtain ⟨T142, X142, e142, st142⟩ := getS2 X137 hx hZ hown (host := "") (Or.inl (hw _ (List.mem_of_getElem? (i := 33) rfl))) Via.refl e137 f138 (g := (mkF m 14 #[.val (.ref a0), .val (.long v140), .second, .val (.int (4 : Int32))] [(.long u4), (.long v140)])) rfl (hb hby d10_14)
  obtain ⟨cl143, Ar143, q143, S143, M143, H143, G143⟩ := id f139
  obtain ⟨v144, gv144⟩ : ∃ z, z = (v140 + (u4 + (0 : Int64))) := ⟨_, rfl⟩
  obtain ⟨v145, gv145⟩ : ∃ z, z = (v144 &&& (4294967295 : Int64)) := ⟨_, rfl⟩
  obtain ⟨cl146, Ar146, q146, S146, M146, H146, G146⟩ := id V137b
  obtain ⟨T147, h147, X147, e147, W147, st147⟩ := stJ X142 hx hZ e142 Ar146 (j := (4 : Int32)) (inb_of S146 ⟨by decide, by decide⟩) (g := (mkF m 29 #[.val (.ref a0), .val (.long v144), .second, .val (.int (4 : Int32))] [(.long v145), (.int (4 : Int32)), (.ref a0)])) rfl rfl (hb hby d10_29)
  have V147 := Arv.set Ar146 q146 S146 M146 H146 G146 rfl W147 4 rfl (Nat.le_of_ble_eq_true rfl)
  have f148 := f138.wr W147
  have f149 := f139.other W147 ne_wp_a0
  have K147 : Keep h0 h147 [a0] := K137.wr W147 (Or.inl (List.mem_of_getElem? (i := 0) rfl))
  have N147 := Fr.snoc X147 N137 g0
  have Z147 : n0 ≤ h147.size := Nat.le_trans Z137 (Keep.of_wr W147).1
  have V147b : Arv Z h147 a0 kk0 .long (8 : Int32) [(.long v105), (.long v115), (.long v125), (.long v135), (.long v145), (.long u5), (.long u6), (.long u7)] (.long (0 : Int64)) := V147
  obtain ⟨v150, gv150⟩ : ∃ z, z = ((v144.toUInt64 >>> ((32 : Int32) &&& 0x3f).toInt64.toUInt64).toInt64) := ⟨_, rfl⟩
  obtain ⟨qv150, rv150, hcv150⟩ := own_add_step gv144 gv145 gv150 hcv140 r_a04 (by unfold own_R; decide)
  obtain ⟨cl151, Ar151, q151, S151, M151, H151, G151⟩ := id V147b
  obtain ⟨T152, X152, e152, st152⟩ := getS2 X147 hx hZ hown (host := "") (Or.inl (hw _ (List.mem_of_getElem? (i := 33) rfl))) Via.refl e147 f148 (g := (mkF m 14 #[.val (.ref a0), .val (.long v150), .second, .val (.int (5 : Int32))] [(.long u5), (.long v150)])) rfl (hb hby d10_14)
  obtain ⟨cl153, Ar153, q153, S153, M153, H153, G153⟩ := id f149
  obtain ⟨v154, gv154⟩ : ∃ z, z = (v150 + (u5 + (0 : Int64))) := ⟨_, rfl⟩
  obtain ⟨v155, gv155⟩ : ∃ z, z = (v154 &&& (4294967295 : Int64)) := ⟨_, rfl⟩
  obtain ⟨cl156, Ar156, q156, S156, M156, H156, G156⟩ := id V147b
  obtain ⟨T157, h157, X157, e157, W157, st157⟩ := stJ X152 hx hZ e152 Ar156 (j := (5 : Int32)) (inb_of S156 ⟨by decide, by decide⟩) (g := (mkF m 29 #[.val (.ref a0), .val (.long v154), .second, .val (.int (5 : Int32))] [(.long v155), (.int (5 : Int32)), (.ref a0)])) rfl rfl (hb hby d10_29)
  have V157 := Arv.set Ar156 q156 S156 M156 H156 G156 rfl W157 5 rfl (Nat.le_of_ble_eq_true rfl)
  have f158 := f148.wr W157
  have f159 := f149.other W157 ne_wp_a0
  have K157 : Keep h0 h157 [a0] := K147.wr W157 (Or.inl (List.mem_of_getElem? (i := 0) rfl))
  have N157 := Fr.snoc X157 N147 g0
  have Z157 : n0 ≤ h157.size := Nat.le_trans Z147 (Keep.of_wr W157).1
  have V157b : Arv Z h157 a0 kk0 .long (8 : Int32) [(.long v105), (.long v115), (.long v125), (.long v135), (.long v145), (.long v155), (.long u6), (.long u7)] (.long (0 : Int64)) := V157
  obtain ⟨v160, gv160⟩ : ∃ z, z = ((v154.toUInt64 >>> ((32 : Int32) &&& 0x3f).toInt64.toUInt64).toInt64) := ⟨_, rfl⟩
  obtain ⟨qv160, rv160, hcv160⟩ := own_add_step gv154 gv155 gv160 hcv150 r_a05 (by unfold own_R; decide)
  obtain ⟨cl161, Ar161, q161, S161, M161, H161, G161⟩ := id V157b
  obtain ⟨T162, X162, e162, st162⟩ := getS2 X157 hx hZ hown (host := "") (Or.inl (hw _ (List.mem_of_getElem? (i := 33) rfl))) Via.refl e157 f158 (g := (mkF m 14 #[.val (.ref a0), .val (.long v160), .second, .val (.int (6 : Int32))] [(.long u6), (.long v160)])) rfl (hb hby d10_14)
  obtain ⟨cl163, Ar163, q163, S163, M163, H163, G163⟩ := id f159
  obtain ⟨v164, gv164⟩ : ∃ z, z = (v160 + (u6 + (1 : Int64))) := ⟨_, rfl⟩
  obtain ⟨v165, gv165⟩ : ∃ z, z = (v164 &&& (4294967295 : Int64)) := ⟨_, rfl⟩
  obtain ⟨cl166, Ar166, q166, S166, M166, H166, G166⟩ := id V157b
  obtain ⟨T167, h167, X167, e167, W167, st167⟩ := stJ X162 hx hZ e162 Ar166 (j := (6 : Int32)) (inb_of S166 ⟨by decide, by decide⟩) (g := (mkF m 29 #[.val (.ref a0), .val (.long v164), .second, .val (.int (6 : Int32))] [(.long v165), (.int (6 : Int32)), (.ref a0)])) rfl rfl (hb hby d10_29)
  have V167 := Arv.set Ar166 q166 S166 M166 H166 G166 rfl W167 6 rfl (Nat.le_of_ble_eq_true rfl)
  have f168 := f158.wr W167
  have f169 := f159.other W167 ne_wp_a0
  have K167 : Keep h0 h167 [a0] := K157.wr W167 (Or.inl (List.mem_of_getElem? (i := 0) rfl))
  have N167 := Fr.snoc X167 N157 g0
  have Z167 : n0 ≤ h167.size := Nat.le_trans Z157 (Keep.of_wr W167).1
  have V167b : Arv Z h167 a0 kk0 .long (8 : Int32) [(.long v105), (.long v115), (.long v125), (.long v135), (.long v145), (.long v155), (.long v165), (.long u7)] (.long (0 : Int64)) := V167
  obtain ⟨v170, gv170⟩ : ∃ z, z = ((v164.toUInt64 >>> ((32 : Int32) &&& 0x3f).toInt64.toUInt64).toInt64) := ⟨_, rfl⟩
  obtain ⟨qv170, rv170, hcv170⟩ := own_add_step gv164 gv165 gv170 hcv160 r_a06 (by unfold own_R; decide)
  obtain ⟨cl171, Ar171, q171, S171, M171, H171, G171⟩ := id V167b
  obtain ⟨T172, X172, e172, st172⟩ := getS2 X167 hx hZ hown (host := "") (Or.inl (hw _ (List.mem_of_getElem? (i := 33) rfl))) Via.refl e167 f168 (g := (mkF m 14 #[.val (.ref a0), .val (.long v170), .second, .val (.int (7 : Int32))] [(.long u7), (.long v170)])) rfl (hb hby d10_14)
  obtain ⟨cl173, Ar173, q173, S173, M173, H173, G173⟩ := id f169
  obtain ⟨v174, gv174⟩ : ∃ z, z = (v170 + (u7 + (4294967295 : Int64))) := ⟨_, rfl⟩
  obtain ⟨v175, gv175⟩ : ∃ z, z = (v174 &&& (4294967295 : Int64)) := ⟨_, rfl⟩
  obtain ⟨cl176, Ar176, q176, S176, M176, H176, G176⟩ := id V167b
  obtain ⟨T177, h177, X177, e177, W177, st177⟩ := stJ X172 hx hZ e172 Ar176 (j := (7 : Int32)) (inb_of S176 ⟨by decide, by decide⟩) (g := (mkF m 29 #[.val (.ref a0), .val (.long v174), .second, .val (.int (7 : Int32))] [(.long v175), (.int (7 : Int32)), (.ref a0)])) rfl rfl (hb hby d10_29)
  have V177 := Arv.set Ar176 q176 S176 M176 H176 G176 rfl W177 7 rfl (Nat.le_of_ble_eq_true rfl)
  have f178 := f168.wr W177
  have f179 := f169.other W177 ne_wp_a0
  have K177 : Keep h0 h177 [a0] := K167.wr W177 (Or.inl (List.mem_of_getElem? (i := 0) rfl))
  have N177 := Fr.snoc X177 N167 g0
  have Z177 : n0 ≤ h177.size := Nat.le_trans Z167 (Keep.of_wr W177).1
  have V177b : Arv Z h177 a0 kk0 .long (8 : Int32) [(.long v105), (.long v115), (.long v125), (.long v135), (.long v145), (.long v155), (.long v165), (.long v175)] (.long (0 : Int64)) := V177
  obtain ⟨v180, gv180⟩ : ∃ z, z = ((v174.toUInt64 >>> ((32 : Int32) &&& 0x3f).toInt64.toUInt64).toInt64) := ⟨_, rfl⟩
  obtain ⟨qv180, rv180, hcv180⟩ := own_add_step gv174 gv175 gv180 hcv170 r_a07 (by unfold own_R; decide)
  obtain ⟨fs, hr, hrun, hended, hW, hsame⟩ := X177.leave (v := none) (fun _ => rfl)
  refine ⟨_, _, pre0 _ ?_, hrun, hended, _, _, rfl, ?_, ⟨_, rfl⟩, hW, hsame.mono (by decide) (by decide)⟩
  · show Steps p.tables e below (s₁.setTop (mkF m 0 #[.val (.ref a0), .unset, .unset, .unset] [])) _
    refine XS.lconst X0.here hx rfl (hb hby d10_0) ?_
    refine XS.lstoreN X0.here hx rfl (hb hby d10_1) rfl (l' := #[.val (.ref a0), .val (.long (0 : Int64)), .second, .unset]) rfl ?_
    refine XS.iconst X0.here hx rfl (hb hby d10_2) ?_
    refine XS.istoreN X0.here hx rfl (hb hby d10_3) rfl (l' := #[.val (.ref a0), .val (.long (0 : Int64)), .second, .val (.int (0 : Int32))]) rfl ?_
    show Steps p.tables e below (s₁.setTop (mkF m 4 #[.val (.ref a0), .val (.long (0 : Int64)), .second, .val (.int (0 : Int32))] [])) _
    refine XS.iloadN X0.here hx rfl (hb hby d10_4) rfl ?_
    refine XS.bipush X0.here hx rfl (hb hby d10_5) ?_
    refine XS.icmpNo X0.here hx rfl (hb hby d10_7) rfl (tlt (by decide : (0 : Int32) < (8 : Int32))).2.1 ?_
    refine XS.lloadN X0.here hx rfl (hb hby d10_10) rfl ?_
    show Steps p.tables e below (s₁.setTop (mkF m 11 #[.val (.ref a0), .val (.long (0 : Int64)), .second, .val (.int (0 : Int32))] [(.long (0 : Int64))])) _
    refine XS.aloadN X0.here hx rfl (hb hby d10_11) rfl rfl ?_
    refine XS.iloadN X0.here hx rfl (hb hby d10_12) rfl ?_
    show Steps p.tables e below (s₁.setTop (mkF m 13 #[.val (.ref a0), .val (.long (0 : Int64)), .second, .val (.int (0 : Int32))] [(.int (0 : Int32)), (.ref a0), (.long (0 : Int64))])) _
    have hin101 : ¬ ((0 : Int32) < 0 ∨ cl101.slots.size ≤ ((0 : Int32)).toNatClampNeg) := (inb_of S101 ⟨by decide, by decide⟩)
    refine X0.laload hx (j := (0 : Int32)) (v := (.long u0)) (by rw [e0]; exact Ar101.1) (State.isArrayOf_alike hZ.alike Ar101.2.1) Ar101.2.2 hin101 (H101.at hin101 rfl) (g := (mkF m 13 #[.val (.ref a0), .val (.long (0 : Int64)), .second, .val (.int (0 : Int32))] [(.int (0 : Int32)), (.ref a0), (.long (0 : Int64))])) rfl rfl (hb hby d10_13) _ ?_
    show Steps p.tables e below (s₁.setTop (mkF m 14 #[.val (.ref a0), .val (.long (0 : Int64)), .second, .val (.int (0 : Int32))] [(.long u0), (.long (0 : Int64))])) _
    refine st102 _ ?_
    refine XS.iloadN X102.here hx rfl (hb hby d10_17) rfl ?_
    show Steps p.tables e below (T102.setTop (mkF m 18 #[.val (.ref a0), .val (.long (0 : Int64)), .second, .val (.int (0 : Int32))] [(.int (0 : Int32)), (.ref wp), (.long u0), (.long (0 : Int64))])) _
    have hin103 : ¬ ((0 : Int32) < 0 ∨ cl103.slots.size ≤ ((0 : Int32)).toNatClampNeg) := (inb_of S103 ⟨by decide, by decide⟩)
    refine X102.laload hx (j := (0 : Int32)) (v := (.long (4294967295 : Int64))) (by rw [e102]; exact Ar103.1) (State.isArrayOf_alike hZ.alike Ar103.2.1) Ar103.2.2 hin103 (H103.at hin103 rfl) (g := (mkF m 18 #[.val (.ref a0), .val (.long (0 : Int64)), .second, .val (.int (0 : Int32))] [(.int (0 : Int32)), (.ref wp), (.long u0), (.long (0 : Int64))])) rfl rfl (hb hby d10_18) _ ?_
    refine XS.ladd X102.here hx rfl (hb hby d10_19) rfl ?_
    refine XS.ladd X102.here hx rfl (hb hby d10_20) rfl ?_
    show Steps p.tables e below (T102.setTop (mkF m 21 #[.val (.ref a0), .val (.long (0 : Int64)), .second, .val (.int (0 : Int32))] [(.long ((0 : Int64) + (u0 + (4294967295 : Int64))))])) _
    rw [← gv104]
    refine XS.lstoreN X102.here hx rfl (hb hby d10_21) rfl (l' := #[.val (.ref a0), .val (.long v104), .second, .val (.int (0 : Int32))]) rfl ?_
    refine XS.aloadN X102.here hx rfl (hb hby d10_22) rfl rfl ?_
    refine XS.iloadN X102.here hx rfl (hb hby d10_23) rfl ?_
    show Steps p.tables e below (T102.setTop (mkF m 24 #[.val (.ref a0), .val (.long v104), .second, .val (.int (0 : Int32))] [(.int (0 : Int32)), (.ref a0)])) _
    refine XS.lloadN X102.here hx rfl (hb hby d10_24) rfl ?_
    show Steps p.tables e below (T102.setTop (mkF m 25 #[.val (.ref a0), .val (.long v104), .second, .val (.int (0 : Int32))] [(.long v104), (.int (0 : Int32)), (.ref a0)])) _
    refine X102.ldc2Long hx hown (mvT hZ (hw _ (List.mem_of_getElem? (i := 17) rfl))) (g := (mkF m 25 #[.val (.ref a0), .val (.long v104), .second, .val (.int (0 : Int32))] [(.long v104), (.int (0 : Int32)), (.ref a0)])) rfl (hb hby d10_25) _ ?_
    refine XS.land X102.here hx rfl (hb hby d10_28) rfl ?_
    show Steps p.tables e below (T102.setTop (mkF m 29 #[.val (.ref a0), .val (.long v104), .second, .val (.int (0 : Int32))] [(.long (v104 &&& (4294967295 : Int64))), (.int (0 : Int32)), (.ref a0)])) _
    rw [← gv105]
    show Steps p.tables e below (T102.setTop (mkF m 29 #[.val (.ref a0), .val (.long v104), .second, .val (.int (0 : Int32))] [(.long v105), (.int (0 : Int32)), (.ref a0)])) _
    refine st107 _ ?_
    refine XS.lloadN X107.here hx rfl (hb hby d10_30) rfl ?_
    refine XS.bipush X107.here hx rfl (hb hby d10_31) ?_
    refine XS.lushr X107.here hx rfl (hb hby d10_33) rfl ?_
    show Steps p.tables e below (T107.setTop (mkF m 34 #[.val (.ref a0), .val (.long v104), .second, .val (.int (0 : Int32))] [(.long ((v104.toUInt64 >>> ((32 : Int32) &&& 0x3f).toInt64.toUInt64).toInt64))])) _
    rw [← gv110]
    refine XS.lstoreN X107.here hx rfl (hb hby d10_34) rfl (l' := #[.val (.ref a0), .val (.long v110), .second, .val (.int (0 : Int32))]) rfl ?_
    refine XS.iinc X107.here hx rfl (hb hby d10_35) rfl (l' := #[.val (.ref a0), .val (.long v110), .second, .val (.int (1 : Int32))]) rfl ?_
    refine XS.goto X107.here hx rfl (pc0 := 38) (pc' := 4) rfl (hb hby d10_38) (by decide) (by decide) ?_
    show Steps p.tables e below (T107.setTop (mkF m 4 #[.val (.ref a0), .val (.long v110), .second, .val (.int (1 : Int32))] [])) _
    refine XS.iloadN X107.here hx rfl (hb hby d10_4) rfl ?_
    refine XS.bipush X107.here hx rfl (hb hby d10_5) ?_
    refine XS.icmpNo X107.here hx rfl (hb hby d10_7) rfl (tlt (by decide : (1 : Int32) < (8 : Int32))).2.1 ?_
    refine XS.lloadN X107.here hx rfl (hb hby d10_10) rfl ?_
    show Steps p.tables e below (T107.setTop (mkF m 11 #[.val (.ref a0), .val (.long v110), .second, .val (.int (1 : Int32))] [(.long v110)])) _
    refine XS.aloadN X107.here hx rfl (hb hby d10_11) rfl rfl ?_
    refine XS.iloadN X107.here hx rfl (hb hby d10_12) rfl ?_
    show Steps p.tables e below (T107.setTop (mkF m 13 #[.val (.ref a0), .val (.long v110), .second, .val (.int (1 : Int32))] [(.int (1 : Int32)), (.ref a0), (.long v110)])) _
    have hin111 : ¬ ((1 : Int32) < 0 ∨ cl111.slots.size ≤ ((1 : Int32)).toNatClampNeg) := (inb_of S111 ⟨by decide, by decide⟩)
    refine X107.laload hx (j := (1 : Int32)) (v := (.long u1)) (by rw [e107]; exact Ar111.1) (State.isArrayOf_alike hZ.alike Ar111.2.1) Ar111.2.2 hin111 (H111.at hin111 rfl) (g := (mkF m 13 #[.val (.ref a0), .val (.long v110), .second, .val (.int (1 : Int32))] [(.int (1 : Int32)), (.ref a0), (.long v110)])) rfl rfl (hb hby d10_13) _ ?_
    show Steps p.tables e below (T107.setTop (mkF m 14 #[.val (.ref a0), .val (.long v110), .second, .val (.int (1 : Int32))] [(.long u1), (.long v110)])) _
    refine st112 _ ?_
    refine XS.iloadN X112.here hx rfl (hb hby d10_17) rfl ?_
    show Steps p.tables e below (T112.setTop (mkF m 18 #[.val (.ref a0), .val (.long v110), .second, .val (.int (1 : Int32))] [(.int (1 : Int32)), (.ref wp), (.long u1), (.long v110)])) _
    have hin113 : ¬ ((1 : Int32) < 0 ∨ cl113.slots.size ≤ ((1 : Int32)).toNatClampNeg) := (inb_of S113 ⟨by decide, by decide⟩)
    refine X112.laload hx (j := (1 : Int32)) (v := (.long (4294967295 : Int64))) (by rw [e112]; exact Ar113.1) (State.isArrayOf_alike hZ.alike Ar113.2.1) Ar113.2.2 hin113 (H113.at hin113 rfl) (g := (mkF m 18 #[.val (.ref a0), .val (.long v110), .second, .val (.int (1 : Int32))] [(.int (1 : Int32)), (.ref wp), (.long u1), (.long v110)])) rfl rfl (hb hby d10_18) _ ?_
    refine XS.ladd X112.here hx rfl (hb hby d10_19) rfl ?_
    refine XS.ladd X112.here hx rfl (hb hby d10_20) rfl ?_
    show Steps p.tables e below (T112.setTop (mkF m 21 #[.val (.ref a0), .val (.long v110), .second, .val (.int (1 : Int32))] [(.long (v110 + (u1 + (4294967295 : Int64))))])) _
    rw [← gv114]
    refine XS.lstoreN X112.here hx rfl (hb hby d10_21) rfl (l' := #[.val (.ref a0), .val (.long v114), .second, .val (.int (1 : Int32))]) rfl ?_
    refine XS.aloadN X112.here hx rfl (hb hby d10_22) rfl rfl ?_
    refine XS.iloadN X112.here hx rfl (hb hby d10_23) rfl ?_
    show Steps p.tables e below (T112.setTop (mkF m 24 #[.val (.ref a0), .val (.long v114), .second, .val (.int (1 : Int32))] [(.int (1 : Int32)), (.ref a0)])) _
    refine XS.lloadN X112.here hx rfl (hb hby d10_24) rfl ?_
    show Steps p.tables e below (T112.setTop (mkF m 25 #[.val (.ref a0), .val (.long v114), .second, .val (.int (1 : Int32))] [(.long v114), (.int (1 : Int32)), (.ref a0)])) _
    refine X112.ldc2Long hx hown (mvT hZ (hw _ (List.mem_of_getElem? (i := 17) rfl))) (g := (mkF m 25 #[.val (.ref a0), .val (.long v114), .second, .val (.int (1 : Int32))] [(.long v114), (.int (1 : Int32)), (.ref a0)])) rfl (hb hby d10_25) _ ?_
    refine XS.land X112.here hx rfl (hb hby d10_28) rfl ?_
    show Steps p.tables e below (T112.setTop (mkF m 29 #[.val (.ref a0), .val (.long v114), .second, .val (.int (1 : Int32))] [(.long (v114 &&& (4294967295 : Int64))), (.int (1 : Int32)), (.ref a0)])) _
    rw [← gv115]
    show Steps p.tables e below (T112.setTop (mkF m 29 #[.val (.ref a0), .val (.long v114), .second, .val (.int (1 : Int32))] [(.long v115), (.int (1 : Int32)), (.ref a0)])) _
    refine st117 _ ?_
    refine XS.lloadN X117.here hx rfl (hb hby d10_30) rfl ?_
    refine XS.bipush X117.here hx rfl (hb hby d10_31) ?_
    refine XS.lushr X117.here hx rfl (hb hby d10_33) rfl ?_
    show Steps p.tables e below (T117.setTop (mkF m 34 #[.val (.ref a0), .val (.long v114), .second, .val (.int (1 : Int32))] [(.long ((v114.toUInt64 >>> ((32 : Int32) &&& 0x3f).toInt64.toUInt64).toInt64))])) _
    rw [← gv120]
    refine XS.lstoreN X117.here hx rfl (hb hby d10_34) rfl (l' := #[.val (.ref a0), .val (.long v120), .second, .val (.int (1 : Int32))]) rfl ?_
    refine XS.iinc X117.here hx rfl (hb hby d10_35) rfl (l' := #[.val (.ref a0), .val (.long v120), .second, .val (.int (2 : Int32))]) rfl ?_
    refine XS.goto X117.here hx rfl (pc0 := 38) (pc' := 4) rfl (hb hby d10_38) (by decide) (by decide) ?_
    show Steps p.tables e below (T117.setTop (mkF m 4 #[.val (.ref a0), .val (.long v120), .second, .val (.int (2 : Int32))] [])) _
    refine XS.iloadN X117.here hx rfl (hb hby d10_4) rfl ?_
    refine XS.bipush X117.here hx rfl (hb hby d10_5) ?_
    refine XS.icmpNo X117.here hx rfl (hb hby d10_7) rfl (tlt (by decide : (2 : Int32) < (8 : Int32))).2.1 ?_
    refine XS.lloadN X117.here hx rfl (hb hby d10_10) rfl ?_
    show Steps p.tables e below (T117.setTop (mkF m 11 #[.val (.ref a0), .val (.long v120), .second, .val (.int (2 : Int32))] [(.long v120)])) _
    refine XS.aloadN X117.here hx rfl (hb hby d10_11) rfl rfl ?_
    refine XS.iloadN X117.here hx rfl (hb hby d10_12) rfl ?_
    show Steps p.tables e below (T117.setTop (mkF m 13 #[.val (.ref a0), .val (.long v120), .second, .val (.int (2 : Int32))] [(.int (2 : Int32)), (.ref a0), (.long v120)])) _
    have hin121 : ¬ ((2 : Int32) < 0 ∨ cl121.slots.size ≤ ((2 : Int32)).toNatClampNeg) := (inb_of S121 ⟨by decide, by decide⟩)
    refine X117.laload hx (j := (2 : Int32)) (v := (.long u2)) (by rw [e117]; exact Ar121.1) (State.isArrayOf_alike hZ.alike Ar121.2.1) Ar121.2.2 hin121 (H121.at hin121 rfl) (g := (mkF m 13 #[.val (.ref a0), .val (.long v120), .second, .val (.int (2 : Int32))] [(.int (2 : Int32)), (.ref a0), (.long v120)])) rfl rfl (hb hby d10_13) _ ?_
    show Steps p.tables e below (T117.setTop (mkF m 14 #[.val (.ref a0), .val (.long v120), .second, .val (.int (2 : Int32))] [(.long u2), (.long v120)])) _
    refine st122 _ ?_
    refine XS.iloadN X122.here hx rfl (hb hby d10_17) rfl ?_
    show Steps p.tables e below (T122.setTop (mkF m 18 #[.val (.ref a0), .val (.long v120), .second, .val (.int (2 : Int32))] [(.int (2 : Int32)), (.ref wp), (.long u2), (.long v120)])) _
    have hin123 : ¬ ((2 : Int32) < 0 ∨ cl123.slots.size ≤ ((2 : Int32)).toNatClampNeg) := (inb_of S123 ⟨by decide, by decide⟩)
    refine X122.laload hx (j := (2 : Int32)) (v := (.long (4294967295 : Int64))) (by rw [e122]; exact Ar123.1) (State.isArrayOf_alike hZ.alike Ar123.2.1) Ar123.2.2 hin123 (H123.at hin123 rfl) (g := (mkF m 18 #[.val (.ref a0), .val (.long v120), .second, .val (.int (2 : Int32))] [(.int (2 : Int32)), (.ref wp), (.long u2), (.long v120)])) rfl rfl (hb hby d10_18) _ ?_
    refine XS.ladd X122.here hx rfl (hb hby d10_19) rfl ?_
    refine XS.ladd X122.here hx rfl (hb hby d10_20) rfl ?_
    show Steps p.tables e below (T122.setTop (mkF m 21 #[.val (.ref a0), .val (.long v120), .second, .val (.int (2 : Int32))] [(.long (v120 + (u2 + (4294967295 : Int64))))])) _
    rw [← gv124]
    refine XS.lstoreN X122.here hx rfl (hb hby d10_21) rfl (l' := #[.val (.ref a0), .val (.long v124), .second, .val (.int (2 : Int32))]) rfl ?_
    refine XS.aloadN X122.here hx rfl (hb hby d10_22) rfl rfl ?_
    refine XS.iloadN X122.here hx rfl (hb hby d10_23) rfl ?_
    show Steps p.tables e below (T122.setTop (mkF m 24 #[.val (.ref a0), .val (.long v124), .second, .val (.int (2 : Int32))] [(.int (2 : Int32)), (.ref a0)])) _
    refine XS.lloadN X122.here hx rfl (hb hby d10_24) rfl ?_
    show Steps p.tables e below (T122.setTop (mkF m 25 #[.val (.ref a0), .val (.long v124), .second, .val (.int (2 : Int32))] [(.long v124), (.int (2 : Int32)), (.ref a0)])) _
    refine X122.ldc2Long hx hown (mvT hZ (hw _ (List.mem_of_getElem? (i := 17) rfl))) (g := (mkF m 25 #[.val (.ref a0), .val (.long v124), .second, .val (.int (2 : Int32))] [(.long v124), (.int (2 : Int32)), (.ref a0)])) rfl (hb hby d10_25) _ ?_
    refine XS.land X122.here hx rfl (hb hby d10_28) rfl ?_
    show Steps p.tables e below (T122.setTop (mkF m 29 #[.val (.ref a0), .val (.long v124), .second, .val (.int (2 : Int32))] [(.long (v124 &&& (4294967295 : Int64))), (.int (2 : Int32)), (.ref a0)])) _
    rw [← gv125]
    show Steps p.tables e below (T122.setTop (mkF m 29 #[.val (.ref a0), .val (.long v124), .second, .val (.int (2 : Int32))] [(.long v125), (.int (2 : Int32)), (.ref a0)])) _
    refine st127 _ ?_
    refine XS.lloadN X127.here hx rfl (hb hby d10_30) rfl ?_
    refine XS.bipush X127.here hx rfl (hb hby d10_31) ?_
    refine XS.lushr X127.here hx rfl (hb hby d10_33) rfl ?_
    show Steps p.tables e below (T127.setTop (mkF m 34 #[.val (.ref a0), .val (.long v124), .second, .val (.int (2 : Int32))] [(.long ((v124.toUInt64 >>> ((32 : Int32) &&& 0x3f).toInt64.toUInt64).toInt64))])) _
    rw [← gv130]
    refine XS.lstoreN X127.here hx rfl (hb hby d10_34) rfl (l' := #[.val (.ref a0), .val (.long v130), .second, .val (.int (2 : Int32))]) rfl ?_
    refine XS.iinc X127.here hx rfl (hb hby d10_35) rfl (l' := #[.val (.ref a0), .val (.long v130), .second, .val (.int (3 : Int32))]) rfl ?_
    refine XS.goto X127.here hx rfl (pc0 := 38) (pc' := 4) rfl (hb hby d10_38) (by decide) (by decide) ?_
    show Steps p.tables e below (T127.setTop (mkF m 4 #[.val (.ref a0), .val (.long v130), .second, .val (.int (3 : Int32))] [])) _
    refine XS.iloadN X127.here hx rfl (hb hby d10_4) rfl ?_
    refine XS.bipush X127.here hx rfl (hb hby d10_5) ?_
    refine XS.icmpNo X127.here hx rfl (hb hby d10_7) rfl (tlt (by decide : (3 : Int32) < (8 : Int32))).2.1 ?_
    refine XS.lloadN X127.here hx rfl (hb hby d10_10) rfl ?_
    show Steps p.tables e below (T127.setTop (mkF m 11 #[.val (.ref a0), .val (.long v130), .second, .val (.int (3 : Int32))] [(.long v130)])) _
    refine XS.aloadN X127.here hx rfl (hb hby d10_11) rfl rfl ?_
    refine XS.iloadN X127.here hx rfl (hb hby d10_12) rfl ?_
    show Steps p.tables e below (T127.setTop (mkF m 13 #[.val (.ref a0), .val (.long v130), .second, .val (.int (3 : Int32))] [(.int (3 : Int32)), (.ref a0), (.long v130)])) _
    have hin131 : ¬ ((3 : Int32) < 0 ∨ cl131.slots.size ≤ ((3 : Int32)).toNatClampNeg) := (inb_of S131 ⟨by decide, by decide⟩)
    refine X127.laload hx (j := (3 : Int32)) (v := (.long u3)) (by rw [e127]; exact Ar131.1) (State.isArrayOf_alike hZ.alike Ar131.2.1) Ar131.2.2 hin131 (H131.at hin131 rfl) (g := (mkF m 13 #[.val (.ref a0), .val (.long v130), .second, .val (.int (3 : Int32))] [(.int (3 : Int32)), (.ref a0), (.long v130)])) rfl rfl (hb hby d10_13) _ ?_
    show Steps p.tables e below (T127.setTop (mkF m 14 #[.val (.ref a0), .val (.long v130), .second, .val (.int (3 : Int32))] [(.long u3), (.long v130)])) _
    refine st132 _ ?_
    refine XS.iloadN X132.here hx rfl (hb hby d10_17) rfl ?_
    show Steps p.tables e below (T132.setTop (mkF m 18 #[.val (.ref a0), .val (.long v130), .second, .val (.int (3 : Int32))] [(.int (3 : Int32)), (.ref wp), (.long u3), (.long v130)])) _
    have hin133 : ¬ ((3 : Int32) < 0 ∨ cl133.slots.size ≤ ((3 : Int32)).toNatClampNeg) := (inb_of S133 ⟨by decide, by decide⟩)
    refine X132.laload hx (j := (3 : Int32)) (v := (.long (0 : Int64))) (by rw [e132]; exact Ar133.1) (State.isArrayOf_alike hZ.alike Ar133.2.1) Ar133.2.2 hin133 (H133.at hin133 rfl) (g := (mkF m 18 #[.val (.ref a0), .val (.long v130), .second, .val (.int (3 : Int32))] [(.int (3 : Int32)), (.ref wp), (.long u3), (.long v130)])) rfl rfl (hb hby d10_18) _ ?_
    refine XS.ladd X132.here hx rfl (hb hby d10_19) rfl ?_
    refine XS.ladd X132.here hx rfl (hb hby d10_20) rfl ?_
    show Steps p.tables e below (T132.setTop (mkF m 21 #[.val (.ref a0), .val (.long v130), .second, .val (.int (3 : Int32))] [(.long (v130 + (u3 + (0 : Int64))))])) _
    rw [← gv134]
    refine XS.lstoreN X132.here hx rfl (hb hby d10_21) rfl (l' := #[.val (.ref a0), .val (.long v134), .second, .val (.int (3 : Int32))]) rfl ?_
    refine XS.aloadN X132.here hx rfl (hb hby d10_22) rfl rfl ?_
    refine XS.iloadN X132.here hx rfl (hb hby d10_23) rfl ?_
    show Steps p.tables e below (T132.setTop (mkF m 24 #[.val (.ref a0), .val (.long v134), .second, .val (.int (3 : Int32))] [(.int (3 : Int32)), (.ref a0)])) _
    refine XS.lloadN X132.here hx rfl (hb hby d10_24) rfl ?_
    show Steps p.tables e below (T132.setTop (mkF m 25 #[.val (.ref a0), .val (.long v134), .second, .val (.int (3 : Int32))] [(.long v134), (.int (3 : Int32)), (.ref a0)])) _
    refine X132.ldc2Long hx hown (mvT hZ (hw _ (List.mem_of_getElem? (i := 17) rfl))) (g := (mkF m 25 #[.val (.ref a0), .val (.long v134), .second, .val (.int (3 : Int32))] [(.long v134), (.int (3 : Int32)), (.ref a0)])) rfl (hb hby d10_25) _ ?_
    refine XS.land X132.here hx rfl (hb hby d10_28) rfl ?_
    show Steps p.tables e below (T132.setTop (mkF m 29 #[.val (.ref a0), .val (.long v134), .second, .val (.int (3 : Int32))] [(.long (v134 &&& (4294967295 : Int64))), (.int (3 : Int32)), (.ref a0)])) _
    rw [← gv135]
    show Steps p.tables e below (T132.setTop (mkF m 29 #[.val (.ref a0), .val (.long v134), .second, .val (.int (3 : Int32))] [(.long v135), (.int (3 : Int32)), (.ref a0)])) _
    refine st137 _ ?_
    refine XS.lloadN X137.here hx rfl (hb hby d10_30) rfl ?_
    refine XS.bipush X137.here hx rfl (hb hby d10_31) ?_
    refine XS.lushr X137.here hx rfl (hb hby d10_33) rfl ?_
    show Steps p.tables e below (T137.setTop (mkF m 34 #[.val (.ref a0), .val (.long v134), .second, .val (.int (3 : Int32))] [(.long ((v134.toUInt64 >>> ((32 : Int32) &&& 0x3f).toInt64.toUInt64).toInt64))])) _
    rw [← gv140]
    refine XS.lstoreN X137.here hx rfl (hb hby d10_34) rfl (l' := #[.val (.ref a0), .val (.long v140), .second, .val (.int (3 : Int32))]) rfl ?_
    refine XS.iinc X137.here hx rfl (hb hby d10_35) rfl (l' := #[.val (.ref a0), .val (.long v140), .second, .val (.int (4 : Int32))]) rfl ?_
    refine XS.goto X137.here hx rfl (pc0 := 38) (pc' := 4) rfl (hb hby d10_38) (by decide) (by decide) ?_
    show Steps p.tables e below (T137.setTop (mkF m 4 #[.val (.ref a0), .val (.long v140), .second, .val (.int (4 : Int32))] [])) _
    refine XS.iloadN X137.here hx rfl (hb hby d10_4) rfl ?_
    refine XS.bipush X137.here hx rfl (hb hby d10_5) ?_
    refine XS.icmpNo X137.here hx rfl (hb hby d10_7) rfl (tlt (by decide : (4 : Int32) < (8 : Int32))).2.1 ?_
    refine XS.lloadN X137.here hx rfl (hb hby d10_10) rfl ?_
    show Steps p.tables e below (T137.setTop (mkF m 11 #[.val (.ref a0), .val (.long v140), .second, .val (.int (4 : Int32))] [(.long v140)])) _
    refine XS.aloadN X137.here hx rfl (hb hby d10_11) rfl rfl ?_
    refine XS.iloadN X137.here hx rfl (hb hby d10_12) rfl ?_
    show Steps p.tables e below (T137.setTop (mkF m 13 #[.val (.ref a0), .val (.long v140), .second, .val (.int (4 : Int32))] [(.int (4 : Int32)), (.ref a0), (.long v140)])) _
    have hin141 : ¬ ((4 : Int32) < 0 ∨ cl141.slots.size ≤ ((4 : Int32)).toNatClampNeg) := (inb_of S141 ⟨by decide, by decide⟩)
    refine X137.laload hx (j := (4 : Int32)) (v := (.long u4)) (by rw [e137]; exact Ar141.1) (State.isArrayOf_alike hZ.alike Ar141.2.1) Ar141.2.2 hin141 (H141.at hin141 rfl) (g := (mkF m 13 #[.val (.ref a0), .val (.long v140), .second, .val (.int (4 : Int32))] [(.int (4 : Int32)), (.ref a0), (.long v140)])) rfl rfl (hb hby d10_13) _ ?_
    show Steps p.tables e below (T137.setTop (mkF m 14 #[.val (.ref a0), .val (.long v140), .second, .val (.int (4 : Int32))] [(.long u4), (.long v140)])) _
    refine st142 _ ?_
    refine XS.iloadN X142.here hx rfl (hb hby d10_17) rfl ?_
    show Steps p.tables e below (T142.setTop (mkF m 18 #[.val (.ref a0), .val (.long v140), .second, .val (.int (4 : Int32))] [(.int (4 : Int32)), (.ref wp), (.long u4), (.long v140)])) _
    have hin143 : ¬ ((4 : Int32) < 0 ∨ cl143.slots.size ≤ ((4 : Int32)).toNatClampNeg) := (inb_of S143 ⟨by decide, by decide⟩)
    refine X142.laload hx (j := (4 : Int32)) (v := (.long (0 : Int64))) (by rw [e142]; exact Ar143.1) (State.isArrayOf_alike hZ.alike Ar143.2.1) Ar143.2.2 hin143 (H143.at hin143 rfl) (g := (mkF m 18 #[.val (.ref a0), .val (.long v140), .second, .val (.int (4 : Int32))] [(.int (4 : Int32)), (.ref wp), (.long u4), (.long v140)])) rfl rfl (hb hby d10_18) _ ?_
    refine XS.ladd X142.here hx rfl (hb hby d10_19) rfl ?_
    refine XS.ladd X142.here hx rfl (hb hby d10_20) rfl ?_
    show Steps p.tables e below (T142.setTop (mkF m 21 #[.val (.ref a0), .val (.long v140), .second, .val (.int (4 : Int32))] [(.long (v140 + (u4 + (0 : Int64))))])) _
    rw [← gv144]
    refine XS.lstoreN X142.here hx rfl (hb hby d10_21) rfl (l' := #[.val (.ref a0), .val (.long v144), .second, .val (.int (4 : Int32))]) rfl ?_
    refine XS.aloadN X142.here hx rfl (hb hby d10_22) rfl rfl ?_
    refine XS.iloadN X142.here hx rfl (hb hby d10_23) rfl ?_
    show Steps p.tables e below (T142.setTop (mkF m 24 #[.val (.ref a0), .val (.long v144), .second, .val (.int (4 : Int32))] [(.int (4 : Int32)), (.ref a0)])) _
    refine XS.lloadN X142.here hx rfl (hb hby d10_24) rfl ?_
    show Steps p.tables e below (T142.setTop (mkF m 25 #[.val (.ref a0), .val (.long v144), .second, .val (.int (4 : Int32))] [(.long v144), (.int (4 : Int32)), (.ref a0)])) _
    refine X142.ldc2Long hx hown (mvT hZ (hw _ (List.mem_of_getElem? (i := 17) rfl))) (g := (mkF m 25 #[.val (.ref a0), .val (.long v144), .second, .val (.int (4 : Int32))] [(.long v144), (.int (4 : Int32)), (.ref a0)])) rfl (hb hby d10_25) _ ?_
    refine XS.land X142.here hx rfl (hb hby d10_28) rfl ?_
    show Steps p.tables e below (T142.setTop (mkF m 29 #[.val (.ref a0), .val (.long v144), .second, .val (.int (4 : Int32))] [(.long (v144 &&& (4294967295 : Int64))), (.int (4 : Int32)), (.ref a0)])) _
    rw [← gv145]
    show Steps p.tables e below (T142.setTop (mkF m 29 #[.val (.ref a0), .val (.long v144), .second, .val (.int (4 : Int32))] [(.long v145), (.int (4 : Int32)), (.ref a0)])) _
    refine st147 _ ?_
    refine XS.lloadN X147.here hx rfl (hb hby d10_30) rfl ?_
    refine XS.bipush X147.here hx rfl (hb hby d10_31) ?_
    refine XS.lushr X147.here hx rfl (hb hby d10_33) rfl ?_
    show Steps p.tables e below (T147.setTop (mkF m 34 #[.val (.ref a0), .val (.long v144), .second, .val (.int (4 : Int32))] [(.long ((v144.toUInt64 >>> ((32 : Int32) &&& 0x3f).toInt64.toUInt64).toInt64))])) _
    rw [← gv150]
    refine XS.lstoreN X147.here hx rfl (hb hby d10_34) rfl (l' := #[.val (.ref a0), .val (.long v150), .second, .val (.int (4 : Int32))]) rfl ?_
    refine XS.iinc X147.here hx rfl (hb hby d10_35) rfl (l' := #[.val (.ref a0), .val (.long v150), .second, .val (.int (5 : Int32))]) rfl ?_
    refine XS.goto X147.here hx rfl (pc0 := 38) (pc' := 4) rfl (hb hby d10_38) (by decide) (by decide) ?_
    show Steps p.tables e below (T147.setTop (mkF m 4 #[.val (.ref a0), .val (.long v150), .second, .val (.int (5 : Int32))] [])) _
    refine XS.iloadN X147.here hx rfl (hb hby d10_4) rfl ?_
    refine XS.bipush X147.here hx rfl (hb hby d10_5) ?_
    refine XS.icmpNo X147.here hx rfl (hb hby d10_7) rfl (tlt (by decide : (5 : Int32) < (8 : Int32))).2.1 ?_
    refine XS.lloadN X147.here hx rfl (hb hby d10_10) rfl ?_
    show Steps p.tables e below (T147.setTop (mkF m 11 #[.val (.ref a0), .val (.long v150), .second, .val (.int (5 : Int32))] [(.long v150)])) _
    refine XS.aloadN X147.here hx rfl (hb hby d10_11) rfl rfl ?_
    refine XS.iloadN X147.here hx rfl (hb hby d10_12) rfl ?_
    show Steps p.tables e below (T147.setTop (mkF m 13 #[.val (.ref a0), .val (.long v150), .second, .val (.int (5 : Int32))] [(.int (5 : Int32)), (.ref a0), (.long v150)])) _
    have hin151 : ¬ ((5 : Int32) < 0 ∨ cl151.slots.size ≤ ((5 : Int32)).toNatClampNeg) := (inb_of S151 ⟨by decide, by decide⟩)
    refine X147.laload hx (j := (5 : Int32)) (v := (.long u5)) (by rw [e147]; exact Ar151.1) (State.isArrayOf_alike hZ.alike Ar151.2.1) Ar151.2.2 hin151 (H151.at hin151 rfl) (g := (mkF m 13 #[.val (.ref a0), .val (.long v150), .second, .val (.int (5 : Int32))] [(.int (5 : Int32)), (.ref a0), (.long v150)])) rfl rfl (hb hby d10_13) _ ?_
    show Steps p.tables e below (T147.setTop (mkF m 14 #[.val (.ref a0), .val (.long v150), .second, .val (.int (5 : Int32))] [(.long u5), (.long v150)])) _
    refine st152 _ ?_
    refine XS.iloadN X152.here hx rfl (hb hby d10_17) rfl ?_
    show Steps p.tables e below (T152.setTop (mkF m 18 #[.val (.ref a0), .val (.long v150), .second, .val (.int (5 : Int32))] [(.int (5 : Int32)), (.ref wp), (.long u5), (.long v150)])) _
    have hin153 : ¬ ((5 : Int32) < 0 ∨ cl153.slots.size ≤ ((5 : Int32)).toNatClampNeg) := (inb_of S153 ⟨by decide, by decide⟩)
    refine X152.laload hx (j := (5 : Int32)) (v := (.long (0 : Int64))) (by rw [e152]; exact Ar153.1) (State.isArrayOf_alike hZ.alike Ar153.2.1) Ar153.2.2 hin153 (H153.at hin153 rfl) (g := (mkF m 18 #[.val (.ref a0), .val (.long v150), .second, .val (.int (5 : Int32))] [(.int (5 : Int32)), (.ref wp), (.long u5), (.long v150)])) rfl rfl (hb hby d10_18) _ ?_
    refine XS.ladd X152.here hx rfl (hb hby d10_19) rfl ?_
    refine XS.ladd X152.here hx rfl (hb hby d10_20) rfl ?_
    show Steps p.tables e below (T152.setTop (mkF m 21 #[.val (.ref a0), .val (.long v150), .second, .val (.int (5 : Int32))] [(.long (v150 + (u5 + (0 : Int64))))])) _
    rw [← gv154]
    refine XS.lstoreN X152.here hx rfl (hb hby d10_21) rfl (l' := #[.val (.ref a0), .val (.long v154), .second, .val (.int (5 : Int32))]) rfl ?_
    refine XS.aloadN X152.here hx rfl (hb hby d10_22) rfl rfl ?_
    refine XS.iloadN X152.here hx rfl (hb hby d10_23) rfl ?_
    show Steps p.tables e below (T152.setTop (mkF m 24 #[.val (.ref a0), .val (.long v154), .second, .val (.int (5 : Int32))] [(.int (5 : Int32)), (.ref a0)])) _
    refine XS.lloadN X152.here hx rfl (hb hby d10_24) rfl ?_
    show Steps p.tables e below (T152.setTop (mkF m 25 #[.val (.ref a0), .val (.long v154), .second, .val (.int (5 : Int32))] [(.long v154), (.int (5 : Int32)), (.ref a0)])) _
    refine X152.ldc2Long hx hown (mvT hZ (hw _ (List.mem_of_getElem? (i := 17) rfl))) (g := (mkF m 25 #[.val (.ref a0), .val (.long v154), .second, .val (.int (5 : Int32))] [(.long v154), (.int (5 : Int32)), (.ref a0)])) rfl (hb hby d10_25) _ ?_
    refine XS.land X152.here hx rfl (hb hby d10_28) rfl ?_
    show Steps p.tables e below (T152.setTop (mkF m 29 #[.val (.ref a0), .val (.long v154), .second, .val (.int (5 : Int32))] [(.long (v154 &&& (4294967295 : Int64))), (.int (5 : Int32)), (.ref a0)])) _
    rw [← gv155]
    show Steps p.tables e below (T152.setTop (mkF m 29 #[.val (.ref a0), .val (.long v154), .second, .val (.int (5 : Int32))] [(.long v155), (.int (5 : Int32)), (.ref a0)])) _
    refine st157 _ ?_
    refine XS.lloadN X157.here hx rfl (hb hby d10_30) rfl ?_
    refine XS.bipush X157.here hx rfl (hb hby d10_31) ?_
    refine XS.lushr X157.here hx rfl (hb hby d10_33) rfl ?_
    show Steps p.tables e below (T157.setTop (mkF m 34 #[.val (.ref a0), .val (.long v154), .second, .val (.int (5 : Int32))] [(.long ((v154.toUInt64 >>> ((32 : Int32) &&& 0x3f).toInt64.toUInt64).toInt64))])) _
    rw [← gv160]
    refine XS.lstoreN X157.here hx rfl (hb hby d10_34) rfl (l' := #[.val (.ref a0), .val (.long v160), .second, .val (.int (5 : Int32))]) rfl ?_
    refine XS.iinc X157.here hx rfl (hb hby d10_35) rfl (l' := #[.val (.ref a0), .val (.long v160), .second, .val (.int (6 : Int32))]) rfl ?_
    refine XS.goto X157.here hx rfl (pc0 := 38) (pc' := 4) rfl (hb hby d10_38) (by decide) (by decide) ?_
    show Steps p.tables e below (T157.setTop (mkF m 4 #[.val (.ref a0), .val (.long v160), .second, .val (.int (6 : Int32))] [])) _
    refine XS.iloadN X157.here hx rfl (hb hby d10_4) rfl ?_
    refine XS.bipush X157.here hx rfl (hb hby d10_5) ?_
    refine XS.icmpNo X157.here hx rfl (hb hby d10_7) rfl (tlt (by decide : (6 : Int32) < (8 : Int32))).2.1 ?_
    refine XS.lloadN X157.here hx rfl (hb hby d10_10) rfl ?_
    show Steps p.tables e below (T157.setTop (mkF m 11 #[.val (.ref a0), .val (.long v160), .second, .val (.int (6 : Int32))] [(.long v160)])) _
    refine XS.aloadN X157.here hx rfl (hb hby d10_11) rfl rfl ?_
    refine XS.iloadN X157.here hx rfl (hb hby d10_12) rfl ?_
    show Steps p.tables e below (T157.setTop (mkF m 13 #[.val (.ref a0), .val (.long v160), .second, .val (.int (6 : Int32))] [(.int (6 : Int32)), (.ref a0), (.long v160)])) _
    have hin161 : ¬ ((6 : Int32) < 0 ∨ cl161.slots.size ≤ ((6 : Int32)).toNatClampNeg) := (inb_of S161 ⟨by decide, by decide⟩)
    refine X157.laload hx (j := (6 : Int32)) (v := (.long u6)) (by rw [e157]; exact Ar161.1) (State.isArrayOf_alike hZ.alike Ar161.2.1) Ar161.2.2 hin161 (H161.at hin161 rfl) (g := (mkF m 13 #[.val (.ref a0), .val (.long v160), .second, .val (.int (6 : Int32))] [(.int (6 : Int32)), (.ref a0), (.long v160)])) rfl rfl (hb hby d10_13) _ ?_
    show Steps p.tables e below (T157.setTop (mkF m 14 #[.val (.ref a0), .val (.long v160), .second, .val (.int (6 : Int32))] [(.long u6), (.long v160)])) _
    refine st162 _ ?_
    refine XS.iloadN X162.here hx rfl (hb hby d10_17) rfl ?_
    show Steps p.tables e below (T162.setTop (mkF m 18 #[.val (.ref a0), .val (.long v160), .second, .val (.int (6 : Int32))] [(.int (6 : Int32)), (.ref wp), (.long u6), (.long v160)])) _
    have hin163 : ¬ ((6 : Int32) < 0 ∨ cl163.slots.size ≤ ((6 : Int32)).toNatClampNeg) := (inb_of S163 ⟨by decide, by decide⟩)
    refine X162.laload hx (j := (6 : Int32)) (v := (.long (1 : Int64))) (by rw [e162]; exact Ar163.1) (State.isArrayOf_alike hZ.alike Ar163.2.1) Ar163.2.2 hin163 (H163.at hin163 rfl) (g := (mkF m 18 #[.val (.ref a0), .val (.long v160), .second, .val (.int (6 : Int32))] [(.int (6 : Int32)), (.ref wp), (.long u6), (.long v160)])) rfl rfl (hb hby d10_18) _ ?_
    refine XS.ladd X162.here hx rfl (hb hby d10_19) rfl ?_
    refine XS.ladd X162.here hx rfl (hb hby d10_20) rfl ?_
    show Steps p.tables e below (T162.setTop (mkF m 21 #[.val (.ref a0), .val (.long v160), .second, .val (.int (6 : Int32))] [(.long (v160 + (u6 + (1 : Int64))))])) _
    rw [← gv164]
    refine XS.lstoreN X162.here hx rfl (hb hby d10_21) rfl (l' := #[.val (.ref a0), .val (.long v164), .second, .val (.int (6 : Int32))]) rfl ?_
    refine XS.aloadN X162.here hx rfl (hb hby d10_22) rfl rfl ?_
    refine XS.iloadN X162.here hx rfl (hb hby d10_23) rfl ?_
    show Steps p.tables e below (T162.setTop (mkF m 24 #[.val (.ref a0), .val (.long v164), .second, .val (.int (6 : Int32))] [(.int (6 : Int32)), (.ref a0)])) _
    refine XS.lloadN X162.here hx rfl (hb hby d10_24) rfl ?_
    show Steps p.tables e below (T162.setTop (mkF m 25 #[.val (.ref a0), .val (.long v164), .second, .val (.int (6 : Int32))] [(.long v164), (.int (6 : Int32)), (.ref a0)])) _
    refine X162.ldc2Long hx hown (mvT hZ (hw _ (List.mem_of_getElem? (i := 17) rfl))) (g := (mkF m 25 #[.val (.ref a0), .val (.long v164), .second, .val (.int (6 : Int32))] [(.long v164), (.int (6 : Int32)), (.ref a0)])) rfl (hb hby d10_25) _ ?_
    refine XS.land X162.here hx rfl (hb hby d10_28) rfl ?_
    show Steps p.tables e below (T162.setTop (mkF m 29 #[.val (.ref a0), .val (.long v164), .second, .val (.int (6 : Int32))] [(.long (v164 &&& (4294967295 : Int64))), (.int (6 : Int32)), (.ref a0)])) _
    rw [← gv165]
    show Steps p.tables e below (T162.setTop (mkF m 29 #[.val (.ref a0), .val (.long v164), .second, .val (.int (6 : Int32))] [(.long v165), (.int (6 : Int32)), (.ref a0)])) _
    refine st167 _ ?_
    refine XS.lloadN X167.here hx rfl (hb hby d10_30) rfl ?_
    refine XS.bipush X167.here hx rfl (hb hby d10_31) ?_
    refine XS.lushr X167.here hx rfl (hb hby d10_33) rfl ?_
    show Steps p.tables e below (T167.setTop (mkF m 34 #[.val (.ref a0), .val (.long v164), .second, .val (.int (6 : Int32))] [(.long ((v164.toUInt64 >>> ((32 : Int32) &&& 0x3f).toInt64.toUInt64).toInt64))])) _
    rw [← gv170]
    refine XS.lstoreN X167.here hx rfl (hb hby d10_34) rfl (l' := #[.val (.ref a0), .val (.long v170), .second, .val (.int (6 : Int32))]) rfl ?_
    refine XS.iinc X167.here hx rfl (hb hby d10_35) rfl (l' := #[.val (.ref a0), .val (.long v170), .second, .val (.int (7 : Int32))]) rfl ?_
    refine XS.goto X167.here hx rfl (pc0 := 38) (pc' := 4) rfl (hb hby d10_38) (by decide) (by decide) ?_
    show Steps p.tables e below (T167.setTop (mkF m 4 #[.val (.ref a0), .val (.long v170), .second, .val (.int (7 : Int32))] [])) _
    refine XS.iloadN X167.here hx rfl (hb hby d10_4) rfl ?_
    refine XS.bipush X167.here hx rfl (hb hby d10_5) ?_
    refine XS.icmpNo X167.here hx rfl (hb hby d10_7) rfl (tlt (by decide : (7 : Int32) < (8 : Int32))).2.1 ?_
    refine XS.lloadN X167.here hx rfl (hb hby d10_10) rfl ?_
    show Steps p.tables e below (T167.setTop (mkF m 11 #[.val (.ref a0), .val (.long v170), .second, .val (.int (7 : Int32))] [(.long v170)])) _
    refine XS.aloadN X167.here hx rfl (hb hby d10_11) rfl rfl ?_
    refine XS.iloadN X167.here hx rfl (hb hby d10_12) rfl ?_
    show Steps p.tables e below (T167.setTop (mkF m 13 #[.val (.ref a0), .val (.long v170), .second, .val (.int (7 : Int32))] [(.int (7 : Int32)), (.ref a0), (.long v170)])) _
    have hin171 : ¬ ((7 : Int32) < 0 ∨ cl171.slots.size ≤ ((7 : Int32)).toNatClampNeg) := (inb_of S171 ⟨by decide, by decide⟩)
    refine X167.laload hx (j := (7 : Int32)) (v := (.long u7)) (by rw [e167]; exact Ar171.1) (State.isArrayOf_alike hZ.alike Ar171.2.1) Ar171.2.2 hin171 (H171.at hin171 rfl) (g := (mkF m 13 #[.val (.ref a0), .val (.long v170), .second, .val (.int (7 : Int32))] [(.int (7 : Int32)), (.ref a0), (.long v170)])) rfl rfl (hb hby d10_13) _ ?_
    show Steps p.tables e below (T167.setTop (mkF m 14 #[.val (.ref a0), .val (.long v170), .second, .val (.int (7 : Int32))] [(.long u7), (.long v170)])) _
    refine st172 _ ?_
    refine XS.iloadN X172.here hx rfl (hb hby d10_17) rfl ?_
    show Steps p.tables e below (T172.setTop (mkF m 18 #[.val (.ref a0), .val (.long v170), .second, .val (.int (7 : Int32))] [(.int (7 : Int32)), (.ref wp), (.long u7), (.long v170)])) _
    have hin173 : ¬ ((7 : Int32) < 0 ∨ cl173.slots.size ≤ ((7 : Int32)).toNatClampNeg) := (inb_of S173 ⟨by decide, by decide⟩)
    refine X172.laload hx (j := (7 : Int32)) (v := (.long (4294967295 : Int64))) (by rw [e172]; exact Ar173.1) (State.isArrayOf_alike hZ.alike Ar173.2.1) Ar173.2.2 hin173 (H173.at hin173 rfl) (g := (mkF m 18 #[.val (.ref a0), .val (.long v170), .second, .val (.int (7 : Int32))] [(.int (7 : Int32)), (.ref wp), (.long u7), (.long v170)])) rfl rfl (hb hby d10_18) _ ?_
    refine XS.ladd X172.here hx rfl (hb hby d10_19) rfl ?_
    refine XS.ladd X172.here hx rfl (hb hby d10_20) rfl ?_
    show Steps p.tables e below (T172.setTop (mkF m 21 #[.val (.ref a0), .val (.long v170), .second, .val (.int (7 : Int32))] [(.long (v170 + (u7 + (4294967295 : Int64))))])) _
    rw [← gv174]
    refine XS.lstoreN X172.here hx rfl (hb hby d10_21) rfl (l' := #[.val (.ref a0), .val (.long v174), .second, .val (.int (7 : Int32))]) rfl ?_
    refine XS.aloadN X172.here hx rfl (hb hby d10_22) rfl rfl ?_
    refine XS.iloadN X172.here hx rfl (hb hby d10_23) rfl ?_
    show Steps p.tables e below (T172.setTop (mkF m 24 #[.val (.ref a0), .val (.long v174), .second, .val (.int (7 : Int32))] [(.int (7 : Int32)), (.ref a0)])) _
    refine XS.lloadN X172.here hx rfl (hb hby d10_24) rfl ?_
    show Steps p.tables e below (T172.setTop (mkF m 25 #[.val (.ref a0), .val (.long v174), .second, .val (.int (7 : Int32))] [(.long v174), (.int (7 : Int32)), (.ref a0)])) _
    refine X172.ldc2Long hx hown (mvT hZ (hw _ (List.mem_of_getElem? (i := 17) rfl))) (g := (mkF m 25 #[.val (.ref a0), .val (.long v174), .second, .val (.int (7 : Int32))] [(.long v174), (.int (7 : Int32)), (.ref a0)])) rfl (hb hby d10_25) _ ?_
    refine XS.land X172.here hx rfl (hb hby d10_28) rfl ?_
    show Steps p.tables e below (T172.setTop (mkF m 29 #[.val (.ref a0), .val (.long v174), .second, .val (.int (7 : Int32))] [(.long (v174 &&& (4294967295 : Int64))), (.int (7 : Int32)), (.ref a0)])) _
    rw [← gv175]
    show Steps p.tables e below (T172.setTop (mkF m 29 #[.val (.ref a0), .val (.long v174), .second, .val (.int (7 : Int32))] [(.long v175), (.int (7 : Int32)), (.ref a0)])) _
    refine st177 _ ?_
    refine XS.lloadN X177.here hx rfl (hb hby d10_30) rfl ?_
    refine XS.bipush X177.here hx rfl (hb hby d10_31) ?_
    refine XS.lushr X177.here hx rfl (hb hby d10_33) rfl ?_
    show Steps p.tables e below (T177.setTop (mkF m 34 #[.val (.ref a0), .val (.long v174), .second, .val (.int (7 : Int32))] [(.long ((v174.toUInt64 >>> ((32 : Int32) &&& 0x3f).toInt64.toUInt64).toInt64))])) _
    rw [← gv180]
    refine XS.lstoreN X177.here hx rfl (hb hby d10_34) rfl (l' := #[.val (.ref a0), .val (.long v180), .second, .val (.int (7 : Int32))]) rfl ?_
    refine XS.iinc X177.here hx rfl (hb hby d10_35) rfl (l' := #[.val (.ref a0), .val (.long v180), .second, .val (.int (8 : Int32))]) rfl ?_
    refine XS.goto X177.here hx rfl (pc0 := 38) (pc' := 4) rfl (hb hby d10_38) (by decide) (by decide) ?_
    show Steps p.tables e below (T177.setTop (mkF m 4 #[.val (.ref a0), .val (.long v180), .second, .val (.int (8 : Int32))] [])) _
    refine XS.iloadN X177.here hx rfl (hb hby d10_4) rfl ?_
    refine XS.bipush X177.here hx rfl (hb hby d10_5) ?_
    refine XS.icmpYes X177.here hx rfl (pc0 := 7) (pc' := 41) rfl (hb hby d10_7) rfl (flt (by decide : ¬ ((8 : Int32) < (8 : Int32)))).2.1 (by decide) (by decide) ?_
    show Steps p.tables e below (T177.setTop (mkF m 41 #[.val (.ref a0), .val (.long v180), .second, .val (.int (8 : Int32))] [])) _
    exact X177.returnOut hx Bd.returns (hb hby d10_41) hr
  · show Q_rm_addP Z a0 wp kp kk0 u0 u1 u2 u3 u4 u5 u6 u7 h0 n0 _ T177.heap _
    rw [e177]
    exact ⟨rfl, N177, K177, v105, v115, v125, v135, v145, v155, v165, v175, v180.toInt, V177b, ⟨rv110, rv120, rv130, rv140, rv150, rv160, rv170, rv180⟩, own_telAP qv110 qv120 qv130 qv140 qv150 qv160 qv170 qv180, hcv180⟩
theorem d11_0 : decode prog_29_method_14_code 0 = .ok (.lconst 0, 1) := by decide +kernel
theorem d11_1 : decode prog_29_method_14_code 1 = .ok (.lstore_n 1, 1) := by decide +kernel
theorem d11_2 : decode prog_29_method_14_code 2 = .ok (.iconst 0, 1) := by decide +kernel
theorem d11_3 : decode prog_29_method_14_code 3 = .ok (.istore_n 3, 1) := by decide +kernel
theorem d11_4 : decode prog_29_method_14_code 4 = .ok (.iload_n 3, 1) := by decide +kernel
theorem d11_5 : decode prog_29_method_14_code 5 = .ok (.bipush 8, 2) := by decide +kernel
theorem d11_7 : decode prog_29_method_14_code 7 = .ok (.if_icmp .ge 34, 3) := by decide +kernel
theorem d11_10 : decode prog_29_method_14_code 10 = .ok (.lload_n 1, 1) := by decide +kernel
theorem d11_11 : decode prog_29_method_14_code 11 = .ok (.aload_n 0, 1) := by decide +kernel
theorem d11_12 : decode prog_29_method_14_code 12 = .ok (.iload_n 3, 1) := by decide +kernel
theorem d11_13 : decode prog_29_method_14_code 13 = .ok (.laload, 1) := by decide +kernel
theorem d11_14 : decode prog_29_method_14_code 14 = .ok (.getstatic 82, 3) := by decide +kernel
theorem d11_17 : decode prog_29_method_14_code 17 = .ok (.iload_n 3, 1) := by decide +kernel
theorem d11_18 : decode prog_29_method_14_code 18 = .ok (.laload, 1) := by decide +kernel
theorem d11_19 : decode prog_29_method_14_code 19 = .ok (.lsub, 1) := by decide +kernel
theorem d11_20 : decode prog_29_method_14_code 20 = .ok (.ladd, 1) := by decide +kernel
theorem d11_21 : decode prog_29_method_14_code 21 = .ok (.lstore_n 1, 1) := by decide +kernel
theorem d11_22 : decode prog_29_method_14_code 22 = .ok (.aload_n 0, 1) := by decide +kernel
theorem d11_23 : decode prog_29_method_14_code 23 = .ok (.iload_n 3, 1) := by decide +kernel
theorem d11_24 : decode prog_29_method_14_code 24 = .ok (.lload_n 1, 1) := by decide +kernel
theorem d11_25 : decode prog_29_method_14_code 25 = .ok (.ldc2_w 60, 3) := by decide +kernel
theorem d11_28 : decode prog_29_method_14_code 28 = .ok (.land, 1) := by decide +kernel
theorem d11_29 : decode prog_29_method_14_code 29 = .ok (.lastore, 1) := by decide +kernel
theorem d11_30 : decode prog_29_method_14_code 30 = .ok (.lload_n 1, 1) := by decide +kernel
theorem d11_31 : decode prog_29_method_14_code 31 = .ok (.bipush 32, 2) := by decide +kernel
theorem d11_33 : decode prog_29_method_14_code 33 = .ok (.lshr, 1) := by decide +kernel
theorem d11_34 : decode prog_29_method_14_code 34 = .ok (.lstore_n 1, 1) := by decide +kernel
theorem d11_35 : decode prog_29_method_14_code 35 = .ok (.iinc 3 1, 3) := by decide +kernel
theorem d11_38 : decode prog_29_method_14_code 38 = .ok (.goto (-34), 3) := by decide +kernel
theorem d11_41 : decode prog_29_method_14_code 41 = .ok (.return_, 1) := by decide +kernel
theorem ef_rm_subtractP (m : MethodId) (x0 : Addr) : entryFrame m #[(.ref x0)] 4 = mkF m 0 #[.val (.ref x0), .unset, .unset, .unset] [] := by first | (simp [entryFrame, mkF, argsToLocals, Value.category]; done) | rfl
def Q_rm_subtractP (Z : State) (a0 : Addr) (wp : Addr) (kp : ClassId) (kk0 : ClassId) (u0 : Int64) (u1 : Int64) (u2 : Int64) (u3 : Int64) (u4 : Int64) (u5 : Int64) (u6 : Int64) (u7 : Int64) (h0 : Heap) (n0 : Nat) (v : Option Value) (h : Heap) (L : List Loc) : Prop := v = none ∧ Fr n0 L ∧ Keep h0 h [a0] ∧ ∃ (o0 o1 o2 o3 o4 o5 o6 o7 : Int64) (c : Int), Arv Z h a0 kk0 .long (8 : Int32) [(.long o0), (.long o1), (.long o2), (.long o3), (.long o4), (.long o5), (.long o6), (.long o7)] (.long (0 : Int64)) ∧ own_RR o0 o1 o2 o3 o4 o5 o6 o7 ∧ own_W o0 o1 o2 o3 o4 o5 o6 o7 + 115792089237316195423570985008687907853269984665640564039457584007913129639936 * c = own_W u0 u1 u2 u3 u4 u5 u6 u7 - own_P ∧ -1 ≤ c ∧ c ≤ 0
set_option maxRecDepth 65536 in
set_option maxHeartbeats 40000000 in
theorem rm_subtractP (l : Launch) (Z : State) (aw : Array Value) (hw : ∀ d ∈ tables_1, d.before aw Z = true) (ws : List Jvm.Cond) (a0 : Addr) (wp : Addr) (kp : ClassId) (kk0 : ClassId) (u0 : Int64) (u1 : Int64) (u2 : Int64) (u3 : Int64) (u4 : Int64) (u5 : Int64) (u6 : Int64) (u7 : Int64) (h0 : Heap) (n0 : Nat) (Z0 : n0 ≤ h0.size) (SP : Sta Z h0 "com/example/serialroute/serialroute/core/P256Field" "P_WORDS" "[J" (.ref wp)) (VP : Arv Z h0 wp kp .long (8 : Int32) [(.long (4294967295 : Int64)), (.long (4294967295 : Int64)), (.long (4294967295 : Int64)), (.long (0 : Int64)), (.long (0 : Int64)), (.long (0 : Int64)), (.long (1 : Int64)), (.long (4294967295 : Int64))] (.long (0 : Int64))) (Va0 : Arv Z h0 a0 kk0 .long (8 : Int32) [(.long u0), (.long u1), (.long u2), (.long u3), (.long u4), (.long u5), (.long u6), (.long u7)] (.long (0 : Int64))) (g0 : n0 ≤ a0) (ne_wp_a0 : wp ≠ a0) (hR_a0 : own_RR u0 u1 u2 u3 u4 u5 u6 u7) :
    MetFree l (⟨"com/example/serialroute/serialroute/core/P256Field", "subtractP", "([J)V"⟩ : MethodName) (head1 (Jvm.Cond.code (⟨"com/example/serialroute/serialroute/core/P256Field", "subtractP", "([J)V"⟩ : MethodName) prog_29_method_14_code 4 none :: ws) ({ frames := 0, cells := 0, slots := 0, locals := 0 } : Room)) (fun a U => a = #[(.ref a0)] ∧ Z.Warmed39 U.vm ∧ U.heap = h0) (fun _ _ _ _ _ => True) (fun _ U oc U' => ∃ v L, oc = .returned v ∧ Q_rm_subtractP Z a0 wp kp kk0 u0 u1 u2 u3 u4 u5 u6 u7 h0 n0 v U'.heap L ∧ FrameEnd U oc U' L ({ frames := 0, cells := 0, slots := 0, locals := 0 } : Room).cells ({ frames := 0, cells := 0, slots := 0, locals := 0 } : Room).slots) := by
  refine MetFree.of_bodySF (plainFor_of_name pn_1) hisR ?_
  intro p e s m args below meth c s₁ Bd hml0 hP hK
  obtain ⟨rfl, hZ, hh⟩ := hP
  have hx := Bd.exec
  have hby := Bd.bytes
  have hml : c.maxLocals = 4 := hml0
  have hown : s.vm.findClass "com/example/serialroute/serialroute/core/P256Field" = some m.cls := findClass_of_methodNamed Bd.named
  have hnm := (name_of_methodNamed Bd.named Bd.method).1
  have X0 : Stand p l e ({ frames := 0, cells := 0, slots := 0, locals := 0 } : Room) s m #[(.ref a0)] below meth c s₁ [] 0 0 := Stand.of_body Bd
  have e0 : s₁.heap = h0 := by rw [← hh, Bd.state]; rfl
  have N0 := Fr.nil n0
  have pre0 : ∀ t, Steps p.tables e below (s₁.setTop (mkF m 0 #[.val (.ref a0), .unset, .unset, .unset] [])) t → Steps p.tables e below (s₁.setTop (entryFrame m #[(.ref a0)] 4)) t := fun t k => castTop (ef_rm_subtractP m a0) k
  obtain ⟨r_a00, r_a01, r_a02, r_a03, r_a04, r_a05, r_a06, r_a07⟩ := id hR_a0
  have hc0 : -1 ≤ ((0 : Int64)).toInt ∧ ((0 : Int64)).toInt ≤ 0 := by decide
  obtain ⟨cl101, Ar101, q101, S101, M101, H101, G101⟩ := id Va0
  obtain ⟨T102, X102, e102, st102⟩ := getS2 X0 hx hZ hown (host := "") (Or.inl (hw _ (List.mem_of_getElem? (i := 33) rfl))) Via.refl e0 SP (g := (mkF m 14 #[.val (.ref a0), .val (.long (0 : Int64)), .second, .val (.int (0 : Int32))] [(.long u0), (.long (0 : Int64))])) rfl (hb hby d11_14)
  obtain ⟨cl103, Ar103, q103, S103, M103, H103, G103⟩ := id VP
  obtain ⟨v104, gv104⟩ : ∃ z, z = ((0 : Int64) + (u0 - (4294967295 : Int64))) := ⟨_, rfl⟩
  obtain ⟨v105, gv105⟩ : ∃ z, z = (v104 &&& (4294967295 : Int64)) := ⟨_, rfl⟩
  obtain ⟨cl106, Ar106, q106, S106, M106, H106, G106⟩ := id Va0
  obtain ⟨T107, h107, X107, e107, W107, st107⟩ := stJ X102 hx hZ e102 Ar106 (j := (0 : Int32)) (inb_of S106 ⟨by decide, by decide⟩) (g := (mkF m 29 #[.val (.ref a0), .val (.long v104), .second, .val (.int (0 : Int32))] [(.long v105), (.int (0 : Int32)), (.ref a0)])) rfl rfl (hb hby d11_29)
  have V107 := Arv.set Ar106 q106 S106 M106 H106 G106 rfl W107 0 rfl (Nat.le_of_ble_eq_true rfl)
  have f108 := SP.wr W107
  have f109 := VP.other W107 ne_wp_a0
  have K107 : Keep h0 h107 [a0] := (Keep.refl h0 [a0]).wr W107 (Or.inl (List.mem_of_getElem? (i := 0) rfl))
  have N107 := Fr.snoc X107 N0 g0
  have Z107 : n0 ≤ h107.size := Nat.le_trans Z0 (Keep.of_wr W107).1
  have V107b : Arv Z h107 a0 kk0 .long (8 : Int32) [(.long v105), (.long u1), (.long u2), (.long u3), (.long u4), (.long u5), (.long u6), (.long u7)] (.long (0 : Int64)) := V107
  obtain ⟨v110, gv110⟩ : ∃ z, z = (v104 >>> ((32 : Int32) &&& 0x3f).toInt64) := ⟨_, rfl⟩
  obtain ⟨qv110, rv110, hcv110⟩ := own_sub_step gv104 gv105 gv110 hc0 r_a00 (by unfold own_R; decide)
  obtain ⟨cl111, Ar111, q111, S111, M111, H111, G111⟩ := id V107b
  obtain ⟨T112, X112, e112, st112⟩ := getS2 X107 hx hZ hown (host := "") (Or.inl (hw _ (List.mem_of_getElem? (i := 33) rfl))) Via.refl e107 f108 (g := (mkF m 14 #[.val (.ref a0), .val (.long v110), .second, .val (.int (1 : Int32))] [(.long u1), (.long v110)])) rfl (hb hby d11_14)
  obtain ⟨cl113, Ar113, q113, S113, M113, H113, G113⟩ := id f109
  obtain ⟨v114, gv114⟩ : ∃ z, z = (v110 + (u1 - (4294967295 : Int64))) := ⟨_, rfl⟩
  obtain ⟨v115, gv115⟩ : ∃ z, z = (v114 &&& (4294967295 : Int64)) := ⟨_, rfl⟩
  obtain ⟨cl116, Ar116, q116, S116, M116, H116, G116⟩ := id V107b
  obtain ⟨T117, h117, X117, e117, W117, st117⟩ := stJ X112 hx hZ e112 Ar116 (j := (1 : Int32)) (inb_of S116 ⟨by decide, by decide⟩) (g := (mkF m 29 #[.val (.ref a0), .val (.long v114), .second, .val (.int (1 : Int32))] [(.long v115), (.int (1 : Int32)), (.ref a0)])) rfl rfl (hb hby d11_29)
  have V117 := Arv.set Ar116 q116 S116 M116 H116 G116 rfl W117 1 rfl (Nat.le_of_ble_eq_true rfl)
  have f118 := f108.wr W117
  have f119 := f109.other W117 ne_wp_a0
  have K117 : Keep h0 h117 [a0] := K107.wr W117 (Or.inl (List.mem_of_getElem? (i := 0) rfl))
  have N117 := Fr.snoc X117 N107 g0
  have Z117 : n0 ≤ h117.size := Nat.le_trans Z107 (Keep.of_wr W117).1
  have V117b : Arv Z h117 a0 kk0 .long (8 : Int32) [(.long v105), (.long v115), (.long u2), (.long u3), (.long u4), (.long u5), (.long u6), (.long u7)] (.long (0 : Int64)) := V117
  obtain ⟨v120, gv120⟩ : ∃ z, z = (v114 >>> ((32 : Int32) &&& 0x3f).toInt64) := ⟨_, rfl⟩
  obtain ⟨qv120, rv120, hcv120⟩ := own_sub_step gv114 gv115 gv120 hcv110 r_a01 (by unfold own_R; decide)
  obtain ⟨cl121, Ar121, q121, S121, M121, H121, G121⟩ := id V117b
  obtain ⟨T122, X122, e122, st122⟩ := getS2 X117 hx hZ hown (host := "") (Or.inl (hw _ (List.mem_of_getElem? (i := 33) rfl))) Via.refl e117 f118 (g := (mkF m 14 #[.val (.ref a0), .val (.long v120), .second, .val (.int (2 : Int32))] [(.long u2), (.long v120)])) rfl (hb hby d11_14)
  obtain ⟨cl123, Ar123, q123, S123, M123, H123, G123⟩ := id f119
  obtain ⟨v124, gv124⟩ : ∃ z, z = (v120 + (u2 - (4294967295 : Int64))) := ⟨_, rfl⟩
  obtain ⟨v125, gv125⟩ : ∃ z, z = (v124 &&& (4294967295 : Int64)) := ⟨_, rfl⟩
  obtain ⟨cl126, Ar126, q126, S126, M126, H126, G126⟩ := id V117b
  obtain ⟨T127, h127, X127, e127, W127, st127⟩ := stJ X122 hx hZ e122 Ar126 (j := (2 : Int32)) (inb_of S126 ⟨by decide, by decide⟩) (g := (mkF m 29 #[.val (.ref a0), .val (.long v124), .second, .val (.int (2 : Int32))] [(.long v125), (.int (2 : Int32)), (.ref a0)])) rfl rfl (hb hby d11_29)
  have V127 := Arv.set Ar126 q126 S126 M126 H126 G126 rfl W127 2 rfl (Nat.le_of_ble_eq_true rfl)
  have f128 := f118.wr W127
  have f129 := f119.other W127 ne_wp_a0
  have K127 : Keep h0 h127 [a0] := K117.wr W127 (Or.inl (List.mem_of_getElem? (i := 0) rfl))
  have N127 := Fr.snoc X127 N117 g0
  have Z127 : n0 ≤ h127.size := Nat.le_trans Z117 (Keep.of_wr W127).1
  have V127b : Arv Z h127 a0 kk0 .long (8 : Int32) [(.long v105), (.long v115), (.long v125), (.long u3), (.long u4), (.long u5), (.long u6), (.long u7)] (.long (0 : Int64)) := V127
  obtain ⟨v130, gv130⟩ : ∃ z, z = (v124 >>> ((32 : Int32) &&& 0x3f).toInt64) := ⟨_, rfl⟩
  obtain ⟨qv130, rv130, hcv130⟩ := own_sub_step gv124 gv125 gv130 hcv120 r_a02 (by unfold own_R; decide)
  obtain ⟨cl131, Ar131, q131, S131, M131, H131, G131⟩ := id V127b
  obtain ⟨T132, X132, e132, st132⟩ := getS2 X127 hx hZ hown (host := "") (Or.inl (hw _ (List.mem_of_getElem? (i := 33) rfl))) Via.refl e127 f128 (g := (mkF m 14 #[.val (.ref a0), .val (.long v130), .second, .val (.int (3 : Int32))] [(.long u3), (.long v130)])) rfl (hb hby d11_14)
  obtain ⟨cl133, Ar133, q133, S133, M133, H133, G133⟩ := id f129
  obtain ⟨v134, gv134⟩ : ∃ z, z = (v130 + (u3 - (0 : Int64))) := ⟨_, rfl⟩
  obtain ⟨v135, gv135⟩ : ∃ z, z = (v134 &&& (4294967295 : Int64)) := ⟨_, rfl⟩
  obtain ⟨cl136, Ar136, q136, S136, M136, H136, G136⟩ := id V127b
  obtain ⟨T137, h137, X137, e137, W137, st137⟩ := stJ X132 hx hZ e132 Ar136 (j := (3 : Int32)) (inb_of S136 ⟨by decide, by decide⟩) (g := (mkF m 29 #[.val (.ref a0), .val (.long v134), .second, .val (.int (3 : Int32))] [(.long v135), (.int (3 : Int32)), (.ref a0)])) rfl rfl (hb hby d11_29)
  have V137 := Arv.set Ar136 q136 S136 M136 H136 G136 rfl W137 3 rfl (Nat.le_of_ble_eq_true rfl)
  have f138 := f128.wr W137
  have f139 := f129.other W137 ne_wp_a0
  have K137 : Keep h0 h137 [a0] := K127.wr W137 (Or.inl (List.mem_of_getElem? (i := 0) rfl))
  have N137 := Fr.snoc X137 N127 g0
  have Z137 : n0 ≤ h137.size := Nat.le_trans Z127 (Keep.of_wr W137).1
  have V137b : Arv Z h137 a0 kk0 .long (8 : Int32) [(.long v105), (.long v115), (.long v125), (.long v135), (.long u4), (.long u5), (.long u6), (.long u7)] (.long (0 : Int64)) := V137
  obtain ⟨v140, gv140⟩ : ∃ z, z = (v134 >>> ((32 : Int32) &&& 0x3f).toInt64) := ⟨_, rfl⟩
  obtain ⟨qv140, rv140, hcv140⟩ := own_sub_step gv134 gv135 gv140 hcv130 r_a03 (by unfold own_R; decide)
  obtain ⟨cl141, Ar141, q141, S141, M141, H141, G141⟩ := id V137b
  obtain ⟨T142, X142, e142, st142⟩ := getS2 X137 hx hZ hown (host := "") (Or.inl (hw _ (List.mem_of_getElem? (i := 33) rfl))) Via.refl e137 f138 (g := (mkF m 14 #[.val (.ref a0), .val (.long v140), .second, .val (.int (4 : Int32))] [(.long u4), (.long v140)])) rfl (hb hby d11_14)
  obtain ⟨cl143, Ar143, q143, S143, M143, H143, G143⟩ := id f139
  obtain ⟨v144, gv144⟩ : ∃ z, z = (v140 + (u4 - (0 : Int64))) := ⟨_, rfl⟩
  obtain ⟨v145, gv145⟩ : ∃ z, z = (v144 &&& (4294967295 : Int64)) := ⟨_, rfl⟩
  obtain ⟨cl146, Ar146, q146, S146, M146, H146, G146⟩ := id V137b
  obtain ⟨T147, h147, X147, e147, W147, st147⟩ := stJ X142 hx hZ e142 Ar146 (j := (4 : Int32)) (inb_of S146 ⟨by decide, by decide⟩) (g := (mkF m 29 #[.val (.ref a0), .val (.long v144), .second, .val (.int (4 : Int32))] [(.long v145), (.int (4 : Int32)), (.ref a0)])) rfl rfl (hb hby d11_29)
  have V147 := Arv.set Ar146 q146 S146 M146 H146 G146 rfl W147 4 rfl (Nat.le_of_ble_eq_true rfl)
  have f148 := f138.wr W147
  have f149 := f139.other W147 ne_wp_a0
  have K147 : Keep h0 h147 [a0] := K137.wr W147 (Or.inl (List.mem_of_getElem? (i := 0) rfl))
  have N147 := Fr.snoc X147 N137 g0
  have Z147 : n0 ≤ h147.size := Nat.le_trans Z137 (Keep.of_wr W147).1
  have V147b : Arv Z h147 a0 kk0 .long (8 : Int32) [(.long v105), (.long v115), (.long v125), (.long v135), (.long v145), (.long u5), (.long u6), (.long u7)] (.long (0 : Int64)) := V147
  obtain ⟨v150, gv150⟩ : ∃ z, z = (v144 >>> ((32 : Int32) &&& 0x3f).toInt64) := ⟨_, rfl⟩
  obtain ⟨qv150, rv150, hcv150⟩ := own_sub_step gv144 gv145 gv150 hcv140 r_a04 (by unfold own_R; decide)
  obtain ⟨cl151, Ar151, q151, S151, M151, H151, G151⟩ := id V147b
  obtain ⟨T152, X152, e152, st152⟩ := getS2 X147 hx hZ hown (host := "") (Or.inl (hw _ (List.mem_of_getElem? (i := 33) rfl))) Via.refl e147 f148 (g := (mkF m 14 #[.val (.ref a0), .val (.long v150), .second, .val (.int (5 : Int32))] [(.long u5), (.long v150)])) rfl (hb hby d11_14)
  obtain ⟨cl153, Ar153, q153, S153, M153, H153, G153⟩ := id f149
  obtain ⟨v154, gv154⟩ : ∃ z, z = (v150 + (u5 - (0 : Int64))) := ⟨_, rfl⟩
  obtain ⟨v155, gv155⟩ : ∃ z, z = (v154 &&& (4294967295 : Int64)) := ⟨_, rfl⟩
  obtain ⟨cl156, Ar156, q156, S156, M156, H156, G156⟩ := id V147b
  obtain ⟨T157, h157, X157, e157, W157, st157⟩ := stJ X152 hx hZ e152 Ar156 (j := (5 : Int32)) (inb_of S156 ⟨by decide, by decide⟩) (g := (mkF m 29 #[.val (.ref a0), .val (.long v154), .second, .val (.int (5 : Int32))] [(.long v155), (.int (5 : Int32)), (.ref a0)])) rfl rfl (hb hby d11_29)
  have V157 := Arv.set Ar156 q156 S156 M156 H156 G156 rfl W157 5 rfl (Nat.le_of_ble_eq_true rfl)
  have f158 := f148.wr W157
  have f159 := f149.other W157 ne_wp_a0
  have K157 : Keep h0 h157 [a0] := K147.wr W157 (Or.inl (List.mem_of_getElem? (i := 0) rfl))
  have N157 := Fr.snoc X157 N147 g0
  have Z157 : n0 ≤ h157.size := Nat.le_trans Z147 (Keep.of_wr W157).1
  have V157b : Arv Z h157 a0 kk0 .long (8 : Int32) [(.long v105), (.long v115), (.long v125), (.long v135), (.long v145), (.long v155), (.long u6), (.long u7)] (.long (0 : Int64)) := V157
  obtain ⟨v160, gv160⟩ : ∃ z, z = (v154 >>> ((32 : Int32) &&& 0x3f).toInt64) := ⟨_, rfl⟩
  obtain ⟨qv160, rv160, hcv160⟩ := own_sub_step gv154 gv155 gv160 hcv150 r_a05 (by unfold own_R; decide)
  obtain ⟨cl161, Ar161, q161, S161, M161, H161, G161⟩ := id V157b
  obtain ⟨T162, X162, e162, st162⟩ := getS2 X157 hx hZ hown (host := "") (Or.inl (hw _ (List.mem_of_getElem? (i := 33) rfl))) Via.refl e157 f158 (g := (mkF m 14 #[.val (.ref a0), .val (.long v160), .second, .val (.int (6 : Int32))] [(.long u6), (.long v160)])) rfl (hb hby d11_14)
  obtain ⟨cl163, Ar163, q163, S163, M163, H163, G163⟩ := id f159
  obtain ⟨v164, gv164⟩ : ∃ z, z = (v160 + (u6 - (1 : Int64))) := ⟨_, rfl⟩
  obtain ⟨v165, gv165⟩ : ∃ z, z = (v164 &&& (4294967295 : Int64)) := ⟨_, rfl⟩
  obtain ⟨cl166, Ar166, q166, S166, M166, H166, G166⟩ := id V157b
  obtain ⟨T167, h167, X167, e167, W167, st167⟩ := stJ X162 hx hZ e162 Ar166 (j := (6 : Int32)) (inb_of S166 ⟨by decide, by decide⟩) (g := (mkF m 29 #[.val (.ref a0), .val (.long v164), .second, .val (.int (6 : Int32))] [(.long v165), (.int (6 : Int32)), (.ref a0)])) rfl rfl (hb hby d11_29)
  have V167 := Arv.set Ar166 q166 S166 M166 H166 G166 rfl W167 6 rfl (Nat.le_of_ble_eq_true rfl)
  have f168 := f158.wr W167
  have f169 := f159.other W167 ne_wp_a0
  have K167 : Keep h0 h167 [a0] := K157.wr W167 (Or.inl (List.mem_of_getElem? (i := 0) rfl))
  have N167 := Fr.snoc X167 N157 g0
  have Z167 : n0 ≤ h167.size := Nat.le_trans Z157 (Keep.of_wr W167).1
  have V167b : Arv Z h167 a0 kk0 .long (8 : Int32) [(.long v105), (.long v115), (.long v125), (.long v135), (.long v145), (.long v155), (.long v165), (.long u7)] (.long (0 : Int64)) := V167
  obtain ⟨v170, gv170⟩ : ∃ z, z = (v164 >>> ((32 : Int32) &&& 0x3f).toInt64) := ⟨_, rfl⟩
  obtain ⟨qv170, rv170, hcv170⟩ := own_sub_step gv164 gv165 gv170 hcv160 r_a06 (by unfold own_R; decide)
  obtain ⟨cl171, Ar171, q171, S171, M171, H171, G171⟩ := id V167b
  obtain ⟨T172, X172, e172, st172⟩ := getS2 X167 hx hZ hown (host := "") (Or.inl (hw _ (List.mem_of_getElem? (i := 33) rfl))) Via.refl e167 f168 (g := (mkF m 14 #[.val (.ref a0), .val (.long v170), .second, .val (.int (7 : Int32))] [(.long u7), (.long v170)])) rfl (hb hby d11_14)
  obtain ⟨cl173, Ar173, q173, S173, M173, H173, G173⟩ := id f169
  obtain ⟨v174, gv174⟩ : ∃ z, z = (v170 + (u7 - (4294967295 : Int64))) := ⟨_, rfl⟩
  obtain ⟨v175, gv175⟩ : ∃ z, z = (v174 &&& (4294967295 : Int64)) := ⟨_, rfl⟩
  obtain ⟨cl176, Ar176, q176, S176, M176, H176, G176⟩ := id V167b
  obtain ⟨T177, h177, X177, e177, W177, st177⟩ := stJ X172 hx hZ e172 Ar176 (j := (7 : Int32)) (inb_of S176 ⟨by decide, by decide⟩) (g := (mkF m 29 #[.val (.ref a0), .val (.long v174), .second, .val (.int (7 : Int32))] [(.long v175), (.int (7 : Int32)), (.ref a0)])) rfl rfl (hb hby d11_29)
  have V177 := Arv.set Ar176 q176 S176 M176 H176 G176 rfl W177 7 rfl (Nat.le_of_ble_eq_true rfl)
  have f178 := f168.wr W177
  have f179 := f169.other W177 ne_wp_a0
  have K177 : Keep h0 h177 [a0] := K167.wr W177 (Or.inl (List.mem_of_getElem? (i := 0) rfl))
  have N177 := Fr.snoc X177 N167 g0
  have Z177 : n0 ≤ h177.size := Nat.le_trans Z167 (Keep.of_wr W177).1
  have V177b : Arv Z h177 a0 kk0 .long (8 : Int32) [(.long v105), (.long v115), (.long v125), (.long v135), (.long v145), (.long v155), (.long v165), (.long v175)] (.long (0 : Int64)) := V177
  obtain ⟨v180, gv180⟩ : ∃ z, z = (v174 >>> ((32 : Int32) &&& 0x3f).toInt64) := ⟨_, rfl⟩
  obtain ⟨qv180, rv180, hcv180⟩ := own_sub_step gv174 gv175 gv180 hcv170 r_a07 (by unfold own_R; decide)
  obtain ⟨fs, hr, hrun, hended, hW, hsame⟩ := X177.leave (v := none) (fun _ => rfl)
  refine ⟨_, _, pre0 _ ?_, hrun, hended, _, _, rfl, ?_, ⟨_, rfl⟩, hW, hsame.mono (by decide) (by decide)⟩
  · show Steps p.tables e below (s₁.setTop (mkF m 0 #[.val (.ref a0), .unset, .unset, .unset] [])) _
    refine XS.lconst X0.here hx rfl (hb hby d11_0) ?_
    refine XS.lstoreN X0.here hx rfl (hb hby d11_1) rfl (l' := #[.val (.ref a0), .val (.long (0 : Int64)), .second, .unset]) rfl ?_
    refine XS.iconst X0.here hx rfl (hb hby d11_2) ?_
    refine XS.istoreN X0.here hx rfl (hb hby d11_3) rfl (l' := #[.val (.ref a0), .val (.long (0 : Int64)), .second, .val (.int (0 : Int32))]) rfl ?_
    show Steps p.tables e below (s₁.setTop (mkF m 4 #[.val (.ref a0), .val (.long (0 : Int64)), .second, .val (.int (0 : Int32))] [])) _
    refine XS.iloadN X0.here hx rfl (hb hby d11_4) rfl ?_
    refine XS.bipush X0.here hx rfl (hb hby d11_5) ?_
    refine XS.icmpNo X0.here hx rfl (hb hby d11_7) rfl (tlt (by decide : (0 : Int32) < (8 : Int32))).2.1 ?_
    refine XS.lloadN X0.here hx rfl (hb hby d11_10) rfl ?_
    show Steps p.tables e below (s₁.setTop (mkF m 11 #[.val (.ref a0), .val (.long (0 : Int64)), .second, .val (.int (0 : Int32))] [(.long (0 : Int64))])) _
    refine XS.aloadN X0.here hx rfl (hb hby d11_11) rfl rfl ?_
    refine XS.iloadN X0.here hx rfl (hb hby d11_12) rfl ?_
    show Steps p.tables e below (s₁.setTop (mkF m 13 #[.val (.ref a0), .val (.long (0 : Int64)), .second, .val (.int (0 : Int32))] [(.int (0 : Int32)), (.ref a0), (.long (0 : Int64))])) _
    have hin101 : ¬ ((0 : Int32) < 0 ∨ cl101.slots.size ≤ ((0 : Int32)).toNatClampNeg) := (inb_of S101 ⟨by decide, by decide⟩)
    refine X0.laload hx (j := (0 : Int32)) (v := (.long u0)) (by rw [e0]; exact Ar101.1) (State.isArrayOf_alike hZ.alike Ar101.2.1) Ar101.2.2 hin101 (H101.at hin101 rfl) (g := (mkF m 13 #[.val (.ref a0), .val (.long (0 : Int64)), .second, .val (.int (0 : Int32))] [(.int (0 : Int32)), (.ref a0), (.long (0 : Int64))])) rfl rfl (hb hby d11_13) _ ?_
    show Steps p.tables e below (s₁.setTop (mkF m 14 #[.val (.ref a0), .val (.long (0 : Int64)), .second, .val (.int (0 : Int32))] [(.long u0), (.long (0 : Int64))])) _
    refine st102 _ ?_
    refine XS.iloadN X102.here hx rfl (hb hby d11_17) rfl ?_
    show Steps p.tables e below (T102.setTop (mkF m 18 #[.val (.ref a0), .val (.long (0 : Int64)), .second, .val (.int (0 : Int32))] [(.int (0 : Int32)), (.ref wp), (.long u0), (.long (0 : Int64))])) _
    have hin103 : ¬ ((0 : Int32) < 0 ∨ cl103.slots.size ≤ ((0 : Int32)).toNatClampNeg) := (inb_of S103 ⟨by decide, by decide⟩)
    refine X102.laload hx (j := (0 : Int32)) (v := (.long (4294967295 : Int64))) (by rw [e102]; exact Ar103.1) (State.isArrayOf_alike hZ.alike Ar103.2.1) Ar103.2.2 hin103 (H103.at hin103 rfl) (g := (mkF m 18 #[.val (.ref a0), .val (.long (0 : Int64)), .second, .val (.int (0 : Int32))] [(.int (0 : Int32)), (.ref wp), (.long u0), (.long (0 : Int64))])) rfl rfl (hb hby d11_18) _ ?_
    refine XS.lsub X102.here hx rfl (hb hby d11_19) rfl ?_
    refine XS.ladd X102.here hx rfl (hb hby d11_20) rfl ?_
    show Steps p.tables e below (T102.setTop (mkF m 21 #[.val (.ref a0), .val (.long (0 : Int64)), .second, .val (.int (0 : Int32))] [(.long ((0 : Int64) + (u0 - (4294967295 : Int64))))])) _
    rw [← gv104]
    refine XS.lstoreN X102.here hx rfl (hb hby d11_21) rfl (l' := #[.val (.ref a0), .val (.long v104), .second, .val (.int (0 : Int32))]) rfl ?_
    refine XS.aloadN X102.here hx rfl (hb hby d11_22) rfl rfl ?_
    refine XS.iloadN X102.here hx rfl (hb hby d11_23) rfl ?_
    show Steps p.tables e below (T102.setTop (mkF m 24 #[.val (.ref a0), .val (.long v104), .second, .val (.int (0 : Int32))] [(.int (0 : Int32)), (.ref a0)])) _
    refine XS.lloadN X102.here hx rfl (hb hby d11_24) rfl ?_
    show Steps p.tables e below (T102.setTop (mkF m 25 #[.val (.ref a0), .val (.long v104), .second, .val (.int (0 : Int32))] [(.long v104), (.int (0 : Int32)), (.ref a0)])) _
    refine X102.ldc2Long hx hown (mvT hZ (hw _ (List.mem_of_getElem? (i := 17) rfl))) (g := (mkF m 25 #[.val (.ref a0), .val (.long v104), .second, .val (.int (0 : Int32))] [(.long v104), (.int (0 : Int32)), (.ref a0)])) rfl (hb hby d11_25) _ ?_
    refine XS.land X102.here hx rfl (hb hby d11_28) rfl ?_
    show Steps p.tables e below (T102.setTop (mkF m 29 #[.val (.ref a0), .val (.long v104), .second, .val (.int (0 : Int32))] [(.long (v104 &&& (4294967295 : Int64))), (.int (0 : Int32)), (.ref a0)])) _
    rw [← gv105]
    show Steps p.tables e below (T102.setTop (mkF m 29 #[.val (.ref a0), .val (.long v104), .second, .val (.int (0 : Int32))] [(.long v105), (.int (0 : Int32)), (.ref a0)])) _
    refine st107 _ ?_
    refine XS.lloadN X107.here hx rfl (hb hby d11_30) rfl ?_
    refine XS.bipush X107.here hx rfl (hb hby d11_31) ?_
    refine XS.lshr X107.here hx rfl (hb hby d11_33) rfl ?_
    show Steps p.tables e below (T107.setTop (mkF m 34 #[.val (.ref a0), .val (.long v104), .second, .val (.int (0 : Int32))] [(.long (v104 >>> ((32 : Int32) &&& 0x3f).toInt64))])) _
    rw [← gv110]
    refine XS.lstoreN X107.here hx rfl (hb hby d11_34) rfl (l' := #[.val (.ref a0), .val (.long v110), .second, .val (.int (0 : Int32))]) rfl ?_
    refine XS.iinc X107.here hx rfl (hb hby d11_35) rfl (l' := #[.val (.ref a0), .val (.long v110), .second, .val (.int (1 : Int32))]) rfl ?_
    refine XS.goto X107.here hx rfl (pc0 := 38) (pc' := 4) rfl (hb hby d11_38) (by decide) (by decide) ?_
    show Steps p.tables e below (T107.setTop (mkF m 4 #[.val (.ref a0), .val (.long v110), .second, .val (.int (1 : Int32))] [])) _
    refine XS.iloadN X107.here hx rfl (hb hby d11_4) rfl ?_
    refine XS.bipush X107.here hx rfl (hb hby d11_5) ?_
    refine XS.icmpNo X107.here hx rfl (hb hby d11_7) rfl (tlt (by decide : (1 : Int32) < (8 : Int32))).2.1 ?_
    refine XS.lloadN X107.here hx rfl (hb hby d11_10) rfl ?_
    show Steps p.tables e below (T107.setTop (mkF m 11 #[.val (.ref a0), .val (.long v110), .second, .val (.int (1 : Int32))] [(.long v110)])) _
    refine XS.aloadN X107.here hx rfl (hb hby d11_11) rfl rfl ?_
    refine XS.iloadN X107.here hx rfl (hb hby d11_12) rfl ?_
    show Steps p.tables e below (T107.setTop (mkF m 13 #[.val (.ref a0), .val (.long v110), .second, .val (.int (1 : Int32))] [(.int (1 : Int32)), (.ref a0), (.long v110)])) _
    have hin111 : ¬ ((1 : Int32) < 0 ∨ cl111.slots.size ≤ ((1 : Int32)).toNatClampNeg) := (inb_of S111 ⟨by decide, by decide⟩)
    refine X107.laload hx (j := (1 : Int32)) (v := (.long u1)) (by rw [e107]; exact Ar111.1) (State.isArrayOf_alike hZ.alike Ar111.2.1) Ar111.2.2 hin111 (H111.at hin111 rfl) (g := (mkF m 13 #[.val (.ref a0), .val (.long v110), .second, .val (.int (1 : Int32))] [(.int (1 : Int32)), (.ref a0), (.long v110)])) rfl rfl (hb hby d11_13) _ ?_
    show Steps p.tables e below (T107.setTop (mkF m 14 #[.val (.ref a0), .val (.long v110), .second, .val (.int (1 : Int32))] [(.long u1), (.long v110)])) _
    refine st112 _ ?_
    refine XS.iloadN X112.here hx rfl (hb hby d11_17) rfl ?_
    show Steps p.tables e below (T112.setTop (mkF m 18 #[.val (.ref a0), .val (.long v110), .second, .val (.int (1 : Int32))] [(.int (1 : Int32)), (.ref wp), (.long u1), (.long v110)])) _
    have hin113 : ¬ ((1 : Int32) < 0 ∨ cl113.slots.size ≤ ((1 : Int32)).toNatClampNeg) := (inb_of S113 ⟨by decide, by decide⟩)
    refine X112.laload hx (j := (1 : Int32)) (v := (.long (4294967295 : Int64))) (by rw [e112]; exact Ar113.1) (State.isArrayOf_alike hZ.alike Ar113.2.1) Ar113.2.2 hin113 (H113.at hin113 rfl) (g := (mkF m 18 #[.val (.ref a0), .val (.long v110), .second, .val (.int (1 : Int32))] [(.int (1 : Int32)), (.ref wp), (.long u1), (.long v110)])) rfl rfl (hb hby d11_18) _ ?_
    refine XS.lsub X112.here hx rfl (hb hby d11_19) rfl ?_
    refine XS.ladd X112.here hx rfl (hb hby d11_20) rfl ?_
    show Steps p.tables e below (T112.setTop (mkF m 21 #[.val (.ref a0), .val (.long v110), .second, .val (.int (1 : Int32))] [(.long (v110 + (u1 - (4294967295 : Int64))))])) _
    rw [← gv114]
    refine XS.lstoreN X112.here hx rfl (hb hby d11_21) rfl (l' := #[.val (.ref a0), .val (.long v114), .second, .val (.int (1 : Int32))]) rfl ?_
    refine XS.aloadN X112.here hx rfl (hb hby d11_22) rfl rfl ?_
    refine XS.iloadN X112.here hx rfl (hb hby d11_23) rfl ?_
    show Steps p.tables e below (T112.setTop (mkF m 24 #[.val (.ref a0), .val (.long v114), .second, .val (.int (1 : Int32))] [(.int (1 : Int32)), (.ref a0)])) _
    refine XS.lloadN X112.here hx rfl (hb hby d11_24) rfl ?_
    show Steps p.tables e below (T112.setTop (mkF m 25 #[.val (.ref a0), .val (.long v114), .second, .val (.int (1 : Int32))] [(.long v114), (.int (1 : Int32)), (.ref a0)])) _
    refine X112.ldc2Long hx hown (mvT hZ (hw _ (List.mem_of_getElem? (i := 17) rfl))) (g := (mkF m 25 #[.val (.ref a0), .val (.long v114), .second, .val (.int (1 : Int32))] [(.long v114), (.int (1 : Int32)), (.ref a0)])) rfl (hb hby d11_25) _ ?_
    refine XS.land X112.here hx rfl (hb hby d11_28) rfl ?_
    show Steps p.tables e below (T112.setTop (mkF m 29 #[.val (.ref a0), .val (.long v114), .second, .val (.int (1 : Int32))] [(.long (v114 &&& (4294967295 : Int64))), (.int (1 : Int32)), (.ref a0)])) _
    rw [← gv115]
    show Steps p.tables e below (T112.setTop (mkF m 29 #[.val (.ref a0), .val (.long v114), .second, .val (.int (1 : Int32))] [(.long v115), (.int (1 : Int32)), (.ref a0)])) _
    refine st117 _ ?_
    refine XS.lloadN X117.here hx rfl (hb hby d11_30) rfl ?_
    refine XS.bipush X117.here hx rfl (hb hby d11_31) ?_
    refine XS.lshr X117.here hx rfl (hb hby d11_33) rfl ?_
    show Steps p.tables e below (T117.setTop (mkF m 34 #[.val (.ref a0), .val (.long v114), .second, .val (.int (1 : Int32))] [(.long (v114 >>> ((32 : Int32) &&& 0x3f).toInt64))])) _
    rw [← gv120]
    refine XS.lstoreN X117.here hx rfl (hb hby d11_34) rfl (l' := #[.val (.ref a0), .val (.long v120), .second, .val (.int (1 : Int32))]) rfl ?_
    refine XS.iinc X117.here hx rfl (hb hby d11_35) rfl (l' := #[.val (.ref a0), .val (.long v120), .second, .val (.int (2 : Int32))]) rfl ?_
    refine XS.goto X117.here hx rfl (pc0 := 38) (pc' := 4) rfl (hb hby d11_38) (by decide) (by decide) ?_
    show Steps p.tables e below (T117.setTop (mkF m 4 #[.val (.ref a0), .val (.long v120), .second, .val (.int (2 : Int32))] [])) _
    refine XS.iloadN X117.here hx rfl (hb hby d11_4) rfl ?_
    refine XS.bipush X117.here hx rfl (hb hby d11_5) ?_
    refine XS.icmpNo X117.here hx rfl (hb hby d11_7) rfl (tlt (by decide : (2 : Int32) < (8 : Int32))).2.1 ?_
    refine XS.lloadN X117.here hx rfl (hb hby d11_10) rfl ?_
    show Steps p.tables e below (T117.setTop (mkF m 11 #[.val (.ref a0), .val (.long v120), .second, .val (.int (2 : Int32))] [(.long v120)])) _
    refine XS.aloadN X117.here hx rfl (hb hby d11_11) rfl rfl ?_
    refine XS.iloadN X117.here hx rfl (hb hby d11_12) rfl ?_
    show Steps p.tables e below (T117.setTop (mkF m 13 #[.val (.ref a0), .val (.long v120), .second, .val (.int (2 : Int32))] [(.int (2 : Int32)), (.ref a0), (.long v120)])) _
    have hin121 : ¬ ((2 : Int32) < 0 ∨ cl121.slots.size ≤ ((2 : Int32)).toNatClampNeg) := (inb_of S121 ⟨by decide, by decide⟩)
    refine X117.laload hx (j := (2 : Int32)) (v := (.long u2)) (by rw [e117]; exact Ar121.1) (State.isArrayOf_alike hZ.alike Ar121.2.1) Ar121.2.2 hin121 (H121.at hin121 rfl) (g := (mkF m 13 #[.val (.ref a0), .val (.long v120), .second, .val (.int (2 : Int32))] [(.int (2 : Int32)), (.ref a0), (.long v120)])) rfl rfl (hb hby d11_13) _ ?_
    show Steps p.tables e below (T117.setTop (mkF m 14 #[.val (.ref a0), .val (.long v120), .second, .val (.int (2 : Int32))] [(.long u2), (.long v120)])) _
    refine st122 _ ?_
    refine XS.iloadN X122.here hx rfl (hb hby d11_17) rfl ?_
    show Steps p.tables e below (T122.setTop (mkF m 18 #[.val (.ref a0), .val (.long v120), .second, .val (.int (2 : Int32))] [(.int (2 : Int32)), (.ref wp), (.long u2), (.long v120)])) _
    have hin123 : ¬ ((2 : Int32) < 0 ∨ cl123.slots.size ≤ ((2 : Int32)).toNatClampNeg) := (inb_of S123 ⟨by decide, by decide⟩)
    refine X122.laload hx (j := (2 : Int32)) (v := (.long (4294967295 : Int64))) (by rw [e122]; exact Ar123.1) (State.isArrayOf_alike hZ.alike Ar123.2.1) Ar123.2.2 hin123 (H123.at hin123 rfl) (g := (mkF m 18 #[.val (.ref a0), .val (.long v120), .second, .val (.int (2 : Int32))] [(.int (2 : Int32)), (.ref wp), (.long u2), (.long v120)])) rfl rfl (hb hby d11_18) _ ?_
    refine XS.lsub X122.here hx rfl (hb hby d11_19) rfl ?_
    refine XS.ladd X122.here hx rfl (hb hby d11_20) rfl ?_
    show Steps p.tables e below (T122.setTop (mkF m 21 #[.val (.ref a0), .val (.long v120), .second, .val (.int (2 : Int32))] [(.long (v120 + (u2 - (4294967295 : Int64))))])) _
    rw [← gv124]
    refine XS.lstoreN X122.here hx rfl (hb hby d11_21) rfl (l' := #[.val (.ref a0), .val (.long v124), .second, .val (.int (2 : Int32))]) rfl ?_
    refine XS.aloadN X122.here hx rfl (hb hby d11_22) rfl rfl ?_
    refine XS.iloadN X122.here hx rfl (hb hby d11_23) rfl ?_
    show Steps p.tables e below (T122.setTop (mkF m 24 #[.val (.ref a0), .val (.long v124), .second, .val (.int (2 : Int32))] [(.int (2 : Int32)), (.ref a0)])) _
    refine XS.lloadN X122.here hx rfl (hb hby d11_24) rfl ?_
    show Steps p.tables e below (T122.setTop (mkF m 25 #[.val (.ref a0), .val (.long v124), .second, .val (.int (2 : Int32))] [(.long v124), (.int (2 : Int32)), (.ref a0)])) _
    refine X122.ldc2Long hx hown (mvT hZ (hw _ (List.mem_of_getElem? (i := 17) rfl))) (g := (mkF m 25 #[.val (.ref a0), .val (.long v124), .second, .val (.int (2 : Int32))] [(.long v124), (.int (2 : Int32)), (.ref a0)])) rfl (hb hby d11_25) _ ?_
    refine XS.land X122.here hx rfl (hb hby d11_28) rfl ?_
    show Steps p.tables e below (T122.setTop (mkF m 29 #[.val (.ref a0), .val (.long v124), .second, .val (.int (2 : Int32))] [(.long (v124 &&& (4294967295 : Int64))), (.int (2 : Int32)), (.ref a0)])) _
    rw [← gv125]
    show Steps p.tables e below (T122.setTop (mkF m 29 #[.val (.ref a0), .val (.long v124), .second, .val (.int (2 : Int32))] [(.long v125), (.int (2 : Int32)), (.ref a0)])) _
    refine st127 _ ?_
    refine XS.lloadN X127.here hx rfl (hb hby d11_30) rfl ?_
    refine XS.bipush X127.here hx rfl (hb hby d11_31) ?_
    refine XS.lshr X127.here hx rfl (hb hby d11_33) rfl ?_
    show Steps p.tables e below (T127.setTop (mkF m 34 #[.val (.ref a0), .val (.long v124), .second, .val (.int (2 : Int32))] [(.long (v124 >>> ((32 : Int32) &&& 0x3f).toInt64))])) _
    rw [← gv130]
    refine XS.lstoreN X127.here hx rfl (hb hby d11_34) rfl (l' := #[.val (.ref a0), .val (.long v130), .second, .val (.int (2 : Int32))]) rfl ?_
    refine XS.iinc X127.here hx rfl (hb hby d11_35) rfl (l' := #[.val (.ref a0), .val (.long v130), .second, .val (.int (3 : Int32))]) rfl ?_
    refine XS.goto X127.here hx rfl (pc0 := 38) (pc' := 4) rfl (hb hby d11_38) (by decide) (by decide) ?_
    show Steps p.tables e below (T127.setTop (mkF m 4 #[.val (.ref a0), .val (.long v130), .second, .val (.int (3 : Int32))] [])) _
    refine XS.iloadN X127.here hx rfl (hb hby d11_4) rfl ?_
    refine XS.bipush X127.here hx rfl (hb hby d11_5) ?_
    refine XS.icmpNo X127.here hx rfl (hb hby d11_7) rfl (tlt (by decide : (3 : Int32) < (8 : Int32))).2.1 ?_
    refine XS.lloadN X127.here hx rfl (hb hby d11_10) rfl ?_
    show Steps p.tables e below (T127.setTop (mkF m 11 #[.val (.ref a0), .val (.long v130), .second, .val (.int (3 : Int32))] [(.long v130)])) _
    refine XS.aloadN X127.here hx rfl (hb hby d11_11) rfl rfl ?_
    refine XS.iloadN X127.here hx rfl (hb hby d11_12) rfl ?_
    show Steps p.tables e below (T127.setTop (mkF m 13 #[.val (.ref a0), .val (.long v130), .second, .val (.int (3 : Int32))] [(.int (3 : Int32)), (.ref a0), (.long v130)])) _
    have hin131 : ¬ ((3 : Int32) < 0 ∨ cl131.slots.size ≤ ((3 : Int32)).toNatClampNeg) := (inb_of S131 ⟨by decide, by decide⟩)
    refine X127.laload hx (j := (3 : Int32)) (v := (.long u3)) (by rw [e127]; exact Ar131.1) (State.isArrayOf_alike hZ.alike Ar131.2.1) Ar131.2.2 hin131 (H131.at hin131 rfl) (g := (mkF m 13 #[.val (.ref a0), .val (.long v130), .second, .val (.int (3 : Int32))] [(.int (3 : Int32)), (.ref a0), (.long v130)])) rfl rfl (hb hby d11_13) _ ?_
    show Steps p.tables e below (T127.setTop (mkF m 14 #[.val (.ref a0), .val (.long v130), .second, .val (.int (3 : Int32))] [(.long u3), (.long v130)])) _
    refine st132 _ ?_
    refine XS.iloadN X132.here hx rfl (hb hby d11_17) rfl ?_
    show Steps p.tables e below (T132.setTop (mkF m 18 #[.val (.ref a0), .val (.long v130), .second, .val (.int (3 : Int32))] [(.int (3 : Int32)), (.ref wp), (.long u3), (.long v130)])) _
    have hin133 : ¬ ((3 : Int32) < 0 ∨ cl133.slots.size ≤ ((3 : Int32)).toNatClampNeg) := (inb_of S133 ⟨by decide, by decide⟩)
    refine X132.laload hx (j := (3 : Int32)) (v := (.long (0 : Int64))) (by rw [e132]; exact Ar133.1) (State.isArrayOf_alike hZ.alike Ar133.2.1) Ar133.2.2 hin133 (H133.at hin133 rfl) (g := (mkF m 18 #[.val (.ref a0), .val (.long v130), .second, .val (.int (3 : Int32))] [(.int (3 : Int32)), (.ref wp), (.long u3), (.long v130)])) rfl rfl (hb hby d11_18) _ ?_
    refine XS.lsub X132.here hx rfl (hb hby d11_19) rfl ?_
    refine XS.ladd X132.here hx rfl (hb hby d11_20) rfl ?_
    show Steps p.tables e below (T132.setTop (mkF m 21 #[.val (.ref a0), .val (.long v130), .second, .val (.int (3 : Int32))] [(.long (v130 + (u3 - (0 : Int64))))])) _
    rw [← gv134]
    refine XS.lstoreN X132.here hx rfl (hb hby d11_21) rfl (l' := #[.val (.ref a0), .val (.long v134), .second, .val (.int (3 : Int32))]) rfl ?_
    refine XS.aloadN X132.here hx rfl (hb hby d11_22) rfl rfl ?_
    refine XS.iloadN X132.here hx rfl (hb hby d11_23) rfl ?_
    show Steps p.tables e below (T132.setTop (mkF m 24 #[.val (.ref a0), .val (.long v134), .second, .val (.int (3 : Int32))] [(.int (3 : Int32)), (.ref a0)])) _
    refine XS.lloadN X132.here hx rfl (hb hby d11_24) rfl ?_
    show Steps p.tables e below (T132.setTop (mkF m 25 #[.val (.ref a0), .val (.long v134), .second, .val (.int (3 : Int32))] [(.long v134), (.int (3 : Int32)), (.ref a0)])) _
    refine X132.ldc2Long hx hown (mvT hZ (hw _ (List.mem_of_getElem? (i := 17) rfl))) (g := (mkF m 25 #[.val (.ref a0), .val (.long v134), .second, .val (.int (3 : Int32))] [(.long v134), (.int (3 : Int32)), (.ref a0)])) rfl (hb hby d11_25) _ ?_
    refine XS.land X132.here hx rfl (hb hby d11_28) rfl ?_
    show Steps p.tables e below (T132.setTop (mkF m 29 #[.val (.ref a0), .val (.long v134), .second, .val (.int (3 : Int32))] [(.long (v134 &&& (4294967295 : Int64))), (.int (3 : Int32)), (.ref a0)])) _
    rw [← gv135]
    show Steps p.tables e below (T132.setTop (mkF m 29 #[.val (.ref a0), .val (.long v134), .second, .val (.int (3 : Int32))] [(.long v135), (.int (3 : Int32)), (.ref a0)])) _
    refine st137 _ ?_
    refine XS.lloadN X137.here hx rfl (hb hby d11_30) rfl ?_
    refine XS.bipush X137.here hx rfl (hb hby d11_31) ?_
    refine XS.lshr X137.here hx rfl (hb hby d11_33) rfl ?_
    show Steps p.tables e below (T137.setTop (mkF m 34 #[.val (.ref a0), .val (.long v134), .second, .val (.int (3 : Int32))] [(.long (v134 >>> ((32 : Int32) &&& 0x3f).toInt64))])) _
    rw [← gv140]
    refine XS.lstoreN X137.here hx rfl (hb hby d11_34) rfl (l' := #[.val (.ref a0), .val (.long v140), .second, .val (.int (3 : Int32))]) rfl ?_
    refine XS.iinc X137.here hx rfl (hb hby d11_35) rfl (l' := #[.val (.ref a0), .val (.long v140), .second, .val (.int (4 : Int32))]) rfl ?_
    refine XS.goto X137.here hx rfl (pc0 := 38) (pc' := 4) rfl (hb hby d11_38) (by decide) (by decide) ?_
    show Steps p.tables e below (T137.setTop (mkF m 4 #[.val (.ref a0), .val (.long v140), .second, .val (.int (4 : Int32))] [])) _
    refine XS.iloadN X137.here hx rfl (hb hby d11_4) rfl ?_
    refine XS.bipush X137.here hx rfl (hb hby d11_5) ?_
    refine XS.icmpNo X137.here hx rfl (hb hby d11_7) rfl (tlt (by decide : (4 : Int32) < (8 : Int32))).2.1 ?_
    refine XS.lloadN X137.here hx rfl (hb hby d11_10) rfl ?_
    show Steps p.tables e below (T137.setTop (mkF m 11 #[.val (.ref a0), .val (.long v140), .second, .val (.int (4 : Int32))] [(.long v140)])) _
    refine XS.aloadN X137.here hx rfl (hb hby d11_11) rfl rfl ?_
    refine XS.iloadN X137.here hx rfl (hb hby d11_12) rfl ?_
    show Steps p.tables e below (T137.setTop (mkF m 13 #[.val (.ref a0), .val (.long v140), .second, .val (.int (4 : Int32))] [(.int (4 : Int32)), (.ref a0), (.long v140)])) _
    have hin141 : ¬ ((4 : Int32) < 0 ∨ cl141.slots.size ≤ ((4 : Int32)).toNatClampNeg) := (inb_of S141 ⟨by decide, by decide⟩)
    refine X137.laload hx (j := (4 : Int32)) (v := (.long u4)) (by rw [e137]; exact Ar141.1) (State.isArrayOf_alike hZ.alike Ar141.2.1) Ar141.2.2 hin141 (H141.at hin141 rfl) (g := (mkF m 13 #[.val (.ref a0), .val (.long v140), .second, .val (.int (4 : Int32))] [(.int (4 : Int32)), (.ref a0), (.long v140)])) rfl rfl (hb hby d11_13) _ ?_
    show Steps p.tables e below (T137.setTop (mkF m 14 #[.val (.ref a0), .val (.long v140), .second, .val (.int (4 : Int32))] [(.long u4), (.long v140)])) _
    refine st142 _ ?_
    refine XS.iloadN X142.here hx rfl (hb hby d11_17) rfl ?_
    show Steps p.tables e below (T142.setTop (mkF m 18 #[.val (.ref a0), .val (.long v140), .second, .val (.int (4 : Int32))] [(.int (4 : Int32)), (.ref wp), (.long u4), (.long v140)])) _
    have hin143 : ¬ ((4 : Int32) < 0 ∨ cl143.slots.size ≤ ((4 : Int32)).toNatClampNeg) := (inb_of S143 ⟨by decide, by decide⟩)
    refine X142.laload hx (j := (4 : Int32)) (v := (.long (0 : Int64))) (by rw [e142]; exact Ar143.1) (State.isArrayOf_alike hZ.alike Ar143.2.1) Ar143.2.2 hin143 (H143.at hin143 rfl) (g := (mkF m 18 #[.val (.ref a0), .val (.long v140), .second, .val (.int (4 : Int32))] [(.int (4 : Int32)), (.ref wp), (.long u4), (.long v140)])) rfl rfl (hb hby d11_18) _ ?_
    refine XS.lsub X142.here hx rfl (hb hby d11_19) rfl ?_
    refine XS.ladd X142.here hx rfl (hb hby d11_20) rfl ?_
    show Steps p.tables e below (T142.setTop (mkF m 21 #[.val (.ref a0), .val (.long v140), .second, .val (.int (4 : Int32))] [(.long (v140 + (u4 - (0 : Int64))))])) _
    rw [← gv144]
    refine XS.lstoreN X142.here hx rfl (hb hby d11_21) rfl (l' := #[.val (.ref a0), .val (.long v144), .second, .val (.int (4 : Int32))]) rfl ?_
    refine XS.aloadN X142.here hx rfl (hb hby d11_22) rfl rfl ?_
    refine XS.iloadN X142.here hx rfl (hb hby d11_23) rfl ?_
    show Steps p.tables e below (T142.setTop (mkF m 24 #[.val (.ref a0), .val (.long v144), .second, .val (.int (4 : Int32))] [(.int (4 : Int32)), (.ref a0)])) _
    refine XS.lloadN X142.here hx rfl (hb hby d11_24) rfl ?_
    show Steps p.tables e below (T142.setTop (mkF m 25 #[.val (.ref a0), .val (.long v144), .second, .val (.int (4 : Int32))] [(.long v144), (.int (4 : Int32)), (.ref a0)])) _
    refine X142.ldc2Long hx hown (mvT hZ (hw _ (List.mem_of_getElem? (i := 17) rfl))) (g := (mkF m 25 #[.val (.ref a0), .val (.long v144), .second, .val (.int (4 : Int32))] [(.long v144), (.int (4 : Int32)), (.ref a0)])) rfl (hb hby d11_25) _ ?_
    refine XS.land X142.here hx rfl (hb hby d11_28) rfl ?_
    show Steps p.tables e below (T142.setTop (mkF m 29 #[.val (.ref a0), .val (.long v144), .second, .val (.int (4 : Int32))] [(.long (v144 &&& (4294967295 : Int64))), (.int (4 : Int32)), (.ref a0)])) _
    rw [← gv145]
    show Steps p.tables e below (T142.setTop (mkF m 29 #[.val (.ref a0), .val (.long v144), .second, .val (.int (4 : Int32))] [(.long v145), (.int (4 : Int32)), (.ref a0)])) _
    refine st147 _ ?_
    refine XS.lloadN X147.here hx rfl (hb hby d11_30) rfl ?_
    refine XS.bipush X147.here hx rfl (hb hby d11_31) ?_
    refine XS.lshr X147.here hx rfl (hb hby d11_33) rfl ?_
    show Steps p.tables e below (T147.setTop (mkF m 34 #[.val (.ref a0), .val (.long v144), .second, .val (.int (4 : Int32))] [(.long (v144 >>> ((32 : Int32) &&& 0x3f).toInt64))])) _
    rw [← gv150]
    refine XS.lstoreN X147.here hx rfl (hb hby d11_34) rfl (l' := #[.val (.ref a0), .val (.long v150), .second, .val (.int (4 : Int32))]) rfl ?_
    refine XS.iinc X147.here hx rfl (hb hby d11_35) rfl (l' := #[.val (.ref a0), .val (.long v150), .second, .val (.int (5 : Int32))]) rfl ?_
    refine XS.goto X147.here hx rfl (pc0 := 38) (pc' := 4) rfl (hb hby d11_38) (by decide) (by decide) ?_
    show Steps p.tables e below (T147.setTop (mkF m 4 #[.val (.ref a0), .val (.long v150), .second, .val (.int (5 : Int32))] [])) _
    refine XS.iloadN X147.here hx rfl (hb hby d11_4) rfl ?_
    refine XS.bipush X147.here hx rfl (hb hby d11_5) ?_
    refine XS.icmpNo X147.here hx rfl (hb hby d11_7) rfl (tlt (by decide : (5 : Int32) < (8 : Int32))).2.1 ?_
    refine XS.lloadN X147.here hx rfl (hb hby d11_10) rfl ?_
    show Steps p.tables e below (T147.setTop (mkF m 11 #[.val (.ref a0), .val (.long v150), .second, .val (.int (5 : Int32))] [(.long v150)])) _
    refine XS.aloadN X147.here hx rfl (hb hby d11_11) rfl rfl ?_
    refine XS.iloadN X147.here hx rfl (hb hby d11_12) rfl ?_
    show Steps p.tables e below (T147.setTop (mkF m 13 #[.val (.ref a0), .val (.long v150), .second, .val (.int (5 : Int32))] [(.int (5 : Int32)), (.ref a0), (.long v150)])) _
    have hin151 : ¬ ((5 : Int32) < 0 ∨ cl151.slots.size ≤ ((5 : Int32)).toNatClampNeg) := (inb_of S151 ⟨by decide, by decide⟩)
    refine X147.laload hx (j := (5 : Int32)) (v := (.long u5)) (by rw [e147]; exact Ar151.1) (State.isArrayOf_alike hZ.alike Ar151.2.1) Ar151.2.2 hin151 (H151.at hin151 rfl) (g := (mkF m 13 #[.val (.ref a0), .val (.long v150), .second, .val (.int (5 : Int32))] [(.int (5 : Int32)), (.ref a0), (.long v150)])) rfl rfl (hb hby d11_13) _ ?_
    show Steps p.tables e below (T147.setTop (mkF m 14 #[.val (.ref a0), .val (.long v150), .second, .val (.int (5 : Int32))] [(.long u5), (.long v150)])) _
    refine st152 _ ?_
    refine XS.iloadN X152.here hx rfl (hb hby d11_17) rfl ?_
    show Steps p.tables e below (T152.setTop (mkF m 18 #[.val (.ref a0), .val (.long v150), .second, .val (.int (5 : Int32))] [(.int (5 : Int32)), (.ref wp), (.long u5), (.long v150)])) _
    have hin153 : ¬ ((5 : Int32) < 0 ∨ cl153.slots.size ≤ ((5 : Int32)).toNatClampNeg) := (inb_of S153 ⟨by decide, by decide⟩)
    refine X152.laload hx (j := (5 : Int32)) (v := (.long (0 : Int64))) (by rw [e152]; exact Ar153.1) (State.isArrayOf_alike hZ.alike Ar153.2.1) Ar153.2.2 hin153 (H153.at hin153 rfl) (g := (mkF m 18 #[.val (.ref a0), .val (.long v150), .second, .val (.int (5 : Int32))] [(.int (5 : Int32)), (.ref wp), (.long u5), (.long v150)])) rfl rfl (hb hby d11_18) _ ?_
    refine XS.lsub X152.here hx rfl (hb hby d11_19) rfl ?_
    refine XS.ladd X152.here hx rfl (hb hby d11_20) rfl ?_
    show Steps p.tables e below (T152.setTop (mkF m 21 #[.val (.ref a0), .val (.long v150), .second, .val (.int (5 : Int32))] [(.long (v150 + (u5 - (0 : Int64))))])) _
    rw [← gv154]
    refine XS.lstoreN X152.here hx rfl (hb hby d11_21) rfl (l' := #[.val (.ref a0), .val (.long v154), .second, .val (.int (5 : Int32))]) rfl ?_
    refine XS.aloadN X152.here hx rfl (hb hby d11_22) rfl rfl ?_
    refine XS.iloadN X152.here hx rfl (hb hby d11_23) rfl ?_
    show Steps p.tables e below (T152.setTop (mkF m 24 #[.val (.ref a0), .val (.long v154), .second, .val (.int (5 : Int32))] [(.int (5 : Int32)), (.ref a0)])) _
    refine XS.lloadN X152.here hx rfl (hb hby d11_24) rfl ?_
    show Steps p.tables e below (T152.setTop (mkF m 25 #[.val (.ref a0), .val (.long v154), .second, .val (.int (5 : Int32))] [(.long v154), (.int (5 : Int32)), (.ref a0)])) _
    refine X152.ldc2Long hx hown (mvT hZ (hw _ (List.mem_of_getElem? (i := 17) rfl))) (g := (mkF m 25 #[.val (.ref a0), .val (.long v154), .second, .val (.int (5 : Int32))] [(.long v154), (.int (5 : Int32)), (.ref a0)])) rfl (hb hby d11_25) _ ?_
    refine XS.land X152.here hx rfl (hb hby d11_28) rfl ?_
    show Steps p.tables e below (T152.setTop (mkF m 29 #[.val (.ref a0), .val (.long v154), .second, .val (.int (5 : Int32))] [(.long (v154 &&& (4294967295 : Int64))), (.int (5 : Int32)), (.ref a0)])) _
    rw [← gv155]
    show Steps p.tables e below (T152.setTop (mkF m 29 #[.val (.ref a0), .val (.long v154), .second, .val (.int (5 : Int32))] [(.long v155), (.int (5 : Int32)), (.ref a0)])) _
    refine st157 _ ?_
    refine XS.lloadN X157.here hx rfl (hb hby d11_30) rfl ?_
    refine XS.bipush X157.here hx rfl (hb hby d11_31) ?_
    refine XS.lshr X157.here hx rfl (hb hby d11_33) rfl ?_
    show Steps p.tables e below (T157.setTop (mkF m 34 #[.val (.ref a0), .val (.long v154), .second, .val (.int (5 : Int32))] [(.long (v154 >>> ((32 : Int32) &&& 0x3f).toInt64))])) _
    rw [← gv160]
    refine XS.lstoreN X157.here hx rfl (hb hby d11_34) rfl (l' := #[.val (.ref a0), .val (.long v160), .second, .val (.int (5 : Int32))]) rfl ?_
    refine XS.iinc X157.here hx rfl (hb hby d11_35) rfl (l' := #[.val (.ref a0), .val (.long v160), .second, .val (.int (6 : Int32))]) rfl ?_
    refine XS.goto X157.here hx rfl (pc0 := 38) (pc' := 4) rfl (hb hby d11_38) (by decide) (by decide) ?_
    show Steps p.tables e below (T157.setTop (mkF m 4 #[.val (.ref a0), .val (.long v160), .second, .val (.int (6 : Int32))] [])) _
    refine XS.iloadN X157.here hx rfl (hb hby d11_4) rfl ?_
    refine XS.bipush X157.here hx rfl (hb hby d11_5) ?_
    refine XS.icmpNo X157.here hx rfl (hb hby d11_7) rfl (tlt (by decide : (6 : Int32) < (8 : Int32))).2.1 ?_
    refine XS.lloadN X157.here hx rfl (hb hby d11_10) rfl ?_
    show Steps p.tables e below (T157.setTop (mkF m 11 #[.val (.ref a0), .val (.long v160), .second, .val (.int (6 : Int32))] [(.long v160)])) _
    refine XS.aloadN X157.here hx rfl (hb hby d11_11) rfl rfl ?_
    refine XS.iloadN X157.here hx rfl (hb hby d11_12) rfl ?_
    show Steps p.tables e below (T157.setTop (mkF m 13 #[.val (.ref a0), .val (.long v160), .second, .val (.int (6 : Int32))] [(.int (6 : Int32)), (.ref a0), (.long v160)])) _
    have hin161 : ¬ ((6 : Int32) < 0 ∨ cl161.slots.size ≤ ((6 : Int32)).toNatClampNeg) := (inb_of S161 ⟨by decide, by decide⟩)
    refine X157.laload hx (j := (6 : Int32)) (v := (.long u6)) (by rw [e157]; exact Ar161.1) (State.isArrayOf_alike hZ.alike Ar161.2.1) Ar161.2.2 hin161 (H161.at hin161 rfl) (g := (mkF m 13 #[.val (.ref a0), .val (.long v160), .second, .val (.int (6 : Int32))] [(.int (6 : Int32)), (.ref a0), (.long v160)])) rfl rfl (hb hby d11_13) _ ?_
    show Steps p.tables e below (T157.setTop (mkF m 14 #[.val (.ref a0), .val (.long v160), .second, .val (.int (6 : Int32))] [(.long u6), (.long v160)])) _
    refine st162 _ ?_
    refine XS.iloadN X162.here hx rfl (hb hby d11_17) rfl ?_
    show Steps p.tables e below (T162.setTop (mkF m 18 #[.val (.ref a0), .val (.long v160), .second, .val (.int (6 : Int32))] [(.int (6 : Int32)), (.ref wp), (.long u6), (.long v160)])) _
    have hin163 : ¬ ((6 : Int32) < 0 ∨ cl163.slots.size ≤ ((6 : Int32)).toNatClampNeg) := (inb_of S163 ⟨by decide, by decide⟩)
    refine X162.laload hx (j := (6 : Int32)) (v := (.long (1 : Int64))) (by rw [e162]; exact Ar163.1) (State.isArrayOf_alike hZ.alike Ar163.2.1) Ar163.2.2 hin163 (H163.at hin163 rfl) (g := (mkF m 18 #[.val (.ref a0), .val (.long v160), .second, .val (.int (6 : Int32))] [(.int (6 : Int32)), (.ref wp), (.long u6), (.long v160)])) rfl rfl (hb hby d11_18) _ ?_
    refine XS.lsub X162.here hx rfl (hb hby d11_19) rfl ?_
    refine XS.ladd X162.here hx rfl (hb hby d11_20) rfl ?_
    show Steps p.tables e below (T162.setTop (mkF m 21 #[.val (.ref a0), .val (.long v160), .second, .val (.int (6 : Int32))] [(.long (v160 + (u6 - (1 : Int64))))])) _
    rw [← gv164]
    refine XS.lstoreN X162.here hx rfl (hb hby d11_21) rfl (l' := #[.val (.ref a0), .val (.long v164), .second, .val (.int (6 : Int32))]) rfl ?_
    refine XS.aloadN X162.here hx rfl (hb hby d11_22) rfl rfl ?_
    refine XS.iloadN X162.here hx rfl (hb hby d11_23) rfl ?_
    show Steps p.tables e below (T162.setTop (mkF m 24 #[.val (.ref a0), .val (.long v164), .second, .val (.int (6 : Int32))] [(.int (6 : Int32)), (.ref a0)])) _
    refine XS.lloadN X162.here hx rfl (hb hby d11_24) rfl ?_
    show Steps p.tables e below (T162.setTop (mkF m 25 #[.val (.ref a0), .val (.long v164), .second, .val (.int (6 : Int32))] [(.long v164), (.int (6 : Int32)), (.ref a0)])) _
    refine X162.ldc2Long hx hown (mvT hZ (hw _ (List.mem_of_getElem? (i := 17) rfl))) (g := (mkF m 25 #[.val (.ref a0), .val (.long v164), .second, .val (.int (6 : Int32))] [(.long v164), (.int (6 : Int32)), (.ref a0)])) rfl (hb hby d11_25) _ ?_
    refine XS.land X162.here hx rfl (hb hby d11_28) rfl ?_
    show Steps p.tables e below (T162.setTop (mkF m 29 #[.val (.ref a0), .val (.long v164), .second, .val (.int (6 : Int32))] [(.long (v164 &&& (4294967295 : Int64))), (.int (6 : Int32)), (.ref a0)])) _
    rw [← gv165]
    show Steps p.tables e below (T162.setTop (mkF m 29 #[.val (.ref a0), .val (.long v164), .second, .val (.int (6 : Int32))] [(.long v165), (.int (6 : Int32)), (.ref a0)])) _
    refine st167 _ ?_
    refine XS.lloadN X167.here hx rfl (hb hby d11_30) rfl ?_
    refine XS.bipush X167.here hx rfl (hb hby d11_31) ?_
    refine XS.lshr X167.here hx rfl (hb hby d11_33) rfl ?_
    show Steps p.tables e below (T167.setTop (mkF m 34 #[.val (.ref a0), .val (.long v164), .second, .val (.int (6 : Int32))] [(.long (v164 >>> ((32 : Int32) &&& 0x3f).toInt64))])) _
    rw [← gv170]
    refine XS.lstoreN X167.here hx rfl (hb hby d11_34) rfl (l' := #[.val (.ref a0), .val (.long v170), .second, .val (.int (6 : Int32))]) rfl ?_
    refine XS.iinc X167.here hx rfl (hb hby d11_35) rfl (l' := #[.val (.ref a0), .val (.long v170), .second, .val (.int (7 : Int32))]) rfl ?_
    refine XS.goto X167.here hx rfl (pc0 := 38) (pc' := 4) rfl (hb hby d11_38) (by decide) (by decide) ?_
    show Steps p.tables e below (T167.setTop (mkF m 4 #[.val (.ref a0), .val (.long v170), .second, .val (.int (7 : Int32))] [])) _
    refine XS.iloadN X167.here hx rfl (hb hby d11_4) rfl ?_
    refine XS.bipush X167.here hx rfl (hb hby d11_5) ?_
    refine XS.icmpNo X167.here hx rfl (hb hby d11_7) rfl (tlt (by decide : (7 : Int32) < (8 : Int32))).2.1 ?_
    refine XS.lloadN X167.here hx rfl (hb hby d11_10) rfl ?_
    show Steps p.tables e below (T167.setTop (mkF m 11 #[.val (.ref a0), .val (.long v170), .second, .val (.int (7 : Int32))] [(.long v170)])) _
    refine XS.aloadN X167.here hx rfl (hb hby d11_11) rfl rfl ?_
    refine XS.iloadN X167.here hx rfl (hb hby d11_12) rfl ?_
    show Steps p.tables e below (T167.setTop (mkF m 13 #[.val (.ref a0), .val (.long v170), .second, .val (.int (7 : Int32))] [(.int (7 : Int32)), (.ref a0), (.long v170)])) _
    have hin171 : ¬ ((7 : Int32) < 0 ∨ cl171.slots.size ≤ ((7 : Int32)).toNatClampNeg) := (inb_of S171 ⟨by decide, by decide⟩)
    refine X167.laload hx (j := (7 : Int32)) (v := (.long u7)) (by rw [e167]; exact Ar171.1) (State.isArrayOf_alike hZ.alike Ar171.2.1) Ar171.2.2 hin171 (H171.at hin171 rfl) (g := (mkF m 13 #[.val (.ref a0), .val (.long v170), .second, .val (.int (7 : Int32))] [(.int (7 : Int32)), (.ref a0), (.long v170)])) rfl rfl (hb hby d11_13) _ ?_
    show Steps p.tables e below (T167.setTop (mkF m 14 #[.val (.ref a0), .val (.long v170), .second, .val (.int (7 : Int32))] [(.long u7), (.long v170)])) _
    refine st172 _ ?_
    refine XS.iloadN X172.here hx rfl (hb hby d11_17) rfl ?_
    show Steps p.tables e below (T172.setTop (mkF m 18 #[.val (.ref a0), .val (.long v170), .second, .val (.int (7 : Int32))] [(.int (7 : Int32)), (.ref wp), (.long u7), (.long v170)])) _
    have hin173 : ¬ ((7 : Int32) < 0 ∨ cl173.slots.size ≤ ((7 : Int32)).toNatClampNeg) := (inb_of S173 ⟨by decide, by decide⟩)
    refine X172.laload hx (j := (7 : Int32)) (v := (.long (4294967295 : Int64))) (by rw [e172]; exact Ar173.1) (State.isArrayOf_alike hZ.alike Ar173.2.1) Ar173.2.2 hin173 (H173.at hin173 rfl) (g := (mkF m 18 #[.val (.ref a0), .val (.long v170), .second, .val (.int (7 : Int32))] [(.int (7 : Int32)), (.ref wp), (.long u7), (.long v170)])) rfl rfl (hb hby d11_18) _ ?_
    refine XS.lsub X172.here hx rfl (hb hby d11_19) rfl ?_
    refine XS.ladd X172.here hx rfl (hb hby d11_20) rfl ?_
    show Steps p.tables e below (T172.setTop (mkF m 21 #[.val (.ref a0), .val (.long v170), .second, .val (.int (7 : Int32))] [(.long (v170 + (u7 - (4294967295 : Int64))))])) _
    rw [← gv174]
    refine XS.lstoreN X172.here hx rfl (hb hby d11_21) rfl (l' := #[.val (.ref a0), .val (.long v174), .second, .val (.int (7 : Int32))]) rfl ?_
    refine XS.aloadN X172.here hx rfl (hb hby d11_22) rfl rfl ?_
    refine XS.iloadN X172.here hx rfl (hb hby d11_23) rfl ?_
    show Steps p.tables e below (T172.setTop (mkF m 24 #[.val (.ref a0), .val (.long v174), .second, .val (.int (7 : Int32))] [(.int (7 : Int32)), (.ref a0)])) _
    refine XS.lloadN X172.here hx rfl (hb hby d11_24) rfl ?_
    show Steps p.tables e below (T172.setTop (mkF m 25 #[.val (.ref a0), .val (.long v174), .second, .val (.int (7 : Int32))] [(.long v174), (.int (7 : Int32)), (.ref a0)])) _
    refine X172.ldc2Long hx hown (mvT hZ (hw _ (List.mem_of_getElem? (i := 17) rfl))) (g := (mkF m 25 #[.val (.ref a0), .val (.long v174), .second, .val (.int (7 : Int32))] [(.long v174), (.int (7 : Int32)), (.ref a0)])) rfl (hb hby d11_25) _ ?_
    refine XS.land X172.here hx rfl (hb hby d11_28) rfl ?_
    show Steps p.tables e below (T172.setTop (mkF m 29 #[.val (.ref a0), .val (.long v174), .second, .val (.int (7 : Int32))] [(.long (v174 &&& (4294967295 : Int64))), (.int (7 : Int32)), (.ref a0)])) _
    rw [← gv175]
    show Steps p.tables e below (T172.setTop (mkF m 29 #[.val (.ref a0), .val (.long v174), .second, .val (.int (7 : Int32))] [(.long v175), (.int (7 : Int32)), (.ref a0)])) _
    refine st177 _ ?_
    refine XS.lloadN X177.here hx rfl (hb hby d11_30) rfl ?_
    refine XS.bipush X177.here hx rfl (hb hby d11_31) ?_
    refine XS.lshr X177.here hx rfl (hb hby d11_33) rfl ?_
    show Steps p.tables e below (T177.setTop (mkF m 34 #[.val (.ref a0), .val (.long v174), .second, .val (.int (7 : Int32))] [(.long (v174 >>> ((32 : Int32) &&& 0x3f).toInt64))])) _
    rw [← gv180]
    refine XS.lstoreN X177.here hx rfl (hb hby d11_34) rfl (l' := #[.val (.ref a0), .val (.long v180), .second, .val (.int (7 : Int32))]) rfl ?_
    refine XS.iinc X177.here hx rfl (hb hby d11_35) rfl (l' := #[.val (.ref a0), .val (.long v180), .second, .val (.int (8 : Int32))]) rfl ?_
    refine XS.goto X177.here hx rfl (pc0 := 38) (pc' := 4) rfl (hb hby d11_38) (by decide) (by decide) ?_
    show Steps p.tables e below (T177.setTop (mkF m 4 #[.val (.ref a0), .val (.long v180), .second, .val (.int (8 : Int32))] [])) _
    refine XS.iloadN X177.here hx rfl (hb hby d11_4) rfl ?_
    refine XS.bipush X177.here hx rfl (hb hby d11_5) ?_
    refine XS.icmpYes X177.here hx rfl (pc0 := 7) (pc' := 41) rfl (hb hby d11_7) rfl (flt (by decide : ¬ ((8 : Int32) < (8 : Int32)))).2.1 (by decide) (by decide) ?_
    show Steps p.tables e below (T177.setTop (mkF m 41 #[.val (.ref a0), .val (.long v180), .second, .val (.int (8 : Int32))] [])) _
    exact X177.returnOut hx Bd.returns (hb hby d11_41) hr
  · show Q_rm_subtractP Z a0 wp kp kk0 u0 u1 u2 u3 u4 u5 u6 u7 h0 n0 _ T177.heap _
    rw [e177]
    exact ⟨rfl, N177, K177, v105, v115, v125, v135, v145, v155, v165, v175, v180.toInt, V177b, ⟨rv110, rv120, rv130, rv140, rv150, rv160, rv170, rv180⟩, own_telSP qv110 qv120 qv130 qv140 qv150 qv160 qv170 qv180, hcv180⟩
theorem d4_0 : decode prog_29_method_6_code 0 = .ok (.lconst 0, 1) := by decide +kernel
theorem d4_1 : decode prog_29_method_6_code 1 = .ok (.lstore_n 3, 1) := by decide +kernel
theorem d4_2 : decode prog_29_method_6_code 2 = .ok (.iconst 0, 1) := by decide +kernel
theorem d4_3 : decode prog_29_method_6_code 3 = .ok (.istore 5, 2) := by decide +kernel
theorem d4_5 : decode prog_29_method_6_code 5 = .ok (.iload 5, 2) := by decide +kernel
theorem d4_7 : decode prog_29_method_6_code 7 = .ok (.bipush 8, 2) := by decide +kernel
theorem d4_9 : decode prog_29_method_6_code 9 = .ok (.if_icmp .ge 35, 3) := by decide +kernel
theorem d4_12 : decode prog_29_method_6_code 12 = .ok (.lload_n 3, 1) := by decide +kernel
theorem d4_13 : decode prog_29_method_6_code 13 = .ok (.aload_n 1, 1) := by decide +kernel
theorem d4_14 : decode prog_29_method_6_code 14 = .ok (.iload 5, 2) := by decide +kernel
theorem d4_16 : decode prog_29_method_6_code 16 = .ok (.laload, 1) := by decide +kernel
theorem d4_17 : decode prog_29_method_6_code 17 = .ok (.aload_n 2, 1) := by decide +kernel
theorem d4_18 : decode prog_29_method_6_code 18 = .ok (.iload 5, 2) := by decide +kernel
theorem d4_20 : decode prog_29_method_6_code 20 = .ok (.laload, 1) := by decide +kernel
theorem d4_21 : decode prog_29_method_6_code 21 = .ok (.lsub, 1) := by decide +kernel
theorem d4_22 : decode prog_29_method_6_code 22 = .ok (.ladd, 1) := by decide +kernel
theorem d4_23 : decode prog_29_method_6_code 23 = .ok (.lstore_n 3, 1) := by decide +kernel
theorem d4_24 : decode prog_29_method_6_code 24 = .ok (.aload_n 0, 1) := by decide +kernel
theorem d4_25 : decode prog_29_method_6_code 25 = .ok (.iload 5, 2) := by decide +kernel
theorem d4_27 : decode prog_29_method_6_code 27 = .ok (.lload_n 3, 1) := by decide +kernel
theorem d4_28 : decode prog_29_method_6_code 28 = .ok (.ldc2_w 60, 3) := by decide +kernel
theorem d4_31 : decode prog_29_method_6_code 31 = .ok (.land, 1) := by decide +kernel
theorem d4_32 : decode prog_29_method_6_code 32 = .ok (.lastore, 1) := by decide +kernel
theorem d4_33 : decode prog_29_method_6_code 33 = .ok (.lload_n 3, 1) := by decide +kernel
theorem d4_34 : decode prog_29_method_6_code 34 = .ok (.bipush 32, 2) := by decide +kernel
theorem d4_36 : decode prog_29_method_6_code 36 = .ok (.lshr, 1) := by decide +kernel
theorem d4_37 : decode prog_29_method_6_code 37 = .ok (.lstore_n 3, 1) := by decide +kernel
theorem d4_38 : decode prog_29_method_6_code 38 = .ok (.iinc 5 1, 3) := by decide +kernel
theorem d4_41 : decode prog_29_method_6_code 41 = .ok (.goto (-36), 3) := by decide +kernel
theorem d4_44 : decode prog_29_method_6_code 44 = .ok (.lload_n 3, 1) := by decide +kernel
theorem d4_45 : decode prog_29_method_6_code 45 = .ok (.lconst 0, 1) := by decide +kernel
theorem d4_46 : decode prog_29_method_6_code 46 = .ok (.lcmp, 1) := by decide +kernel
theorem d4_47 : decode prog_29_method_6_code 47 = .ok (.ifCond .eq 7, 3) := by decide +kernel
theorem d4_54 : decode prog_29_method_6_code 54 = .ok (.return_, 1) := by decide +kernel
theorem d4_50 : decode prog_29_method_6_code 50 = .ok (.aload_n 0, 1) := by decide +kernel
theorem d4_51 : decode prog_29_method_6_code 51 = .ok (.invokestatic 70, 3) := by decide +kernel
theorem pd_3 : parseMethodDescriptor "([J)V" = some ⟨[(.array .long)], none⟩ := by decide +kernel
theorem ef_rm_subtract_d (m : MethodId) (x0 : Addr) (x1 : Addr) (x2 : Addr) : entryFrame m #[(.ref x0), (.ref x1), (.ref x2)] 6 = mkF m 0 #[.val (.ref x0), .val (.ref x1), .val (.ref x2), .unset, .unset, .unset] [] := by first | (simp [entryFrame, mkF, argsToLocals, Value.category]; done) | rfl
def Q_rm_subtract_d (Z : State) (a0 : Addr) (a1 : Addr) (a2 : Addr) (wp : Addr) (kp : ClassId) (kk0 : ClassId) (kk1 : ClassId) (kk2 : ClassId) (x0 : Int64) (x1 : Int64) (x2 : Int64) (x3 : Int64) (x4 : Int64) (x5 : Int64) (x6 : Int64) (x7 : Int64) (u0 : Int64) (u1 : Int64) (u2 : Int64) (u3 : Int64) (u4 : Int64) (u5 : Int64) (u6 : Int64) (u7 : Int64) (t0 : Int64) (t1 : Int64) (t2 : Int64) (t3 : Int64) (t4 : Int64) (t5 : Int64) (t6 : Int64) (t7 : Int64) (h0 : Heap) (n0 : Nat) (v : Option Value) (h : Heap) (L : List Loc) : Prop := v = none ∧ Fr n0 L ∧ Keep h0 h [a0] ∧ ∃ (o0 o1 o2 o3 o4 o5 o6 o7 : Int64), Arv Z h a0 kk0 .long (8 : Int32) [(.long o0), (.long o1), (.long o2), (.long o3), (.long o4), (.long o5), (.long o6), (.long o7)] (.long (0 : Int64)) ∧ own_RR o0 o1 o2 o3 o4 o5 o6 o7 ∧ own_W o0 o1 o2 o3 o4 o5 o6 o7 < own_P ∧ (own_W o0 o1 o2 o3 o4 o5 o6 o7 = own_W u0 u1 u2 u3 u4 u5 u6 u7 - own_W t0 t1 t2 t3 t4 t5 t6 t7 ∨ own_W o0 o1 o2 o3 o4 o5 o6 o7 = own_W u0 u1 u2 u3 u4 u5 u6 u7 - own_W t0 t1 t2 t3 t4 t5 t6 t7 + own_P)
set_option maxRecDepth 65536 in
set_option maxHeartbeats 40000000 in
theorem rm_subtract_d (l : Launch) (Z : State) (aw : Array Value) (hw : ∀ d ∈ tables_1, d.before aw Z = true) (ws : List Jvm.Cond) (a0 : Addr) (a1 : Addr) (a2 : Addr) (wp : Addr) (kp : ClassId) (kk0 : ClassId) (kk1 : ClassId) (kk2 : ClassId) (x0 : Int64) (x1 : Int64) (x2 : Int64) (x3 : Int64) (x4 : Int64) (x5 : Int64) (x6 : Int64) (x7 : Int64) (u0 : Int64) (u1 : Int64) (u2 : Int64) (u3 : Int64) (u4 : Int64) (u5 : Int64) (u6 : Int64) (u7 : Int64) (t0 : Int64) (t1 : Int64) (t2 : Int64) (t3 : Int64) (t4 : Int64) (t5 : Int64) (t6 : Int64) (t7 : Int64) (h0 : Heap) (n0 : Nat) (Z0 : n0 ≤ h0.size) (SP : Sta Z h0 "com/example/serialroute/serialroute/core/P256Field" "P_WORDS" "[J" (.ref wp)) (VP : Arv Z h0 wp kp .long (8 : Int32) [(.long (4294967295 : Int64)), (.long (4294967295 : Int64)), (.long (4294967295 : Int64)), (.long (0 : Int64)), (.long (0 : Int64)), (.long (0 : Int64)), (.long (1 : Int64)), (.long (4294967295 : Int64))] (.long (0 : Int64))) (Va0 : Arv Z h0 a0 kk0 .long (8 : Int32) [(.long x0), (.long x1), (.long x2), (.long x3), (.long x4), (.long x5), (.long x6), (.long x7)] (.long (0 : Int64))) (Va1 : Arv Z h0 a1 kk1 .long (8 : Int32) [(.long u0), (.long u1), (.long u2), (.long u3), (.long u4), (.long u5), (.long u6), (.long u7)] (.long (0 : Int64))) (Va2 : Arv Z h0 a2 kk2 .long (8 : Int32) [(.long t0), (.long t1), (.long t2), (.long t3), (.long t4), (.long t5), (.long t6), (.long t7)] (.long (0 : Int64))) (g0 : n0 ≤ a0) (ne_wp_a0 : wp ≠ a0) (ne_a0_a1 : a0 ≠ a1) (ne_a0_a2 : a0 ≠ a2) (hR_a1 : own_RR u0 u1 u2 u3 u4 u5 u6 u7) (hW_a1 : own_W u0 u1 u2 u3 u4 u5 u6 u7 < own_P) (hR_a2 : own_RR t0 t1 t2 t3 t4 t5 t6 t7) (hW_a2 : own_W t0 t1 t2 t3 t4 t5 t6 t7 < own_P) :
    MetFree l (⟨"com/example/serialroute/serialroute/core/P256Field", "subtract", "([J[J[J)V"⟩ : MethodName) (head1 (Jvm.Cond.code (⟨"com/example/serialroute/serialroute/core/P256Field", "subtract", "([J[J[J)V"⟩ : MethodName) prog_29_method_6_code 6 none :: ws) ({ frames := 1, cells := 0, slots := 0, locals := 15 } : Room)) (fun a U => a = #[(.ref a0), (.ref a1), (.ref a2)] ∧ Z.Warmed39 U.vm ∧ U.heap = h0) (fun _ _ _ _ _ => True) (fun _ U oc U' => ∃ v L, oc = .returned v ∧ Q_rm_subtract_d Z a0 a1 a2 wp kp kk0 kk1 kk2 x0 x1 x2 x3 x4 x5 x6 x7 u0 u1 u2 u3 u4 u5 u6 u7 t0 t1 t2 t3 t4 t5 t6 t7 h0 n0 v U'.heap L ∧ FrameEnd U oc U' L ({ frames := 1, cells := 0, slots := 0, locals := 15 } : Room).cells ({ frames := 1, cells := 0, slots := 0, locals := 15 } : Room).slots) := by
  refine MetFree.of_bodySF (plainFor_of_name pn_1) hisR ?_
  intro p e s m args below meth c s₁ Bd hml0 hP hK
  obtain ⟨rfl, hZ, hh⟩ := hP
  have hx := Bd.exec
  have hby := Bd.bytes
  have hml : c.maxLocals = 6 := hml0
  have hown : s.vm.findClass "com/example/serialroute/serialroute/core/P256Field" = some m.cls := findClass_of_methodNamed Bd.named
  have hnm := (name_of_methodNamed Bd.named Bd.method).1
  have X0 : Stand p l e ({ frames := 1, cells := 0, slots := 0, locals := 15 } : Room) s m #[(.ref a0), (.ref a1), (.ref a2)] below meth c s₁ [] 0 0 := Stand.of_body Bd
  have e0 : s₁.heap = h0 := by rw [← hh, Bd.state]; rfl
  have N0 := Fr.nil n0
  have pre0 : ∀ t, Steps p.tables e below (s₁.setTop (mkF m 0 #[.val (.ref a0), .val (.ref a1), .val (.ref a2), .unset, .unset, .unset] [])) t → Steps p.tables e below (s₁.setTop (entryFrame m #[(.ref a0), (.ref a1), (.ref a2)] 6)) t := fun t k => castTop (ef_rm_subtract_d m a0 a1 a2) k
  obtain ⟨r_a10, r_a11, r_a12, r_a13, r_a14, r_a15, r_a16, r_a17⟩ := id hR_a1
  obtain ⟨r_a20, r_a21, r_a22, r_a23, r_a24, r_a25, r_a26, r_a27⟩ := id hR_a2
  have hc0 : -1 ≤ ((0 : Int64)).toInt ∧ ((0 : Int64)).toInt ≤ 0 := by decide
  obtain ⟨cl101, Ar101, q101, S101, M101, H101, G101⟩ := id Va1
  obtain ⟨cl102, Ar102, q102, S102, M102, H102, G102⟩ := id Va2
  obtain ⟨v103, gv103⟩ : ∃ z, z = ((0 : Int64) + (u0 - t0)) := ⟨_, rfl⟩
  obtain ⟨v104, gv104⟩ : ∃ z, z = (v103 &&& (4294967295 : Int64)) := ⟨_, rfl⟩
  obtain ⟨cl105, Ar105, q105, S105, M105, H105, G105⟩ := id Va0
  obtain ⟨T106, h106, X106, e106, W106, st106⟩ := stJ X0 hx hZ e0 Ar105 (j := (0 : Int32)) (inb_of S105 ⟨by decide, by decide⟩) (g := (mkF m 32 #[.val (.ref a0), .val (.ref a1), .val (.ref a2), .val (.long v103), .second, .val (.int (0 : Int32))] [(.long v104), (.int (0 : Int32)), (.ref a0)])) rfl rfl (hb hby d4_32)
  have V106 := Arv.set Ar105 q105 S105 M105 H105 G105 rfl W106 0 rfl (Nat.le_of_ble_eq_true rfl)
  have f107 := SP.wr W106
  have f108 := VP.other W106 ne_wp_a0
  have f109 := Va1.other W106 (Ne.symm ne_a0_a1)
  have f110 := Va2.other W106 (Ne.symm ne_a0_a2)
  have K106 : Keep h0 h106 [a0] := (Keep.refl h0 [a0]).wr W106 (Or.inl (List.mem_of_getElem? (i := 0) rfl))
  have N106 := Fr.snoc X106 N0 g0
  have Z106 : n0 ≤ h106.size := Nat.le_trans Z0 (Keep.of_wr W106).1
  have V106b : Arv Z h106 a0 kk0 .long (8 : Int32) [(.long v104), (.long x1), (.long x2), (.long x3), (.long x4), (.long x5), (.long x6), (.long x7)] (.long (0 : Int64)) := V106
  obtain ⟨v111, gv111⟩ : ∃ z, z = (v103 >>> ((32 : Int32) &&& 0x3f).toInt64) := ⟨_, rfl⟩
  obtain ⟨qv111, rv111, hcv111⟩ := own_sub_step gv103 gv104 gv111 hc0 r_a10 r_a20
  obtain ⟨cl112, Ar112, q112, S112, M112, H112, G112⟩ := id f109
  obtain ⟨cl113, Ar113, q113, S113, M113, H113, G113⟩ := id f110
  obtain ⟨v114, gv114⟩ : ∃ z, z = (v111 + (u1 - t1)) := ⟨_, rfl⟩
  obtain ⟨v115, gv115⟩ : ∃ z, z = (v114 &&& (4294967295 : Int64)) := ⟨_, rfl⟩
  obtain ⟨cl116, Ar116, q116, S116, M116, H116, G116⟩ := id V106b
  obtain ⟨T117, h117, X117, e117, W117, st117⟩ := stJ X106 hx hZ e106 Ar116 (j := (1 : Int32)) (inb_of S116 ⟨by decide, by decide⟩) (g := (mkF m 32 #[.val (.ref a0), .val (.ref a1), .val (.ref a2), .val (.long v114), .second, .val (.int (1 : Int32))] [(.long v115), (.int (1 : Int32)), (.ref a0)])) rfl rfl (hb hby d4_32)
  have V117 := Arv.set Ar116 q116 S116 M116 H116 G116 rfl W117 1 rfl (Nat.le_of_ble_eq_true rfl)
  have f118 := f107.wr W117
  have f119 := f108.other W117 ne_wp_a0
  have f120 := f109.other W117 (Ne.symm ne_a0_a1)
  have f121 := f110.other W117 (Ne.symm ne_a0_a2)
  have K117 : Keep h0 h117 [a0] := K106.wr W117 (Or.inl (List.mem_of_getElem? (i := 0) rfl))
  have N117 := Fr.snoc X117 N106 g0
  have Z117 : n0 ≤ h117.size := Nat.le_trans Z106 (Keep.of_wr W117).1
  have V117b : Arv Z h117 a0 kk0 .long (8 : Int32) [(.long v104), (.long v115), (.long x2), (.long x3), (.long x4), (.long x5), (.long x6), (.long x7)] (.long (0 : Int64)) := V117
  obtain ⟨v122, gv122⟩ : ∃ z, z = (v114 >>> ((32 : Int32) &&& 0x3f).toInt64) := ⟨_, rfl⟩
  obtain ⟨qv122, rv122, hcv122⟩ := own_sub_step gv114 gv115 gv122 hcv111 r_a11 r_a21
  obtain ⟨cl123, Ar123, q123, S123, M123, H123, G123⟩ := id f120
  obtain ⟨cl124, Ar124, q124, S124, M124, H124, G124⟩ := id f121
  obtain ⟨v125, gv125⟩ : ∃ z, z = (v122 + (u2 - t2)) := ⟨_, rfl⟩
  obtain ⟨v126, gv126⟩ : ∃ z, z = (v125 &&& (4294967295 : Int64)) := ⟨_, rfl⟩
  obtain ⟨cl127, Ar127, q127, S127, M127, H127, G127⟩ := id V117b
  obtain ⟨T128, h128, X128, e128, W128, st128⟩ := stJ X117 hx hZ e117 Ar127 (j := (2 : Int32)) (inb_of S127 ⟨by decide, by decide⟩) (g := (mkF m 32 #[.val (.ref a0), .val (.ref a1), .val (.ref a2), .val (.long v125), .second, .val (.int (2 : Int32))] [(.long v126), (.int (2 : Int32)), (.ref a0)])) rfl rfl (hb hby d4_32)
  have V128 := Arv.set Ar127 q127 S127 M127 H127 G127 rfl W128 2 rfl (Nat.le_of_ble_eq_true rfl)
  have f129 := f118.wr W128
  have f130 := f119.other W128 ne_wp_a0
  have f131 := f120.other W128 (Ne.symm ne_a0_a1)
  have f132 := f121.other W128 (Ne.symm ne_a0_a2)
  have K128 : Keep h0 h128 [a0] := K117.wr W128 (Or.inl (List.mem_of_getElem? (i := 0) rfl))
  have N128 := Fr.snoc X128 N117 g0
  have Z128 : n0 ≤ h128.size := Nat.le_trans Z117 (Keep.of_wr W128).1
  have V128b : Arv Z h128 a0 kk0 .long (8 : Int32) [(.long v104), (.long v115), (.long v126), (.long x3), (.long x4), (.long x5), (.long x6), (.long x7)] (.long (0 : Int64)) := V128
  obtain ⟨v133, gv133⟩ : ∃ z, z = (v125 >>> ((32 : Int32) &&& 0x3f).toInt64) := ⟨_, rfl⟩
  obtain ⟨qv133, rv133, hcv133⟩ := own_sub_step gv125 gv126 gv133 hcv122 r_a12 r_a22
  obtain ⟨cl134, Ar134, q134, S134, M134, H134, G134⟩ := id f131
  obtain ⟨cl135, Ar135, q135, S135, M135, H135, G135⟩ := id f132
  obtain ⟨v136, gv136⟩ : ∃ z, z = (v133 + (u3 - t3)) := ⟨_, rfl⟩
  obtain ⟨v137, gv137⟩ : ∃ z, z = (v136 &&& (4294967295 : Int64)) := ⟨_, rfl⟩
  obtain ⟨cl138, Ar138, q138, S138, M138, H138, G138⟩ := id V128b
  obtain ⟨T139, h139, X139, e139, W139, st139⟩ := stJ X128 hx hZ e128 Ar138 (j := (3 : Int32)) (inb_of S138 ⟨by decide, by decide⟩) (g := (mkF m 32 #[.val (.ref a0), .val (.ref a1), .val (.ref a2), .val (.long v136), .second, .val (.int (3 : Int32))] [(.long v137), (.int (3 : Int32)), (.ref a0)])) rfl rfl (hb hby d4_32)
  have V139 := Arv.set Ar138 q138 S138 M138 H138 G138 rfl W139 3 rfl (Nat.le_of_ble_eq_true rfl)
  have f140 := f129.wr W139
  have f141 := f130.other W139 ne_wp_a0
  have f142 := f131.other W139 (Ne.symm ne_a0_a1)
  have f143 := f132.other W139 (Ne.symm ne_a0_a2)
  have K139 : Keep h0 h139 [a0] := K128.wr W139 (Or.inl (List.mem_of_getElem? (i := 0) rfl))
  have N139 := Fr.snoc X139 N128 g0
  have Z139 : n0 ≤ h139.size := Nat.le_trans Z128 (Keep.of_wr W139).1
  have V139b : Arv Z h139 a0 kk0 .long (8 : Int32) [(.long v104), (.long v115), (.long v126), (.long v137), (.long x4), (.long x5), (.long x6), (.long x7)] (.long (0 : Int64)) := V139
  obtain ⟨v144, gv144⟩ : ∃ z, z = (v136 >>> ((32 : Int32) &&& 0x3f).toInt64) := ⟨_, rfl⟩
  obtain ⟨qv144, rv144, hcv144⟩ := own_sub_step gv136 gv137 gv144 hcv133 r_a13 r_a23
  obtain ⟨cl145, Ar145, q145, S145, M145, H145, G145⟩ := id f142
  obtain ⟨cl146, Ar146, q146, S146, M146, H146, G146⟩ := id f143
  obtain ⟨v147, gv147⟩ : ∃ z, z = (v144 + (u4 - t4)) := ⟨_, rfl⟩
  obtain ⟨v148, gv148⟩ : ∃ z, z = (v147 &&& (4294967295 : Int64)) := ⟨_, rfl⟩
  obtain ⟨cl149, Ar149, q149, S149, M149, H149, G149⟩ := id V139b
  obtain ⟨T150, h150, X150, e150, W150, st150⟩ := stJ X139 hx hZ e139 Ar149 (j := (4 : Int32)) (inb_of S149 ⟨by decide, by decide⟩) (g := (mkF m 32 #[.val (.ref a0), .val (.ref a1), .val (.ref a2), .val (.long v147), .second, .val (.int (4 : Int32))] [(.long v148), (.int (4 : Int32)), (.ref a0)])) rfl rfl (hb hby d4_32)
  have V150 := Arv.set Ar149 q149 S149 M149 H149 G149 rfl W150 4 rfl (Nat.le_of_ble_eq_true rfl)
  have f151 := f140.wr W150
  have f152 := f141.other W150 ne_wp_a0
  have f153 := f142.other W150 (Ne.symm ne_a0_a1)
  have f154 := f143.other W150 (Ne.symm ne_a0_a2)
  have K150 : Keep h0 h150 [a0] := K139.wr W150 (Or.inl (List.mem_of_getElem? (i := 0) rfl))
  have N150 := Fr.snoc X150 N139 g0
  have Z150 : n0 ≤ h150.size := Nat.le_trans Z139 (Keep.of_wr W150).1
  have V150b : Arv Z h150 a0 kk0 .long (8 : Int32) [(.long v104), (.long v115), (.long v126), (.long v137), (.long v148), (.long x5), (.long x6), (.long x7)] (.long (0 : Int64)) := V150
  obtain ⟨v155, gv155⟩ : ∃ z, z = (v147 >>> ((32 : Int32) &&& 0x3f).toInt64) := ⟨_, rfl⟩
  obtain ⟨qv155, rv155, hcv155⟩ := own_sub_step gv147 gv148 gv155 hcv144 r_a14 r_a24
  obtain ⟨cl156, Ar156, q156, S156, M156, H156, G156⟩ := id f153
  obtain ⟨cl157, Ar157, q157, S157, M157, H157, G157⟩ := id f154
  obtain ⟨v158, gv158⟩ : ∃ z, z = (v155 + (u5 - t5)) := ⟨_, rfl⟩
  obtain ⟨v159, gv159⟩ : ∃ z, z = (v158 &&& (4294967295 : Int64)) := ⟨_, rfl⟩
  obtain ⟨cl160, Ar160, q160, S160, M160, H160, G160⟩ := id V150b
  obtain ⟨T161, h161, X161, e161, W161, st161⟩ := stJ X150 hx hZ e150 Ar160 (j := (5 : Int32)) (inb_of S160 ⟨by decide, by decide⟩) (g := (mkF m 32 #[.val (.ref a0), .val (.ref a1), .val (.ref a2), .val (.long v158), .second, .val (.int (5 : Int32))] [(.long v159), (.int (5 : Int32)), (.ref a0)])) rfl rfl (hb hby d4_32)
  have V161 := Arv.set Ar160 q160 S160 M160 H160 G160 rfl W161 5 rfl (Nat.le_of_ble_eq_true rfl)
  have f162 := f151.wr W161
  have f163 := f152.other W161 ne_wp_a0
  have f164 := f153.other W161 (Ne.symm ne_a0_a1)
  have f165 := f154.other W161 (Ne.symm ne_a0_a2)
  have K161 : Keep h0 h161 [a0] := K150.wr W161 (Or.inl (List.mem_of_getElem? (i := 0) rfl))
  have N161 := Fr.snoc X161 N150 g0
  have Z161 : n0 ≤ h161.size := Nat.le_trans Z150 (Keep.of_wr W161).1
  have V161b : Arv Z h161 a0 kk0 .long (8 : Int32) [(.long v104), (.long v115), (.long v126), (.long v137), (.long v148), (.long v159), (.long x6), (.long x7)] (.long (0 : Int64)) := V161
  obtain ⟨v166, gv166⟩ : ∃ z, z = (v158 >>> ((32 : Int32) &&& 0x3f).toInt64) := ⟨_, rfl⟩
  obtain ⟨qv166, rv166, hcv166⟩ := own_sub_step gv158 gv159 gv166 hcv155 r_a15 r_a25
  obtain ⟨cl167, Ar167, q167, S167, M167, H167, G167⟩ := id f164
  obtain ⟨cl168, Ar168, q168, S168, M168, H168, G168⟩ := id f165
  obtain ⟨v169, gv169⟩ : ∃ z, z = (v166 + (u6 - t6)) := ⟨_, rfl⟩
  obtain ⟨v170, gv170⟩ : ∃ z, z = (v169 &&& (4294967295 : Int64)) := ⟨_, rfl⟩
  obtain ⟨cl171, Ar171, q171, S171, M171, H171, G171⟩ := id V161b
  obtain ⟨T172, h172, X172, e172, W172, st172⟩ := stJ X161 hx hZ e161 Ar171 (j := (6 : Int32)) (inb_of S171 ⟨by decide, by decide⟩) (g := (mkF m 32 #[.val (.ref a0), .val (.ref a1), .val (.ref a2), .val (.long v169), .second, .val (.int (6 : Int32))] [(.long v170), (.int (6 : Int32)), (.ref a0)])) rfl rfl (hb hby d4_32)
  have V172 := Arv.set Ar171 q171 S171 M171 H171 G171 rfl W172 6 rfl (Nat.le_of_ble_eq_true rfl)
  have f173 := f162.wr W172
  have f174 := f163.other W172 ne_wp_a0
  have f175 := f164.other W172 (Ne.symm ne_a0_a1)
  have f176 := f165.other W172 (Ne.symm ne_a0_a2)
  have K172 : Keep h0 h172 [a0] := K161.wr W172 (Or.inl (List.mem_of_getElem? (i := 0) rfl))
  have N172 := Fr.snoc X172 N161 g0
  have Z172 : n0 ≤ h172.size := Nat.le_trans Z161 (Keep.of_wr W172).1
  have V172b : Arv Z h172 a0 kk0 .long (8 : Int32) [(.long v104), (.long v115), (.long v126), (.long v137), (.long v148), (.long v159), (.long v170), (.long x7)] (.long (0 : Int64)) := V172
  obtain ⟨v177, gv177⟩ : ∃ z, z = (v169 >>> ((32 : Int32) &&& 0x3f).toInt64) := ⟨_, rfl⟩
  obtain ⟨qv177, rv177, hcv177⟩ := own_sub_step gv169 gv170 gv177 hcv166 r_a16 r_a26
  obtain ⟨cl178, Ar178, q178, S178, M178, H178, G178⟩ := id f175
  obtain ⟨cl179, Ar179, q179, S179, M179, H179, G179⟩ := id f176
  obtain ⟨v180, gv180⟩ : ∃ z, z = (v177 + (u7 - t7)) := ⟨_, rfl⟩
  obtain ⟨v181, gv181⟩ : ∃ z, z = (v180 &&& (4294967295 : Int64)) := ⟨_, rfl⟩
  obtain ⟨cl182, Ar182, q182, S182, M182, H182, G182⟩ := id V172b
  obtain ⟨T183, h183, X183, e183, W183, st183⟩ := stJ X172 hx hZ e172 Ar182 (j := (7 : Int32)) (inb_of S182 ⟨by decide, by decide⟩) (g := (mkF m 32 #[.val (.ref a0), .val (.ref a1), .val (.ref a2), .val (.long v180), .second, .val (.int (7 : Int32))] [(.long v181), (.int (7 : Int32)), (.ref a0)])) rfl rfl (hb hby d4_32)
  have V183 := Arv.set Ar182 q182 S182 M182 H182 G182 rfl W183 7 rfl (Nat.le_of_ble_eq_true rfl)
  have f184 := f173.wr W183
  have f185 := f174.other W183 ne_wp_a0
  have f186 := f175.other W183 (Ne.symm ne_a0_a1)
  have f187 := f176.other W183 (Ne.symm ne_a0_a2)
  have K183 : Keep h0 h183 [a0] := K172.wr W183 (Or.inl (List.mem_of_getElem? (i := 0) rfl))
  have N183 := Fr.snoc X183 N172 g0
  have Z183 : n0 ≤ h183.size := Nat.le_trans Z172 (Keep.of_wr W183).1
  have V183b : Arv Z h183 a0 kk0 .long (8 : Int32) [(.long v104), (.long v115), (.long v126), (.long v137), (.long v148), (.long v159), (.long v170), (.long v181)] (.long (0 : Int64)) := V183
  obtain ⟨v188, gv188⟩ : ∃ z, z = (v180 >>> ((32 : Int32) &&& 0x3f).toInt64) := ⟨_, rfl⟩
  obtain ⟨qv188, rv188, hcv188⟩ := own_sub_step gv180 gv181 gv188 hcv177 r_a17 r_a27
  have pre189 : ∀ t, Steps p.tables e below (T183.setTop (mkF m 47 #[.val (.ref a0), .val (.ref a1), .val (.ref a2), .val (.long v188), .second, .val (.int (8 : Int32))] [(.int (lcmpW v188 (0 : Int64)))])) t → Steps p.tables e below (s₁.setTop (entryFrame m #[(.ref a0), (.ref a1), (.ref a2)] 6)) t := fun t k => by
    refine pre0 t ?_
    show Steps p.tables e below (s₁.setTop (mkF m 0 #[.val (.ref a0), .val (.ref a1), .val (.ref a2), .unset, .unset, .unset] [])) _
    refine XS.lconst X0.here hx rfl (hb hby d4_0) ?_
    refine XS.lstoreN X0.here hx rfl (hb hby d4_1) rfl (l' := #[.val (.ref a0), .val (.ref a1), .val (.ref a2), .val (.long (0 : Int64)), .second, .unset]) rfl ?_
    refine XS.iconst X0.here hx rfl (hb hby d4_2) ?_
    refine XS.istore X0.here hx rfl (hb hby d4_3) rfl (l' := #[.val (.ref a0), .val (.ref a1), .val (.ref a2), .val (.long (0 : Int64)), .second, .val (.int (0 : Int32))]) rfl ?_
    show Steps p.tables e below (s₁.setTop (mkF m 5 #[.val (.ref a0), .val (.ref a1), .val (.ref a2), .val (.long (0 : Int64)), .second, .val (.int (0 : Int32))] [])) _
    refine XS.iload X0.here hx rfl (hb hby d4_5) rfl ?_
    refine XS.bipush X0.here hx rfl (hb hby d4_7) ?_
    refine XS.icmpNo X0.here hx rfl (hb hby d4_9) rfl (tlt (by decide : (0 : Int32) < (8 : Int32))).2.1 ?_
    refine XS.lloadN X0.here hx rfl (hb hby d4_12) rfl ?_
    show Steps p.tables e below (s₁.setTop (mkF m 13 #[.val (.ref a0), .val (.ref a1), .val (.ref a2), .val (.long (0 : Int64)), .second, .val (.int (0 : Int32))] [(.long (0 : Int64))])) _
    refine XS.aloadN X0.here hx rfl (hb hby d4_13) rfl rfl ?_
    refine XS.iload X0.here hx rfl (hb hby d4_14) rfl ?_
    show Steps p.tables e below (s₁.setTop (mkF m 16 #[.val (.ref a0), .val (.ref a1), .val (.ref a2), .val (.long (0 : Int64)), .second, .val (.int (0 : Int32))] [(.int (0 : Int32)), (.ref a1), (.long (0 : Int64))])) _
    have hin101 : ¬ ((0 : Int32) < 0 ∨ cl101.slots.size ≤ ((0 : Int32)).toNatClampNeg) := (inb_of S101 ⟨by decide, by decide⟩)
    refine X0.laload hx (j := (0 : Int32)) (v := (.long u0)) (by rw [e0]; exact Ar101.1) (State.isArrayOf_alike hZ.alike Ar101.2.1) Ar101.2.2 hin101 (H101.at hin101 rfl) (g := (mkF m 16 #[.val (.ref a0), .val (.ref a1), .val (.ref a2), .val (.long (0 : Int64)), .second, .val (.int (0 : Int32))] [(.int (0 : Int32)), (.ref a1), (.long (0 : Int64))])) rfl rfl (hb hby d4_16) _ ?_
    refine XS.aloadN X0.here hx rfl (hb hby d4_17) rfl rfl ?_
    refine XS.iload X0.here hx rfl (hb hby d4_18) rfl ?_
    show Steps p.tables e below (s₁.setTop (mkF m 20 #[.val (.ref a0), .val (.ref a1), .val (.ref a2), .val (.long (0 : Int64)), .second, .val (.int (0 : Int32))] [(.int (0 : Int32)), (.ref a2), (.long u0), (.long (0 : Int64))])) _
    have hin102 : ¬ ((0 : Int32) < 0 ∨ cl102.slots.size ≤ ((0 : Int32)).toNatClampNeg) := (inb_of S102 ⟨by decide, by decide⟩)
    refine X0.laload hx (j := (0 : Int32)) (v := (.long t0)) (by rw [e0]; exact Ar102.1) (State.isArrayOf_alike hZ.alike Ar102.2.1) Ar102.2.2 hin102 (H102.at hin102 rfl) (g := (mkF m 20 #[.val (.ref a0), .val (.ref a1), .val (.ref a2), .val (.long (0 : Int64)), .second, .val (.int (0 : Int32))] [(.int (0 : Int32)), (.ref a2), (.long u0), (.long (0 : Int64))])) rfl rfl (hb hby d4_20) _ ?_
    refine XS.lsub X0.here hx rfl (hb hby d4_21) rfl ?_
    refine XS.ladd X0.here hx rfl (hb hby d4_22) rfl ?_
    show Steps p.tables e below (s₁.setTop (mkF m 23 #[.val (.ref a0), .val (.ref a1), .val (.ref a2), .val (.long (0 : Int64)), .second, .val (.int (0 : Int32))] [(.long ((0 : Int64) + (u0 - t0)))])) _
    rw [← gv103]
    refine XS.lstoreN X0.here hx rfl (hb hby d4_23) rfl (l' := #[.val (.ref a0), .val (.ref a1), .val (.ref a2), .val (.long v103), .second, .val (.int (0 : Int32))]) rfl ?_
    refine XS.aloadN X0.here hx rfl (hb hby d4_24) rfl rfl ?_
    refine XS.iload X0.here hx rfl (hb hby d4_25) rfl ?_
    show Steps p.tables e below (s₁.setTop (mkF m 27 #[.val (.ref a0), .val (.ref a1), .val (.ref a2), .val (.long v103), .second, .val (.int (0 : Int32))] [(.int (0 : Int32)), (.ref a0)])) _
    refine XS.lloadN X0.here hx rfl (hb hby d4_27) rfl ?_
    show Steps p.tables e below (s₁.setTop (mkF m 28 #[.val (.ref a0), .val (.ref a1), .val (.ref a2), .val (.long v103), .second, .val (.int (0 : Int32))] [(.long v103), (.int (0 : Int32)), (.ref a0)])) _
    refine X0.ldc2Long hx hown (mvT hZ (hw _ (List.mem_of_getElem? (i := 17) rfl))) (g := (mkF m 28 #[.val (.ref a0), .val (.ref a1), .val (.ref a2), .val (.long v103), .second, .val (.int (0 : Int32))] [(.long v103), (.int (0 : Int32)), (.ref a0)])) rfl (hb hby d4_28) _ ?_
    refine XS.land X0.here hx rfl (hb hby d4_31) rfl ?_
    show Steps p.tables e below (s₁.setTop (mkF m 32 #[.val (.ref a0), .val (.ref a1), .val (.ref a2), .val (.long v103), .second, .val (.int (0 : Int32))] [(.long (v103 &&& (4294967295 : Int64))), (.int (0 : Int32)), (.ref a0)])) _
    rw [← gv104]
    show Steps p.tables e below (s₁.setTop (mkF m 32 #[.val (.ref a0), .val (.ref a1), .val (.ref a2), .val (.long v103), .second, .val (.int (0 : Int32))] [(.long v104), (.int (0 : Int32)), (.ref a0)])) _
    refine st106 _ ?_
    refine XS.lloadN X106.here hx rfl (hb hby d4_33) rfl ?_
    refine XS.bipush X106.here hx rfl (hb hby d4_34) ?_
    refine XS.lshr X106.here hx rfl (hb hby d4_36) rfl ?_
    show Steps p.tables e below (T106.setTop (mkF m 37 #[.val (.ref a0), .val (.ref a1), .val (.ref a2), .val (.long v103), .second, .val (.int (0 : Int32))] [(.long (v103 >>> ((32 : Int32) &&& 0x3f).toInt64))])) _
    rw [← gv111]
    refine XS.lstoreN X106.here hx rfl (hb hby d4_37) rfl (l' := #[.val (.ref a0), .val (.ref a1), .val (.ref a2), .val (.long v111), .second, .val (.int (0 : Int32))]) rfl ?_
    refine XS.iinc X106.here hx rfl (hb hby d4_38) rfl (l' := #[.val (.ref a0), .val (.ref a1), .val (.ref a2), .val (.long v111), .second, .val (.int (1 : Int32))]) rfl ?_
    refine XS.goto X106.here hx rfl (pc0 := 41) (pc' := 5) rfl (hb hby d4_41) (by decide) (by decide) ?_
    show Steps p.tables e below (T106.setTop (mkF m 5 #[.val (.ref a0), .val (.ref a1), .val (.ref a2), .val (.long v111), .second, .val (.int (1 : Int32))] [])) _
    refine XS.iload X106.here hx rfl (hb hby d4_5) rfl ?_
    refine XS.bipush X106.here hx rfl (hb hby d4_7) ?_
    refine XS.icmpNo X106.here hx rfl (hb hby d4_9) rfl (tlt (by decide : (1 : Int32) < (8 : Int32))).2.1 ?_
    refine XS.lloadN X106.here hx rfl (hb hby d4_12) rfl ?_
    show Steps p.tables e below (T106.setTop (mkF m 13 #[.val (.ref a0), .val (.ref a1), .val (.ref a2), .val (.long v111), .second, .val (.int (1 : Int32))] [(.long v111)])) _
    refine XS.aloadN X106.here hx rfl (hb hby d4_13) rfl rfl ?_
    refine XS.iload X106.here hx rfl (hb hby d4_14) rfl ?_
    show Steps p.tables e below (T106.setTop (mkF m 16 #[.val (.ref a0), .val (.ref a1), .val (.ref a2), .val (.long v111), .second, .val (.int (1 : Int32))] [(.int (1 : Int32)), (.ref a1), (.long v111)])) _
    have hin112 : ¬ ((1 : Int32) < 0 ∨ cl112.slots.size ≤ ((1 : Int32)).toNatClampNeg) := (inb_of S112 ⟨by decide, by decide⟩)
    refine X106.laload hx (j := (1 : Int32)) (v := (.long u1)) (by rw [e106]; exact Ar112.1) (State.isArrayOf_alike hZ.alike Ar112.2.1) Ar112.2.2 hin112 (H112.at hin112 rfl) (g := (mkF m 16 #[.val (.ref a0), .val (.ref a1), .val (.ref a2), .val (.long v111), .second, .val (.int (1 : Int32))] [(.int (1 : Int32)), (.ref a1), (.long v111)])) rfl rfl (hb hby d4_16) _ ?_
    refine XS.aloadN X106.here hx rfl (hb hby d4_17) rfl rfl ?_
    refine XS.iload X106.here hx rfl (hb hby d4_18) rfl ?_
    show Steps p.tables e below (T106.setTop (mkF m 20 #[.val (.ref a0), .val (.ref a1), .val (.ref a2), .val (.long v111), .second, .val (.int (1 : Int32))] [(.int (1 : Int32)), (.ref a2), (.long u1), (.long v111)])) _
    have hin113 : ¬ ((1 : Int32) < 0 ∨ cl113.slots.size ≤ ((1 : Int32)).toNatClampNeg) := (inb_of S113 ⟨by decide, by decide⟩)
    refine X106.laload hx (j := (1 : Int32)) (v := (.long t1)) (by rw [e106]; exact Ar113.1) (State.isArrayOf_alike hZ.alike Ar113.2.1) Ar113.2.2 hin113 (H113.at hin113 rfl) (g := (mkF m 20 #[.val (.ref a0), .val (.ref a1), .val (.ref a2), .val (.long v111), .second, .val (.int (1 : Int32))] [(.int (1 : Int32)), (.ref a2), (.long u1), (.long v111)])) rfl rfl (hb hby d4_20) _ ?_
    refine XS.lsub X106.here hx rfl (hb hby d4_21) rfl ?_
    refine XS.ladd X106.here hx rfl (hb hby d4_22) rfl ?_
    show Steps p.tables e below (T106.setTop (mkF m 23 #[.val (.ref a0), .val (.ref a1), .val (.ref a2), .val (.long v111), .second, .val (.int (1 : Int32))] [(.long (v111 + (u1 - t1)))])) _
    rw [← gv114]
    refine XS.lstoreN X106.here hx rfl (hb hby d4_23) rfl (l' := #[.val (.ref a0), .val (.ref a1), .val (.ref a2), .val (.long v114), .second, .val (.int (1 : Int32))]) rfl ?_
    refine XS.aloadN X106.here hx rfl (hb hby d4_24) rfl rfl ?_
    refine XS.iload X106.here hx rfl (hb hby d4_25) rfl ?_
    show Steps p.tables e below (T106.setTop (mkF m 27 #[.val (.ref a0), .val (.ref a1), .val (.ref a2), .val (.long v114), .second, .val (.int (1 : Int32))] [(.int (1 : Int32)), (.ref a0)])) _
    refine XS.lloadN X106.here hx rfl (hb hby d4_27) rfl ?_
    show Steps p.tables e below (T106.setTop (mkF m 28 #[.val (.ref a0), .val (.ref a1), .val (.ref a2), .val (.long v114), .second, .val (.int (1 : Int32))] [(.long v114), (.int (1 : Int32)), (.ref a0)])) _
    refine X106.ldc2Long hx hown (mvT hZ (hw _ (List.mem_of_getElem? (i := 17) rfl))) (g := (mkF m 28 #[.val (.ref a0), .val (.ref a1), .val (.ref a2), .val (.long v114), .second, .val (.int (1 : Int32))] [(.long v114), (.int (1 : Int32)), (.ref a0)])) rfl (hb hby d4_28) _ ?_
    refine XS.land X106.here hx rfl (hb hby d4_31) rfl ?_
    show Steps p.tables e below (T106.setTop (mkF m 32 #[.val (.ref a0), .val (.ref a1), .val (.ref a2), .val (.long v114), .second, .val (.int (1 : Int32))] [(.long (v114 &&& (4294967295 : Int64))), (.int (1 : Int32)), (.ref a0)])) _
    rw [← gv115]
    show Steps p.tables e below (T106.setTop (mkF m 32 #[.val (.ref a0), .val (.ref a1), .val (.ref a2), .val (.long v114), .second, .val (.int (1 : Int32))] [(.long v115), (.int (1 : Int32)), (.ref a0)])) _
    refine st117 _ ?_
    refine XS.lloadN X117.here hx rfl (hb hby d4_33) rfl ?_
    refine XS.bipush X117.here hx rfl (hb hby d4_34) ?_
    refine XS.lshr X117.here hx rfl (hb hby d4_36) rfl ?_
    show Steps p.tables e below (T117.setTop (mkF m 37 #[.val (.ref a0), .val (.ref a1), .val (.ref a2), .val (.long v114), .second, .val (.int (1 : Int32))] [(.long (v114 >>> ((32 : Int32) &&& 0x3f).toInt64))])) _
    rw [← gv122]
    refine XS.lstoreN X117.here hx rfl (hb hby d4_37) rfl (l' := #[.val (.ref a0), .val (.ref a1), .val (.ref a2), .val (.long v122), .second, .val (.int (1 : Int32))]) rfl ?_
    refine XS.iinc X117.here hx rfl (hb hby d4_38) rfl (l' := #[.val (.ref a0), .val (.ref a1), .val (.ref a2), .val (.long v122), .second, .val (.int (2 : Int32))]) rfl ?_
    refine XS.goto X117.here hx rfl (pc0 := 41) (pc' := 5) rfl (hb hby d4_41) (by decide) (by decide) ?_
    show Steps p.tables e below (T117.setTop (mkF m 5 #[.val (.ref a0), .val (.ref a1), .val (.ref a2), .val (.long v122), .second, .val (.int (2 : Int32))] [])) _
    refine XS.iload X117.here hx rfl (hb hby d4_5) rfl ?_
    refine XS.bipush X117.here hx rfl (hb hby d4_7) ?_
    refine XS.icmpNo X117.here hx rfl (hb hby d4_9) rfl (tlt (by decide : (2 : Int32) < (8 : Int32))).2.1 ?_
    refine XS.lloadN X117.here hx rfl (hb hby d4_12) rfl ?_
    show Steps p.tables e below (T117.setTop (mkF m 13 #[.val (.ref a0), .val (.ref a1), .val (.ref a2), .val (.long v122), .second, .val (.int (2 : Int32))] [(.long v122)])) _
    refine XS.aloadN X117.here hx rfl (hb hby d4_13) rfl rfl ?_
    refine XS.iload X117.here hx rfl (hb hby d4_14) rfl ?_
    show Steps p.tables e below (T117.setTop (mkF m 16 #[.val (.ref a0), .val (.ref a1), .val (.ref a2), .val (.long v122), .second, .val (.int (2 : Int32))] [(.int (2 : Int32)), (.ref a1), (.long v122)])) _
    have hin123 : ¬ ((2 : Int32) < 0 ∨ cl123.slots.size ≤ ((2 : Int32)).toNatClampNeg) := (inb_of S123 ⟨by decide, by decide⟩)
    refine X117.laload hx (j := (2 : Int32)) (v := (.long u2)) (by rw [e117]; exact Ar123.1) (State.isArrayOf_alike hZ.alike Ar123.2.1) Ar123.2.2 hin123 (H123.at hin123 rfl) (g := (mkF m 16 #[.val (.ref a0), .val (.ref a1), .val (.ref a2), .val (.long v122), .second, .val (.int (2 : Int32))] [(.int (2 : Int32)), (.ref a1), (.long v122)])) rfl rfl (hb hby d4_16) _ ?_
    refine XS.aloadN X117.here hx rfl (hb hby d4_17) rfl rfl ?_
    refine XS.iload X117.here hx rfl (hb hby d4_18) rfl ?_
    show Steps p.tables e below (T117.setTop (mkF m 20 #[.val (.ref a0), .val (.ref a1), .val (.ref a2), .val (.long v122), .second, .val (.int (2 : Int32))] [(.int (2 : Int32)), (.ref a2), (.long u2), (.long v122)])) _
    have hin124 : ¬ ((2 : Int32) < 0 ∨ cl124.slots.size ≤ ((2 : Int32)).toNatClampNeg) := (inb_of S124 ⟨by decide, by decide⟩)
    refine X117.laload hx (j := (2 : Int32)) (v := (.long t2)) (by rw [e117]; exact Ar124.1) (State.isArrayOf_alike hZ.alike Ar124.2.1) Ar124.2.2 hin124 (H124.at hin124 rfl) (g := (mkF m 20 #[.val (.ref a0), .val (.ref a1), .val (.ref a2), .val (.long v122), .second, .val (.int (2 : Int32))] [(.int (2 : Int32)), (.ref a2), (.long u2), (.long v122)])) rfl rfl (hb hby d4_20) _ ?_
    refine XS.lsub X117.here hx rfl (hb hby d4_21) rfl ?_
    refine XS.ladd X117.here hx rfl (hb hby d4_22) rfl ?_
    show Steps p.tables e below (T117.setTop (mkF m 23 #[.val (.ref a0), .val (.ref a1), .val (.ref a2), .val (.long v122), .second, .val (.int (2 : Int32))] [(.long (v122 + (u2 - t2)))])) _
    rw [← gv125]
    refine XS.lstoreN X117.here hx rfl (hb hby d4_23) rfl (l' := #[.val (.ref a0), .val (.ref a1), .val (.ref a2), .val (.long v125), .second, .val (.int (2 : Int32))]) rfl ?_
    refine XS.aloadN X117.here hx rfl (hb hby d4_24) rfl rfl ?_
    refine XS.iload X117.here hx rfl (hb hby d4_25) rfl ?_
    show Steps p.tables e below (T117.setTop (mkF m 27 #[.val (.ref a0), .val (.ref a1), .val (.ref a2), .val (.long v125), .second, .val (.int (2 : Int32))] [(.int (2 : Int32)), (.ref a0)])) _
    refine XS.lloadN X117.here hx rfl (hb hby d4_27) rfl ?_
    show Steps p.tables e below (T117.setTop (mkF m 28 #[.val (.ref a0), .val (.ref a1), .val (.ref a2), .val (.long v125), .second, .val (.int (2 : Int32))] [(.long v125), (.int (2 : Int32)), (.ref a0)])) _
    refine X117.ldc2Long hx hown (mvT hZ (hw _ (List.mem_of_getElem? (i := 17) rfl))) (g := (mkF m 28 #[.val (.ref a0), .val (.ref a1), .val (.ref a2), .val (.long v125), .second, .val (.int (2 : Int32))] [(.long v125), (.int (2 : Int32)), (.ref a0)])) rfl (hb hby d4_28) _ ?_
    refine XS.land X117.here hx rfl (hb hby d4_31) rfl ?_
    show Steps p.tables e below (T117.setTop (mkF m 32 #[.val (.ref a0), .val (.ref a1), .val (.ref a2), .val (.long v125), .second, .val (.int (2 : Int32))] [(.long (v125 &&& (4294967295 : Int64))), (.int (2 : Int32)), (.ref a0)])) _
    rw [← gv126]
    show Steps p.tables e below (T117.setTop (mkF m 32 #[.val (.ref a0), .val (.ref a1), .val (.ref a2), .val (.long v125), .second, .val (.int (2 : Int32))] [(.long v126), (.int (2 : Int32)), (.ref a0)])) _
    refine st128 _ ?_
    refine XS.lloadN X128.here hx rfl (hb hby d4_33) rfl ?_
    refine XS.bipush X128.here hx rfl (hb hby d4_34) ?_
    refine XS.lshr X128.here hx rfl (hb hby d4_36) rfl ?_
    show Steps p.tables e below (T128.setTop (mkF m 37 #[.val (.ref a0), .val (.ref a1), .val (.ref a2), .val (.long v125), .second, .val (.int (2 : Int32))] [(.long (v125 >>> ((32 : Int32) &&& 0x3f).toInt64))])) _
    rw [← gv133]
    refine XS.lstoreN X128.here hx rfl (hb hby d4_37) rfl (l' := #[.val (.ref a0), .val (.ref a1), .val (.ref a2), .val (.long v133), .second, .val (.int (2 : Int32))]) rfl ?_
    refine XS.iinc X128.here hx rfl (hb hby d4_38) rfl (l' := #[.val (.ref a0), .val (.ref a1), .val (.ref a2), .val (.long v133), .second, .val (.int (3 : Int32))]) rfl ?_
    refine XS.goto X128.here hx rfl (pc0 := 41) (pc' := 5) rfl (hb hby d4_41) (by decide) (by decide) ?_
    show Steps p.tables e below (T128.setTop (mkF m 5 #[.val (.ref a0), .val (.ref a1), .val (.ref a2), .val (.long v133), .second, .val (.int (3 : Int32))] [])) _
    refine XS.iload X128.here hx rfl (hb hby d4_5) rfl ?_
    refine XS.bipush X128.here hx rfl (hb hby d4_7) ?_
    refine XS.icmpNo X128.here hx rfl (hb hby d4_9) rfl (tlt (by decide : (3 : Int32) < (8 : Int32))).2.1 ?_
    refine XS.lloadN X128.here hx rfl (hb hby d4_12) rfl ?_
    show Steps p.tables e below (T128.setTop (mkF m 13 #[.val (.ref a0), .val (.ref a1), .val (.ref a2), .val (.long v133), .second, .val (.int (3 : Int32))] [(.long v133)])) _
    refine XS.aloadN X128.here hx rfl (hb hby d4_13) rfl rfl ?_
    refine XS.iload X128.here hx rfl (hb hby d4_14) rfl ?_
    show Steps p.tables e below (T128.setTop (mkF m 16 #[.val (.ref a0), .val (.ref a1), .val (.ref a2), .val (.long v133), .second, .val (.int (3 : Int32))] [(.int (3 : Int32)), (.ref a1), (.long v133)])) _
    have hin134 : ¬ ((3 : Int32) < 0 ∨ cl134.slots.size ≤ ((3 : Int32)).toNatClampNeg) := (inb_of S134 ⟨by decide, by decide⟩)
    refine X128.laload hx (j := (3 : Int32)) (v := (.long u3)) (by rw [e128]; exact Ar134.1) (State.isArrayOf_alike hZ.alike Ar134.2.1) Ar134.2.2 hin134 (H134.at hin134 rfl) (g := (mkF m 16 #[.val (.ref a0), .val (.ref a1), .val (.ref a2), .val (.long v133), .second, .val (.int (3 : Int32))] [(.int (3 : Int32)), (.ref a1), (.long v133)])) rfl rfl (hb hby d4_16) _ ?_
    refine XS.aloadN X128.here hx rfl (hb hby d4_17) rfl rfl ?_
    refine XS.iload X128.here hx rfl (hb hby d4_18) rfl ?_
    show Steps p.tables e below (T128.setTop (mkF m 20 #[.val (.ref a0), .val (.ref a1), .val (.ref a2), .val (.long v133), .second, .val (.int (3 : Int32))] [(.int (3 : Int32)), (.ref a2), (.long u3), (.long v133)])) _
    have hin135 : ¬ ((3 : Int32) < 0 ∨ cl135.slots.size ≤ ((3 : Int32)).toNatClampNeg) := (inb_of S135 ⟨by decide, by decide⟩)
    refine X128.laload hx (j := (3 : Int32)) (v := (.long t3)) (by rw [e128]; exact Ar135.1) (State.isArrayOf_alike hZ.alike Ar135.2.1) Ar135.2.2 hin135 (H135.at hin135 rfl) (g := (mkF m 20 #[.val (.ref a0), .val (.ref a1), .val (.ref a2), .val (.long v133), .second, .val (.int (3 : Int32))] [(.int (3 : Int32)), (.ref a2), (.long u3), (.long v133)])) rfl rfl (hb hby d4_20) _ ?_
    refine XS.lsub X128.here hx rfl (hb hby d4_21) rfl ?_
    refine XS.ladd X128.here hx rfl (hb hby d4_22) rfl ?_
    show Steps p.tables e below (T128.setTop (mkF m 23 #[.val (.ref a0), .val (.ref a1), .val (.ref a2), .val (.long v133), .second, .val (.int (3 : Int32))] [(.long (v133 + (u3 - t3)))])) _
    rw [← gv136]
    refine XS.lstoreN X128.here hx rfl (hb hby d4_23) rfl (l' := #[.val (.ref a0), .val (.ref a1), .val (.ref a2), .val (.long v136), .second, .val (.int (3 : Int32))]) rfl ?_
    refine XS.aloadN X128.here hx rfl (hb hby d4_24) rfl rfl ?_
    refine XS.iload X128.here hx rfl (hb hby d4_25) rfl ?_
    show Steps p.tables e below (T128.setTop (mkF m 27 #[.val (.ref a0), .val (.ref a1), .val (.ref a2), .val (.long v136), .second, .val (.int (3 : Int32))] [(.int (3 : Int32)), (.ref a0)])) _
    refine XS.lloadN X128.here hx rfl (hb hby d4_27) rfl ?_
    show Steps p.tables e below (T128.setTop (mkF m 28 #[.val (.ref a0), .val (.ref a1), .val (.ref a2), .val (.long v136), .second, .val (.int (3 : Int32))] [(.long v136), (.int (3 : Int32)), (.ref a0)])) _
    refine X128.ldc2Long hx hown (mvT hZ (hw _ (List.mem_of_getElem? (i := 17) rfl))) (g := (mkF m 28 #[.val (.ref a0), .val (.ref a1), .val (.ref a2), .val (.long v136), .second, .val (.int (3 : Int32))] [(.long v136), (.int (3 : Int32)), (.ref a0)])) rfl (hb hby d4_28) _ ?_
    refine XS.land X128.here hx rfl (hb hby d4_31) rfl ?_
    show Steps p.tables e below (T128.setTop (mkF m 32 #[.val (.ref a0), .val (.ref a1), .val (.ref a2), .val (.long v136), .second, .val (.int (3 : Int32))] [(.long (v136 &&& (4294967295 : Int64))), (.int (3 : Int32)), (.ref a0)])) _
    rw [← gv137]
    show Steps p.tables e below (T128.setTop (mkF m 32 #[.val (.ref a0), .val (.ref a1), .val (.ref a2), .val (.long v136), .second, .val (.int (3 : Int32))] [(.long v137), (.int (3 : Int32)), (.ref a0)])) _
    refine st139 _ ?_
    refine XS.lloadN X139.here hx rfl (hb hby d4_33) rfl ?_
    refine XS.bipush X139.here hx rfl (hb hby d4_34) ?_
    refine XS.lshr X139.here hx rfl (hb hby d4_36) rfl ?_
    show Steps p.tables e below (T139.setTop (mkF m 37 #[.val (.ref a0), .val (.ref a1), .val (.ref a2), .val (.long v136), .second, .val (.int (3 : Int32))] [(.long (v136 >>> ((32 : Int32) &&& 0x3f).toInt64))])) _
    rw [← gv144]
    refine XS.lstoreN X139.here hx rfl (hb hby d4_37) rfl (l' := #[.val (.ref a0), .val (.ref a1), .val (.ref a2), .val (.long v144), .second, .val (.int (3 : Int32))]) rfl ?_
    refine XS.iinc X139.here hx rfl (hb hby d4_38) rfl (l' := #[.val (.ref a0), .val (.ref a1), .val (.ref a2), .val (.long v144), .second, .val (.int (4 : Int32))]) rfl ?_
    refine XS.goto X139.here hx rfl (pc0 := 41) (pc' := 5) rfl (hb hby d4_41) (by decide) (by decide) ?_
    show Steps p.tables e below (T139.setTop (mkF m 5 #[.val (.ref a0), .val (.ref a1), .val (.ref a2), .val (.long v144), .second, .val (.int (4 : Int32))] [])) _
    refine XS.iload X139.here hx rfl (hb hby d4_5) rfl ?_
    refine XS.bipush X139.here hx rfl (hb hby d4_7) ?_
    refine XS.icmpNo X139.here hx rfl (hb hby d4_9) rfl (tlt (by decide : (4 : Int32) < (8 : Int32))).2.1 ?_
    refine XS.lloadN X139.here hx rfl (hb hby d4_12) rfl ?_
    show Steps p.tables e below (T139.setTop (mkF m 13 #[.val (.ref a0), .val (.ref a1), .val (.ref a2), .val (.long v144), .second, .val (.int (4 : Int32))] [(.long v144)])) _
    refine XS.aloadN X139.here hx rfl (hb hby d4_13) rfl rfl ?_
    refine XS.iload X139.here hx rfl (hb hby d4_14) rfl ?_
    show Steps p.tables e below (T139.setTop (mkF m 16 #[.val (.ref a0), .val (.ref a1), .val (.ref a2), .val (.long v144), .second, .val (.int (4 : Int32))] [(.int (4 : Int32)), (.ref a1), (.long v144)])) _
    have hin145 : ¬ ((4 : Int32) < 0 ∨ cl145.slots.size ≤ ((4 : Int32)).toNatClampNeg) := (inb_of S145 ⟨by decide, by decide⟩)
    refine X139.laload hx (j := (4 : Int32)) (v := (.long u4)) (by rw [e139]; exact Ar145.1) (State.isArrayOf_alike hZ.alike Ar145.2.1) Ar145.2.2 hin145 (H145.at hin145 rfl) (g := (mkF m 16 #[.val (.ref a0), .val (.ref a1), .val (.ref a2), .val (.long v144), .second, .val (.int (4 : Int32))] [(.int (4 : Int32)), (.ref a1), (.long v144)])) rfl rfl (hb hby d4_16) _ ?_
    refine XS.aloadN X139.here hx rfl (hb hby d4_17) rfl rfl ?_
    refine XS.iload X139.here hx rfl (hb hby d4_18) rfl ?_
    show Steps p.tables e below (T139.setTop (mkF m 20 #[.val (.ref a0), .val (.ref a1), .val (.ref a2), .val (.long v144), .second, .val (.int (4 : Int32))] [(.int (4 : Int32)), (.ref a2), (.long u4), (.long v144)])) _
    have hin146 : ¬ ((4 : Int32) < 0 ∨ cl146.slots.size ≤ ((4 : Int32)).toNatClampNeg) := (inb_of S146 ⟨by decide, by decide⟩)
    refine X139.laload hx (j := (4 : Int32)) (v := (.long t4)) (by rw [e139]; exact Ar146.1) (State.isArrayOf_alike hZ.alike Ar146.2.1) Ar146.2.2 hin146 (H146.at hin146 rfl) (g := (mkF m 20 #[.val (.ref a0), .val (.ref a1), .val (.ref a2), .val (.long v144), .second, .val (.int (4 : Int32))] [(.int (4 : Int32)), (.ref a2), (.long u4), (.long v144)])) rfl rfl (hb hby d4_20) _ ?_
    refine XS.lsub X139.here hx rfl (hb hby d4_21) rfl ?_
    refine XS.ladd X139.here hx rfl (hb hby d4_22) rfl ?_
    show Steps p.tables e below (T139.setTop (mkF m 23 #[.val (.ref a0), .val (.ref a1), .val (.ref a2), .val (.long v144), .second, .val (.int (4 : Int32))] [(.long (v144 + (u4 - t4)))])) _
    rw [← gv147]
    refine XS.lstoreN X139.here hx rfl (hb hby d4_23) rfl (l' := #[.val (.ref a0), .val (.ref a1), .val (.ref a2), .val (.long v147), .second, .val (.int (4 : Int32))]) rfl ?_
    refine XS.aloadN X139.here hx rfl (hb hby d4_24) rfl rfl ?_
    refine XS.iload X139.here hx rfl (hb hby d4_25) rfl ?_
    show Steps p.tables e below (T139.setTop (mkF m 27 #[.val (.ref a0), .val (.ref a1), .val (.ref a2), .val (.long v147), .second, .val (.int (4 : Int32))] [(.int (4 : Int32)), (.ref a0)])) _
    refine XS.lloadN X139.here hx rfl (hb hby d4_27) rfl ?_
    show Steps p.tables e below (T139.setTop (mkF m 28 #[.val (.ref a0), .val (.ref a1), .val (.ref a2), .val (.long v147), .second, .val (.int (4 : Int32))] [(.long v147), (.int (4 : Int32)), (.ref a0)])) _
    refine X139.ldc2Long hx hown (mvT hZ (hw _ (List.mem_of_getElem? (i := 17) rfl))) (g := (mkF m 28 #[.val (.ref a0), .val (.ref a1), .val (.ref a2), .val (.long v147), .second, .val (.int (4 : Int32))] [(.long v147), (.int (4 : Int32)), (.ref a0)])) rfl (hb hby d4_28) _ ?_
    refine XS.land X139.here hx rfl (hb hby d4_31) rfl ?_
    show Steps p.tables e below (T139.setTop (mkF m 32 #[.val (.ref a0), .val (.ref a1), .val (.ref a2), .val (.long v147), .second, .val (.int (4 : Int32))] [(.long (v147 &&& (4294967295 : Int64))), (.int (4 : Int32)), (.ref a0)])) _
    rw [← gv148]
    show Steps p.tables e below (T139.setTop (mkF m 32 #[.val (.ref a0), .val (.ref a1), .val (.ref a2), .val (.long v147), .second, .val (.int (4 : Int32))] [(.long v148), (.int (4 : Int32)), (.ref a0)])) _
    refine st150 _ ?_
    refine XS.lloadN X150.here hx rfl (hb hby d4_33) rfl ?_
    refine XS.bipush X150.here hx rfl (hb hby d4_34) ?_
    refine XS.lshr X150.here hx rfl (hb hby d4_36) rfl ?_
    show Steps p.tables e below (T150.setTop (mkF m 37 #[.val (.ref a0), .val (.ref a1), .val (.ref a2), .val (.long v147), .second, .val (.int (4 : Int32))] [(.long (v147 >>> ((32 : Int32) &&& 0x3f).toInt64))])) _
    rw [← gv155]
    refine XS.lstoreN X150.here hx rfl (hb hby d4_37) rfl (l' := #[.val (.ref a0), .val (.ref a1), .val (.ref a2), .val (.long v155), .second, .val (.int (4 : Int32))]) rfl ?_
    refine XS.iinc X150.here hx rfl (hb hby d4_38) rfl (l' := #[.val (.ref a0), .val (.ref a1), .val (.ref a2), .val (.long v155), .second, .val (.int (5 : Int32))]) rfl ?_
    refine XS.goto X150.here hx rfl (pc0 := 41) (pc' := 5) rfl (hb hby d4_41) (by decide) (by decide) ?_
    show Steps p.tables e below (T150.setTop (mkF m 5 #[.val (.ref a0), .val (.ref a1), .val (.ref a2), .val (.long v155), .second, .val (.int (5 : Int32))] [])) _
    refine XS.iload X150.here hx rfl (hb hby d4_5) rfl ?_
    refine XS.bipush X150.here hx rfl (hb hby d4_7) ?_
    refine XS.icmpNo X150.here hx rfl (hb hby d4_9) rfl (tlt (by decide : (5 : Int32) < (8 : Int32))).2.1 ?_
    refine XS.lloadN X150.here hx rfl (hb hby d4_12) rfl ?_
    show Steps p.tables e below (T150.setTop (mkF m 13 #[.val (.ref a0), .val (.ref a1), .val (.ref a2), .val (.long v155), .second, .val (.int (5 : Int32))] [(.long v155)])) _
    refine XS.aloadN X150.here hx rfl (hb hby d4_13) rfl rfl ?_
    refine XS.iload X150.here hx rfl (hb hby d4_14) rfl ?_
    show Steps p.tables e below (T150.setTop (mkF m 16 #[.val (.ref a0), .val (.ref a1), .val (.ref a2), .val (.long v155), .second, .val (.int (5 : Int32))] [(.int (5 : Int32)), (.ref a1), (.long v155)])) _
    have hin156 : ¬ ((5 : Int32) < 0 ∨ cl156.slots.size ≤ ((5 : Int32)).toNatClampNeg) := (inb_of S156 ⟨by decide, by decide⟩)
    refine X150.laload hx (j := (5 : Int32)) (v := (.long u5)) (by rw [e150]; exact Ar156.1) (State.isArrayOf_alike hZ.alike Ar156.2.1) Ar156.2.2 hin156 (H156.at hin156 rfl) (g := (mkF m 16 #[.val (.ref a0), .val (.ref a1), .val (.ref a2), .val (.long v155), .second, .val (.int (5 : Int32))] [(.int (5 : Int32)), (.ref a1), (.long v155)])) rfl rfl (hb hby d4_16) _ ?_
    refine XS.aloadN X150.here hx rfl (hb hby d4_17) rfl rfl ?_
    refine XS.iload X150.here hx rfl (hb hby d4_18) rfl ?_
    show Steps p.tables e below (T150.setTop (mkF m 20 #[.val (.ref a0), .val (.ref a1), .val (.ref a2), .val (.long v155), .second, .val (.int (5 : Int32))] [(.int (5 : Int32)), (.ref a2), (.long u5), (.long v155)])) _
    have hin157 : ¬ ((5 : Int32) < 0 ∨ cl157.slots.size ≤ ((5 : Int32)).toNatClampNeg) := (inb_of S157 ⟨by decide, by decide⟩)
    refine X150.laload hx (j := (5 : Int32)) (v := (.long t5)) (by rw [e150]; exact Ar157.1) (State.isArrayOf_alike hZ.alike Ar157.2.1) Ar157.2.2 hin157 (H157.at hin157 rfl) (g := (mkF m 20 #[.val (.ref a0), .val (.ref a1), .val (.ref a2), .val (.long v155), .second, .val (.int (5 : Int32))] [(.int (5 : Int32)), (.ref a2), (.long u5), (.long v155)])) rfl rfl (hb hby d4_20) _ ?_
    refine XS.lsub X150.here hx rfl (hb hby d4_21) rfl ?_
    refine XS.ladd X150.here hx rfl (hb hby d4_22) rfl ?_
    show Steps p.tables e below (T150.setTop (mkF m 23 #[.val (.ref a0), .val (.ref a1), .val (.ref a2), .val (.long v155), .second, .val (.int (5 : Int32))] [(.long (v155 + (u5 - t5)))])) _
    rw [← gv158]
    refine XS.lstoreN X150.here hx rfl (hb hby d4_23) rfl (l' := #[.val (.ref a0), .val (.ref a1), .val (.ref a2), .val (.long v158), .second, .val (.int (5 : Int32))]) rfl ?_
    refine XS.aloadN X150.here hx rfl (hb hby d4_24) rfl rfl ?_
    refine XS.iload X150.here hx rfl (hb hby d4_25) rfl ?_
    show Steps p.tables e below (T150.setTop (mkF m 27 #[.val (.ref a0), .val (.ref a1), .val (.ref a2), .val (.long v158), .second, .val (.int (5 : Int32))] [(.int (5 : Int32)), (.ref a0)])) _
    refine XS.lloadN X150.here hx rfl (hb hby d4_27) rfl ?_
    show Steps p.tables e below (T150.setTop (mkF m 28 #[.val (.ref a0), .val (.ref a1), .val (.ref a2), .val (.long v158), .second, .val (.int (5 : Int32))] [(.long v158), (.int (5 : Int32)), (.ref a0)])) _
    refine X150.ldc2Long hx hown (mvT hZ (hw _ (List.mem_of_getElem? (i := 17) rfl))) (g := (mkF m 28 #[.val (.ref a0), .val (.ref a1), .val (.ref a2), .val (.long v158), .second, .val (.int (5 : Int32))] [(.long v158), (.int (5 : Int32)), (.ref a0)])) rfl (hb hby d4_28) _ ?_
    refine XS.land X150.here hx rfl (hb hby d4_31) rfl ?_
    show Steps p.tables e below (T150.setTop (mkF m 32 #[.val (.ref a0), .val (.ref a1), .val (.ref a2), .val (.long v158), .second, .val (.int (5 : Int32))] [(.long (v158 &&& (4294967295 : Int64))), (.int (5 : Int32)), (.ref a0)])) _
    rw [← gv159]
    show Steps p.tables e below (T150.setTop (mkF m 32 #[.val (.ref a0), .val (.ref a1), .val (.ref a2), .val (.long v158), .second, .val (.int (5 : Int32))] [(.long v159), (.int (5 : Int32)), (.ref a0)])) _
    refine st161 _ ?_
    refine XS.lloadN X161.here hx rfl (hb hby d4_33) rfl ?_
    refine XS.bipush X161.here hx rfl (hb hby d4_34) ?_
    refine XS.lshr X161.here hx rfl (hb hby d4_36) rfl ?_
    show Steps p.tables e below (T161.setTop (mkF m 37 #[.val (.ref a0), .val (.ref a1), .val (.ref a2), .val (.long v158), .second, .val (.int (5 : Int32))] [(.long (v158 >>> ((32 : Int32) &&& 0x3f).toInt64))])) _
    rw [← gv166]
    refine XS.lstoreN X161.here hx rfl (hb hby d4_37) rfl (l' := #[.val (.ref a0), .val (.ref a1), .val (.ref a2), .val (.long v166), .second, .val (.int (5 : Int32))]) rfl ?_
    refine XS.iinc X161.here hx rfl (hb hby d4_38) rfl (l' := #[.val (.ref a0), .val (.ref a1), .val (.ref a2), .val (.long v166), .second, .val (.int (6 : Int32))]) rfl ?_
    refine XS.goto X161.here hx rfl (pc0 := 41) (pc' := 5) rfl (hb hby d4_41) (by decide) (by decide) ?_
    show Steps p.tables e below (T161.setTop (mkF m 5 #[.val (.ref a0), .val (.ref a1), .val (.ref a2), .val (.long v166), .second, .val (.int (6 : Int32))] [])) _
    refine XS.iload X161.here hx rfl (hb hby d4_5) rfl ?_
    refine XS.bipush X161.here hx rfl (hb hby d4_7) ?_
    refine XS.icmpNo X161.here hx rfl (hb hby d4_9) rfl (tlt (by decide : (6 : Int32) < (8 : Int32))).2.1 ?_
    refine XS.lloadN X161.here hx rfl (hb hby d4_12) rfl ?_
    show Steps p.tables e below (T161.setTop (mkF m 13 #[.val (.ref a0), .val (.ref a1), .val (.ref a2), .val (.long v166), .second, .val (.int (6 : Int32))] [(.long v166)])) _
    refine XS.aloadN X161.here hx rfl (hb hby d4_13) rfl rfl ?_
    refine XS.iload X161.here hx rfl (hb hby d4_14) rfl ?_
    show Steps p.tables e below (T161.setTop (mkF m 16 #[.val (.ref a0), .val (.ref a1), .val (.ref a2), .val (.long v166), .second, .val (.int (6 : Int32))] [(.int (6 : Int32)), (.ref a1), (.long v166)])) _
    have hin167 : ¬ ((6 : Int32) < 0 ∨ cl167.slots.size ≤ ((6 : Int32)).toNatClampNeg) := (inb_of S167 ⟨by decide, by decide⟩)
    refine X161.laload hx (j := (6 : Int32)) (v := (.long u6)) (by rw [e161]; exact Ar167.1) (State.isArrayOf_alike hZ.alike Ar167.2.1) Ar167.2.2 hin167 (H167.at hin167 rfl) (g := (mkF m 16 #[.val (.ref a0), .val (.ref a1), .val (.ref a2), .val (.long v166), .second, .val (.int (6 : Int32))] [(.int (6 : Int32)), (.ref a1), (.long v166)])) rfl rfl (hb hby d4_16) _ ?_
    refine XS.aloadN X161.here hx rfl (hb hby d4_17) rfl rfl ?_
    refine XS.iload X161.here hx rfl (hb hby d4_18) rfl ?_
    show Steps p.tables e below (T161.setTop (mkF m 20 #[.val (.ref a0), .val (.ref a1), .val (.ref a2), .val (.long v166), .second, .val (.int (6 : Int32))] [(.int (6 : Int32)), (.ref a2), (.long u6), (.long v166)])) _
    have hin168 : ¬ ((6 : Int32) < 0 ∨ cl168.slots.size ≤ ((6 : Int32)).toNatClampNeg) := (inb_of S168 ⟨by decide, by decide⟩)
    refine X161.laload hx (j := (6 : Int32)) (v := (.long t6)) (by rw [e161]; exact Ar168.1) (State.isArrayOf_alike hZ.alike Ar168.2.1) Ar168.2.2 hin168 (H168.at hin168 rfl) (g := (mkF m 20 #[.val (.ref a0), .val (.ref a1), .val (.ref a2), .val (.long v166), .second, .val (.int (6 : Int32))] [(.int (6 : Int32)), (.ref a2), (.long u6), (.long v166)])) rfl rfl (hb hby d4_20) _ ?_
    refine XS.lsub X161.here hx rfl (hb hby d4_21) rfl ?_
    refine XS.ladd X161.here hx rfl (hb hby d4_22) rfl ?_
    show Steps p.tables e below (T161.setTop (mkF m 23 #[.val (.ref a0), .val (.ref a1), .val (.ref a2), .val (.long v166), .second, .val (.int (6 : Int32))] [(.long (v166 + (u6 - t6)))])) _
    rw [← gv169]
    refine XS.lstoreN X161.here hx rfl (hb hby d4_23) rfl (l' := #[.val (.ref a0), .val (.ref a1), .val (.ref a2), .val (.long v169), .second, .val (.int (6 : Int32))]) rfl ?_
    refine XS.aloadN X161.here hx rfl (hb hby d4_24) rfl rfl ?_
    refine XS.iload X161.here hx rfl (hb hby d4_25) rfl ?_
    show Steps p.tables e below (T161.setTop (mkF m 27 #[.val (.ref a0), .val (.ref a1), .val (.ref a2), .val (.long v169), .second, .val (.int (6 : Int32))] [(.int (6 : Int32)), (.ref a0)])) _
    refine XS.lloadN X161.here hx rfl (hb hby d4_27) rfl ?_
    show Steps p.tables e below (T161.setTop (mkF m 28 #[.val (.ref a0), .val (.ref a1), .val (.ref a2), .val (.long v169), .second, .val (.int (6 : Int32))] [(.long v169), (.int (6 : Int32)), (.ref a0)])) _
    refine X161.ldc2Long hx hown (mvT hZ (hw _ (List.mem_of_getElem? (i := 17) rfl))) (g := (mkF m 28 #[.val (.ref a0), .val (.ref a1), .val (.ref a2), .val (.long v169), .second, .val (.int (6 : Int32))] [(.long v169), (.int (6 : Int32)), (.ref a0)])) rfl (hb hby d4_28) _ ?_
    refine XS.land X161.here hx rfl (hb hby d4_31) rfl ?_
    show Steps p.tables e below (T161.setTop (mkF m 32 #[.val (.ref a0), .val (.ref a1), .val (.ref a2), .val (.long v169), .second, .val (.int (6 : Int32))] [(.long (v169 &&& (4294967295 : Int64))), (.int (6 : Int32)), (.ref a0)])) _
    rw [← gv170]
    show Steps p.tables e below (T161.setTop (mkF m 32 #[.val (.ref a0), .val (.ref a1), .val (.ref a2), .val (.long v169), .second, .val (.int (6 : Int32))] [(.long v170), (.int (6 : Int32)), (.ref a0)])) _
    refine st172 _ ?_
    refine XS.lloadN X172.here hx rfl (hb hby d4_33) rfl ?_
    refine XS.bipush X172.here hx rfl (hb hby d4_34) ?_
    refine XS.lshr X172.here hx rfl (hb hby d4_36) rfl ?_
    show Steps p.tables e below (T172.setTop (mkF m 37 #[.val (.ref a0), .val (.ref a1), .val (.ref a2), .val (.long v169), .second, .val (.int (6 : Int32))] [(.long (v169 >>> ((32 : Int32) &&& 0x3f).toInt64))])) _
    rw [← gv177]
    refine XS.lstoreN X172.here hx rfl (hb hby d4_37) rfl (l' := #[.val (.ref a0), .val (.ref a1), .val (.ref a2), .val (.long v177), .second, .val (.int (6 : Int32))]) rfl ?_
    refine XS.iinc X172.here hx rfl (hb hby d4_38) rfl (l' := #[.val (.ref a0), .val (.ref a1), .val (.ref a2), .val (.long v177), .second, .val (.int (7 : Int32))]) rfl ?_
    refine XS.goto X172.here hx rfl (pc0 := 41) (pc' := 5) rfl (hb hby d4_41) (by decide) (by decide) ?_
    show Steps p.tables e below (T172.setTop (mkF m 5 #[.val (.ref a0), .val (.ref a1), .val (.ref a2), .val (.long v177), .second, .val (.int (7 : Int32))] [])) _
    refine XS.iload X172.here hx rfl (hb hby d4_5) rfl ?_
    refine XS.bipush X172.here hx rfl (hb hby d4_7) ?_
    refine XS.icmpNo X172.here hx rfl (hb hby d4_9) rfl (tlt (by decide : (7 : Int32) < (8 : Int32))).2.1 ?_
    refine XS.lloadN X172.here hx rfl (hb hby d4_12) rfl ?_
    show Steps p.tables e below (T172.setTop (mkF m 13 #[.val (.ref a0), .val (.ref a1), .val (.ref a2), .val (.long v177), .second, .val (.int (7 : Int32))] [(.long v177)])) _
    refine XS.aloadN X172.here hx rfl (hb hby d4_13) rfl rfl ?_
    refine XS.iload X172.here hx rfl (hb hby d4_14) rfl ?_
    show Steps p.tables e below (T172.setTop (mkF m 16 #[.val (.ref a0), .val (.ref a1), .val (.ref a2), .val (.long v177), .second, .val (.int (7 : Int32))] [(.int (7 : Int32)), (.ref a1), (.long v177)])) _
    have hin178 : ¬ ((7 : Int32) < 0 ∨ cl178.slots.size ≤ ((7 : Int32)).toNatClampNeg) := (inb_of S178 ⟨by decide, by decide⟩)
    refine X172.laload hx (j := (7 : Int32)) (v := (.long u7)) (by rw [e172]; exact Ar178.1) (State.isArrayOf_alike hZ.alike Ar178.2.1) Ar178.2.2 hin178 (H178.at hin178 rfl) (g := (mkF m 16 #[.val (.ref a0), .val (.ref a1), .val (.ref a2), .val (.long v177), .second, .val (.int (7 : Int32))] [(.int (7 : Int32)), (.ref a1), (.long v177)])) rfl rfl (hb hby d4_16) _ ?_
    refine XS.aloadN X172.here hx rfl (hb hby d4_17) rfl rfl ?_
    refine XS.iload X172.here hx rfl (hb hby d4_18) rfl ?_
    show Steps p.tables e below (T172.setTop (mkF m 20 #[.val (.ref a0), .val (.ref a1), .val (.ref a2), .val (.long v177), .second, .val (.int (7 : Int32))] [(.int (7 : Int32)), (.ref a2), (.long u7), (.long v177)])) _
    have hin179 : ¬ ((7 : Int32) < 0 ∨ cl179.slots.size ≤ ((7 : Int32)).toNatClampNeg) := (inb_of S179 ⟨by decide, by decide⟩)
    refine X172.laload hx (j := (7 : Int32)) (v := (.long t7)) (by rw [e172]; exact Ar179.1) (State.isArrayOf_alike hZ.alike Ar179.2.1) Ar179.2.2 hin179 (H179.at hin179 rfl) (g := (mkF m 20 #[.val (.ref a0), .val (.ref a1), .val (.ref a2), .val (.long v177), .second, .val (.int (7 : Int32))] [(.int (7 : Int32)), (.ref a2), (.long u7), (.long v177)])) rfl rfl (hb hby d4_20) _ ?_
    refine XS.lsub X172.here hx rfl (hb hby d4_21) rfl ?_
    refine XS.ladd X172.here hx rfl (hb hby d4_22) rfl ?_
    show Steps p.tables e below (T172.setTop (mkF m 23 #[.val (.ref a0), .val (.ref a1), .val (.ref a2), .val (.long v177), .second, .val (.int (7 : Int32))] [(.long (v177 + (u7 - t7)))])) _
    rw [← gv180]
    refine XS.lstoreN X172.here hx rfl (hb hby d4_23) rfl (l' := #[.val (.ref a0), .val (.ref a1), .val (.ref a2), .val (.long v180), .second, .val (.int (7 : Int32))]) rfl ?_
    refine XS.aloadN X172.here hx rfl (hb hby d4_24) rfl rfl ?_
    refine XS.iload X172.here hx rfl (hb hby d4_25) rfl ?_
    show Steps p.tables e below (T172.setTop (mkF m 27 #[.val (.ref a0), .val (.ref a1), .val (.ref a2), .val (.long v180), .second, .val (.int (7 : Int32))] [(.int (7 : Int32)), (.ref a0)])) _
    refine XS.lloadN X172.here hx rfl (hb hby d4_27) rfl ?_
    show Steps p.tables e below (T172.setTop (mkF m 28 #[.val (.ref a0), .val (.ref a1), .val (.ref a2), .val (.long v180), .second, .val (.int (7 : Int32))] [(.long v180), (.int (7 : Int32)), (.ref a0)])) _
    refine X172.ldc2Long hx hown (mvT hZ (hw _ (List.mem_of_getElem? (i := 17) rfl))) (g := (mkF m 28 #[.val (.ref a0), .val (.ref a1), .val (.ref a2), .val (.long v180), .second, .val (.int (7 : Int32))] [(.long v180), (.int (7 : Int32)), (.ref a0)])) rfl (hb hby d4_28) _ ?_
    refine XS.land X172.here hx rfl (hb hby d4_31) rfl ?_
    show Steps p.tables e below (T172.setTop (mkF m 32 #[.val (.ref a0), .val (.ref a1), .val (.ref a2), .val (.long v180), .second, .val (.int (7 : Int32))] [(.long (v180 &&& (4294967295 : Int64))), (.int (7 : Int32)), (.ref a0)])) _
    rw [← gv181]
    show Steps p.tables e below (T172.setTop (mkF m 32 #[.val (.ref a0), .val (.ref a1), .val (.ref a2), .val (.long v180), .second, .val (.int (7 : Int32))] [(.long v181), (.int (7 : Int32)), (.ref a0)])) _
    refine st183 _ ?_
    refine XS.lloadN X183.here hx rfl (hb hby d4_33) rfl ?_
    refine XS.bipush X183.here hx rfl (hb hby d4_34) ?_
    refine XS.lshr X183.here hx rfl (hb hby d4_36) rfl ?_
    show Steps p.tables e below (T183.setTop (mkF m 37 #[.val (.ref a0), .val (.ref a1), .val (.ref a2), .val (.long v180), .second, .val (.int (7 : Int32))] [(.long (v180 >>> ((32 : Int32) &&& 0x3f).toInt64))])) _
    rw [← gv188]
    refine XS.lstoreN X183.here hx rfl (hb hby d4_37) rfl (l' := #[.val (.ref a0), .val (.ref a1), .val (.ref a2), .val (.long v188), .second, .val (.int (7 : Int32))]) rfl ?_
    refine XS.iinc X183.here hx rfl (hb hby d4_38) rfl (l' := #[.val (.ref a0), .val (.ref a1), .val (.ref a2), .val (.long v188), .second, .val (.int (8 : Int32))]) rfl ?_
    refine XS.goto X183.here hx rfl (pc0 := 41) (pc' := 5) rfl (hb hby d4_41) (by decide) (by decide) ?_
    show Steps p.tables e below (T183.setTop (mkF m 5 #[.val (.ref a0), .val (.ref a1), .val (.ref a2), .val (.long v188), .second, .val (.int (8 : Int32))] [])) _
    refine XS.iload X183.here hx rfl (hb hby d4_5) rfl ?_
    refine XS.bipush X183.here hx rfl (hb hby d4_7) ?_
    refine XS.icmpYes X183.here hx rfl (pc0 := 9) (pc' := 44) rfl (hb hby d4_9) rfl (flt (by decide : ¬ ((8 : Int32) < (8 : Int32)))).2.1 (by decide) (by decide) ?_
    refine XS.lloadN X183.here hx rfl (hb hby d4_44) rfl ?_
    show Steps p.tables e below (T183.setTop (mkF m 45 #[.val (.ref a0), .val (.ref a1), .val (.ref a2), .val (.long v188), .second, .val (.int (8 : Int32))] [(.long v188)])) _
    refine XS.lconst X183.here hx rfl (hb hby d4_45) ?_
    refine XS.lcmp X183.here hx rfl (hb hby d4_46) rfl ?_
    exact k
  by_cases hc190 : v188 = (0 : Int64)
  · obtain ⟨fs, hr, hrun, hended, hW, hsame⟩ := X183.leave (v := none) (fun _ => rfl)
    refine ⟨_, _, pre189 _ ?_, hrun, hended, _, _, rfl, ?_, ⟨_, rfl⟩, hW, hsame.mono (by decide) (by decide)⟩
    · show Steps p.tables e below (T183.setTop (mkF m 47 #[.val (.ref a0), .val (.ref a1), .val (.ref a2), .val (.long v188), .second, .val (.int (8 : Int32))] [(.int (lcmpW v188 (0 : Int64)))])) _
      refine XS.ifYes X183.here hx rfl (pc0 := 47) (pc' := 54) rfl (hb hby d4_47) rfl ((if0 _ _).trans (teq ((lw_eq v188 (0 : Int64)).mpr hc190)).1) (by decide) (by decide) ?_
      show Steps p.tables e below (T183.setTop (mkF m 54 #[.val (.ref a0), .val (.ref a1), .val (.ref a2), .val (.long v188), .second, .val (.int (8 : Int32))] [])) _
      exact X183.returnOut hx Bd.returns (hb hby d4_54) hr
    · show Q_rm_subtract_d Z a0 a1 a2 wp kp kk0 kk1 kk2 x0 x1 x2 x3 x4 x5 x6 x7 u0 u1 u2 u3 u4 u5 u6 u7 t0 t1 t2 t3 t4 t5 t6 t7 h0 n0 _ T183.heap _
      rw [e183]
      exact ⟨rfl, N183, K183, v104, v115, v126, v137, v148, v159, v170, v181, V183b, ⟨rv111, rv122, rv133, rv144, rv155, rv166, rv177, rv188⟩, own_fin_sub0 hW_a1 hW_a2 hR_a1 hR_a2 (own_telS qv111 qv122 qv133 qv144 qv155 qv166 qv177 qv188) hc190⟩
  · obtain ⟨_, _, ⟨T191, L191, k191, n191⟩, -, X191, ⟨Lc191, hQ191, l191, y191, z191⟩, st191⟩ := Jvm.LawKit.callS X183 hx (y := (⟨"com/example/serialroute/serialroute/core/P256Field", "addP", "([J)V"⟩ : MethodName)) hown (mvT hZ (hw _ (List.mem_of_getElem? (i := 36) rfl))) (mvT hZ (hw _ (List.mem_of_getElem? (i := 37) rfl))) (mvT hZ (hw _ (List.mem_of_getElem? (i := 15) rfl))) (mvT hZ (hw _ (List.mem_of_getElem? (i := 38) rfl))) (by decide) (backOf (W := 0) (rm_addP l Z aw hw [] a0 wp kp kk0 v104 v115 v126 v137 v148 v159 v170 v181 h183 n0 Z183 f184 f185 V183b g0 ne_wp_a0 ⟨rv111, rv122, rv133, rv144, rv155, rv166, rv177, rv188⟩) hZ (hw _ (List.mem_of_getElem? (i := 38) rfl)) (hw _ (List.mem_of_getElem? (i := 15) rfl)) (by decide) (by decide)) (g := (mkF m 51 #[.val (.ref a0), .val (.ref a1), .val (.ref a2), .val (.long v188), .second, .val (.int (8 : Int32))] [(.ref a0)])) rfl (by rw [hml]; rfl) (argsL := [(.ref a0)]) (rest := []) (lenOf pd_3 rfl) rfl (by show 2 * 0 + _ ≤ _; exact Nat.le_of_eq rfl) (hb hby d4_51) (fun _ _ => ⟨rfl, e183, (by decide : 0 + 0 ≤ _), (by decide : 0 + 0 ≤ _)⟩)
    dsimp only [Pt.U, Pt.locs, Pt.cells, Pt.slots] at X191 l191 y191 z191 st191 hQ191
    rw [l191, y191, z191] at X191
    obtain ⟨rfl, N191q, K191q, o191_0, o191_1, o191_2, o191_3, o191_4, o191_5, o191_6, o191_7, c191, V191q, R191q, Q191q, C191q⟩ := hQ191
    have N191 := Fr.app N183 N191q
    have f192 := own_sta_keep f184 K191q (nsS V183b.nostat ns0)
    have f193 := f185.keep K191q (ninS ne_wp_a0 nin0)
    have f194 := f186.keep K191q (ninS (Ne.symm ne_a0_a1) nin0)
    have f195 := f187.keep K191q (ninS (Ne.symm ne_a0_a2) nin0)
    have Z191 : n0 ≤ T191.heap.size := Nat.le_trans Z183 K191q.1
    have K191 : Keep h0 T191.heap [a0] := K183.trans K191q (allS (Or.inl (List.mem_of_getElem? (i := 0) rfl)) all0)
    obtain ⟨fs, hr, hrun, hended, hW, hsame⟩ := X191.leave (v := none) (fun _ => rfl)
    refine ⟨_, _, pre189 _ ?_, hrun, hended, _, _, rfl, ?_, ⟨_, rfl⟩, hW, hsame.mono (by decide) (by decide)⟩
    · show Steps p.tables e below (T183.setTop (mkF m 47 #[.val (.ref a0), .val (.ref a1), .val (.ref a2), .val (.long v188), .second, .val (.int (8 : Int32))] [(.int (lcmpW v188 (0 : Int64)))])) _
      refine XS.ifNo X183.here hx rfl (hb hby d4_47) rfl ((if0 _ _).trans (feq (fun q => hc190 ((lw_eq v188 (0 : Int64)).mp q))).1) ?_
      refine XS.aloadN X183.here hx rfl (hb hby d4_50) rfl rfl ?_
      show Steps p.tables e below (T183.setTop (mkF m 51 #[.val (.ref a0), .val (.ref a1), .val (.ref a2), .val (.long v188), .second, .val (.int (8 : Int32))] [(.ref a0)])) _
      refine st191 _ ?_
      show Steps p.tables e below (T191.setTop (mkF m 54 #[.val (.ref a0), .val (.ref a1), .val (.ref a2), .val (.long v188), .second, .val (.int (8 : Int32))] [])) _
      exact X191.returnOut hx Bd.returns (hb hby d4_54) hr
    · show Q_rm_subtract_d Z a0 a1 a2 wp kp kk0 kk1 kk2 x0 x1 x2 x3 x4 x5 x6 x7 u0 u1 u2 u3 u4 u5 u6 u7 t0 t1 t2 t3 t4 t5 t6 t7 h0 n0 _ T191.heap _
      exact ⟨rfl, N191, K191, o191_0, o191_1, o191_2, o191_3, o191_4, o191_5, o191_6, o191_7, V191q, R191q, own_fin_sub1 hW_a1 hW_a2 hR_a1 hR_a2 ⟨rv111, rv122, rv133, rv144, rv155, rv166, rv177, rv188⟩ (own_telS qv111 qv122 qv133 qv144 qv155 qv166 qv177 qv188) hcv188 hc190 R191q Q191q C191q⟩
theorem ef_rm_subtract_a (m : MethodId) (x0 : Addr) (x1 : Addr) (x2 : Addr) : entryFrame m #[(.ref x0), (.ref x1), (.ref x2)] 6 = mkF m 0 #[.val (.ref x0), .val (.ref x1), .val (.ref x2), .unset, .unset, .unset] [] := by first | (simp [entryFrame, mkF, argsToLocals, Value.category]; done) | rfl
def Q_rm_subtract_a (Z : State) (a0 : Addr) (a2 : Addr) (wp : Addr) (kp : ClassId) (kk0 : ClassId) (kk2 : ClassId) (u0 : Int64) (u1 : Int64) (u2 : Int64) (u3 : Int64) (u4 : Int64) (u5 : Int64) (u6 : Int64) (u7 : Int64) (t0 : Int64) (t1 : Int64) (t2 : Int64) (t3 : Int64) (t4 : Int64) (t5 : Int64) (t6 : Int64) (t7 : Int64) (h0 : Heap) (n0 : Nat) (v : Option Value) (h : Heap) (L : List Loc) : Prop := v = none ∧ Fr n0 L ∧ Keep h0 h [a0] ∧ ∃ (o0 o1 o2 o3 o4 o5 o6 o7 : Int64), Arv Z h a0 kk0 .long (8 : Int32) [(.long o0), (.long o1), (.long o2), (.long o3), (.long o4), (.long o5), (.long o6), (.long o7)] (.long (0 : Int64)) ∧ own_RR o0 o1 o2 o3 o4 o5 o6 o7 ∧ own_W o0 o1 o2 o3 o4 o5 o6 o7 < own_P ∧ (own_W o0 o1 o2 o3 o4 o5 o6 o7 = own_W u0 u1 u2 u3 u4 u5 u6 u7 - own_W t0 t1 t2 t3 t4 t5 t6 t7 ∨ own_W o0 o1 o2 o3 o4 o5 o6 o7 = own_W u0 u1 u2 u3 u4 u5 u6 u7 - own_W t0 t1 t2 t3 t4 t5 t6 t7 + own_P)
set_option maxRecDepth 65536 in
set_option maxHeartbeats 40000000 in
theorem rm_subtract_a (l : Launch) (Z : State) (aw : Array Value) (hw : ∀ d ∈ tables_1, d.before aw Z = true) (ws : List Jvm.Cond) (a0 : Addr) (a2 : Addr) (wp : Addr) (kp : ClassId) (kk0 : ClassId) (kk2 : ClassId) (u0 : Int64) (u1 : Int64) (u2 : Int64) (u3 : Int64) (u4 : Int64) (u5 : Int64) (u6 : Int64) (u7 : Int64) (t0 : Int64) (t1 : Int64) (t2 : Int64) (t3 : Int64) (t4 : Int64) (t5 : Int64) (t6 : Int64) (t7 : Int64) (h0 : Heap) (n0 : Nat) (Z0 : n0 ≤ h0.size) (SP : Sta Z h0 "com/example/serialroute/serialroute/core/P256Field" "P_WORDS" "[J" (.ref wp)) (VP : Arv Z h0 wp kp .long (8 : Int32) [(.long (4294967295 : Int64)), (.long (4294967295 : Int64)), (.long (4294967295 : Int64)), (.long (0 : Int64)), (.long (0 : Int64)), (.long (0 : Int64)), (.long (1 : Int64)), (.long (4294967295 : Int64))] (.long (0 : Int64))) (Va0 : Arv Z h0 a0 kk0 .long (8 : Int32) [(.long u0), (.long u1), (.long u2), (.long u3), (.long u4), (.long u5), (.long u6), (.long u7)] (.long (0 : Int64))) (Va2 : Arv Z h0 a2 kk2 .long (8 : Int32) [(.long t0), (.long t1), (.long t2), (.long t3), (.long t4), (.long t5), (.long t6), (.long t7)] (.long (0 : Int64))) (g0 : n0 ≤ a0) (ne_wp_a0 : wp ≠ a0) (ne_a0_a2 : a0 ≠ a2) (hR_a0 : own_RR u0 u1 u2 u3 u4 u5 u6 u7) (hW_a0 : own_W u0 u1 u2 u3 u4 u5 u6 u7 < own_P) (hR_a2 : own_RR t0 t1 t2 t3 t4 t5 t6 t7) (hW_a2 : own_W t0 t1 t2 t3 t4 t5 t6 t7 < own_P) :
    MetFree l (⟨"com/example/serialroute/serialroute/core/P256Field", "subtract", "([J[J[J)V"⟩ : MethodName) (head1 (Jvm.Cond.code (⟨"com/example/serialroute/serialroute/core/P256Field", "subtract", "([J[J[J)V"⟩ : MethodName) prog_29_method_6_code 6 none :: ws) ({ frames := 1, cells := 0, slots := 0, locals := 15 } : Room)) (fun a U => a = #[(.ref a0), (.ref a0), (.ref a2)] ∧ Z.Warmed39 U.vm ∧ U.heap = h0) (fun _ _ _ _ _ => True) (fun _ U oc U' => ∃ v L, oc = .returned v ∧ Q_rm_subtract_a Z a0 a2 wp kp kk0 kk2 u0 u1 u2 u3 u4 u5 u6 u7 t0 t1 t2 t3 t4 t5 t6 t7 h0 n0 v U'.heap L ∧ FrameEnd U oc U' L ({ frames := 1, cells := 0, slots := 0, locals := 15 } : Room).cells ({ frames := 1, cells := 0, slots := 0, locals := 15 } : Room).slots) := by
  refine MetFree.of_bodySF (plainFor_of_name pn_1) hisR ?_
  intro p e s m args below meth c s₁ Bd hml0 hP hK
  obtain ⟨rfl, hZ, hh⟩ := hP
  have hx := Bd.exec
  have hby := Bd.bytes
  have hml : c.maxLocals = 6 := hml0
  have hown : s.vm.findClass "com/example/serialroute/serialroute/core/P256Field" = some m.cls := findClass_of_methodNamed Bd.named
  have hnm := (name_of_methodNamed Bd.named Bd.method).1
  have X0 : Stand p l e ({ frames := 1, cells := 0, slots := 0, locals := 15 } : Room) s m #[(.ref a0), (.ref a0), (.ref a2)] below meth c s₁ [] 0 0 := Stand.of_body Bd
  have e0 : s₁.heap = h0 := by rw [← hh, Bd.state]; rfl
  have N0 := Fr.nil n0
  have pre0 : ∀ t, Steps p.tables e below (s₁.setTop (mkF m 0 #[.val (.ref a0), .val (.ref a0), .val (.ref a2), .unset, .unset, .unset] [])) t → Steps p.tables e below (s₁.setTop (entryFrame m #[(.ref a0), (.ref a0), (.ref a2)] 6)) t := fun t k => castTop (ef_rm_subtract_a m a0 a0 a2) k
  obtain ⟨r_a00, r_a01, r_a02, r_a03, r_a04, r_a05, r_a06, r_a07⟩ := id hR_a0
  obtain ⟨r_a20, r_a21, r_a22, r_a23, r_a24, r_a25, r_a26, r_a27⟩ := id hR_a2
  have hc0 : -1 ≤ ((0 : Int64)).toInt ∧ ((0 : Int64)).toInt ≤ 0 := by decide
  obtain ⟨cl101, Ar101, q101, S101, M101, H101, G101⟩ := id Va0
  obtain ⟨cl102, Ar102, q102, S102, M102, H102, G102⟩ := id Va2
  obtain ⟨v103, gv103⟩ : ∃ z, z = ((0 : Int64) + (u0 - t0)) := ⟨_, rfl⟩
  obtain ⟨v104, gv104⟩ : ∃ z, z = (v103 &&& (4294967295 : Int64)) := ⟨_, rfl⟩
  obtain ⟨cl105, Ar105, q105, S105, M105, H105, G105⟩ := id Va0
  obtain ⟨T106, h106, X106, e106, W106, st106⟩ := stJ X0 hx hZ e0 Ar105 (j := (0 : Int32)) (inb_of S105 ⟨by decide, by decide⟩) (g := (mkF m 32 #[.val (.ref a0), .val (.ref a0), .val (.ref a2), .val (.long v103), .second, .val (.int (0 : Int32))] [(.long v104), (.int (0 : Int32)), (.ref a0)])) rfl rfl (hb hby d4_32)
  have V106 := Arv.set Ar105 q105 S105 M105 H105 G105 rfl W106 0 rfl (Nat.le_of_ble_eq_true rfl)
  have f107 := SP.wr W106
  have f108 := VP.other W106 ne_wp_a0
  have f109 := Va2.other W106 (Ne.symm ne_a0_a2)
  have K106 : Keep h0 h106 [a0] := (Keep.refl h0 [a0]).wr W106 (Or.inl (List.mem_of_getElem? (i := 0) rfl))
  have N106 := Fr.snoc X106 N0 g0
  have Z106 : n0 ≤ h106.size := Nat.le_trans Z0 (Keep.of_wr W106).1
  have V106b : Arv Z h106 a0 kk0 .long (8 : Int32) [(.long v104), (.long u1), (.long u2), (.long u3), (.long u4), (.long u5), (.long u6), (.long u7)] (.long (0 : Int64)) := V106
  obtain ⟨v110, gv110⟩ : ∃ z, z = (v103 >>> ((32 : Int32) &&& 0x3f).toInt64) := ⟨_, rfl⟩
  obtain ⟨qv110, rv110, hcv110⟩ := own_sub_step gv103 gv104 gv110 hc0 r_a00 r_a20
  obtain ⟨cl111, Ar111, q111, S111, M111, H111, G111⟩ := id V106b
  obtain ⟨cl112, Ar112, q112, S112, M112, H112, G112⟩ := id f109
  obtain ⟨v113, gv113⟩ : ∃ z, z = (v110 + (u1 - t1)) := ⟨_, rfl⟩
  obtain ⟨v114, gv114⟩ : ∃ z, z = (v113 &&& (4294967295 : Int64)) := ⟨_, rfl⟩
  obtain ⟨cl115, Ar115, q115, S115, M115, H115, G115⟩ := id V106b
  obtain ⟨T116, h116, X116, e116, W116, st116⟩ := stJ X106 hx hZ e106 Ar115 (j := (1 : Int32)) (inb_of S115 ⟨by decide, by decide⟩) (g := (mkF m 32 #[.val (.ref a0), .val (.ref a0), .val (.ref a2), .val (.long v113), .second, .val (.int (1 : Int32))] [(.long v114), (.int (1 : Int32)), (.ref a0)])) rfl rfl (hb hby d4_32)
  have V116 := Arv.set Ar115 q115 S115 M115 H115 G115 rfl W116 1 rfl (Nat.le_of_ble_eq_true rfl)
  have f117 := f107.wr W116
  have f118 := f108.other W116 ne_wp_a0
  have f119 := f109.other W116 (Ne.symm ne_a0_a2)
  have K116 : Keep h0 h116 [a0] := K106.wr W116 (Or.inl (List.mem_of_getElem? (i := 0) rfl))
  have N116 := Fr.snoc X116 N106 g0
  have Z116 : n0 ≤ h116.size := Nat.le_trans Z106 (Keep.of_wr W116).1
  have V116b : Arv Z h116 a0 kk0 .long (8 : Int32) [(.long v104), (.long v114), (.long u2), (.long u3), (.long u4), (.long u5), (.long u6), (.long u7)] (.long (0 : Int64)) := V116
  obtain ⟨v120, gv120⟩ : ∃ z, z = (v113 >>> ((32 : Int32) &&& 0x3f).toInt64) := ⟨_, rfl⟩
  obtain ⟨qv120, rv120, hcv120⟩ := own_sub_step gv113 gv114 gv120 hcv110 r_a01 r_a21
  obtain ⟨cl121, Ar121, q121, S121, M121, H121, G121⟩ := id V116b
  obtain ⟨cl122, Ar122, q122, S122, M122, H122, G122⟩ := id f119
  obtain ⟨v123, gv123⟩ : ∃ z, z = (v120 + (u2 - t2)) := ⟨_, rfl⟩
  obtain ⟨v124, gv124⟩ : ∃ z, z = (v123 &&& (4294967295 : Int64)) := ⟨_, rfl⟩
  obtain ⟨cl125, Ar125, q125, S125, M125, H125, G125⟩ := id V116b
  obtain ⟨T126, h126, X126, e126, W126, st126⟩ := stJ X116 hx hZ e116 Ar125 (j := (2 : Int32)) (inb_of S125 ⟨by decide, by decide⟩) (g := (mkF m 32 #[.val (.ref a0), .val (.ref a0), .val (.ref a2), .val (.long v123), .second, .val (.int (2 : Int32))] [(.long v124), (.int (2 : Int32)), (.ref a0)])) rfl rfl (hb hby d4_32)
  have V126 := Arv.set Ar125 q125 S125 M125 H125 G125 rfl W126 2 rfl (Nat.le_of_ble_eq_true rfl)
  have f127 := f117.wr W126
  have f128 := f118.other W126 ne_wp_a0
  have f129 := f119.other W126 (Ne.symm ne_a0_a2)
  have K126 : Keep h0 h126 [a0] := K116.wr W126 (Or.inl (List.mem_of_getElem? (i := 0) rfl))
  have N126 := Fr.snoc X126 N116 g0
  have Z126 : n0 ≤ h126.size := Nat.le_trans Z116 (Keep.of_wr W126).1
  have V126b : Arv Z h126 a0 kk0 .long (8 : Int32) [(.long v104), (.long v114), (.long v124), (.long u3), (.long u4), (.long u5), (.long u6), (.long u7)] (.long (0 : Int64)) := V126
  obtain ⟨v130, gv130⟩ : ∃ z, z = (v123 >>> ((32 : Int32) &&& 0x3f).toInt64) := ⟨_, rfl⟩
  obtain ⟨qv130, rv130, hcv130⟩ := own_sub_step gv123 gv124 gv130 hcv120 r_a02 r_a22
  obtain ⟨cl131, Ar131, q131, S131, M131, H131, G131⟩ := id V126b
  obtain ⟨cl132, Ar132, q132, S132, M132, H132, G132⟩ := id f129
  obtain ⟨v133, gv133⟩ : ∃ z, z = (v130 + (u3 - t3)) := ⟨_, rfl⟩
  obtain ⟨v134, gv134⟩ : ∃ z, z = (v133 &&& (4294967295 : Int64)) := ⟨_, rfl⟩
  obtain ⟨cl135, Ar135, q135, S135, M135, H135, G135⟩ := id V126b
  obtain ⟨T136, h136, X136, e136, W136, st136⟩ := stJ X126 hx hZ e126 Ar135 (j := (3 : Int32)) (inb_of S135 ⟨by decide, by decide⟩) (g := (mkF m 32 #[.val (.ref a0), .val (.ref a0), .val (.ref a2), .val (.long v133), .second, .val (.int (3 : Int32))] [(.long v134), (.int (3 : Int32)), (.ref a0)])) rfl rfl (hb hby d4_32)
  have V136 := Arv.set Ar135 q135 S135 M135 H135 G135 rfl W136 3 rfl (Nat.le_of_ble_eq_true rfl)
  have f137 := f127.wr W136
  have f138 := f128.other W136 ne_wp_a0
  have f139 := f129.other W136 (Ne.symm ne_a0_a2)
  have K136 : Keep h0 h136 [a0] := K126.wr W136 (Or.inl (List.mem_of_getElem? (i := 0) rfl))
  have N136 := Fr.snoc X136 N126 g0
  have Z136 : n0 ≤ h136.size := Nat.le_trans Z126 (Keep.of_wr W136).1
  have V136b : Arv Z h136 a0 kk0 .long (8 : Int32) [(.long v104), (.long v114), (.long v124), (.long v134), (.long u4), (.long u5), (.long u6), (.long u7)] (.long (0 : Int64)) := V136
  obtain ⟨v140, gv140⟩ : ∃ z, z = (v133 >>> ((32 : Int32) &&& 0x3f).toInt64) := ⟨_, rfl⟩
  obtain ⟨qv140, rv140, hcv140⟩ := own_sub_step gv133 gv134 gv140 hcv130 r_a03 r_a23
  obtain ⟨cl141, Ar141, q141, S141, M141, H141, G141⟩ := id V136b
  obtain ⟨cl142, Ar142, q142, S142, M142, H142, G142⟩ := id f139
  obtain ⟨v143, gv143⟩ : ∃ z, z = (v140 + (u4 - t4)) := ⟨_, rfl⟩
  obtain ⟨v144, gv144⟩ : ∃ z, z = (v143 &&& (4294967295 : Int64)) := ⟨_, rfl⟩
  obtain ⟨cl145, Ar145, q145, S145, M145, H145, G145⟩ := id V136b
  obtain ⟨T146, h146, X146, e146, W146, st146⟩ := stJ X136 hx hZ e136 Ar145 (j := (4 : Int32)) (inb_of S145 ⟨by decide, by decide⟩) (g := (mkF m 32 #[.val (.ref a0), .val (.ref a0), .val (.ref a2), .val (.long v143), .second, .val (.int (4 : Int32))] [(.long v144), (.int (4 : Int32)), (.ref a0)])) rfl rfl (hb hby d4_32)
  have V146 := Arv.set Ar145 q145 S145 M145 H145 G145 rfl W146 4 rfl (Nat.le_of_ble_eq_true rfl)
  have f147 := f137.wr W146
  have f148 := f138.other W146 ne_wp_a0
  have f149 := f139.other W146 (Ne.symm ne_a0_a2)
  have K146 : Keep h0 h146 [a0] := K136.wr W146 (Or.inl (List.mem_of_getElem? (i := 0) rfl))
  have N146 := Fr.snoc X146 N136 g0
  have Z146 : n0 ≤ h146.size := Nat.le_trans Z136 (Keep.of_wr W146).1
  have V146b : Arv Z h146 a0 kk0 .long (8 : Int32) [(.long v104), (.long v114), (.long v124), (.long v134), (.long v144), (.long u5), (.long u6), (.long u7)] (.long (0 : Int64)) := V146
  obtain ⟨v150, gv150⟩ : ∃ z, z = (v143 >>> ((32 : Int32) &&& 0x3f).toInt64) := ⟨_, rfl⟩
  obtain ⟨qv150, rv150, hcv150⟩ := own_sub_step gv143 gv144 gv150 hcv140 r_a04 r_a24
  obtain ⟨cl151, Ar151, q151, S151, M151, H151, G151⟩ := id V146b
  obtain ⟨cl152, Ar152, q152, S152, M152, H152, G152⟩ := id f149
  obtain ⟨v153, gv153⟩ : ∃ z, z = (v150 + (u5 - t5)) := ⟨_, rfl⟩
  obtain ⟨v154, gv154⟩ : ∃ z, z = (v153 &&& (4294967295 : Int64)) := ⟨_, rfl⟩
  obtain ⟨cl155, Ar155, q155, S155, M155, H155, G155⟩ := id V146b
  obtain ⟨T156, h156, X156, e156, W156, st156⟩ := stJ X146 hx hZ e146 Ar155 (j := (5 : Int32)) (inb_of S155 ⟨by decide, by decide⟩) (g := (mkF m 32 #[.val (.ref a0), .val (.ref a0), .val (.ref a2), .val (.long v153), .second, .val (.int (5 : Int32))] [(.long v154), (.int (5 : Int32)), (.ref a0)])) rfl rfl (hb hby d4_32)
  have V156 := Arv.set Ar155 q155 S155 M155 H155 G155 rfl W156 5 rfl (Nat.le_of_ble_eq_true rfl)
  have f157 := f147.wr W156
  have f158 := f148.other W156 ne_wp_a0
  have f159 := f149.other W156 (Ne.symm ne_a0_a2)
  have K156 : Keep h0 h156 [a0] := K146.wr W156 (Or.inl (List.mem_of_getElem? (i := 0) rfl))
  have N156 := Fr.snoc X156 N146 g0
  have Z156 : n0 ≤ h156.size := Nat.le_trans Z146 (Keep.of_wr W156).1
  have V156b : Arv Z h156 a0 kk0 .long (8 : Int32) [(.long v104), (.long v114), (.long v124), (.long v134), (.long v144), (.long v154), (.long u6), (.long u7)] (.long (0 : Int64)) := V156
  obtain ⟨v160, gv160⟩ : ∃ z, z = (v153 >>> ((32 : Int32) &&& 0x3f).toInt64) := ⟨_, rfl⟩
  obtain ⟨qv160, rv160, hcv160⟩ := own_sub_step gv153 gv154 gv160 hcv150 r_a05 r_a25
  obtain ⟨cl161, Ar161, q161, S161, M161, H161, G161⟩ := id V156b
  obtain ⟨cl162, Ar162, q162, S162, M162, H162, G162⟩ := id f159
  obtain ⟨v163, gv163⟩ : ∃ z, z = (v160 + (u6 - t6)) := ⟨_, rfl⟩
  obtain ⟨v164, gv164⟩ : ∃ z, z = (v163 &&& (4294967295 : Int64)) := ⟨_, rfl⟩
  obtain ⟨cl165, Ar165, q165, S165, M165, H165, G165⟩ := id V156b
  obtain ⟨T166, h166, X166, e166, W166, st166⟩ := stJ X156 hx hZ e156 Ar165 (j := (6 : Int32)) (inb_of S165 ⟨by decide, by decide⟩) (g := (mkF m 32 #[.val (.ref a0), .val (.ref a0), .val (.ref a2), .val (.long v163), .second, .val (.int (6 : Int32))] [(.long v164), (.int (6 : Int32)), (.ref a0)])) rfl rfl (hb hby d4_32)
  have V166 := Arv.set Ar165 q165 S165 M165 H165 G165 rfl W166 6 rfl (Nat.le_of_ble_eq_true rfl)
  have f167 := f157.wr W166
  have f168 := f158.other W166 ne_wp_a0
  have f169 := f159.other W166 (Ne.symm ne_a0_a2)
  have K166 : Keep h0 h166 [a0] := K156.wr W166 (Or.inl (List.mem_of_getElem? (i := 0) rfl))
  have N166 := Fr.snoc X166 N156 g0
  have Z166 : n0 ≤ h166.size := Nat.le_trans Z156 (Keep.of_wr W166).1
  have V166b : Arv Z h166 a0 kk0 .long (8 : Int32) [(.long v104), (.long v114), (.long v124), (.long v134), (.long v144), (.long v154), (.long v164), (.long u7)] (.long (0 : Int64)) := V166
  obtain ⟨v170, gv170⟩ : ∃ z, z = (v163 >>> ((32 : Int32) &&& 0x3f).toInt64) := ⟨_, rfl⟩
  obtain ⟨qv170, rv170, hcv170⟩ := own_sub_step gv163 gv164 gv170 hcv160 r_a06 r_a26
  obtain ⟨cl171, Ar171, q171, S171, M171, H171, G171⟩ := id V166b
  obtain ⟨cl172, Ar172, q172, S172, M172, H172, G172⟩ := id f169
  obtain ⟨v173, gv173⟩ : ∃ z, z = (v170 + (u7 - t7)) := ⟨_, rfl⟩
  obtain ⟨v174, gv174⟩ : ∃ z, z = (v173 &&& (4294967295 : Int64)) := ⟨_, rfl⟩
  obtain ⟨cl175, Ar175, q175, S175, M175, H175, G175⟩ := id V166b
  obtain ⟨T176, h176, X176, e176, W176, st176⟩ := stJ X166 hx hZ e166 Ar175 (j := (7 : Int32)) (inb_of S175 ⟨by decide, by decide⟩) (g := (mkF m 32 #[.val (.ref a0), .val (.ref a0), .val (.ref a2), .val (.long v173), .second, .val (.int (7 : Int32))] [(.long v174), (.int (7 : Int32)), (.ref a0)])) rfl rfl (hb hby d4_32)
  have V176 := Arv.set Ar175 q175 S175 M175 H175 G175 rfl W176 7 rfl (Nat.le_of_ble_eq_true rfl)
  have f177 := f167.wr W176
  have f178 := f168.other W176 ne_wp_a0
  have f179 := f169.other W176 (Ne.symm ne_a0_a2)
  have K176 : Keep h0 h176 [a0] := K166.wr W176 (Or.inl (List.mem_of_getElem? (i := 0) rfl))
  have N176 := Fr.snoc X176 N166 g0
  have Z176 : n0 ≤ h176.size := Nat.le_trans Z166 (Keep.of_wr W176).1
  have V176b : Arv Z h176 a0 kk0 .long (8 : Int32) [(.long v104), (.long v114), (.long v124), (.long v134), (.long v144), (.long v154), (.long v164), (.long v174)] (.long (0 : Int64)) := V176
  obtain ⟨v180, gv180⟩ : ∃ z, z = (v173 >>> ((32 : Int32) &&& 0x3f).toInt64) := ⟨_, rfl⟩
  obtain ⟨qv180, rv180, hcv180⟩ := own_sub_step gv173 gv174 gv180 hcv170 r_a07 r_a27
  have pre181 : ∀ t, Steps p.tables e below (T176.setTop (mkF m 47 #[.val (.ref a0), .val (.ref a0), .val (.ref a2), .val (.long v180), .second, .val (.int (8 : Int32))] [(.int (lcmpW v180 (0 : Int64)))])) t → Steps p.tables e below (s₁.setTop (entryFrame m #[(.ref a0), (.ref a0), (.ref a2)] 6)) t := fun t k => by
    refine pre0 t ?_
    show Steps p.tables e below (s₁.setTop (mkF m 0 #[.val (.ref a0), .val (.ref a0), .val (.ref a2), .unset, .unset, .unset] [])) _
    refine XS.lconst X0.here hx rfl (hb hby d4_0) ?_
    refine XS.lstoreN X0.here hx rfl (hb hby d4_1) rfl (l' := #[.val (.ref a0), .val (.ref a0), .val (.ref a2), .val (.long (0 : Int64)), .second, .unset]) rfl ?_
    refine XS.iconst X0.here hx rfl (hb hby d4_2) ?_
    refine XS.istore X0.here hx rfl (hb hby d4_3) rfl (l' := #[.val (.ref a0), .val (.ref a0), .val (.ref a2), .val (.long (0 : Int64)), .second, .val (.int (0 : Int32))]) rfl ?_
    show Steps p.tables e below (s₁.setTop (mkF m 5 #[.val (.ref a0), .val (.ref a0), .val (.ref a2), .val (.long (0 : Int64)), .second, .val (.int (0 : Int32))] [])) _
    refine XS.iload X0.here hx rfl (hb hby d4_5) rfl ?_
    refine XS.bipush X0.here hx rfl (hb hby d4_7) ?_
    refine XS.icmpNo X0.here hx rfl (hb hby d4_9) rfl (tlt (by decide : (0 : Int32) < (8 : Int32))).2.1 ?_
    refine XS.lloadN X0.here hx rfl (hb hby d4_12) rfl ?_
    show Steps p.tables e below (s₁.setTop (mkF m 13 #[.val (.ref a0), .val (.ref a0), .val (.ref a2), .val (.long (0 : Int64)), .second, .val (.int (0 : Int32))] [(.long (0 : Int64))])) _
    refine XS.aloadN X0.here hx rfl (hb hby d4_13) rfl rfl ?_
    refine XS.iload X0.here hx rfl (hb hby d4_14) rfl ?_
    show Steps p.tables e below (s₁.setTop (mkF m 16 #[.val (.ref a0), .val (.ref a0), .val (.ref a2), .val (.long (0 : Int64)), .second, .val (.int (0 : Int32))] [(.int (0 : Int32)), (.ref a0), (.long (0 : Int64))])) _
    have hin101 : ¬ ((0 : Int32) < 0 ∨ cl101.slots.size ≤ ((0 : Int32)).toNatClampNeg) := (inb_of S101 ⟨by decide, by decide⟩)
    refine X0.laload hx (j := (0 : Int32)) (v := (.long u0)) (by rw [e0]; exact Ar101.1) (State.isArrayOf_alike hZ.alike Ar101.2.1) Ar101.2.2 hin101 (H101.at hin101 rfl) (g := (mkF m 16 #[.val (.ref a0), .val (.ref a0), .val (.ref a2), .val (.long (0 : Int64)), .second, .val (.int (0 : Int32))] [(.int (0 : Int32)), (.ref a0), (.long (0 : Int64))])) rfl rfl (hb hby d4_16) _ ?_
    refine XS.aloadN X0.here hx rfl (hb hby d4_17) rfl rfl ?_
    refine XS.iload X0.here hx rfl (hb hby d4_18) rfl ?_
    show Steps p.tables e below (s₁.setTop (mkF m 20 #[.val (.ref a0), .val (.ref a0), .val (.ref a2), .val (.long (0 : Int64)), .second, .val (.int (0 : Int32))] [(.int (0 : Int32)), (.ref a2), (.long u0), (.long (0 : Int64))])) _
    have hin102 : ¬ ((0 : Int32) < 0 ∨ cl102.slots.size ≤ ((0 : Int32)).toNatClampNeg) := (inb_of S102 ⟨by decide, by decide⟩)
    refine X0.laload hx (j := (0 : Int32)) (v := (.long t0)) (by rw [e0]; exact Ar102.1) (State.isArrayOf_alike hZ.alike Ar102.2.1) Ar102.2.2 hin102 (H102.at hin102 rfl) (g := (mkF m 20 #[.val (.ref a0), .val (.ref a0), .val (.ref a2), .val (.long (0 : Int64)), .second, .val (.int (0 : Int32))] [(.int (0 : Int32)), (.ref a2), (.long u0), (.long (0 : Int64))])) rfl rfl (hb hby d4_20) _ ?_
    refine XS.lsub X0.here hx rfl (hb hby d4_21) rfl ?_
    refine XS.ladd X0.here hx rfl (hb hby d4_22) rfl ?_
    show Steps p.tables e below (s₁.setTop (mkF m 23 #[.val (.ref a0), .val (.ref a0), .val (.ref a2), .val (.long (0 : Int64)), .second, .val (.int (0 : Int32))] [(.long ((0 : Int64) + (u0 - t0)))])) _
    rw [← gv103]
    refine XS.lstoreN X0.here hx rfl (hb hby d4_23) rfl (l' := #[.val (.ref a0), .val (.ref a0), .val (.ref a2), .val (.long v103), .second, .val (.int (0 : Int32))]) rfl ?_
    refine XS.aloadN X0.here hx rfl (hb hby d4_24) rfl rfl ?_
    refine XS.iload X0.here hx rfl (hb hby d4_25) rfl ?_
    show Steps p.tables e below (s₁.setTop (mkF m 27 #[.val (.ref a0), .val (.ref a0), .val (.ref a2), .val (.long v103), .second, .val (.int (0 : Int32))] [(.int (0 : Int32)), (.ref a0)])) _
    refine XS.lloadN X0.here hx rfl (hb hby d4_27) rfl ?_
    show Steps p.tables e below (s₁.setTop (mkF m 28 #[.val (.ref a0), .val (.ref a0), .val (.ref a2), .val (.long v103), .second, .val (.int (0 : Int32))] [(.long v103), (.int (0 : Int32)), (.ref a0)])) _
    refine X0.ldc2Long hx hown (mvT hZ (hw _ (List.mem_of_getElem? (i := 17) rfl))) (g := (mkF m 28 #[.val (.ref a0), .val (.ref a0), .val (.ref a2), .val (.long v103), .second, .val (.int (0 : Int32))] [(.long v103), (.int (0 : Int32)), (.ref a0)])) rfl (hb hby d4_28) _ ?_
    refine XS.land X0.here hx rfl (hb hby d4_31) rfl ?_
    show Steps p.tables e below (s₁.setTop (mkF m 32 #[.val (.ref a0), .val (.ref a0), .val (.ref a2), .val (.long v103), .second, .val (.int (0 : Int32))] [(.long (v103 &&& (4294967295 : Int64))), (.int (0 : Int32)), (.ref a0)])) _
    rw [← gv104]
    show Steps p.tables e below (s₁.setTop (mkF m 32 #[.val (.ref a0), .val (.ref a0), .val (.ref a2), .val (.long v103), .second, .val (.int (0 : Int32))] [(.long v104), (.int (0 : Int32)), (.ref a0)])) _
    refine st106 _ ?_
    refine XS.lloadN X106.here hx rfl (hb hby d4_33) rfl ?_
    refine XS.bipush X106.here hx rfl (hb hby d4_34) ?_
    refine XS.lshr X106.here hx rfl (hb hby d4_36) rfl ?_
    show Steps p.tables e below (T106.setTop (mkF m 37 #[.val (.ref a0), .val (.ref a0), .val (.ref a2), .val (.long v103), .second, .val (.int (0 : Int32))] [(.long (v103 >>> ((32 : Int32) &&& 0x3f).toInt64))])) _
    rw [← gv110]
    refine XS.lstoreN X106.here hx rfl (hb hby d4_37) rfl (l' := #[.val (.ref a0), .val (.ref a0), .val (.ref a2), .val (.long v110), .second, .val (.int (0 : Int32))]) rfl ?_
    refine XS.iinc X106.here hx rfl (hb hby d4_38) rfl (l' := #[.val (.ref a0), .val (.ref a0), .val (.ref a2), .val (.long v110), .second, .val (.int (1 : Int32))]) rfl ?_
    refine XS.goto X106.here hx rfl (pc0 := 41) (pc' := 5) rfl (hb hby d4_41) (by decide) (by decide) ?_
    show Steps p.tables e below (T106.setTop (mkF m 5 #[.val (.ref a0), .val (.ref a0), .val (.ref a2), .val (.long v110), .second, .val (.int (1 : Int32))] [])) _
    refine XS.iload X106.here hx rfl (hb hby d4_5) rfl ?_
    refine XS.bipush X106.here hx rfl (hb hby d4_7) ?_
    refine XS.icmpNo X106.here hx rfl (hb hby d4_9) rfl (tlt (by decide : (1 : Int32) < (8 : Int32))).2.1 ?_
    refine XS.lloadN X106.here hx rfl (hb hby d4_12) rfl ?_
    show Steps p.tables e below (T106.setTop (mkF m 13 #[.val (.ref a0), .val (.ref a0), .val (.ref a2), .val (.long v110), .second, .val (.int (1 : Int32))] [(.long v110)])) _
    refine XS.aloadN X106.here hx rfl (hb hby d4_13) rfl rfl ?_
    refine XS.iload X106.here hx rfl (hb hby d4_14) rfl ?_
    show Steps p.tables e below (T106.setTop (mkF m 16 #[.val (.ref a0), .val (.ref a0), .val (.ref a2), .val (.long v110), .second, .val (.int (1 : Int32))] [(.int (1 : Int32)), (.ref a0), (.long v110)])) _
    have hin111 : ¬ ((1 : Int32) < 0 ∨ cl111.slots.size ≤ ((1 : Int32)).toNatClampNeg) := (inb_of S111 ⟨by decide, by decide⟩)
    refine X106.laload hx (j := (1 : Int32)) (v := (.long u1)) (by rw [e106]; exact Ar111.1) (State.isArrayOf_alike hZ.alike Ar111.2.1) Ar111.2.2 hin111 (H111.at hin111 rfl) (g := (mkF m 16 #[.val (.ref a0), .val (.ref a0), .val (.ref a2), .val (.long v110), .second, .val (.int (1 : Int32))] [(.int (1 : Int32)), (.ref a0), (.long v110)])) rfl rfl (hb hby d4_16) _ ?_
    refine XS.aloadN X106.here hx rfl (hb hby d4_17) rfl rfl ?_
    refine XS.iload X106.here hx rfl (hb hby d4_18) rfl ?_
    show Steps p.tables e below (T106.setTop (mkF m 20 #[.val (.ref a0), .val (.ref a0), .val (.ref a2), .val (.long v110), .second, .val (.int (1 : Int32))] [(.int (1 : Int32)), (.ref a2), (.long u1), (.long v110)])) _
    have hin112 : ¬ ((1 : Int32) < 0 ∨ cl112.slots.size ≤ ((1 : Int32)).toNatClampNeg) := (inb_of S112 ⟨by decide, by decide⟩)
    refine X106.laload hx (j := (1 : Int32)) (v := (.long t1)) (by rw [e106]; exact Ar112.1) (State.isArrayOf_alike hZ.alike Ar112.2.1) Ar112.2.2 hin112 (H112.at hin112 rfl) (g := (mkF m 20 #[.val (.ref a0), .val (.ref a0), .val (.ref a2), .val (.long v110), .second, .val (.int (1 : Int32))] [(.int (1 : Int32)), (.ref a2), (.long u1), (.long v110)])) rfl rfl (hb hby d4_20) _ ?_
    refine XS.lsub X106.here hx rfl (hb hby d4_21) rfl ?_
    refine XS.ladd X106.here hx rfl (hb hby d4_22) rfl ?_
    show Steps p.tables e below (T106.setTop (mkF m 23 #[.val (.ref a0), .val (.ref a0), .val (.ref a2), .val (.long v110), .second, .val (.int (1 : Int32))] [(.long (v110 + (u1 - t1)))])) _
    rw [← gv113]
    refine XS.lstoreN X106.here hx rfl (hb hby d4_23) rfl (l' := #[.val (.ref a0), .val (.ref a0), .val (.ref a2), .val (.long v113), .second, .val (.int (1 : Int32))]) rfl ?_
    refine XS.aloadN X106.here hx rfl (hb hby d4_24) rfl rfl ?_
    refine XS.iload X106.here hx rfl (hb hby d4_25) rfl ?_
    show Steps p.tables e below (T106.setTop (mkF m 27 #[.val (.ref a0), .val (.ref a0), .val (.ref a2), .val (.long v113), .second, .val (.int (1 : Int32))] [(.int (1 : Int32)), (.ref a0)])) _
    refine XS.lloadN X106.here hx rfl (hb hby d4_27) rfl ?_
    show Steps p.tables e below (T106.setTop (mkF m 28 #[.val (.ref a0), .val (.ref a0), .val (.ref a2), .val (.long v113), .second, .val (.int (1 : Int32))] [(.long v113), (.int (1 : Int32)), (.ref a0)])) _
    refine X106.ldc2Long hx hown (mvT hZ (hw _ (List.mem_of_getElem? (i := 17) rfl))) (g := (mkF m 28 #[.val (.ref a0), .val (.ref a0), .val (.ref a2), .val (.long v113), .second, .val (.int (1 : Int32))] [(.long v113), (.int (1 : Int32)), (.ref a0)])) rfl (hb hby d4_28) _ ?_
    refine XS.land X106.here hx rfl (hb hby d4_31) rfl ?_
    show Steps p.tables e below (T106.setTop (mkF m 32 #[.val (.ref a0), .val (.ref a0), .val (.ref a2), .val (.long v113), .second, .val (.int (1 : Int32))] [(.long (v113 &&& (4294967295 : Int64))), (.int (1 : Int32)), (.ref a0)])) _
    rw [← gv114]
    show Steps p.tables e below (T106.setTop (mkF m 32 #[.val (.ref a0), .val (.ref a0), .val (.ref a2), .val (.long v113), .second, .val (.int (1 : Int32))] [(.long v114), (.int (1 : Int32)), (.ref a0)])) _
    refine st116 _ ?_
    refine XS.lloadN X116.here hx rfl (hb hby d4_33) rfl ?_
    refine XS.bipush X116.here hx rfl (hb hby d4_34) ?_
    refine XS.lshr X116.here hx rfl (hb hby d4_36) rfl ?_
    show Steps p.tables e below (T116.setTop (mkF m 37 #[.val (.ref a0), .val (.ref a0), .val (.ref a2), .val (.long v113), .second, .val (.int (1 : Int32))] [(.long (v113 >>> ((32 : Int32) &&& 0x3f).toInt64))])) _
    rw [← gv120]
    refine XS.lstoreN X116.here hx rfl (hb hby d4_37) rfl (l' := #[.val (.ref a0), .val (.ref a0), .val (.ref a2), .val (.long v120), .second, .val (.int (1 : Int32))]) rfl ?_
    refine XS.iinc X116.here hx rfl (hb hby d4_38) rfl (l' := #[.val (.ref a0), .val (.ref a0), .val (.ref a2), .val (.long v120), .second, .val (.int (2 : Int32))]) rfl ?_
    refine XS.goto X116.here hx rfl (pc0 := 41) (pc' := 5) rfl (hb hby d4_41) (by decide) (by decide) ?_
    show Steps p.tables e below (T116.setTop (mkF m 5 #[.val (.ref a0), .val (.ref a0), .val (.ref a2), .val (.long v120), .second, .val (.int (2 : Int32))] [])) _
    refine XS.iload X116.here hx rfl (hb hby d4_5) rfl ?_
    refine XS.bipush X116.here hx rfl (hb hby d4_7) ?_
    refine XS.icmpNo X116.here hx rfl (hb hby d4_9) rfl (tlt (by decide : (2 : Int32) < (8 : Int32))).2.1 ?_
    refine XS.lloadN X116.here hx rfl (hb hby d4_12) rfl ?_
    show Steps p.tables e below (T116.setTop (mkF m 13 #[.val (.ref a0), .val (.ref a0), .val (.ref a2), .val (.long v120), .second, .val (.int (2 : Int32))] [(.long v120)])) _
    refine XS.aloadN X116.here hx rfl (hb hby d4_13) rfl rfl ?_
    refine XS.iload X116.here hx rfl (hb hby d4_14) rfl ?_
    show Steps p.tables e below (T116.setTop (mkF m 16 #[.val (.ref a0), .val (.ref a0), .val (.ref a2), .val (.long v120), .second, .val (.int (2 : Int32))] [(.int (2 : Int32)), (.ref a0), (.long v120)])) _
    have hin121 : ¬ ((2 : Int32) < 0 ∨ cl121.slots.size ≤ ((2 : Int32)).toNatClampNeg) := (inb_of S121 ⟨by decide, by decide⟩)
    refine X116.laload hx (j := (2 : Int32)) (v := (.long u2)) (by rw [e116]; exact Ar121.1) (State.isArrayOf_alike hZ.alike Ar121.2.1) Ar121.2.2 hin121 (H121.at hin121 rfl) (g := (mkF m 16 #[.val (.ref a0), .val (.ref a0), .val (.ref a2), .val (.long v120), .second, .val (.int (2 : Int32))] [(.int (2 : Int32)), (.ref a0), (.long v120)])) rfl rfl (hb hby d4_16) _ ?_
    refine XS.aloadN X116.here hx rfl (hb hby d4_17) rfl rfl ?_
    refine XS.iload X116.here hx rfl (hb hby d4_18) rfl ?_
    show Steps p.tables e below (T116.setTop (mkF m 20 #[.val (.ref a0), .val (.ref a0), .val (.ref a2), .val (.long v120), .second, .val (.int (2 : Int32))] [(.int (2 : Int32)), (.ref a2), (.long u2), (.long v120)])) _
    have hin122 : ¬ ((2 : Int32) < 0 ∨ cl122.slots.size ≤ ((2 : Int32)).toNatClampNeg) := (inb_of S122 ⟨by decide, by decide⟩)
    refine X116.laload hx (j := (2 : Int32)) (v := (.long t2)) (by rw [e116]; exact Ar122.1) (State.isArrayOf_alike hZ.alike Ar122.2.1) Ar122.2.2 hin122 (H122.at hin122 rfl) (g := (mkF m 20 #[.val (.ref a0), .val (.ref a0), .val (.ref a2), .val (.long v120), .second, .val (.int (2 : Int32))] [(.int (2 : Int32)), (.ref a2), (.long u2), (.long v120)])) rfl rfl (hb hby d4_20) _ ?_
    refine XS.lsub X116.here hx rfl (hb hby d4_21) rfl ?_
    refine XS.ladd X116.here hx rfl (hb hby d4_22) rfl ?_
    show Steps p.tables e below (T116.setTop (mkF m 23 #[.val (.ref a0), .val (.ref a0), .val (.ref a2), .val (.long v120), .second, .val (.int (2 : Int32))] [(.long (v120 + (u2 - t2)))])) _
    rw [← gv123]
    refine XS.lstoreN X116.here hx rfl (hb hby d4_23) rfl (l' := #[.val (.ref a0), .val (.ref a0), .val (.ref a2), .val (.long v123), .second, .val (.int (2 : Int32))]) rfl ?_
    refine XS.aloadN X116.here hx rfl (hb hby d4_24) rfl rfl ?_
    refine XS.iload X116.here hx rfl (hb hby d4_25) rfl ?_
    show Steps p.tables e below (T116.setTop (mkF m 27 #[.val (.ref a0), .val (.ref a0), .val (.ref a2), .val (.long v123), .second, .val (.int (2 : Int32))] [(.int (2 : Int32)), (.ref a0)])) _
    refine XS.lloadN X116.here hx rfl (hb hby d4_27) rfl ?_
    show Steps p.tables e below (T116.setTop (mkF m 28 #[.val (.ref a0), .val (.ref a0), .val (.ref a2), .val (.long v123), .second, .val (.int (2 : Int32))] [(.long v123), (.int (2 : Int32)), (.ref a0)])) _
    refine X116.ldc2Long hx hown (mvT hZ (hw _ (List.mem_of_getElem? (i := 17) rfl))) (g := (mkF m 28 #[.val (.ref a0), .val (.ref a0), .val (.ref a2), .val (.long v123), .second, .val (.int (2 : Int32))] [(.long v123), (.int (2 : Int32)), (.ref a0)])) rfl (hb hby d4_28) _ ?_
    refine XS.land X116.here hx rfl (hb hby d4_31) rfl ?_
    show Steps p.tables e below (T116.setTop (mkF m 32 #[.val (.ref a0), .val (.ref a0), .val (.ref a2), .val (.long v123), .second, .val (.int (2 : Int32))] [(.long (v123 &&& (4294967295 : Int64))), (.int (2 : Int32)), (.ref a0)])) _
    rw [← gv124]
    show Steps p.tables e below (T116.setTop (mkF m 32 #[.val (.ref a0), .val (.ref a0), .val (.ref a2), .val (.long v123), .second, .val (.int (2 : Int32))] [(.long v124), (.int (2 : Int32)), (.ref a0)])) _
    refine st126 _ ?_
    refine XS.lloadN X126.here hx rfl (hb hby d4_33) rfl ?_
    refine XS.bipush X126.here hx rfl (hb hby d4_34) ?_
    refine XS.lshr X126.here hx rfl (hb hby d4_36) rfl ?_
    show Steps p.tables e below (T126.setTop (mkF m 37 #[.val (.ref a0), .val (.ref a0), .val (.ref a2), .val (.long v123), .second, .val (.int (2 : Int32))] [(.long (v123 >>> ((32 : Int32) &&& 0x3f).toInt64))])) _
    rw [← gv130]
    refine XS.lstoreN X126.here hx rfl (hb hby d4_37) rfl (l' := #[.val (.ref a0), .val (.ref a0), .val (.ref a2), .val (.long v130), .second, .val (.int (2 : Int32))]) rfl ?_
    refine XS.iinc X126.here hx rfl (hb hby d4_38) rfl (l' := #[.val (.ref a0), .val (.ref a0), .val (.ref a2), .val (.long v130), .second, .val (.int (3 : Int32))]) rfl ?_
    refine XS.goto X126.here hx rfl (pc0 := 41) (pc' := 5) rfl (hb hby d4_41) (by decide) (by decide) ?_
    show Steps p.tables e below (T126.setTop (mkF m 5 #[.val (.ref a0), .val (.ref a0), .val (.ref a2), .val (.long v130), .second, .val (.int (3 : Int32))] [])) _
    refine XS.iload X126.here hx rfl (hb hby d4_5) rfl ?_
    refine XS.bipush X126.here hx rfl (hb hby d4_7) ?_
    refine XS.icmpNo X126.here hx rfl (hb hby d4_9) rfl (tlt (by decide : (3 : Int32) < (8 : Int32))).2.1 ?_
    refine XS.lloadN X126.here hx rfl (hb hby d4_12) rfl ?_
    show Steps p.tables e below (T126.setTop (mkF m 13 #[.val (.ref a0), .val (.ref a0), .val (.ref a2), .val (.long v130), .second, .val (.int (3 : Int32))] [(.long v130)])) _
    refine XS.aloadN X126.here hx rfl (hb hby d4_13) rfl rfl ?_
    refine XS.iload X126.here hx rfl (hb hby d4_14) rfl ?_
    show Steps p.tables e below (T126.setTop (mkF m 16 #[.val (.ref a0), .val (.ref a0), .val (.ref a2), .val (.long v130), .second, .val (.int (3 : Int32))] [(.int (3 : Int32)), (.ref a0), (.long v130)])) _
    have hin131 : ¬ ((3 : Int32) < 0 ∨ cl131.slots.size ≤ ((3 : Int32)).toNatClampNeg) := (inb_of S131 ⟨by decide, by decide⟩)
    refine X126.laload hx (j := (3 : Int32)) (v := (.long u3)) (by rw [e126]; exact Ar131.1) (State.isArrayOf_alike hZ.alike Ar131.2.1) Ar131.2.2 hin131 (H131.at hin131 rfl) (g := (mkF m 16 #[.val (.ref a0), .val (.ref a0), .val (.ref a2), .val (.long v130), .second, .val (.int (3 : Int32))] [(.int (3 : Int32)), (.ref a0), (.long v130)])) rfl rfl (hb hby d4_16) _ ?_
    refine XS.aloadN X126.here hx rfl (hb hby d4_17) rfl rfl ?_
    refine XS.iload X126.here hx rfl (hb hby d4_18) rfl ?_
    show Steps p.tables e below (T126.setTop (mkF m 20 #[.val (.ref a0), .val (.ref a0), .val (.ref a2), .val (.long v130), .second, .val (.int (3 : Int32))] [(.int (3 : Int32)), (.ref a2), (.long u3), (.long v130)])) _
    have hin132 : ¬ ((3 : Int32) < 0 ∨ cl132.slots.size ≤ ((3 : Int32)).toNatClampNeg) := (inb_of S132 ⟨by decide, by decide⟩)
    refine X126.laload hx (j := (3 : Int32)) (v := (.long t3)) (by rw [e126]; exact Ar132.1) (State.isArrayOf_alike hZ.alike Ar132.2.1) Ar132.2.2 hin132 (H132.at hin132 rfl) (g := (mkF m 20 #[.val (.ref a0), .val (.ref a0), .val (.ref a2), .val (.long v130), .second, .val (.int (3 : Int32))] [(.int (3 : Int32)), (.ref a2), (.long u3), (.long v130)])) rfl rfl (hb hby d4_20) _ ?_
    refine XS.lsub X126.here hx rfl (hb hby d4_21) rfl ?_
    refine XS.ladd X126.here hx rfl (hb hby d4_22) rfl ?_
    show Steps p.tables e below (T126.setTop (mkF m 23 #[.val (.ref a0), .val (.ref a0), .val (.ref a2), .val (.long v130), .second, .val (.int (3 : Int32))] [(.long (v130 + (u3 - t3)))])) _
    rw [← gv133]
    refine XS.lstoreN X126.here hx rfl (hb hby d4_23) rfl (l' := #[.val (.ref a0), .val (.ref a0), .val (.ref a2), .val (.long v133), .second, .val (.int (3 : Int32))]) rfl ?_
    refine XS.aloadN X126.here hx rfl (hb hby d4_24) rfl rfl ?_
    refine XS.iload X126.here hx rfl (hb hby d4_25) rfl ?_
    show Steps p.tables e below (T126.setTop (mkF m 27 #[.val (.ref a0), .val (.ref a0), .val (.ref a2), .val (.long v133), .second, .val (.int (3 : Int32))] [(.int (3 : Int32)), (.ref a0)])) _
    refine XS.lloadN X126.here hx rfl (hb hby d4_27) rfl ?_
    show Steps p.tables e below (T126.setTop (mkF m 28 #[.val (.ref a0), .val (.ref a0), .val (.ref a2), .val (.long v133), .second, .val (.int (3 : Int32))] [(.long v133), (.int (3 : Int32)), (.ref a0)])) _
    refine X126.ldc2Long hx hown (mvT hZ (hw _ (List.mem_of_getElem? (i := 17) rfl))) (g := (mkF m 28 #[.val (.ref a0), .val (.ref a0), .val (.ref a2), .val (.long v133), .second, .val (.int (3 : Int32))] [(.long v133), (.int (3 : Int32)), (.ref a0)])) rfl (hb hby d4_28) _ ?_
    refine XS.land X126.here hx rfl (hb hby d4_31) rfl ?_
    show Steps p.tables e below (T126.setTop (mkF m 32 #[.val (.ref a0), .val (.ref a0), .val (.ref a2), .val (.long v133), .second, .val (.int (3 : Int32))] [(.long (v133 &&& (4294967295 : Int64))), (.int (3 : Int32)), (.ref a0)])) _
    rw [← gv134]
    show Steps p.tables e below (T126.setTop (mkF m 32 #[.val (.ref a0), .val (.ref a0), .val (.ref a2), .val (.long v133), .second, .val (.int (3 : Int32))] [(.long v134), (.int (3 : Int32)), (.ref a0)])) _
    refine st136 _ ?_
    refine XS.lloadN X136.here hx rfl (hb hby d4_33) rfl ?_
    refine XS.bipush X136.here hx rfl (hb hby d4_34) ?_
    refine XS.lshr X136.here hx rfl (hb hby d4_36) rfl ?_
    show Steps p.tables e below (T136.setTop (mkF m 37 #[.val (.ref a0), .val (.ref a0), .val (.ref a2), .val (.long v133), .second, .val (.int (3 : Int32))] [(.long (v133 >>> ((32 : Int32) &&& 0x3f).toInt64))])) _
    rw [← gv140]
    refine XS.lstoreN X136.here hx rfl (hb hby d4_37) rfl (l' := #[.val (.ref a0), .val (.ref a0), .val (.ref a2), .val (.long v140), .second, .val (.int (3 : Int32))]) rfl ?_
    refine XS.iinc X136.here hx rfl (hb hby d4_38) rfl (l' := #[.val (.ref a0), .val (.ref a0), .val (.ref a2), .val (.long v140), .second, .val (.int (4 : Int32))]) rfl ?_
    refine XS.goto X136.here hx rfl (pc0 := 41) (pc' := 5) rfl (hb hby d4_41) (by decide) (by decide) ?_
    show Steps p.tables e below (T136.setTop (mkF m 5 #[.val (.ref a0), .val (.ref a0), .val (.ref a2), .val (.long v140), .second, .val (.int (4 : Int32))] [])) _
    refine XS.iload X136.here hx rfl (hb hby d4_5) rfl ?_
    refine XS.bipush X136.here hx rfl (hb hby d4_7) ?_
    refine XS.icmpNo X136.here hx rfl (hb hby d4_9) rfl (tlt (by decide : (4 : Int32) < (8 : Int32))).2.1 ?_
    refine XS.lloadN X136.here hx rfl (hb hby d4_12) rfl ?_
    show Steps p.tables e below (T136.setTop (mkF m 13 #[.val (.ref a0), .val (.ref a0), .val (.ref a2), .val (.long v140), .second, .val (.int (4 : Int32))] [(.long v140)])) _
    refine XS.aloadN X136.here hx rfl (hb hby d4_13) rfl rfl ?_
    refine XS.iload X136.here hx rfl (hb hby d4_14) rfl ?_
    show Steps p.tables e below (T136.setTop (mkF m 16 #[.val (.ref a0), .val (.ref a0), .val (.ref a2), .val (.long v140), .second, .val (.int (4 : Int32))] [(.int (4 : Int32)), (.ref a0), (.long v140)])) _
    have hin141 : ¬ ((4 : Int32) < 0 ∨ cl141.slots.size ≤ ((4 : Int32)).toNatClampNeg) := (inb_of S141 ⟨by decide, by decide⟩)
    refine X136.laload hx (j := (4 : Int32)) (v := (.long u4)) (by rw [e136]; exact Ar141.1) (State.isArrayOf_alike hZ.alike Ar141.2.1) Ar141.2.2 hin141 (H141.at hin141 rfl) (g := (mkF m 16 #[.val (.ref a0), .val (.ref a0), .val (.ref a2), .val (.long v140), .second, .val (.int (4 : Int32))] [(.int (4 : Int32)), (.ref a0), (.long v140)])) rfl rfl (hb hby d4_16) _ ?_
    refine XS.aloadN X136.here hx rfl (hb hby d4_17) rfl rfl ?_
    refine XS.iload X136.here hx rfl (hb hby d4_18) rfl ?_
    show Steps p.tables e below (T136.setTop (mkF m 20 #[.val (.ref a0), .val (.ref a0), .val (.ref a2), .val (.long v140), .second, .val (.int (4 : Int32))] [(.int (4 : Int32)), (.ref a2), (.long u4), (.long v140)])) _
    have hin142 : ¬ ((4 : Int32) < 0 ∨ cl142.slots.size ≤ ((4 : Int32)).toNatClampNeg) := (inb_of S142 ⟨by decide, by decide⟩)
    refine X136.laload hx (j := (4 : Int32)) (v := (.long t4)) (by rw [e136]; exact Ar142.1) (State.isArrayOf_alike hZ.alike Ar142.2.1) Ar142.2.2 hin142 (H142.at hin142 rfl) (g := (mkF m 20 #[.val (.ref a0), .val (.ref a0), .val (.ref a2), .val (.long v140), .second, .val (.int (4 : Int32))] [(.int (4 : Int32)), (.ref a2), (.long u4), (.long v140)])) rfl rfl (hb hby d4_20) _ ?_
    refine XS.lsub X136.here hx rfl (hb hby d4_21) rfl ?_
    refine XS.ladd X136.here hx rfl (hb hby d4_22) rfl ?_
    show Steps p.tables e below (T136.setTop (mkF m 23 #[.val (.ref a0), .val (.ref a0), .val (.ref a2), .val (.long v140), .second, .val (.int (4 : Int32))] [(.long (v140 + (u4 - t4)))])) _
    rw [← gv143]
    refine XS.lstoreN X136.here hx rfl (hb hby d4_23) rfl (l' := #[.val (.ref a0), .val (.ref a0), .val (.ref a2), .val (.long v143), .second, .val (.int (4 : Int32))]) rfl ?_
    refine XS.aloadN X136.here hx rfl (hb hby d4_24) rfl rfl ?_
    refine XS.iload X136.here hx rfl (hb hby d4_25) rfl ?_
    show Steps p.tables e below (T136.setTop (mkF m 27 #[.val (.ref a0), .val (.ref a0), .val (.ref a2), .val (.long v143), .second, .val (.int (4 : Int32))] [(.int (4 : Int32)), (.ref a0)])) _
    refine XS.lloadN X136.here hx rfl (hb hby d4_27) rfl ?_
    show Steps p.tables e below (T136.setTop (mkF m 28 #[.val (.ref a0), .val (.ref a0), .val (.ref a2), .val (.long v143), .second, .val (.int (4 : Int32))] [(.long v143), (.int (4 : Int32)), (.ref a0)])) _
    refine X136.ldc2Long hx hown (mvT hZ (hw _ (List.mem_of_getElem? (i := 17) rfl))) (g := (mkF m 28 #[.val (.ref a0), .val (.ref a0), .val (.ref a2), .val (.long v143), .second, .val (.int (4 : Int32))] [(.long v143), (.int (4 : Int32)), (.ref a0)])) rfl (hb hby d4_28) _ ?_
    refine XS.land X136.here hx rfl (hb hby d4_31) rfl ?_
    show Steps p.tables e below (T136.setTop (mkF m 32 #[.val (.ref a0), .val (.ref a0), .val (.ref a2), .val (.long v143), .second, .val (.int (4 : Int32))] [(.long (v143 &&& (4294967295 : Int64))), (.int (4 : Int32)), (.ref a0)])) _
    rw [← gv144]
    show Steps p.tables e below (T136.setTop (mkF m 32 #[.val (.ref a0), .val (.ref a0), .val (.ref a2), .val (.long v143), .second, .val (.int (4 : Int32))] [(.long v144), (.int (4 : Int32)), (.ref a0)])) _
    refine st146 _ ?_
    refine XS.lloadN X146.here hx rfl (hb hby d4_33) rfl ?_
    refine XS.bipush X146.here hx rfl (hb hby d4_34) ?_
    refine XS.lshr X146.here hx rfl (hb hby d4_36) rfl ?_
    show Steps p.tables e below (T146.setTop (mkF m 37 #[.val (.ref a0), .val (.ref a0), .val (.ref a2), .val (.long v143), .second, .val (.int (4 : Int32))] [(.long (v143 >>> ((32 : Int32) &&& 0x3f).toInt64))])) _
    rw [← gv150]
    refine XS.lstoreN X146.here hx rfl (hb hby d4_37) rfl (l' := #[.val (.ref a0), .val (.ref a0), .val (.ref a2), .val (.long v150), .second, .val (.int (4 : Int32))]) rfl ?_
    refine XS.iinc X146.here hx rfl (hb hby d4_38) rfl (l' := #[.val (.ref a0), .val (.ref a0), .val (.ref a2), .val (.long v150), .second, .val (.int (5 : Int32))]) rfl ?_
    refine XS.goto X146.here hx rfl (pc0 := 41) (pc' := 5) rfl (hb hby d4_41) (by decide) (by decide) ?_
    show Steps p.tables e below (T146.setTop (mkF m 5 #[.val (.ref a0), .val (.ref a0), .val (.ref a2), .val (.long v150), .second, .val (.int (5 : Int32))] [])) _
    refine XS.iload X146.here hx rfl (hb hby d4_5) rfl ?_
    refine XS.bipush X146.here hx rfl (hb hby d4_7) ?_
    refine XS.icmpNo X146.here hx rfl (hb hby d4_9) rfl (tlt (by decide : (5 : Int32) < (8 : Int32))).2.1 ?_
    refine XS.lloadN X146.here hx rfl (hb hby d4_12) rfl ?_
    show Steps p.tables e below (T146.setTop (mkF m 13 #[.val (.ref a0), .val (.ref a0), .val (.ref a2), .val (.long v150), .second, .val (.int (5 : Int32))] [(.long v150)])) _
    refine XS.aloadN X146.here hx rfl (hb hby d4_13) rfl rfl ?_
    refine XS.iload X146.here hx rfl (hb hby d4_14) rfl ?_
    show Steps p.tables e below (T146.setTop (mkF m 16 #[.val (.ref a0), .val (.ref a0), .val (.ref a2), .val (.long v150), .second, .val (.int (5 : Int32))] [(.int (5 : Int32)), (.ref a0), (.long v150)])) _
    have hin151 : ¬ ((5 : Int32) < 0 ∨ cl151.slots.size ≤ ((5 : Int32)).toNatClampNeg) := (inb_of S151 ⟨by decide, by decide⟩)
    refine X146.laload hx (j := (5 : Int32)) (v := (.long u5)) (by rw [e146]; exact Ar151.1) (State.isArrayOf_alike hZ.alike Ar151.2.1) Ar151.2.2 hin151 (H151.at hin151 rfl) (g := (mkF m 16 #[.val (.ref a0), .val (.ref a0), .val (.ref a2), .val (.long v150), .second, .val (.int (5 : Int32))] [(.int (5 : Int32)), (.ref a0), (.long v150)])) rfl rfl (hb hby d4_16) _ ?_
    refine XS.aloadN X146.here hx rfl (hb hby d4_17) rfl rfl ?_
    refine XS.iload X146.here hx rfl (hb hby d4_18) rfl ?_
    show Steps p.tables e below (T146.setTop (mkF m 20 #[.val (.ref a0), .val (.ref a0), .val (.ref a2), .val (.long v150), .second, .val (.int (5 : Int32))] [(.int (5 : Int32)), (.ref a2), (.long u5), (.long v150)])) _
    have hin152 : ¬ ((5 : Int32) < 0 ∨ cl152.slots.size ≤ ((5 : Int32)).toNatClampNeg) := (inb_of S152 ⟨by decide, by decide⟩)
    refine X146.laload hx (j := (5 : Int32)) (v := (.long t5)) (by rw [e146]; exact Ar152.1) (State.isArrayOf_alike hZ.alike Ar152.2.1) Ar152.2.2 hin152 (H152.at hin152 rfl) (g := (mkF m 20 #[.val (.ref a0), .val (.ref a0), .val (.ref a2), .val (.long v150), .second, .val (.int (5 : Int32))] [(.int (5 : Int32)), (.ref a2), (.long u5), (.long v150)])) rfl rfl (hb hby d4_20) _ ?_
    refine XS.lsub X146.here hx rfl (hb hby d4_21) rfl ?_
    refine XS.ladd X146.here hx rfl (hb hby d4_22) rfl ?_
    show Steps p.tables e below (T146.setTop (mkF m 23 #[.val (.ref a0), .val (.ref a0), .val (.ref a2), .val (.long v150), .second, .val (.int (5 : Int32))] [(.long (v150 + (u5 - t5)))])) _
    rw [← gv153]
    refine XS.lstoreN X146.here hx rfl (hb hby d4_23) rfl (l' := #[.val (.ref a0), .val (.ref a0), .val (.ref a2), .val (.long v153), .second, .val (.int (5 : Int32))]) rfl ?_
    refine XS.aloadN X146.here hx rfl (hb hby d4_24) rfl rfl ?_
    refine XS.iload X146.here hx rfl (hb hby d4_25) rfl ?_
    show Steps p.tables e below (T146.setTop (mkF m 27 #[.val (.ref a0), .val (.ref a0), .val (.ref a2), .val (.long v153), .second, .val (.int (5 : Int32))] [(.int (5 : Int32)), (.ref a0)])) _
    refine XS.lloadN X146.here hx rfl (hb hby d4_27) rfl ?_
    show Steps p.tables e below (T146.setTop (mkF m 28 #[.val (.ref a0), .val (.ref a0), .val (.ref a2), .val (.long v153), .second, .val (.int (5 : Int32))] [(.long v153), (.int (5 : Int32)), (.ref a0)])) _
    refine X146.ldc2Long hx hown (mvT hZ (hw _ (List.mem_of_getElem? (i := 17) rfl))) (g := (mkF m 28 #[.val (.ref a0), .val (.ref a0), .val (.ref a2), .val (.long v153), .second, .val (.int (5 : Int32))] [(.long v153), (.int (5 : Int32)), (.ref a0)])) rfl (hb hby d4_28) _ ?_
    refine XS.land X146.here hx rfl (hb hby d4_31) rfl ?_
    show Steps p.tables e below (T146.setTop (mkF m 32 #[.val (.ref a0), .val (.ref a0), .val (.ref a2), .val (.long v153), .second, .val (.int (5 : Int32))] [(.long (v153 &&& (4294967295 : Int64))), (.int (5 : Int32)), (.ref a0)])) _
    rw [← gv154]
    show Steps p.tables e below (T146.setTop (mkF m 32 #[.val (.ref a0), .val (.ref a0), .val (.ref a2), .val (.long v153), .second, .val (.int (5 : Int32))] [(.long v154), (.int (5 : Int32)), (.ref a0)])) _
    refine st156 _ ?_
    refine XS.lloadN X156.here hx rfl (hb hby d4_33) rfl ?_
    refine XS.bipush X156.here hx rfl (hb hby d4_34) ?_
    refine XS.lshr X156.here hx rfl (hb hby d4_36) rfl ?_
    show Steps p.tables e below (T156.setTop (mkF m 37 #[.val (.ref a0), .val (.ref a0), .val (.ref a2), .val (.long v153), .second, .val (.int (5 : Int32))] [(.long (v153 >>> ((32 : Int32) &&& 0x3f).toInt64))])) _
    rw [← gv160]
    refine XS.lstoreN X156.here hx rfl (hb hby d4_37) rfl (l' := #[.val (.ref a0), .val (.ref a0), .val (.ref a2), .val (.long v160), .second, .val (.int (5 : Int32))]) rfl ?_
    refine XS.iinc X156.here hx rfl (hb hby d4_38) rfl (l' := #[.val (.ref a0), .val (.ref a0), .val (.ref a2), .val (.long v160), .second, .val (.int (6 : Int32))]) rfl ?_
    refine XS.goto X156.here hx rfl (pc0 := 41) (pc' := 5) rfl (hb hby d4_41) (by decide) (by decide) ?_
    show Steps p.tables e below (T156.setTop (mkF m 5 #[.val (.ref a0), .val (.ref a0), .val (.ref a2), .val (.long v160), .second, .val (.int (6 : Int32))] [])) _
    refine XS.iload X156.here hx rfl (hb hby d4_5) rfl ?_
    refine XS.bipush X156.here hx rfl (hb hby d4_7) ?_
    refine XS.icmpNo X156.here hx rfl (hb hby d4_9) rfl (tlt (by decide : (6 : Int32) < (8 : Int32))).2.1 ?_
    refine XS.lloadN X156.here hx rfl (hb hby d4_12) rfl ?_
    show Steps p.tables e below (T156.setTop (mkF m 13 #[.val (.ref a0), .val (.ref a0), .val (.ref a2), .val (.long v160), .second, .val (.int (6 : Int32))] [(.long v160)])) _
    refine XS.aloadN X156.here hx rfl (hb hby d4_13) rfl rfl ?_
    refine XS.iload X156.here hx rfl (hb hby d4_14) rfl ?_
    show Steps p.tables e below (T156.setTop (mkF m 16 #[.val (.ref a0), .val (.ref a0), .val (.ref a2), .val (.long v160), .second, .val (.int (6 : Int32))] [(.int (6 : Int32)), (.ref a0), (.long v160)])) _
    have hin161 : ¬ ((6 : Int32) < 0 ∨ cl161.slots.size ≤ ((6 : Int32)).toNatClampNeg) := (inb_of S161 ⟨by decide, by decide⟩)
    refine X156.laload hx (j := (6 : Int32)) (v := (.long u6)) (by rw [e156]; exact Ar161.1) (State.isArrayOf_alike hZ.alike Ar161.2.1) Ar161.2.2 hin161 (H161.at hin161 rfl) (g := (mkF m 16 #[.val (.ref a0), .val (.ref a0), .val (.ref a2), .val (.long v160), .second, .val (.int (6 : Int32))] [(.int (6 : Int32)), (.ref a0), (.long v160)])) rfl rfl (hb hby d4_16) _ ?_
    refine XS.aloadN X156.here hx rfl (hb hby d4_17) rfl rfl ?_
    refine XS.iload X156.here hx rfl (hb hby d4_18) rfl ?_
    show Steps p.tables e below (T156.setTop (mkF m 20 #[.val (.ref a0), .val (.ref a0), .val (.ref a2), .val (.long v160), .second, .val (.int (6 : Int32))] [(.int (6 : Int32)), (.ref a2), (.long u6), (.long v160)])) _
    have hin162 : ¬ ((6 : Int32) < 0 ∨ cl162.slots.size ≤ ((6 : Int32)).toNatClampNeg) := (inb_of S162 ⟨by decide, by decide⟩)
    refine X156.laload hx (j := (6 : Int32)) (v := (.long t6)) (by rw [e156]; exact Ar162.1) (State.isArrayOf_alike hZ.alike Ar162.2.1) Ar162.2.2 hin162 (H162.at hin162 rfl) (g := (mkF m 20 #[.val (.ref a0), .val (.ref a0), .val (.ref a2), .val (.long v160), .second, .val (.int (6 : Int32))] [(.int (6 : Int32)), (.ref a2), (.long u6), (.long v160)])) rfl rfl (hb hby d4_20) _ ?_
    refine XS.lsub X156.here hx rfl (hb hby d4_21) rfl ?_
    refine XS.ladd X156.here hx rfl (hb hby d4_22) rfl ?_
    show Steps p.tables e below (T156.setTop (mkF m 23 #[.val (.ref a0), .val (.ref a0), .val (.ref a2), .val (.long v160), .second, .val (.int (6 : Int32))] [(.long (v160 + (u6 - t6)))])) _
    rw [← gv163]
    refine XS.lstoreN X156.here hx rfl (hb hby d4_23) rfl (l' := #[.val (.ref a0), .val (.ref a0), .val (.ref a2), .val (.long v163), .second, .val (.int (6 : Int32))]) rfl ?_
    refine XS.aloadN X156.here hx rfl (hb hby d4_24) rfl rfl ?_
    refine XS.iload X156.here hx rfl (hb hby d4_25) rfl ?_
    show Steps p.tables e below (T156.setTop (mkF m 27 #[.val (.ref a0), .val (.ref a0), .val (.ref a2), .val (.long v163), .second, .val (.int (6 : Int32))] [(.int (6 : Int32)), (.ref a0)])) _
    refine XS.lloadN X156.here hx rfl (hb hby d4_27) rfl ?_
    show Steps p.tables e below (T156.setTop (mkF m 28 #[.val (.ref a0), .val (.ref a0), .val (.ref a2), .val (.long v163), .second, .val (.int (6 : Int32))] [(.long v163), (.int (6 : Int32)), (.ref a0)])) _
    refine X156.ldc2Long hx hown (mvT hZ (hw _ (List.mem_of_getElem? (i := 17) rfl))) (g := (mkF m 28 #[.val (.ref a0), .val (.ref a0), .val (.ref a2), .val (.long v163), .second, .val (.int (6 : Int32))] [(.long v163), (.int (6 : Int32)), (.ref a0)])) rfl (hb hby d4_28) _ ?_
    refine XS.land X156.here hx rfl (hb hby d4_31) rfl ?_
    show Steps p.tables e below (T156.setTop (mkF m 32 #[.val (.ref a0), .val (.ref a0), .val (.ref a2), .val (.long v163), .second, .val (.int (6 : Int32))] [(.long (v163 &&& (4294967295 : Int64))), (.int (6 : Int32)), (.ref a0)])) _
    rw [← gv164]
    show Steps p.tables e below (T156.setTop (mkF m 32 #[.val (.ref a0), .val (.ref a0), .val (.ref a2), .val (.long v163), .second, .val (.int (6 : Int32))] [(.long v164), (.int (6 : Int32)), (.ref a0)])) _
    refine st166 _ ?_
    refine XS.lloadN X166.here hx rfl (hb hby d4_33) rfl ?_
    refine XS.bipush X166.here hx rfl (hb hby d4_34) ?_
    refine XS.lshr X166.here hx rfl (hb hby d4_36) rfl ?_
    show Steps p.tables e below (T166.setTop (mkF m 37 #[.val (.ref a0), .val (.ref a0), .val (.ref a2), .val (.long v163), .second, .val (.int (6 : Int32))] [(.long (v163 >>> ((32 : Int32) &&& 0x3f).toInt64))])) _
    rw [← gv170]
    refine XS.lstoreN X166.here hx rfl (hb hby d4_37) rfl (l' := #[.val (.ref a0), .val (.ref a0), .val (.ref a2), .val (.long v170), .second, .val (.int (6 : Int32))]) rfl ?_
    refine XS.iinc X166.here hx rfl (hb hby d4_38) rfl (l' := #[.val (.ref a0), .val (.ref a0), .val (.ref a2), .val (.long v170), .second, .val (.int (7 : Int32))]) rfl ?_
    refine XS.goto X166.here hx rfl (pc0 := 41) (pc' := 5) rfl (hb hby d4_41) (by decide) (by decide) ?_
    show Steps p.tables e below (T166.setTop (mkF m 5 #[.val (.ref a0), .val (.ref a0), .val (.ref a2), .val (.long v170), .second, .val (.int (7 : Int32))] [])) _
    refine XS.iload X166.here hx rfl (hb hby d4_5) rfl ?_
    refine XS.bipush X166.here hx rfl (hb hby d4_7) ?_
    refine XS.icmpNo X166.here hx rfl (hb hby d4_9) rfl (tlt (by decide : (7 : Int32) < (8 : Int32))).2.1 ?_
    refine XS.lloadN X166.here hx rfl (hb hby d4_12) rfl ?_
    show Steps p.tables e below (T166.setTop (mkF m 13 #[.val (.ref a0), .val (.ref a0), .val (.ref a2), .val (.long v170), .second, .val (.int (7 : Int32))] [(.long v170)])) _
    refine XS.aloadN X166.here hx rfl (hb hby d4_13) rfl rfl ?_
    refine XS.iload X166.here hx rfl (hb hby d4_14) rfl ?_
    show Steps p.tables e below (T166.setTop (mkF m 16 #[.val (.ref a0), .val (.ref a0), .val (.ref a2), .val (.long v170), .second, .val (.int (7 : Int32))] [(.int (7 : Int32)), (.ref a0), (.long v170)])) _
    have hin171 : ¬ ((7 : Int32) < 0 ∨ cl171.slots.size ≤ ((7 : Int32)).toNatClampNeg) := (inb_of S171 ⟨by decide, by decide⟩)
    refine X166.laload hx (j := (7 : Int32)) (v := (.long u7)) (by rw [e166]; exact Ar171.1) (State.isArrayOf_alike hZ.alike Ar171.2.1) Ar171.2.2 hin171 (H171.at hin171 rfl) (g := (mkF m 16 #[.val (.ref a0), .val (.ref a0), .val (.ref a2), .val (.long v170), .second, .val (.int (7 : Int32))] [(.int (7 : Int32)), (.ref a0), (.long v170)])) rfl rfl (hb hby d4_16) _ ?_
    refine XS.aloadN X166.here hx rfl (hb hby d4_17) rfl rfl ?_
    refine XS.iload X166.here hx rfl (hb hby d4_18) rfl ?_
    show Steps p.tables e below (T166.setTop (mkF m 20 #[.val (.ref a0), .val (.ref a0), .val (.ref a2), .val (.long v170), .second, .val (.int (7 : Int32))] [(.int (7 : Int32)), (.ref a2), (.long u7), (.long v170)])) _
    have hin172 : ¬ ((7 : Int32) < 0 ∨ cl172.slots.size ≤ ((7 : Int32)).toNatClampNeg) := (inb_of S172 ⟨by decide, by decide⟩)
    refine X166.laload hx (j := (7 : Int32)) (v := (.long t7)) (by rw [e166]; exact Ar172.1) (State.isArrayOf_alike hZ.alike Ar172.2.1) Ar172.2.2 hin172 (H172.at hin172 rfl) (g := (mkF m 20 #[.val (.ref a0), .val (.ref a0), .val (.ref a2), .val (.long v170), .second, .val (.int (7 : Int32))] [(.int (7 : Int32)), (.ref a2), (.long u7), (.long v170)])) rfl rfl (hb hby d4_20) _ ?_
    refine XS.lsub X166.here hx rfl (hb hby d4_21) rfl ?_
    refine XS.ladd X166.here hx rfl (hb hby d4_22) rfl ?_
    show Steps p.tables e below (T166.setTop (mkF m 23 #[.val (.ref a0), .val (.ref a0), .val (.ref a2), .val (.long v170), .second, .val (.int (7 : Int32))] [(.long (v170 + (u7 - t7)))])) _
    rw [← gv173]
    refine XS.lstoreN X166.here hx rfl (hb hby d4_23) rfl (l' := #[.val (.ref a0), .val (.ref a0), .val (.ref a2), .val (.long v173), .second, .val (.int (7 : Int32))]) rfl ?_
    refine XS.aloadN X166.here hx rfl (hb hby d4_24) rfl rfl ?_
    refine XS.iload X166.here hx rfl (hb hby d4_25) rfl ?_
    show Steps p.tables e below (T166.setTop (mkF m 27 #[.val (.ref a0), .val (.ref a0), .val (.ref a2), .val (.long v173), .second, .val (.int (7 : Int32))] [(.int (7 : Int32)), (.ref a0)])) _
    refine XS.lloadN X166.here hx rfl (hb hby d4_27) rfl ?_
    show Steps p.tables e below (T166.setTop (mkF m 28 #[.val (.ref a0), .val (.ref a0), .val (.ref a2), .val (.long v173), .second, .val (.int (7 : Int32))] [(.long v173), (.int (7 : Int32)), (.ref a0)])) _
    refine X166.ldc2Long hx hown (mvT hZ (hw _ (List.mem_of_getElem? (i := 17) rfl))) (g := (mkF m 28 #[.val (.ref a0), .val (.ref a0), .val (.ref a2), .val (.long v173), .second, .val (.int (7 : Int32))] [(.long v173), (.int (7 : Int32)), (.ref a0)])) rfl (hb hby d4_28) _ ?_
    refine XS.land X166.here hx rfl (hb hby d4_31) rfl ?_
    show Steps p.tables e below (T166.setTop (mkF m 32 #[.val (.ref a0), .val (.ref a0), .val (.ref a2), .val (.long v173), .second, .val (.int (7 : Int32))] [(.long (v173 &&& (4294967295 : Int64))), (.int (7 : Int32)), (.ref a0)])) _
    rw [← gv174]
    show Steps p.tables e below (T166.setTop (mkF m 32 #[.val (.ref a0), .val (.ref a0), .val (.ref a2), .val (.long v173), .second, .val (.int (7 : Int32))] [(.long v174), (.int (7 : Int32)), (.ref a0)])) _
    refine st176 _ ?_
    refine XS.lloadN X176.here hx rfl (hb hby d4_33) rfl ?_
    refine XS.bipush X176.here hx rfl (hb hby d4_34) ?_
    refine XS.lshr X176.here hx rfl (hb hby d4_36) rfl ?_
    show Steps p.tables e below (T176.setTop (mkF m 37 #[.val (.ref a0), .val (.ref a0), .val (.ref a2), .val (.long v173), .second, .val (.int (7 : Int32))] [(.long (v173 >>> ((32 : Int32) &&& 0x3f).toInt64))])) _
    rw [← gv180]
    refine XS.lstoreN X176.here hx rfl (hb hby d4_37) rfl (l' := #[.val (.ref a0), .val (.ref a0), .val (.ref a2), .val (.long v180), .second, .val (.int (7 : Int32))]) rfl ?_
    refine XS.iinc X176.here hx rfl (hb hby d4_38) rfl (l' := #[.val (.ref a0), .val (.ref a0), .val (.ref a2), .val (.long v180), .second, .val (.int (8 : Int32))]) rfl ?_
    refine XS.goto X176.here hx rfl (pc0 := 41) (pc' := 5) rfl (hb hby d4_41) (by decide) (by decide) ?_
    show Steps p.tables e below (T176.setTop (mkF m 5 #[.val (.ref a0), .val (.ref a0), .val (.ref a2), .val (.long v180), .second, .val (.int (8 : Int32))] [])) _
    refine XS.iload X176.here hx rfl (hb hby d4_5) rfl ?_
    refine XS.bipush X176.here hx rfl (hb hby d4_7) ?_
    refine XS.icmpYes X176.here hx rfl (pc0 := 9) (pc' := 44) rfl (hb hby d4_9) rfl (flt (by decide : ¬ ((8 : Int32) < (8 : Int32)))).2.1 (by decide) (by decide) ?_
    refine XS.lloadN X176.here hx rfl (hb hby d4_44) rfl ?_
    show Steps p.tables e below (T176.setTop (mkF m 45 #[.val (.ref a0), .val (.ref a0), .val (.ref a2), .val (.long v180), .second, .val (.int (8 : Int32))] [(.long v180)])) _
    refine XS.lconst X176.here hx rfl (hb hby d4_45) ?_
    refine XS.lcmp X176.here hx rfl (hb hby d4_46) rfl ?_
    exact k
  by_cases hc182 : v180 = (0 : Int64)
  · obtain ⟨fs, hr, hrun, hended, hW, hsame⟩ := X176.leave (v := none) (fun _ => rfl)
    refine ⟨_, _, pre181 _ ?_, hrun, hended, _, _, rfl, ?_, ⟨_, rfl⟩, hW, hsame.mono (by decide) (by decide)⟩
    · show Steps p.tables e below (T176.setTop (mkF m 47 #[.val (.ref a0), .val (.ref a0), .val (.ref a2), .val (.long v180), .second, .val (.int (8 : Int32))] [(.int (lcmpW v180 (0 : Int64)))])) _
      refine XS.ifYes X176.here hx rfl (pc0 := 47) (pc' := 54) rfl (hb hby d4_47) rfl ((if0 _ _).trans (teq ((lw_eq v180 (0 : Int64)).mpr hc182)).1) (by decide) (by decide) ?_
      show Steps p.tables e below (T176.setTop (mkF m 54 #[.val (.ref a0), .val (.ref a0), .val (.ref a2), .val (.long v180), .second, .val (.int (8 : Int32))] [])) _
      exact X176.returnOut hx Bd.returns (hb hby d4_54) hr
    · show Q_rm_subtract_a Z a0 a2 wp kp kk0 kk2 u0 u1 u2 u3 u4 u5 u6 u7 t0 t1 t2 t3 t4 t5 t6 t7 h0 n0 _ T176.heap _
      rw [e176]
      exact ⟨rfl, N176, K176, v104, v114, v124, v134, v144, v154, v164, v174, V176b, ⟨rv110, rv120, rv130, rv140, rv150, rv160, rv170, rv180⟩, own_fin_sub0 hW_a0 hW_a2 hR_a0 hR_a2 (own_telS qv110 qv120 qv130 qv140 qv150 qv160 qv170 qv180) hc182⟩
  · obtain ⟨_, _, ⟨T183, L183, k183, n183⟩, -, X183, ⟨Lc183, hQ183, l183, y183, z183⟩, st183⟩ := Jvm.LawKit.callS X176 hx (y := (⟨"com/example/serialroute/serialroute/core/P256Field", "addP", "([J)V"⟩ : MethodName)) hown (mvT hZ (hw _ (List.mem_of_getElem? (i := 36) rfl))) (mvT hZ (hw _ (List.mem_of_getElem? (i := 37) rfl))) (mvT hZ (hw _ (List.mem_of_getElem? (i := 15) rfl))) (mvT hZ (hw _ (List.mem_of_getElem? (i := 38) rfl))) (by decide) (backOf (W := 0) (rm_addP l Z aw hw [] a0 wp kp kk0 v104 v114 v124 v134 v144 v154 v164 v174 h176 n0 Z176 f177 f178 V176b g0 ne_wp_a0 ⟨rv110, rv120, rv130, rv140, rv150, rv160, rv170, rv180⟩) hZ (hw _ (List.mem_of_getElem? (i := 38) rfl)) (hw _ (List.mem_of_getElem? (i := 15) rfl)) (by decide) (by decide)) (g := (mkF m 51 #[.val (.ref a0), .val (.ref a0), .val (.ref a2), .val (.long v180), .second, .val (.int (8 : Int32))] [(.ref a0)])) rfl (by rw [hml]; rfl) (argsL := [(.ref a0)]) (rest := []) (lenOf pd_3 rfl) rfl (by show 2 * 0 + _ ≤ _; exact Nat.le_of_eq rfl) (hb hby d4_51) (fun _ _ => ⟨rfl, e176, (by decide : 0 + 0 ≤ _), (by decide : 0 + 0 ≤ _)⟩)
    dsimp only [Pt.U, Pt.locs, Pt.cells, Pt.slots] at X183 l183 y183 z183 st183 hQ183
    rw [l183, y183, z183] at X183
    obtain ⟨rfl, N183q, K183q, o183_0, o183_1, o183_2, o183_3, o183_4, o183_5, o183_6, o183_7, c183, V183q, R183q, Q183q, C183q⟩ := hQ183
    have N183 := Fr.app N176 N183q
    have f184 := own_sta_keep f177 K183q (nsS V176b.nostat ns0)
    have f185 := f178.keep K183q (ninS ne_wp_a0 nin0)
    have f186 := f179.keep K183q (ninS (Ne.symm ne_a0_a2) nin0)
    have Z183 : n0 ≤ T183.heap.size := Nat.le_trans Z176 K183q.1
    have K183 : Keep h0 T183.heap [a0] := K176.trans K183q (allS (Or.inl (List.mem_of_getElem? (i := 0) rfl)) all0)
    obtain ⟨fs, hr, hrun, hended, hW, hsame⟩ := X183.leave (v := none) (fun _ => rfl)
    refine ⟨_, _, pre181 _ ?_, hrun, hended, _, _, rfl, ?_, ⟨_, rfl⟩, hW, hsame.mono (by decide) (by decide)⟩
    · show Steps p.tables e below (T176.setTop (mkF m 47 #[.val (.ref a0), .val (.ref a0), .val (.ref a2), .val (.long v180), .second, .val (.int (8 : Int32))] [(.int (lcmpW v180 (0 : Int64)))])) _
      refine XS.ifNo X176.here hx rfl (hb hby d4_47) rfl ((if0 _ _).trans (feq (fun q => hc182 ((lw_eq v180 (0 : Int64)).mp q))).1) ?_
      refine XS.aloadN X176.here hx rfl (hb hby d4_50) rfl rfl ?_
      show Steps p.tables e below (T176.setTop (mkF m 51 #[.val (.ref a0), .val (.ref a0), .val (.ref a2), .val (.long v180), .second, .val (.int (8 : Int32))] [(.ref a0)])) _
      refine st183 _ ?_
      show Steps p.tables e below (T183.setTop (mkF m 54 #[.val (.ref a0), .val (.ref a0), .val (.ref a2), .val (.long v180), .second, .val (.int (8 : Int32))] [])) _
      exact X183.returnOut hx Bd.returns (hb hby d4_54) hr
    · show Q_rm_subtract_a Z a0 a2 wp kp kk0 kk2 u0 u1 u2 u3 u4 u5 u6 u7 t0 t1 t2 t3 t4 t5 t6 t7 h0 n0 _ T183.heap _
      exact ⟨rfl, N183, K183, o183_0, o183_1, o183_2, o183_3, o183_4, o183_5, o183_6, o183_7, V183q, R183q, own_fin_sub1 hW_a0 hW_a2 hR_a0 hR_a2 ⟨rv110, rv120, rv130, rv140, rv150, rv160, rv170, rv180⟩ (own_telS qv110 qv120 qv130 qv140 qv150 qv160 qv170 qv180) hcv180 hc182 R183q Q183q C183q⟩
theorem ef_rm_subtract_b (m : MethodId) (x0 : Addr) (x1 : Addr) (x2 : Addr) : entryFrame m #[(.ref x0), (.ref x1), (.ref x2)] 6 = mkF m 0 #[.val (.ref x0), .val (.ref x1), .val (.ref x2), .unset, .unset, .unset] [] := by first | (simp [entryFrame, mkF, argsToLocals, Value.category]; done) | rfl
def Q_rm_subtract_b (Z : State) (a0 : Addr) (a1 : Addr) (wp : Addr) (kp : ClassId) (kk0 : ClassId) (kk1 : ClassId) (t0 : Int64) (t1 : Int64) (t2 : Int64) (t3 : Int64) (t4 : Int64) (t5 : Int64) (t6 : Int64) (t7 : Int64) (u0 : Int64) (u1 : Int64) (u2 : Int64) (u3 : Int64) (u4 : Int64) (u5 : Int64) (u6 : Int64) (u7 : Int64) (h0 : Heap) (n0 : Nat) (v : Option Value) (h : Heap) (L : List Loc) : Prop := v = none ∧ Fr n0 L ∧ Keep h0 h [a0] ∧ ∃ (o0 o1 o2 o3 o4 o5 o6 o7 : Int64), Arv Z h a0 kk0 .long (8 : Int32) [(.long o0), (.long o1), (.long o2), (.long o3), (.long o4), (.long o5), (.long o6), (.long o7)] (.long (0 : Int64)) ∧ own_RR o0 o1 o2 o3 o4 o5 o6 o7 ∧ own_W o0 o1 o2 o3 o4 o5 o6 o7 < own_P ∧ (own_W o0 o1 o2 o3 o4 o5 o6 o7 = own_W u0 u1 u2 u3 u4 u5 u6 u7 - own_W t0 t1 t2 t3 t4 t5 t6 t7 ∨ own_W o0 o1 o2 o3 o4 o5 o6 o7 = own_W u0 u1 u2 u3 u4 u5 u6 u7 - own_W t0 t1 t2 t3 t4 t5 t6 t7 + own_P)
set_option maxRecDepth 65536 in
set_option maxHeartbeats 40000000 in
theorem rm_subtract_b (l : Launch) (Z : State) (aw : Array Value) (hw : ∀ d ∈ tables_1, d.before aw Z = true) (ws : List Jvm.Cond) (a0 : Addr) (a1 : Addr) (wp : Addr) (kp : ClassId) (kk0 : ClassId) (kk1 : ClassId) (t0 : Int64) (t1 : Int64) (t2 : Int64) (t3 : Int64) (t4 : Int64) (t5 : Int64) (t6 : Int64) (t7 : Int64) (u0 : Int64) (u1 : Int64) (u2 : Int64) (u3 : Int64) (u4 : Int64) (u5 : Int64) (u6 : Int64) (u7 : Int64) (h0 : Heap) (n0 : Nat) (Z0 : n0 ≤ h0.size) (SP : Sta Z h0 "com/example/serialroute/serialroute/core/P256Field" "P_WORDS" "[J" (.ref wp)) (VP : Arv Z h0 wp kp .long (8 : Int32) [(.long (4294967295 : Int64)), (.long (4294967295 : Int64)), (.long (4294967295 : Int64)), (.long (0 : Int64)), (.long (0 : Int64)), (.long (0 : Int64)), (.long (1 : Int64)), (.long (4294967295 : Int64))] (.long (0 : Int64))) (Va0 : Arv Z h0 a0 kk0 .long (8 : Int32) [(.long t0), (.long t1), (.long t2), (.long t3), (.long t4), (.long t5), (.long t6), (.long t7)] (.long (0 : Int64))) (Va1 : Arv Z h0 a1 kk1 .long (8 : Int32) [(.long u0), (.long u1), (.long u2), (.long u3), (.long u4), (.long u5), (.long u6), (.long u7)] (.long (0 : Int64))) (g0 : n0 ≤ a0) (ne_wp_a0 : wp ≠ a0) (ne_a0_a1 : a0 ≠ a1) (hR_a1 : own_RR u0 u1 u2 u3 u4 u5 u6 u7) (hW_a1 : own_W u0 u1 u2 u3 u4 u5 u6 u7 < own_P) (hR_a0 : own_RR t0 t1 t2 t3 t4 t5 t6 t7) (hW_a0 : own_W t0 t1 t2 t3 t4 t5 t6 t7 < own_P) :
    MetFree l (⟨"com/example/serialroute/serialroute/core/P256Field", "subtract", "([J[J[J)V"⟩ : MethodName) (head1 (Jvm.Cond.code (⟨"com/example/serialroute/serialroute/core/P256Field", "subtract", "([J[J[J)V"⟩ : MethodName) prog_29_method_6_code 6 none :: ws) ({ frames := 1, cells := 0, slots := 0, locals := 15 } : Room)) (fun a U => a = #[(.ref a0), (.ref a1), (.ref a0)] ∧ Z.Warmed39 U.vm ∧ U.heap = h0) (fun _ _ _ _ _ => True) (fun _ U oc U' => ∃ v L, oc = .returned v ∧ Q_rm_subtract_b Z a0 a1 wp kp kk0 kk1 t0 t1 t2 t3 t4 t5 t6 t7 u0 u1 u2 u3 u4 u5 u6 u7 h0 n0 v U'.heap L ∧ FrameEnd U oc U' L ({ frames := 1, cells := 0, slots := 0, locals := 15 } : Room).cells ({ frames := 1, cells := 0, slots := 0, locals := 15 } : Room).slots) := by
  refine MetFree.of_bodySF (plainFor_of_name pn_1) hisR ?_
  intro p e s m args below meth c s₁ Bd hml0 hP hK
  obtain ⟨rfl, hZ, hh⟩ := hP
  have hx := Bd.exec
  have hby := Bd.bytes
  have hml : c.maxLocals = 6 := hml0
  have hown : s.vm.findClass "com/example/serialroute/serialroute/core/P256Field" = some m.cls := findClass_of_methodNamed Bd.named
  have hnm := (name_of_methodNamed Bd.named Bd.method).1
  have X0 : Stand p l e ({ frames := 1, cells := 0, slots := 0, locals := 15 } : Room) s m #[(.ref a0), (.ref a1), (.ref a0)] below meth c s₁ [] 0 0 := Stand.of_body Bd
  have e0 : s₁.heap = h0 := by rw [← hh, Bd.state]; rfl
  have N0 := Fr.nil n0
  have pre0 : ∀ t, Steps p.tables e below (s₁.setTop (mkF m 0 #[.val (.ref a0), .val (.ref a1), .val (.ref a0), .unset, .unset, .unset] [])) t → Steps p.tables e below (s₁.setTop (entryFrame m #[(.ref a0), (.ref a1), (.ref a0)] 6)) t := fun t k => castTop (ef_rm_subtract_b m a0 a1 a0) k
  obtain ⟨r_a10, r_a11, r_a12, r_a13, r_a14, r_a15, r_a16, r_a17⟩ := id hR_a1
  obtain ⟨r_a00, r_a01, r_a02, r_a03, r_a04, r_a05, r_a06, r_a07⟩ := id hR_a0
  have hc0 : -1 ≤ ((0 : Int64)).toInt ∧ ((0 : Int64)).toInt ≤ 0 := by decide
  obtain ⟨cl101, Ar101, q101, S101, M101, H101, G101⟩ := id Va1
  obtain ⟨cl102, Ar102, q102, S102, M102, H102, G102⟩ := id Va0
  obtain ⟨v103, gv103⟩ : ∃ z, z = ((0 : Int64) + (u0 - t0)) := ⟨_, rfl⟩
  obtain ⟨v104, gv104⟩ : ∃ z, z = (v103 &&& (4294967295 : Int64)) := ⟨_, rfl⟩
  obtain ⟨cl105, Ar105, q105, S105, M105, H105, G105⟩ := id Va0
  obtain ⟨T106, h106, X106, e106, W106, st106⟩ := stJ X0 hx hZ e0 Ar105 (j := (0 : Int32)) (inb_of S105 ⟨by decide, by decide⟩) (g := (mkF m 32 #[.val (.ref a0), .val (.ref a1), .val (.ref a0), .val (.long v103), .second, .val (.int (0 : Int32))] [(.long v104), (.int (0 : Int32)), (.ref a0)])) rfl rfl (hb hby d4_32)
  have V106 := Arv.set Ar105 q105 S105 M105 H105 G105 rfl W106 0 rfl (Nat.le_of_ble_eq_true rfl)
  have f107 := SP.wr W106
  have f108 := VP.other W106 ne_wp_a0
  have f109 := Va1.other W106 (Ne.symm ne_a0_a1)
  have K106 : Keep h0 h106 [a0] := (Keep.refl h0 [a0]).wr W106 (Or.inl (List.mem_of_getElem? (i := 0) rfl))
  have N106 := Fr.snoc X106 N0 g0
  have Z106 : n0 ≤ h106.size := Nat.le_trans Z0 (Keep.of_wr W106).1
  have V106b : Arv Z h106 a0 kk0 .long (8 : Int32) [(.long v104), (.long t1), (.long t2), (.long t3), (.long t4), (.long t5), (.long t6), (.long t7)] (.long (0 : Int64)) := V106
  obtain ⟨v110, gv110⟩ : ∃ z, z = (v103 >>> ((32 : Int32) &&& 0x3f).toInt64) := ⟨_, rfl⟩
  obtain ⟨qv110, rv110, hcv110⟩ := own_sub_step gv103 gv104 gv110 hc0 r_a10 r_a00
  obtain ⟨cl111, Ar111, q111, S111, M111, H111, G111⟩ := id f109
  obtain ⟨cl112, Ar112, q112, S112, M112, H112, G112⟩ := id V106b
  obtain ⟨v113, gv113⟩ : ∃ z, z = (v110 + (u1 - t1)) := ⟨_, rfl⟩
  obtain ⟨v114, gv114⟩ : ∃ z, z = (v113 &&& (4294967295 : Int64)) := ⟨_, rfl⟩
  obtain ⟨cl115, Ar115, q115, S115, M115, H115, G115⟩ := id V106b
  obtain ⟨T116, h116, X116, e116, W116, st116⟩ := stJ X106 hx hZ e106 Ar115 (j := (1 : Int32)) (inb_of S115 ⟨by decide, by decide⟩) (g := (mkF m 32 #[.val (.ref a0), .val (.ref a1), .val (.ref a0), .val (.long v113), .second, .val (.int (1 : Int32))] [(.long v114), (.int (1 : Int32)), (.ref a0)])) rfl rfl (hb hby d4_32)
  have V116 := Arv.set Ar115 q115 S115 M115 H115 G115 rfl W116 1 rfl (Nat.le_of_ble_eq_true rfl)
  have f117 := f107.wr W116
  have f118 := f108.other W116 ne_wp_a0
  have f119 := f109.other W116 (Ne.symm ne_a0_a1)
  have K116 : Keep h0 h116 [a0] := K106.wr W116 (Or.inl (List.mem_of_getElem? (i := 0) rfl))
  have N116 := Fr.snoc X116 N106 g0
  have Z116 : n0 ≤ h116.size := Nat.le_trans Z106 (Keep.of_wr W116).1
  have V116b : Arv Z h116 a0 kk0 .long (8 : Int32) [(.long v104), (.long v114), (.long t2), (.long t3), (.long t4), (.long t5), (.long t6), (.long t7)] (.long (0 : Int64)) := V116
  obtain ⟨v120, gv120⟩ : ∃ z, z = (v113 >>> ((32 : Int32) &&& 0x3f).toInt64) := ⟨_, rfl⟩
  obtain ⟨qv120, rv120, hcv120⟩ := own_sub_step gv113 gv114 gv120 hcv110 r_a11 r_a01
  obtain ⟨cl121, Ar121, q121, S121, M121, H121, G121⟩ := id f119
  obtain ⟨cl122, Ar122, q122, S122, M122, H122, G122⟩ := id V116b
  obtain ⟨v123, gv123⟩ : ∃ z, z = (v120 + (u2 - t2)) := ⟨_, rfl⟩
  obtain ⟨v124, gv124⟩ : ∃ z, z = (v123 &&& (4294967295 : Int64)) := ⟨_, rfl⟩
  obtain ⟨cl125, Ar125, q125, S125, M125, H125, G125⟩ := id V116b
  obtain ⟨T126, h126, X126, e126, W126, st126⟩ := stJ X116 hx hZ e116 Ar125 (j := (2 : Int32)) (inb_of S125 ⟨by decide, by decide⟩) (g := (mkF m 32 #[.val (.ref a0), .val (.ref a1), .val (.ref a0), .val (.long v123), .second, .val (.int (2 : Int32))] [(.long v124), (.int (2 : Int32)), (.ref a0)])) rfl rfl (hb hby d4_32)
  have V126 := Arv.set Ar125 q125 S125 M125 H125 G125 rfl W126 2 rfl (Nat.le_of_ble_eq_true rfl)
  have f127 := f117.wr W126
  have f128 := f118.other W126 ne_wp_a0
  have f129 := f119.other W126 (Ne.symm ne_a0_a1)
  have K126 : Keep h0 h126 [a0] := K116.wr W126 (Or.inl (List.mem_of_getElem? (i := 0) rfl))
  have N126 := Fr.snoc X126 N116 g0
  have Z126 : n0 ≤ h126.size := Nat.le_trans Z116 (Keep.of_wr W126).1
  have V126b : Arv Z h126 a0 kk0 .long (8 : Int32) [(.long v104), (.long v114), (.long v124), (.long t3), (.long t4), (.long t5), (.long t6), (.long t7)] (.long (0 : Int64)) := V126
  obtain ⟨v130, gv130⟩ : ∃ z, z = (v123 >>> ((32 : Int32) &&& 0x3f).toInt64) := ⟨_, rfl⟩
  obtain ⟨qv130, rv130, hcv130⟩ := own_sub_step gv123 gv124 gv130 hcv120 r_a12 r_a02
  obtain ⟨cl131, Ar131, q131, S131, M131, H131, G131⟩ := id f129
  obtain ⟨cl132, Ar132, q132, S132, M132, H132, G132⟩ := id V126b
  obtain ⟨v133, gv133⟩ : ∃ z, z = (v130 + (u3 - t3)) := ⟨_, rfl⟩
  obtain ⟨v134, gv134⟩ : ∃ z, z = (v133 &&& (4294967295 : Int64)) := ⟨_, rfl⟩
  obtain ⟨cl135, Ar135, q135, S135, M135, H135, G135⟩ := id V126b
  obtain ⟨T136, h136, X136, e136, W136, st136⟩ := stJ X126 hx hZ e126 Ar135 (j := (3 : Int32)) (inb_of S135 ⟨by decide, by decide⟩) (g := (mkF m 32 #[.val (.ref a0), .val (.ref a1), .val (.ref a0), .val (.long v133), .second, .val (.int (3 : Int32))] [(.long v134), (.int (3 : Int32)), (.ref a0)])) rfl rfl (hb hby d4_32)
  have V136 := Arv.set Ar135 q135 S135 M135 H135 G135 rfl W136 3 rfl (Nat.le_of_ble_eq_true rfl)
  have f137 := f127.wr W136
  have f138 := f128.other W136 ne_wp_a0
  have f139 := f129.other W136 (Ne.symm ne_a0_a1)
  have K136 : Keep h0 h136 [a0] := K126.wr W136 (Or.inl (List.mem_of_getElem? (i := 0) rfl))
  have N136 := Fr.snoc X136 N126 g0
  have Z136 : n0 ≤ h136.size := Nat.le_trans Z126 (Keep.of_wr W136).1
  have V136b : Arv Z h136 a0 kk0 .long (8 : Int32) [(.long v104), (.long v114), (.long v124), (.long v134), (.long t4), (.long t5), (.long t6), (.long t7)] (.long (0 : Int64)) := V136
  obtain ⟨v140, gv140⟩ : ∃ z, z = (v133 >>> ((32 : Int32) &&& 0x3f).toInt64) := ⟨_, rfl⟩
  obtain ⟨qv140, rv140, hcv140⟩ := own_sub_step gv133 gv134 gv140 hcv130 r_a13 r_a03
  obtain ⟨cl141, Ar141, q141, S141, M141, H141, G141⟩ := id f139
  obtain ⟨cl142, Ar142, q142, S142, M142, H142, G142⟩ := id V136b
  obtain ⟨v143, gv143⟩ : ∃ z, z = (v140 + (u4 - t4)) := ⟨_, rfl⟩
  obtain ⟨v144, gv144⟩ : ∃ z, z = (v143 &&& (4294967295 : Int64)) := ⟨_, rfl⟩
  obtain ⟨cl145, Ar145, q145, S145, M145, H145, G145⟩ := id V136b
  obtain ⟨T146, h146, X146, e146, W146, st146⟩ := stJ X136 hx hZ e136 Ar145 (j := (4 : Int32)) (inb_of S145 ⟨by decide, by decide⟩) (g := (mkF m 32 #[.val (.ref a0), .val (.ref a1), .val (.ref a0), .val (.long v143), .second, .val (.int (4 : Int32))] [(.long v144), (.int (4 : Int32)), (.ref a0)])) rfl rfl (hb hby d4_32)
  have V146 := Arv.set Ar145 q145 S145 M145 H145 G145 rfl W146 4 rfl (Nat.le_of_ble_eq_true rfl)
  have f147 := f137.wr W146
  have f148 := f138.other W146 ne_wp_a0
  have f149 := f139.other W146 (Ne.symm ne_a0_a1)
  have K146 : Keep h0 h146 [a0] := K136.wr W146 (Or.inl (List.mem_of_getElem? (i := 0) rfl))
  have N146 := Fr.snoc X146 N136 g0
  have Z146 : n0 ≤ h146.size := Nat.le_trans Z136 (Keep.of_wr W146).1
  have V146b : Arv Z h146 a0 kk0 .long (8 : Int32) [(.long v104), (.long v114), (.long v124), (.long v134), (.long v144), (.long t5), (.long t6), (.long t7)] (.long (0 : Int64)) := V146
  obtain ⟨v150, gv150⟩ : ∃ z, z = (v143 >>> ((32 : Int32) &&& 0x3f).toInt64) := ⟨_, rfl⟩
  obtain ⟨qv150, rv150, hcv150⟩ := own_sub_step gv143 gv144 gv150 hcv140 r_a14 r_a04
  obtain ⟨cl151, Ar151, q151, S151, M151, H151, G151⟩ := id f149
  obtain ⟨cl152, Ar152, q152, S152, M152, H152, G152⟩ := id V146b
  obtain ⟨v153, gv153⟩ : ∃ z, z = (v150 + (u5 - t5)) := ⟨_, rfl⟩
  obtain ⟨v154, gv154⟩ : ∃ z, z = (v153 &&& (4294967295 : Int64)) := ⟨_, rfl⟩
  obtain ⟨cl155, Ar155, q155, S155, M155, H155, G155⟩ := id V146b
  obtain ⟨T156, h156, X156, e156, W156, st156⟩ := stJ X146 hx hZ e146 Ar155 (j := (5 : Int32)) (inb_of S155 ⟨by decide, by decide⟩) (g := (mkF m 32 #[.val (.ref a0), .val (.ref a1), .val (.ref a0), .val (.long v153), .second, .val (.int (5 : Int32))] [(.long v154), (.int (5 : Int32)), (.ref a0)])) rfl rfl (hb hby d4_32)
  have V156 := Arv.set Ar155 q155 S155 M155 H155 G155 rfl W156 5 rfl (Nat.le_of_ble_eq_true rfl)
  have f157 := f147.wr W156
  have f158 := f148.other W156 ne_wp_a0
  have f159 := f149.other W156 (Ne.symm ne_a0_a1)
  have K156 : Keep h0 h156 [a0] := K146.wr W156 (Or.inl (List.mem_of_getElem? (i := 0) rfl))
  have N156 := Fr.snoc X156 N146 g0
  have Z156 : n0 ≤ h156.size := Nat.le_trans Z146 (Keep.of_wr W156).1
  have V156b : Arv Z h156 a0 kk0 .long (8 : Int32) [(.long v104), (.long v114), (.long v124), (.long v134), (.long v144), (.long v154), (.long t6), (.long t7)] (.long (0 : Int64)) := V156
  obtain ⟨v160, gv160⟩ : ∃ z, z = (v153 >>> ((32 : Int32) &&& 0x3f).toInt64) := ⟨_, rfl⟩
  obtain ⟨qv160, rv160, hcv160⟩ := own_sub_step gv153 gv154 gv160 hcv150 r_a15 r_a05
  obtain ⟨cl161, Ar161, q161, S161, M161, H161, G161⟩ := id f159
  obtain ⟨cl162, Ar162, q162, S162, M162, H162, G162⟩ := id V156b
  obtain ⟨v163, gv163⟩ : ∃ z, z = (v160 + (u6 - t6)) := ⟨_, rfl⟩
  obtain ⟨v164, gv164⟩ : ∃ z, z = (v163 &&& (4294967295 : Int64)) := ⟨_, rfl⟩
  obtain ⟨cl165, Ar165, q165, S165, M165, H165, G165⟩ := id V156b
  obtain ⟨T166, h166, X166, e166, W166, st166⟩ := stJ X156 hx hZ e156 Ar165 (j := (6 : Int32)) (inb_of S165 ⟨by decide, by decide⟩) (g := (mkF m 32 #[.val (.ref a0), .val (.ref a1), .val (.ref a0), .val (.long v163), .second, .val (.int (6 : Int32))] [(.long v164), (.int (6 : Int32)), (.ref a0)])) rfl rfl (hb hby d4_32)
  have V166 := Arv.set Ar165 q165 S165 M165 H165 G165 rfl W166 6 rfl (Nat.le_of_ble_eq_true rfl)
  have f167 := f157.wr W166
  have f168 := f158.other W166 ne_wp_a0
  have f169 := f159.other W166 (Ne.symm ne_a0_a1)
  have K166 : Keep h0 h166 [a0] := K156.wr W166 (Or.inl (List.mem_of_getElem? (i := 0) rfl))
  have N166 := Fr.snoc X166 N156 g0
  have Z166 : n0 ≤ h166.size := Nat.le_trans Z156 (Keep.of_wr W166).1
  have V166b : Arv Z h166 a0 kk0 .long (8 : Int32) [(.long v104), (.long v114), (.long v124), (.long v134), (.long v144), (.long v154), (.long v164), (.long t7)] (.long (0 : Int64)) := V166
  obtain ⟨v170, gv170⟩ : ∃ z, z = (v163 >>> ((32 : Int32) &&& 0x3f).toInt64) := ⟨_, rfl⟩
  obtain ⟨qv170, rv170, hcv170⟩ := own_sub_step gv163 gv164 gv170 hcv160 r_a16 r_a06
  obtain ⟨cl171, Ar171, q171, S171, M171, H171, G171⟩ := id f169
  obtain ⟨cl172, Ar172, q172, S172, M172, H172, G172⟩ := id V166b
  obtain ⟨v173, gv173⟩ : ∃ z, z = (v170 + (u7 - t7)) := ⟨_, rfl⟩
  obtain ⟨v174, gv174⟩ : ∃ z, z = (v173 &&& (4294967295 : Int64)) := ⟨_, rfl⟩
  obtain ⟨cl175, Ar175, q175, S175, M175, H175, G175⟩ := id V166b
  obtain ⟨T176, h176, X176, e176, W176, st176⟩ := stJ X166 hx hZ e166 Ar175 (j := (7 : Int32)) (inb_of S175 ⟨by decide, by decide⟩) (g := (mkF m 32 #[.val (.ref a0), .val (.ref a1), .val (.ref a0), .val (.long v173), .second, .val (.int (7 : Int32))] [(.long v174), (.int (7 : Int32)), (.ref a0)])) rfl rfl (hb hby d4_32)
  have V176 := Arv.set Ar175 q175 S175 M175 H175 G175 rfl W176 7 rfl (Nat.le_of_ble_eq_true rfl)
  have f177 := f167.wr W176
  have f178 := f168.other W176 ne_wp_a0
  have f179 := f169.other W176 (Ne.symm ne_a0_a1)
  have K176 : Keep h0 h176 [a0] := K166.wr W176 (Or.inl (List.mem_of_getElem? (i := 0) rfl))
  have N176 := Fr.snoc X176 N166 g0
  have Z176 : n0 ≤ h176.size := Nat.le_trans Z166 (Keep.of_wr W176).1
  have V176b : Arv Z h176 a0 kk0 .long (8 : Int32) [(.long v104), (.long v114), (.long v124), (.long v134), (.long v144), (.long v154), (.long v164), (.long v174)] (.long (0 : Int64)) := V176
  obtain ⟨v180, gv180⟩ : ∃ z, z = (v173 >>> ((32 : Int32) &&& 0x3f).toInt64) := ⟨_, rfl⟩
  obtain ⟨qv180, rv180, hcv180⟩ := own_sub_step gv173 gv174 gv180 hcv170 r_a17 r_a07
  have pre181 : ∀ t, Steps p.tables e below (T176.setTop (mkF m 47 #[.val (.ref a0), .val (.ref a1), .val (.ref a0), .val (.long v180), .second, .val (.int (8 : Int32))] [(.int (lcmpW v180 (0 : Int64)))])) t → Steps p.tables e below (s₁.setTop (entryFrame m #[(.ref a0), (.ref a1), (.ref a0)] 6)) t := fun t k => by
    refine pre0 t ?_
    show Steps p.tables e below (s₁.setTop (mkF m 0 #[.val (.ref a0), .val (.ref a1), .val (.ref a0), .unset, .unset, .unset] [])) _
    refine XS.lconst X0.here hx rfl (hb hby d4_0) ?_
    refine XS.lstoreN X0.here hx rfl (hb hby d4_1) rfl (l' := #[.val (.ref a0), .val (.ref a1), .val (.ref a0), .val (.long (0 : Int64)), .second, .unset]) rfl ?_
    refine XS.iconst X0.here hx rfl (hb hby d4_2) ?_
    refine XS.istore X0.here hx rfl (hb hby d4_3) rfl (l' := #[.val (.ref a0), .val (.ref a1), .val (.ref a0), .val (.long (0 : Int64)), .second, .val (.int (0 : Int32))]) rfl ?_
    show Steps p.tables e below (s₁.setTop (mkF m 5 #[.val (.ref a0), .val (.ref a1), .val (.ref a0), .val (.long (0 : Int64)), .second, .val (.int (0 : Int32))] [])) _
    refine XS.iload X0.here hx rfl (hb hby d4_5) rfl ?_
    refine XS.bipush X0.here hx rfl (hb hby d4_7) ?_
    refine XS.icmpNo X0.here hx rfl (hb hby d4_9) rfl (tlt (by decide : (0 : Int32) < (8 : Int32))).2.1 ?_
    refine XS.lloadN X0.here hx rfl (hb hby d4_12) rfl ?_
    show Steps p.tables e below (s₁.setTop (mkF m 13 #[.val (.ref a0), .val (.ref a1), .val (.ref a0), .val (.long (0 : Int64)), .second, .val (.int (0 : Int32))] [(.long (0 : Int64))])) _
    refine XS.aloadN X0.here hx rfl (hb hby d4_13) rfl rfl ?_
    refine XS.iload X0.here hx rfl (hb hby d4_14) rfl ?_
    show Steps p.tables e below (s₁.setTop (mkF m 16 #[.val (.ref a0), .val (.ref a1), .val (.ref a0), .val (.long (0 : Int64)), .second, .val (.int (0 : Int32))] [(.int (0 : Int32)), (.ref a1), (.long (0 : Int64))])) _
    have hin101 : ¬ ((0 : Int32) < 0 ∨ cl101.slots.size ≤ ((0 : Int32)).toNatClampNeg) := (inb_of S101 ⟨by decide, by decide⟩)
    refine X0.laload hx (j := (0 : Int32)) (v := (.long u0)) (by rw [e0]; exact Ar101.1) (State.isArrayOf_alike hZ.alike Ar101.2.1) Ar101.2.2 hin101 (H101.at hin101 rfl) (g := (mkF m 16 #[.val (.ref a0), .val (.ref a1), .val (.ref a0), .val (.long (0 : Int64)), .second, .val (.int (0 : Int32))] [(.int (0 : Int32)), (.ref a1), (.long (0 : Int64))])) rfl rfl (hb hby d4_16) _ ?_
    refine XS.aloadN X0.here hx rfl (hb hby d4_17) rfl rfl ?_
    refine XS.iload X0.here hx rfl (hb hby d4_18) rfl ?_
    show Steps p.tables e below (s₁.setTop (mkF m 20 #[.val (.ref a0), .val (.ref a1), .val (.ref a0), .val (.long (0 : Int64)), .second, .val (.int (0 : Int32))] [(.int (0 : Int32)), (.ref a0), (.long u0), (.long (0 : Int64))])) _
    have hin102 : ¬ ((0 : Int32) < 0 ∨ cl102.slots.size ≤ ((0 : Int32)).toNatClampNeg) := (inb_of S102 ⟨by decide, by decide⟩)
    refine X0.laload hx (j := (0 : Int32)) (v := (.long t0)) (by rw [e0]; exact Ar102.1) (State.isArrayOf_alike hZ.alike Ar102.2.1) Ar102.2.2 hin102 (H102.at hin102 rfl) (g := (mkF m 20 #[.val (.ref a0), .val (.ref a1), .val (.ref a0), .val (.long (0 : Int64)), .second, .val (.int (0 : Int32))] [(.int (0 : Int32)), (.ref a0), (.long u0), (.long (0 : Int64))])) rfl rfl (hb hby d4_20) _ ?_
    refine XS.lsub X0.here hx rfl (hb hby d4_21) rfl ?_
    refine XS.ladd X0.here hx rfl (hb hby d4_22) rfl ?_
    show Steps p.tables e below (s₁.setTop (mkF m 23 #[.val (.ref a0), .val (.ref a1), .val (.ref a0), .val (.long (0 : Int64)), .second, .val (.int (0 : Int32))] [(.long ((0 : Int64) + (u0 - t0)))])) _
    rw [← gv103]
    refine XS.lstoreN X0.here hx rfl (hb hby d4_23) rfl (l' := #[.val (.ref a0), .val (.ref a1), .val (.ref a0), .val (.long v103), .second, .val (.int (0 : Int32))]) rfl ?_
    refine XS.aloadN X0.here hx rfl (hb hby d4_24) rfl rfl ?_
    refine XS.iload X0.here hx rfl (hb hby d4_25) rfl ?_
    show Steps p.tables e below (s₁.setTop (mkF m 27 #[.val (.ref a0), .val (.ref a1), .val (.ref a0), .val (.long v103), .second, .val (.int (0 : Int32))] [(.int (0 : Int32)), (.ref a0)])) _
    refine XS.lloadN X0.here hx rfl (hb hby d4_27) rfl ?_
    show Steps p.tables e below (s₁.setTop (mkF m 28 #[.val (.ref a0), .val (.ref a1), .val (.ref a0), .val (.long v103), .second, .val (.int (0 : Int32))] [(.long v103), (.int (0 : Int32)), (.ref a0)])) _
    refine X0.ldc2Long hx hown (mvT hZ (hw _ (List.mem_of_getElem? (i := 17) rfl))) (g := (mkF m 28 #[.val (.ref a0), .val (.ref a1), .val (.ref a0), .val (.long v103), .second, .val (.int (0 : Int32))] [(.long v103), (.int (0 : Int32)), (.ref a0)])) rfl (hb hby d4_28) _ ?_
    refine XS.land X0.here hx rfl (hb hby d4_31) rfl ?_
    show Steps p.tables e below (s₁.setTop (mkF m 32 #[.val (.ref a0), .val (.ref a1), .val (.ref a0), .val (.long v103), .second, .val (.int (0 : Int32))] [(.long (v103 &&& (4294967295 : Int64))), (.int (0 : Int32)), (.ref a0)])) _
    rw [← gv104]
    show Steps p.tables e below (s₁.setTop (mkF m 32 #[.val (.ref a0), .val (.ref a1), .val (.ref a0), .val (.long v103), .second, .val (.int (0 : Int32))] [(.long v104), (.int (0 : Int32)), (.ref a0)])) _
    refine st106 _ ?_
    refine XS.lloadN X106.here hx rfl (hb hby d4_33) rfl ?_
    refine XS.bipush X106.here hx rfl (hb hby d4_34) ?_
    refine XS.lshr X106.here hx rfl (hb hby d4_36) rfl ?_
    show Steps p.tables e below (T106.setTop (mkF m 37 #[.val (.ref a0), .val (.ref a1), .val (.ref a0), .val (.long v103), .second, .val (.int (0 : Int32))] [(.long (v103 >>> ((32 : Int32) &&& 0x3f).toInt64))])) _
    rw [← gv110]
    refine XS.lstoreN X106.here hx rfl (hb hby d4_37) rfl (l' := #[.val (.ref a0), .val (.ref a1), .val (.ref a0), .val (.long v110), .second, .val (.int (0 : Int32))]) rfl ?_
    refine XS.iinc X106.here hx rfl (hb hby d4_38) rfl (l' := #[.val (.ref a0), .val (.ref a1), .val (.ref a0), .val (.long v110), .second, .val (.int (1 : Int32))]) rfl ?_
    refine XS.goto X106.here hx rfl (pc0 := 41) (pc' := 5) rfl (hb hby d4_41) (by decide) (by decide) ?_
    show Steps p.tables e below (T106.setTop (mkF m 5 #[.val (.ref a0), .val (.ref a1), .val (.ref a0), .val (.long v110), .second, .val (.int (1 : Int32))] [])) _
    refine XS.iload X106.here hx rfl (hb hby d4_5) rfl ?_
    refine XS.bipush X106.here hx rfl (hb hby d4_7) ?_
    refine XS.icmpNo X106.here hx rfl (hb hby d4_9) rfl (tlt (by decide : (1 : Int32) < (8 : Int32))).2.1 ?_
    refine XS.lloadN X106.here hx rfl (hb hby d4_12) rfl ?_
    show Steps p.tables e below (T106.setTop (mkF m 13 #[.val (.ref a0), .val (.ref a1), .val (.ref a0), .val (.long v110), .second, .val (.int (1 : Int32))] [(.long v110)])) _
    refine XS.aloadN X106.here hx rfl (hb hby d4_13) rfl rfl ?_
    refine XS.iload X106.here hx rfl (hb hby d4_14) rfl ?_
    show Steps p.tables e below (T106.setTop (mkF m 16 #[.val (.ref a0), .val (.ref a1), .val (.ref a0), .val (.long v110), .second, .val (.int (1 : Int32))] [(.int (1 : Int32)), (.ref a1), (.long v110)])) _
    have hin111 : ¬ ((1 : Int32) < 0 ∨ cl111.slots.size ≤ ((1 : Int32)).toNatClampNeg) := (inb_of S111 ⟨by decide, by decide⟩)
    refine X106.laload hx (j := (1 : Int32)) (v := (.long u1)) (by rw [e106]; exact Ar111.1) (State.isArrayOf_alike hZ.alike Ar111.2.1) Ar111.2.2 hin111 (H111.at hin111 rfl) (g := (mkF m 16 #[.val (.ref a0), .val (.ref a1), .val (.ref a0), .val (.long v110), .second, .val (.int (1 : Int32))] [(.int (1 : Int32)), (.ref a1), (.long v110)])) rfl rfl (hb hby d4_16) _ ?_
    refine XS.aloadN X106.here hx rfl (hb hby d4_17) rfl rfl ?_
    refine XS.iload X106.here hx rfl (hb hby d4_18) rfl ?_
    show Steps p.tables e below (T106.setTop (mkF m 20 #[.val (.ref a0), .val (.ref a1), .val (.ref a0), .val (.long v110), .second, .val (.int (1 : Int32))] [(.int (1 : Int32)), (.ref a0), (.long u1), (.long v110)])) _
    have hin112 : ¬ ((1 : Int32) < 0 ∨ cl112.slots.size ≤ ((1 : Int32)).toNatClampNeg) := (inb_of S112 ⟨by decide, by decide⟩)
    refine X106.laload hx (j := (1 : Int32)) (v := (.long t1)) (by rw [e106]; exact Ar112.1) (State.isArrayOf_alike hZ.alike Ar112.2.1) Ar112.2.2 hin112 (H112.at hin112 rfl) (g := (mkF m 20 #[.val (.ref a0), .val (.ref a1), .val (.ref a0), .val (.long v110), .second, .val (.int (1 : Int32))] [(.int (1 : Int32)), (.ref a0), (.long u1), (.long v110)])) rfl rfl (hb hby d4_20) _ ?_
    refine XS.lsub X106.here hx rfl (hb hby d4_21) rfl ?_
    refine XS.ladd X106.here hx rfl (hb hby d4_22) rfl ?_
    show Steps p.tables e below (T106.setTop (mkF m 23 #[.val (.ref a0), .val (.ref a1), .val (.ref a0), .val (.long v110), .second, .val (.int (1 : Int32))] [(.long (v110 + (u1 - t1)))])) _
    rw [← gv113]
    refine XS.lstoreN X106.here hx rfl (hb hby d4_23) rfl (l' := #[.val (.ref a0), .val (.ref a1), .val (.ref a0), .val (.long v113), .second, .val (.int (1 : Int32))]) rfl ?_
    refine XS.aloadN X106.here hx rfl (hb hby d4_24) rfl rfl ?_
    refine XS.iload X106.here hx rfl (hb hby d4_25) rfl ?_
    show Steps p.tables e below (T106.setTop (mkF m 27 #[.val (.ref a0), .val (.ref a1), .val (.ref a0), .val (.long v113), .second, .val (.int (1 : Int32))] [(.int (1 : Int32)), (.ref a0)])) _
    refine XS.lloadN X106.here hx rfl (hb hby d4_27) rfl ?_
    show Steps p.tables e below (T106.setTop (mkF m 28 #[.val (.ref a0), .val (.ref a1), .val (.ref a0), .val (.long v113), .second, .val (.int (1 : Int32))] [(.long v113), (.int (1 : Int32)), (.ref a0)])) _
    refine X106.ldc2Long hx hown (mvT hZ (hw _ (List.mem_of_getElem? (i := 17) rfl))) (g := (mkF m 28 #[.val (.ref a0), .val (.ref a1), .val (.ref a0), .val (.long v113), .second, .val (.int (1 : Int32))] [(.long v113), (.int (1 : Int32)), (.ref a0)])) rfl (hb hby d4_28) _ ?_
    refine XS.land X106.here hx rfl (hb hby d4_31) rfl ?_
    show Steps p.tables e below (T106.setTop (mkF m 32 #[.val (.ref a0), .val (.ref a1), .val (.ref a0), .val (.long v113), .second, .val (.int (1 : Int32))] [(.long (v113 &&& (4294967295 : Int64))), (.int (1 : Int32)), (.ref a0)])) _
    rw [← gv114]
    show Steps p.tables e below (T106.setTop (mkF m 32 #[.val (.ref a0), .val (.ref a1), .val (.ref a0), .val (.long v113), .second, .val (.int (1 : Int32))] [(.long v114), (.int (1 : Int32)), (.ref a0)])) _
    refine st116 _ ?_
    refine XS.lloadN X116.here hx rfl (hb hby d4_33) rfl ?_
    refine XS.bipush X116.here hx rfl (hb hby d4_34) ?_
    refine XS.lshr X116.here hx rfl (hb hby d4_36) rfl ?_
    show Steps p.tables e below (T116.setTop (mkF m 37 #[.val (.ref a0), .val (.ref a1), .val (.ref a0), .val (.long v113), .second, .val (.int (1 : Int32))] [(.long (v113 >>> ((32 : Int32) &&& 0x3f).toInt64))])) _
    rw [← gv120]
    refine XS.lstoreN X116.here hx rfl (hb hby d4_37) rfl (l' := #[.val (.ref a0), .val (.ref a1), .val (.ref a0), .val (.long v120), .second, .val (.int (1 : Int32))]) rfl ?_
    refine XS.iinc X116.here hx rfl (hb hby d4_38) rfl (l' := #[.val (.ref a0), .val (.ref a1), .val (.ref a0), .val (.long v120), .second, .val (.int (2 : Int32))]) rfl ?_
    refine XS.goto X116.here hx rfl (pc0 := 41) (pc' := 5) rfl (hb hby d4_41) (by decide) (by decide) ?_
    show Steps p.tables e below (T116.setTop (mkF m 5 #[.val (.ref a0), .val (.ref a1), .val (.ref a0), .val (.long v120), .second, .val (.int (2 : Int32))] [])) _
    refine XS.iload X116.here hx rfl (hb hby d4_5) rfl ?_
    refine XS.bipush X116.here hx rfl (hb hby d4_7) ?_
    refine XS.icmpNo X116.here hx rfl (hb hby d4_9) rfl (tlt (by decide : (2 : Int32) < (8 : Int32))).2.1 ?_
    refine XS.lloadN X116.here hx rfl (hb hby d4_12) rfl ?_
    show Steps p.tables e below (T116.setTop (mkF m 13 #[.val (.ref a0), .val (.ref a1), .val (.ref a0), .val (.long v120), .second, .val (.int (2 : Int32))] [(.long v120)])) _
    refine XS.aloadN X116.here hx rfl (hb hby d4_13) rfl rfl ?_
    refine XS.iload X116.here hx rfl (hb hby d4_14) rfl ?_
    show Steps p.tables e below (T116.setTop (mkF m 16 #[.val (.ref a0), .val (.ref a1), .val (.ref a0), .val (.long v120), .second, .val (.int (2 : Int32))] [(.int (2 : Int32)), (.ref a1), (.long v120)])) _
    have hin121 : ¬ ((2 : Int32) < 0 ∨ cl121.slots.size ≤ ((2 : Int32)).toNatClampNeg) := (inb_of S121 ⟨by decide, by decide⟩)
    refine X116.laload hx (j := (2 : Int32)) (v := (.long u2)) (by rw [e116]; exact Ar121.1) (State.isArrayOf_alike hZ.alike Ar121.2.1) Ar121.2.2 hin121 (H121.at hin121 rfl) (g := (mkF m 16 #[.val (.ref a0), .val (.ref a1), .val (.ref a0), .val (.long v120), .second, .val (.int (2 : Int32))] [(.int (2 : Int32)), (.ref a1), (.long v120)])) rfl rfl (hb hby d4_16) _ ?_
    refine XS.aloadN X116.here hx rfl (hb hby d4_17) rfl rfl ?_
    refine XS.iload X116.here hx rfl (hb hby d4_18) rfl ?_
    show Steps p.tables e below (T116.setTop (mkF m 20 #[.val (.ref a0), .val (.ref a1), .val (.ref a0), .val (.long v120), .second, .val (.int (2 : Int32))] [(.int (2 : Int32)), (.ref a0), (.long u2), (.long v120)])) _
    have hin122 : ¬ ((2 : Int32) < 0 ∨ cl122.slots.size ≤ ((2 : Int32)).toNatClampNeg) := (inb_of S122 ⟨by decide, by decide⟩)
    refine X116.laload hx (j := (2 : Int32)) (v := (.long t2)) (by rw [e116]; exact Ar122.1) (State.isArrayOf_alike hZ.alike Ar122.2.1) Ar122.2.2 hin122 (H122.at hin122 rfl) (g := (mkF m 20 #[.val (.ref a0), .val (.ref a1), .val (.ref a0), .val (.long v120), .second, .val (.int (2 : Int32))] [(.int (2 : Int32)), (.ref a0), (.long u2), (.long v120)])) rfl rfl (hb hby d4_20) _ ?_
    refine XS.lsub X116.here hx rfl (hb hby d4_21) rfl ?_
    refine XS.ladd X116.here hx rfl (hb hby d4_22) rfl ?_
    show Steps p.tables e below (T116.setTop (mkF m 23 #[.val (.ref a0), .val (.ref a1), .val (.ref a0), .val (.long v120), .second, .val (.int (2 : Int32))] [(.long (v120 + (u2 - t2)))])) _
    rw [← gv123]
    refine XS.lstoreN X116.here hx rfl (hb hby d4_23) rfl (l' := #[.val (.ref a0), .val (.ref a1), .val (.ref a0), .val (.long v123), .second, .val (.int (2 : Int32))]) rfl ?_
    refine XS.aloadN X116.here hx rfl (hb hby d4_24) rfl rfl ?_
    refine XS.iload X116.here hx rfl (hb hby d4_25) rfl ?_
    show Steps p.tables e below (T116.setTop (mkF m 27 #[.val (.ref a0), .val (.ref a1), .val (.ref a0), .val (.long v123), .second, .val (.int (2 : Int32))] [(.int (2 : Int32)), (.ref a0)])) _
    refine XS.lloadN X116.here hx rfl (hb hby d4_27) rfl ?_
    show Steps p.tables e below (T116.setTop (mkF m 28 #[.val (.ref a0), .val (.ref a1), .val (.ref a0), .val (.long v123), .second, .val (.int (2 : Int32))] [(.long v123), (.int (2 : Int32)), (.ref a0)])) _
    refine X116.ldc2Long hx hown (mvT hZ (hw _ (List.mem_of_getElem? (i := 17) rfl))) (g := (mkF m 28 #[.val (.ref a0), .val (.ref a1), .val (.ref a0), .val (.long v123), .second, .val (.int (2 : Int32))] [(.long v123), (.int (2 : Int32)), (.ref a0)])) rfl (hb hby d4_28) _ ?_
    refine XS.land X116.here hx rfl (hb hby d4_31) rfl ?_
    show Steps p.tables e below (T116.setTop (mkF m 32 #[.val (.ref a0), .val (.ref a1), .val (.ref a0), .val (.long v123), .second, .val (.int (2 : Int32))] [(.long (v123 &&& (4294967295 : Int64))), (.int (2 : Int32)), (.ref a0)])) _
    rw [← gv124]
    show Steps p.tables e below (T116.setTop (mkF m 32 #[.val (.ref a0), .val (.ref a1), .val (.ref a0), .val (.long v123), .second, .val (.int (2 : Int32))] [(.long v124), (.int (2 : Int32)), (.ref a0)])) _
    refine st126 _ ?_
    refine XS.lloadN X126.here hx rfl (hb hby d4_33) rfl ?_
    refine XS.bipush X126.here hx rfl (hb hby d4_34) ?_
    refine XS.lshr X126.here hx rfl (hb hby d4_36) rfl ?_
    show Steps p.tables e below (T126.setTop (mkF m 37 #[.val (.ref a0), .val (.ref a1), .val (.ref a0), .val (.long v123), .second, .val (.int (2 : Int32))] [(.long (v123 >>> ((32 : Int32) &&& 0x3f).toInt64))])) _
    rw [← gv130]
    refine XS.lstoreN X126.here hx rfl (hb hby d4_37) rfl (l' := #[.val (.ref a0), .val (.ref a1), .val (.ref a0), .val (.long v130), .second, .val (.int (2 : Int32))]) rfl ?_
    refine XS.iinc X126.here hx rfl (hb hby d4_38) rfl (l' := #[.val (.ref a0), .val (.ref a1), .val (.ref a0), .val (.long v130), .second, .val (.int (3 : Int32))]) rfl ?_
    refine XS.goto X126.here hx rfl (pc0 := 41) (pc' := 5) rfl (hb hby d4_41) (by decide) (by decide) ?_
    show Steps p.tables e below (T126.setTop (mkF m 5 #[.val (.ref a0), .val (.ref a1), .val (.ref a0), .val (.long v130), .second, .val (.int (3 : Int32))] [])) _
    refine XS.iload X126.here hx rfl (hb hby d4_5) rfl ?_
    refine XS.bipush X126.here hx rfl (hb hby d4_7) ?_
    refine XS.icmpNo X126.here hx rfl (hb hby d4_9) rfl (tlt (by decide : (3 : Int32) < (8 : Int32))).2.1 ?_
    refine XS.lloadN X126.here hx rfl (hb hby d4_12) rfl ?_
    show Steps p.tables e below (T126.setTop (mkF m 13 #[.val (.ref a0), .val (.ref a1), .val (.ref a0), .val (.long v130), .second, .val (.int (3 : Int32))] [(.long v130)])) _
    refine XS.aloadN X126.here hx rfl (hb hby d4_13) rfl rfl ?_
    refine XS.iload X126.here hx rfl (hb hby d4_14) rfl ?_
    show Steps p.tables e below (T126.setTop (mkF m 16 #[.val (.ref a0), .val (.ref a1), .val (.ref a0), .val (.long v130), .second, .val (.int (3 : Int32))] [(.int (3 : Int32)), (.ref a1), (.long v130)])) _
    have hin131 : ¬ ((3 : Int32) < 0 ∨ cl131.slots.size ≤ ((3 : Int32)).toNatClampNeg) := (inb_of S131 ⟨by decide, by decide⟩)
    refine X126.laload hx (j := (3 : Int32)) (v := (.long u3)) (by rw [e126]; exact Ar131.1) (State.isArrayOf_alike hZ.alike Ar131.2.1) Ar131.2.2 hin131 (H131.at hin131 rfl) (g := (mkF m 16 #[.val (.ref a0), .val (.ref a1), .val (.ref a0), .val (.long v130), .second, .val (.int (3 : Int32))] [(.int (3 : Int32)), (.ref a1), (.long v130)])) rfl rfl (hb hby d4_16) _ ?_
    refine XS.aloadN X126.here hx rfl (hb hby d4_17) rfl rfl ?_
    refine XS.iload X126.here hx rfl (hb hby d4_18) rfl ?_
    show Steps p.tables e below (T126.setTop (mkF m 20 #[.val (.ref a0), .val (.ref a1), .val (.ref a0), .val (.long v130), .second, .val (.int (3 : Int32))] [(.int (3 : Int32)), (.ref a0), (.long u3), (.long v130)])) _
    have hin132 : ¬ ((3 : Int32) < 0 ∨ cl132.slots.size ≤ ((3 : Int32)).toNatClampNeg) := (inb_of S132 ⟨by decide, by decide⟩)
    refine X126.laload hx (j := (3 : Int32)) (v := (.long t3)) (by rw [e126]; exact Ar132.1) (State.isArrayOf_alike hZ.alike Ar132.2.1) Ar132.2.2 hin132 (H132.at hin132 rfl) (g := (mkF m 20 #[.val (.ref a0), .val (.ref a1), .val (.ref a0), .val (.long v130), .second, .val (.int (3 : Int32))] [(.int (3 : Int32)), (.ref a0), (.long u3), (.long v130)])) rfl rfl (hb hby d4_20) _ ?_
    refine XS.lsub X126.here hx rfl (hb hby d4_21) rfl ?_
    refine XS.ladd X126.here hx rfl (hb hby d4_22) rfl ?_
    show Steps p.tables e below (T126.setTop (mkF m 23 #[.val (.ref a0), .val (.ref a1), .val (.ref a0), .val (.long v130), .second, .val (.int (3 : Int32))] [(.long (v130 + (u3 - t3)))])) _
    rw [← gv133]
    refine XS.lstoreN X126.here hx rfl (hb hby d4_23) rfl (l' := #[.val (.ref a0), .val (.ref a1), .val (.ref a0), .val (.long v133), .second, .val (.int (3 : Int32))]) rfl ?_
    refine XS.aloadN X126.here hx rfl (hb hby d4_24) rfl rfl ?_
    refine XS.iload X126.here hx rfl (hb hby d4_25) rfl ?_
    show Steps p.tables e below (T126.setTop (mkF m 27 #[.val (.ref a0), .val (.ref a1), .val (.ref a0), .val (.long v133), .second, .val (.int (3 : Int32))] [(.int (3 : Int32)), (.ref a0)])) _
    refine XS.lloadN X126.here hx rfl (hb hby d4_27) rfl ?_
    show Steps p.tables e below (T126.setTop (mkF m 28 #[.val (.ref a0), .val (.ref a1), .val (.ref a0), .val (.long v133), .second, .val (.int (3 : Int32))] [(.long v133), (.int (3 : Int32)), (.ref a0)])) _
    refine X126.ldc2Long hx hown (mvT hZ (hw _ (List.mem_of_getElem? (i := 17) rfl))) (g := (mkF m 28 #[.val (.ref a0), .val (.ref a1), .val (.ref a0), .val (.long v133), .second, .val (.int (3 : Int32))] [(.long v133), (.int (3 : Int32)), (.ref a0)])) rfl (hb hby d4_28) _ ?_
    refine XS.land X126.here hx rfl (hb hby d4_31) rfl ?_
    show Steps p.tables e below (T126.setTop (mkF m 32 #[.val (.ref a0), .val (.ref a1), .val (.ref a0), .val (.long v133), .second, .val (.int (3 : Int32))] [(.long (v133 &&& (4294967295 : Int64))), (.int (3 : Int32)), (.ref a0)])) _
    rw [← gv134]
    show Steps p.tables e below (T126.setTop (mkF m 32 #[.val (.ref a0), .val (.ref a1), .val (.ref a0), .val (.long v133), .second, .val (.int (3 : Int32))] [(.long v134), (.int (3 : Int32)), (.ref a0)])) _
    refine st136 _ ?_
    refine XS.lloadN X136.here hx rfl (hb hby d4_33) rfl ?_
    refine XS.bipush X136.here hx rfl (hb hby d4_34) ?_
    refine XS.lshr X136.here hx rfl (hb hby d4_36) rfl ?_
    show Steps p.tables e below (T136.setTop (mkF m 37 #[.val (.ref a0), .val (.ref a1), .val (.ref a0), .val (.long v133), .second, .val (.int (3 : Int32))] [(.long (v133 >>> ((32 : Int32) &&& 0x3f).toInt64))])) _
    rw [← gv140]
    refine XS.lstoreN X136.here hx rfl (hb hby d4_37) rfl (l' := #[.val (.ref a0), .val (.ref a1), .val (.ref a0), .val (.long v140), .second, .val (.int (3 : Int32))]) rfl ?_
    refine XS.iinc X136.here hx rfl (hb hby d4_38) rfl (l' := #[.val (.ref a0), .val (.ref a1), .val (.ref a0), .val (.long v140), .second, .val (.int (4 : Int32))]) rfl ?_
    refine XS.goto X136.here hx rfl (pc0 := 41) (pc' := 5) rfl (hb hby d4_41) (by decide) (by decide) ?_
    show Steps p.tables e below (T136.setTop (mkF m 5 #[.val (.ref a0), .val (.ref a1), .val (.ref a0), .val (.long v140), .second, .val (.int (4 : Int32))] [])) _
    refine XS.iload X136.here hx rfl (hb hby d4_5) rfl ?_
    refine XS.bipush X136.here hx rfl (hb hby d4_7) ?_
    refine XS.icmpNo X136.here hx rfl (hb hby d4_9) rfl (tlt (by decide : (4 : Int32) < (8 : Int32))).2.1 ?_
    refine XS.lloadN X136.here hx rfl (hb hby d4_12) rfl ?_
    show Steps p.tables e below (T136.setTop (mkF m 13 #[.val (.ref a0), .val (.ref a1), .val (.ref a0), .val (.long v140), .second, .val (.int (4 : Int32))] [(.long v140)])) _
    refine XS.aloadN X136.here hx rfl (hb hby d4_13) rfl rfl ?_
    refine XS.iload X136.here hx rfl (hb hby d4_14) rfl ?_
    show Steps p.tables e below (T136.setTop (mkF m 16 #[.val (.ref a0), .val (.ref a1), .val (.ref a0), .val (.long v140), .second, .val (.int (4 : Int32))] [(.int (4 : Int32)), (.ref a1), (.long v140)])) _
    have hin141 : ¬ ((4 : Int32) < 0 ∨ cl141.slots.size ≤ ((4 : Int32)).toNatClampNeg) := (inb_of S141 ⟨by decide, by decide⟩)
    refine X136.laload hx (j := (4 : Int32)) (v := (.long u4)) (by rw [e136]; exact Ar141.1) (State.isArrayOf_alike hZ.alike Ar141.2.1) Ar141.2.2 hin141 (H141.at hin141 rfl) (g := (mkF m 16 #[.val (.ref a0), .val (.ref a1), .val (.ref a0), .val (.long v140), .second, .val (.int (4 : Int32))] [(.int (4 : Int32)), (.ref a1), (.long v140)])) rfl rfl (hb hby d4_16) _ ?_
    refine XS.aloadN X136.here hx rfl (hb hby d4_17) rfl rfl ?_
    refine XS.iload X136.here hx rfl (hb hby d4_18) rfl ?_
    show Steps p.tables e below (T136.setTop (mkF m 20 #[.val (.ref a0), .val (.ref a1), .val (.ref a0), .val (.long v140), .second, .val (.int (4 : Int32))] [(.int (4 : Int32)), (.ref a0), (.long u4), (.long v140)])) _
    have hin142 : ¬ ((4 : Int32) < 0 ∨ cl142.slots.size ≤ ((4 : Int32)).toNatClampNeg) := (inb_of S142 ⟨by decide, by decide⟩)
    refine X136.laload hx (j := (4 : Int32)) (v := (.long t4)) (by rw [e136]; exact Ar142.1) (State.isArrayOf_alike hZ.alike Ar142.2.1) Ar142.2.2 hin142 (H142.at hin142 rfl) (g := (mkF m 20 #[.val (.ref a0), .val (.ref a1), .val (.ref a0), .val (.long v140), .second, .val (.int (4 : Int32))] [(.int (4 : Int32)), (.ref a0), (.long u4), (.long v140)])) rfl rfl (hb hby d4_20) _ ?_
    refine XS.lsub X136.here hx rfl (hb hby d4_21) rfl ?_
    refine XS.ladd X136.here hx rfl (hb hby d4_22) rfl ?_
    show Steps p.tables e below (T136.setTop (mkF m 23 #[.val (.ref a0), .val (.ref a1), .val (.ref a0), .val (.long v140), .second, .val (.int (4 : Int32))] [(.long (v140 + (u4 - t4)))])) _
    rw [← gv143]
    refine XS.lstoreN X136.here hx rfl (hb hby d4_23) rfl (l' := #[.val (.ref a0), .val (.ref a1), .val (.ref a0), .val (.long v143), .second, .val (.int (4 : Int32))]) rfl ?_
    refine XS.aloadN X136.here hx rfl (hb hby d4_24) rfl rfl ?_
    refine XS.iload X136.here hx rfl (hb hby d4_25) rfl ?_
    show Steps p.tables e below (T136.setTop (mkF m 27 #[.val (.ref a0), .val (.ref a1), .val (.ref a0), .val (.long v143), .second, .val (.int (4 : Int32))] [(.int (4 : Int32)), (.ref a0)])) _
    refine XS.lloadN X136.here hx rfl (hb hby d4_27) rfl ?_
    show Steps p.tables e below (T136.setTop (mkF m 28 #[.val (.ref a0), .val (.ref a1), .val (.ref a0), .val (.long v143), .second, .val (.int (4 : Int32))] [(.long v143), (.int (4 : Int32)), (.ref a0)])) _
    refine X136.ldc2Long hx hown (mvT hZ (hw _ (List.mem_of_getElem? (i := 17) rfl))) (g := (mkF m 28 #[.val (.ref a0), .val (.ref a1), .val (.ref a0), .val (.long v143), .second, .val (.int (4 : Int32))] [(.long v143), (.int (4 : Int32)), (.ref a0)])) rfl (hb hby d4_28) _ ?_
    refine XS.land X136.here hx rfl (hb hby d4_31) rfl ?_
    show Steps p.tables e below (T136.setTop (mkF m 32 #[.val (.ref a0), .val (.ref a1), .val (.ref a0), .val (.long v143), .second, .val (.int (4 : Int32))] [(.long (v143 &&& (4294967295 : Int64))), (.int (4 : Int32)), (.ref a0)])) _
    rw [← gv144]
    show Steps p.tables e below (T136.setTop (mkF m 32 #[.val (.ref a0), .val (.ref a1), .val (.ref a0), .val (.long v143), .second, .val (.int (4 : Int32))] [(.long v144), (.int (4 : Int32)), (.ref a0)])) _
    refine st146 _ ?_
    refine XS.lloadN X146.here hx rfl (hb hby d4_33) rfl ?_
    refine XS.bipush X146.here hx rfl (hb hby d4_34) ?_
    refine XS.lshr X146.here hx rfl (hb hby d4_36) rfl ?_
    show Steps p.tables e below (T146.setTop (mkF m 37 #[.val (.ref a0), .val (.ref a1), .val (.ref a0), .val (.long v143), .second, .val (.int (4 : Int32))] [(.long (v143 >>> ((32 : Int32) &&& 0x3f).toInt64))])) _
    rw [← gv150]
    refine XS.lstoreN X146.here hx rfl (hb hby d4_37) rfl (l' := #[.val (.ref a0), .val (.ref a1), .val (.ref a0), .val (.long v150), .second, .val (.int (4 : Int32))]) rfl ?_
    refine XS.iinc X146.here hx rfl (hb hby d4_38) rfl (l' := #[.val (.ref a0), .val (.ref a1), .val (.ref a0), .val (.long v150), .second, .val (.int (5 : Int32))]) rfl ?_
    refine XS.goto X146.here hx rfl (pc0 := 41) (pc' := 5) rfl (hb hby d4_41) (by decide) (by decide) ?_
    show Steps p.tables e below (T146.setTop (mkF m 5 #[.val (.ref a0), .val (.ref a1), .val (.ref a0), .val (.long v150), .second, .val (.int (5 : Int32))] [])) _
    refine XS.iload X146.here hx rfl (hb hby d4_5) rfl ?_
    refine XS.bipush X146.here hx rfl (hb hby d4_7) ?_
    refine XS.icmpNo X146.here hx rfl (hb hby d4_9) rfl (tlt (by decide : (5 : Int32) < (8 : Int32))).2.1 ?_
    refine XS.lloadN X146.here hx rfl (hb hby d4_12) rfl ?_
    show Steps p.tables e below (T146.setTop (mkF m 13 #[.val (.ref a0), .val (.ref a1), .val (.ref a0), .val (.long v150), .second, .val (.int (5 : Int32))] [(.long v150)])) _
    refine XS.aloadN X146.here hx rfl (hb hby d4_13) rfl rfl ?_
    refine XS.iload X146.here hx rfl (hb hby d4_14) rfl ?_
    show Steps p.tables e below (T146.setTop (mkF m 16 #[.val (.ref a0), .val (.ref a1), .val (.ref a0), .val (.long v150), .second, .val (.int (5 : Int32))] [(.int (5 : Int32)), (.ref a1), (.long v150)])) _
    have hin151 : ¬ ((5 : Int32) < 0 ∨ cl151.slots.size ≤ ((5 : Int32)).toNatClampNeg) := (inb_of S151 ⟨by decide, by decide⟩)
    refine X146.laload hx (j := (5 : Int32)) (v := (.long u5)) (by rw [e146]; exact Ar151.1) (State.isArrayOf_alike hZ.alike Ar151.2.1) Ar151.2.2 hin151 (H151.at hin151 rfl) (g := (mkF m 16 #[.val (.ref a0), .val (.ref a1), .val (.ref a0), .val (.long v150), .second, .val (.int (5 : Int32))] [(.int (5 : Int32)), (.ref a1), (.long v150)])) rfl rfl (hb hby d4_16) _ ?_
    refine XS.aloadN X146.here hx rfl (hb hby d4_17) rfl rfl ?_
    refine XS.iload X146.here hx rfl (hb hby d4_18) rfl ?_
    show Steps p.tables e below (T146.setTop (mkF m 20 #[.val (.ref a0), .val (.ref a1), .val (.ref a0), .val (.long v150), .second, .val (.int (5 : Int32))] [(.int (5 : Int32)), (.ref a0), (.long u5), (.long v150)])) _
    have hin152 : ¬ ((5 : Int32) < 0 ∨ cl152.slots.size ≤ ((5 : Int32)).toNatClampNeg) := (inb_of S152 ⟨by decide, by decide⟩)
    refine X146.laload hx (j := (5 : Int32)) (v := (.long t5)) (by rw [e146]; exact Ar152.1) (State.isArrayOf_alike hZ.alike Ar152.2.1) Ar152.2.2 hin152 (H152.at hin152 rfl) (g := (mkF m 20 #[.val (.ref a0), .val (.ref a1), .val (.ref a0), .val (.long v150), .second, .val (.int (5 : Int32))] [(.int (5 : Int32)), (.ref a0), (.long u5), (.long v150)])) rfl rfl (hb hby d4_20) _ ?_
    refine XS.lsub X146.here hx rfl (hb hby d4_21) rfl ?_
    refine XS.ladd X146.here hx rfl (hb hby d4_22) rfl ?_
    show Steps p.tables e below (T146.setTop (mkF m 23 #[.val (.ref a0), .val (.ref a1), .val (.ref a0), .val (.long v150), .second, .val (.int (5 : Int32))] [(.long (v150 + (u5 - t5)))])) _
    rw [← gv153]
    refine XS.lstoreN X146.here hx rfl (hb hby d4_23) rfl (l' := #[.val (.ref a0), .val (.ref a1), .val (.ref a0), .val (.long v153), .second, .val (.int (5 : Int32))]) rfl ?_
    refine XS.aloadN X146.here hx rfl (hb hby d4_24) rfl rfl ?_
    refine XS.iload X146.here hx rfl (hb hby d4_25) rfl ?_
    show Steps p.tables e below (T146.setTop (mkF m 27 #[.val (.ref a0), .val (.ref a1), .val (.ref a0), .val (.long v153), .second, .val (.int (5 : Int32))] [(.int (5 : Int32)), (.ref a0)])) _
    refine XS.lloadN X146.here hx rfl (hb hby d4_27) rfl ?_
    show Steps p.tables e below (T146.setTop (mkF m 28 #[.val (.ref a0), .val (.ref a1), .val (.ref a0), .val (.long v153), .second, .val (.int (5 : Int32))] [(.long v153), (.int (5 : Int32)), (.ref a0)])) _
    refine X146.ldc2Long hx hown (mvT hZ (hw _ (List.mem_of_getElem? (i := 17) rfl))) (g := (mkF m 28 #[.val (.ref a0), .val (.ref a1), .val (.ref a0), .val (.long v153), .second, .val (.int (5 : Int32))] [(.long v153), (.int (5 : Int32)), (.ref a0)])) rfl (hb hby d4_28) _ ?_
    refine XS.land X146.here hx rfl (hb hby d4_31) rfl ?_
    show Steps p.tables e below (T146.setTop (mkF m 32 #[.val (.ref a0), .val (.ref a1), .val (.ref a0), .val (.long v153), .second, .val (.int (5 : Int32))] [(.long (v153 &&& (4294967295 : Int64))), (.int (5 : Int32)), (.ref a0)])) _
    rw [← gv154]
    show Steps p.tables e below (T146.setTop (mkF m 32 #[.val (.ref a0), .val (.ref a1), .val (.ref a0), .val (.long v153), .second, .val (.int (5 : Int32))] [(.long v154), (.int (5 : Int32)), (.ref a0)])) _
    refine st156 _ ?_
    refine XS.lloadN X156.here hx rfl (hb hby d4_33) rfl ?_
    refine XS.bipush X156.here hx rfl (hb hby d4_34) ?_
    refine XS.lshr X156.here hx rfl (hb hby d4_36) rfl ?_
    show Steps p.tables e below (T156.setTop (mkF m 37 #[.val (.ref a0), .val (.ref a1), .val (.ref a0), .val (.long v153), .second, .val (.int (5 : Int32))] [(.long (v153 >>> ((32 : Int32) &&& 0x3f).toInt64))])) _
    rw [← gv160]
    refine XS.lstoreN X156.here hx rfl (hb hby d4_37) rfl (l' := #[.val (.ref a0), .val (.ref a1), .val (.ref a0), .val (.long v160), .second, .val (.int (5 : Int32))]) rfl ?_
    refine XS.iinc X156.here hx rfl (hb hby d4_38) rfl (l' := #[.val (.ref a0), .val (.ref a1), .val (.ref a0), .val (.long v160), .second, .val (.int (6 : Int32))]) rfl ?_
    refine XS.goto X156.here hx rfl (pc0 := 41) (pc' := 5) rfl (hb hby d4_41) (by decide) (by decide) ?_
    show Steps p.tables e below (T156.setTop (mkF m 5 #[.val (.ref a0), .val (.ref a1), .val (.ref a0), .val (.long v160), .second, .val (.int (6 : Int32))] [])) _
    refine XS.iload X156.here hx rfl (hb hby d4_5) rfl ?_
    refine XS.bipush X156.here hx rfl (hb hby d4_7) ?_
    refine XS.icmpNo X156.here hx rfl (hb hby d4_9) rfl (tlt (by decide : (6 : Int32) < (8 : Int32))).2.1 ?_
    refine XS.lloadN X156.here hx rfl (hb hby d4_12) rfl ?_
    show Steps p.tables e below (T156.setTop (mkF m 13 #[.val (.ref a0), .val (.ref a1), .val (.ref a0), .val (.long v160), .second, .val (.int (6 : Int32))] [(.long v160)])) _
    refine XS.aloadN X156.here hx rfl (hb hby d4_13) rfl rfl ?_
    refine XS.iload X156.here hx rfl (hb hby d4_14) rfl ?_
    show Steps p.tables e below (T156.setTop (mkF m 16 #[.val (.ref a0), .val (.ref a1), .val (.ref a0), .val (.long v160), .second, .val (.int (6 : Int32))] [(.int (6 : Int32)), (.ref a1), (.long v160)])) _
    have hin161 : ¬ ((6 : Int32) < 0 ∨ cl161.slots.size ≤ ((6 : Int32)).toNatClampNeg) := (inb_of S161 ⟨by decide, by decide⟩)
    refine X156.laload hx (j := (6 : Int32)) (v := (.long u6)) (by rw [e156]; exact Ar161.1) (State.isArrayOf_alike hZ.alike Ar161.2.1) Ar161.2.2 hin161 (H161.at hin161 rfl) (g := (mkF m 16 #[.val (.ref a0), .val (.ref a1), .val (.ref a0), .val (.long v160), .second, .val (.int (6 : Int32))] [(.int (6 : Int32)), (.ref a1), (.long v160)])) rfl rfl (hb hby d4_16) _ ?_
    refine XS.aloadN X156.here hx rfl (hb hby d4_17) rfl rfl ?_
    refine XS.iload X156.here hx rfl (hb hby d4_18) rfl ?_
    show Steps p.tables e below (T156.setTop (mkF m 20 #[.val (.ref a0), .val (.ref a1), .val (.ref a0), .val (.long v160), .second, .val (.int (6 : Int32))] [(.int (6 : Int32)), (.ref a0), (.long u6), (.long v160)])) _
    have hin162 : ¬ ((6 : Int32) < 0 ∨ cl162.slots.size ≤ ((6 : Int32)).toNatClampNeg) := (inb_of S162 ⟨by decide, by decide⟩)
    refine X156.laload hx (j := (6 : Int32)) (v := (.long t6)) (by rw [e156]; exact Ar162.1) (State.isArrayOf_alike hZ.alike Ar162.2.1) Ar162.2.2 hin162 (H162.at hin162 rfl) (g := (mkF m 20 #[.val (.ref a0), .val (.ref a1), .val (.ref a0), .val (.long v160), .second, .val (.int (6 : Int32))] [(.int (6 : Int32)), (.ref a0), (.long u6), (.long v160)])) rfl rfl (hb hby d4_20) _ ?_
    refine XS.lsub X156.here hx rfl (hb hby d4_21) rfl ?_
    refine XS.ladd X156.here hx rfl (hb hby d4_22) rfl ?_
    show Steps p.tables e below (T156.setTop (mkF m 23 #[.val (.ref a0), .val (.ref a1), .val (.ref a0), .val (.long v160), .second, .val (.int (6 : Int32))] [(.long (v160 + (u6 - t6)))])) _
    rw [← gv163]
    refine XS.lstoreN X156.here hx rfl (hb hby d4_23) rfl (l' := #[.val (.ref a0), .val (.ref a1), .val (.ref a0), .val (.long v163), .second, .val (.int (6 : Int32))]) rfl ?_
    refine XS.aloadN X156.here hx rfl (hb hby d4_24) rfl rfl ?_
    refine XS.iload X156.here hx rfl (hb hby d4_25) rfl ?_
    show Steps p.tables e below (T156.setTop (mkF m 27 #[.val (.ref a0), .val (.ref a1), .val (.ref a0), .val (.long v163), .second, .val (.int (6 : Int32))] [(.int (6 : Int32)), (.ref a0)])) _
    refine XS.lloadN X156.here hx rfl (hb hby d4_27) rfl ?_
    show Steps p.tables e below (T156.setTop (mkF m 28 #[.val (.ref a0), .val (.ref a1), .val (.ref a0), .val (.long v163), .second, .val (.int (6 : Int32))] [(.long v163), (.int (6 : Int32)), (.ref a0)])) _
    refine X156.ldc2Long hx hown (mvT hZ (hw _ (List.mem_of_getElem? (i := 17) rfl))) (g := (mkF m 28 #[.val (.ref a0), .val (.ref a1), .val (.ref a0), .val (.long v163), .second, .val (.int (6 : Int32))] [(.long v163), (.int (6 : Int32)), (.ref a0)])) rfl (hb hby d4_28) _ ?_
    refine XS.land X156.here hx rfl (hb hby d4_31) rfl ?_
    show Steps p.tables e below (T156.setTop (mkF m 32 #[.val (.ref a0), .val (.ref a1), .val (.ref a0), .val (.long v163), .second, .val (.int (6 : Int32))] [(.long (v163 &&& (4294967295 : Int64))), (.int (6 : Int32)), (.ref a0)])) _
    rw [← gv164]
    show Steps p.tables e below (T156.setTop (mkF m 32 #[.val (.ref a0), .val (.ref a1), .val (.ref a0), .val (.long v163), .second, .val (.int (6 : Int32))] [(.long v164), (.int (6 : Int32)), (.ref a0)])) _
    refine st166 _ ?_
    refine XS.lloadN X166.here hx rfl (hb hby d4_33) rfl ?_
    refine XS.bipush X166.here hx rfl (hb hby d4_34) ?_
    refine XS.lshr X166.here hx rfl (hb hby d4_36) rfl ?_
    show Steps p.tables e below (T166.setTop (mkF m 37 #[.val (.ref a0), .val (.ref a1), .val (.ref a0), .val (.long v163), .second, .val (.int (6 : Int32))] [(.long (v163 >>> ((32 : Int32) &&& 0x3f).toInt64))])) _
    rw [← gv170]
    refine XS.lstoreN X166.here hx rfl (hb hby d4_37) rfl (l' := #[.val (.ref a0), .val (.ref a1), .val (.ref a0), .val (.long v170), .second, .val (.int (6 : Int32))]) rfl ?_
    refine XS.iinc X166.here hx rfl (hb hby d4_38) rfl (l' := #[.val (.ref a0), .val (.ref a1), .val (.ref a0), .val (.long v170), .second, .val (.int (7 : Int32))]) rfl ?_
    refine XS.goto X166.here hx rfl (pc0 := 41) (pc' := 5) rfl (hb hby d4_41) (by decide) (by decide) ?_
    show Steps p.tables e below (T166.setTop (mkF m 5 #[.val (.ref a0), .val (.ref a1), .val (.ref a0), .val (.long v170), .second, .val (.int (7 : Int32))] [])) _
    refine XS.iload X166.here hx rfl (hb hby d4_5) rfl ?_
    refine XS.bipush X166.here hx rfl (hb hby d4_7) ?_
    refine XS.icmpNo X166.here hx rfl (hb hby d4_9) rfl (tlt (by decide : (7 : Int32) < (8 : Int32))).2.1 ?_
    refine XS.lloadN X166.here hx rfl (hb hby d4_12) rfl ?_
    show Steps p.tables e below (T166.setTop (mkF m 13 #[.val (.ref a0), .val (.ref a1), .val (.ref a0), .val (.long v170), .second, .val (.int (7 : Int32))] [(.long v170)])) _
    refine XS.aloadN X166.here hx rfl (hb hby d4_13) rfl rfl ?_
    refine XS.iload X166.here hx rfl (hb hby d4_14) rfl ?_
    show Steps p.tables e below (T166.setTop (mkF m 16 #[.val (.ref a0), .val (.ref a1), .val (.ref a0), .val (.long v170), .second, .val (.int (7 : Int32))] [(.int (7 : Int32)), (.ref a1), (.long v170)])) _
    have hin171 : ¬ ((7 : Int32) < 0 ∨ cl171.slots.size ≤ ((7 : Int32)).toNatClampNeg) := (inb_of S171 ⟨by decide, by decide⟩)
    refine X166.laload hx (j := (7 : Int32)) (v := (.long u7)) (by rw [e166]; exact Ar171.1) (State.isArrayOf_alike hZ.alike Ar171.2.1) Ar171.2.2 hin171 (H171.at hin171 rfl) (g := (mkF m 16 #[.val (.ref a0), .val (.ref a1), .val (.ref a0), .val (.long v170), .second, .val (.int (7 : Int32))] [(.int (7 : Int32)), (.ref a1), (.long v170)])) rfl rfl (hb hby d4_16) _ ?_
    refine XS.aloadN X166.here hx rfl (hb hby d4_17) rfl rfl ?_
    refine XS.iload X166.here hx rfl (hb hby d4_18) rfl ?_
    show Steps p.tables e below (T166.setTop (mkF m 20 #[.val (.ref a0), .val (.ref a1), .val (.ref a0), .val (.long v170), .second, .val (.int (7 : Int32))] [(.int (7 : Int32)), (.ref a0), (.long u7), (.long v170)])) _
    have hin172 : ¬ ((7 : Int32) < 0 ∨ cl172.slots.size ≤ ((7 : Int32)).toNatClampNeg) := (inb_of S172 ⟨by decide, by decide⟩)
    refine X166.laload hx (j := (7 : Int32)) (v := (.long t7)) (by rw [e166]; exact Ar172.1) (State.isArrayOf_alike hZ.alike Ar172.2.1) Ar172.2.2 hin172 (H172.at hin172 rfl) (g := (mkF m 20 #[.val (.ref a0), .val (.ref a1), .val (.ref a0), .val (.long v170), .second, .val (.int (7 : Int32))] [(.int (7 : Int32)), (.ref a0), (.long u7), (.long v170)])) rfl rfl (hb hby d4_20) _ ?_
    refine XS.lsub X166.here hx rfl (hb hby d4_21) rfl ?_
    refine XS.ladd X166.here hx rfl (hb hby d4_22) rfl ?_
    show Steps p.tables e below (T166.setTop (mkF m 23 #[.val (.ref a0), .val (.ref a1), .val (.ref a0), .val (.long v170), .second, .val (.int (7 : Int32))] [(.long (v170 + (u7 - t7)))])) _
    rw [← gv173]
    refine XS.lstoreN X166.here hx rfl (hb hby d4_23) rfl (l' := #[.val (.ref a0), .val (.ref a1), .val (.ref a0), .val (.long v173), .second, .val (.int (7 : Int32))]) rfl ?_
    refine XS.aloadN X166.here hx rfl (hb hby d4_24) rfl rfl ?_
    refine XS.iload X166.here hx rfl (hb hby d4_25) rfl ?_
    show Steps p.tables e below (T166.setTop (mkF m 27 #[.val (.ref a0), .val (.ref a1), .val (.ref a0), .val (.long v173), .second, .val (.int (7 : Int32))] [(.int (7 : Int32)), (.ref a0)])) _
    refine XS.lloadN X166.here hx rfl (hb hby d4_27) rfl ?_
    show Steps p.tables e below (T166.setTop (mkF m 28 #[.val (.ref a0), .val (.ref a1), .val (.ref a0), .val (.long v173), .second, .val (.int (7 : Int32))] [(.long v173), (.int (7 : Int32)), (.ref a0)])) _
    refine X166.ldc2Long hx hown (mvT hZ (hw _ (List.mem_of_getElem? (i := 17) rfl))) (g := (mkF m 28 #[.val (.ref a0), .val (.ref a1), .val (.ref a0), .val (.long v173), .second, .val (.int (7 : Int32))] [(.long v173), (.int (7 : Int32)), (.ref a0)])) rfl (hb hby d4_28) _ ?_
    refine XS.land X166.here hx rfl (hb hby d4_31) rfl ?_
    show Steps p.tables e below (T166.setTop (mkF m 32 #[.val (.ref a0), .val (.ref a1), .val (.ref a0), .val (.long v173), .second, .val (.int (7 : Int32))] [(.long (v173 &&& (4294967295 : Int64))), (.int (7 : Int32)), (.ref a0)])) _
    rw [← gv174]
    show Steps p.tables e below (T166.setTop (mkF m 32 #[.val (.ref a0), .val (.ref a1), .val (.ref a0), .val (.long v173), .second, .val (.int (7 : Int32))] [(.long v174), (.int (7 : Int32)), (.ref a0)])) _
    refine st176 _ ?_
    refine XS.lloadN X176.here hx rfl (hb hby d4_33) rfl ?_
    refine XS.bipush X176.here hx rfl (hb hby d4_34) ?_
    refine XS.lshr X176.here hx rfl (hb hby d4_36) rfl ?_
    show Steps p.tables e below (T176.setTop (mkF m 37 #[.val (.ref a0), .val (.ref a1), .val (.ref a0), .val (.long v173), .second, .val (.int (7 : Int32))] [(.long (v173 >>> ((32 : Int32) &&& 0x3f).toInt64))])) _
    rw [← gv180]
    refine XS.lstoreN X176.here hx rfl (hb hby d4_37) rfl (l' := #[.val (.ref a0), .val (.ref a1), .val (.ref a0), .val (.long v180), .second, .val (.int (7 : Int32))]) rfl ?_
    refine XS.iinc X176.here hx rfl (hb hby d4_38) rfl (l' := #[.val (.ref a0), .val (.ref a1), .val (.ref a0), .val (.long v180), .second, .val (.int (8 : Int32))]) rfl ?_
    refine XS.goto X176.here hx rfl (pc0 := 41) (pc' := 5) rfl (hb hby d4_41) (by decide) (by decide) ?_
    show Steps p.tables e below (T176.setTop (mkF m 5 #[.val (.ref a0), .val (.ref a1), .val (.ref a0), .val (.long v180), .second, .val (.int (8 : Int32))] [])) _
    refine XS.iload X176.here hx rfl (hb hby d4_5) rfl ?_
    refine XS.bipush X176.here hx rfl (hb hby d4_7) ?_
    refine XS.icmpYes X176.here hx rfl (pc0 := 9) (pc' := 44) rfl (hb hby d4_9) rfl (flt (by decide : ¬ ((8 : Int32) < (8 : Int32)))).2.1 (by decide) (by decide) ?_
    refine XS.lloadN X176.here hx rfl (hb hby d4_44) rfl ?_
    show Steps p.tables e below (T176.setTop (mkF m 45 #[.val (.ref a0), .val (.ref a1), .val (.ref a0), .val (.long v180), .second, .val (.int (8 : Int32))] [(.long v180)])) _
    refine XS.lconst X176.here hx rfl (hb hby d4_45) ?_
    refine XS.lcmp X176.here hx rfl (hb hby d4_46) rfl ?_
    exact k
  by_cases hc182 : v180 = (0 : Int64)
  · obtain ⟨fs, hr, hrun, hended, hW, hsame⟩ := X176.leave (v := none) (fun _ => rfl)
    refine ⟨_, _, pre181 _ ?_, hrun, hended, _, _, rfl, ?_, ⟨_, rfl⟩, hW, hsame.mono (by decide) (by decide)⟩
    · show Steps p.tables e below (T176.setTop (mkF m 47 #[.val (.ref a0), .val (.ref a1), .val (.ref a0), .val (.long v180), .second, .val (.int (8 : Int32))] [(.int (lcmpW v180 (0 : Int64)))])) _
      refine XS.ifYes X176.here hx rfl (pc0 := 47) (pc' := 54) rfl (hb hby d4_47) rfl ((if0 _ _).trans (teq ((lw_eq v180 (0 : Int64)).mpr hc182)).1) (by decide) (by decide) ?_
      show Steps p.tables e below (T176.setTop (mkF m 54 #[.val (.ref a0), .val (.ref a1), .val (.ref a0), .val (.long v180), .second, .val (.int (8 : Int32))] [])) _
      exact X176.returnOut hx Bd.returns (hb hby d4_54) hr
    · show Q_rm_subtract_b Z a0 a1 wp kp kk0 kk1 t0 t1 t2 t3 t4 t5 t6 t7 u0 u1 u2 u3 u4 u5 u6 u7 h0 n0 _ T176.heap _
      rw [e176]
      exact ⟨rfl, N176, K176, v104, v114, v124, v134, v144, v154, v164, v174, V176b, ⟨rv110, rv120, rv130, rv140, rv150, rv160, rv170, rv180⟩, own_fin_sub0 hW_a1 hW_a0 hR_a1 hR_a0 (own_telS qv110 qv120 qv130 qv140 qv150 qv160 qv170 qv180) hc182⟩
  · obtain ⟨_, _, ⟨T183, L183, k183, n183⟩, -, X183, ⟨Lc183, hQ183, l183, y183, z183⟩, st183⟩ := Jvm.LawKit.callS X176 hx (y := (⟨"com/example/serialroute/serialroute/core/P256Field", "addP", "([J)V"⟩ : MethodName)) hown (mvT hZ (hw _ (List.mem_of_getElem? (i := 36) rfl))) (mvT hZ (hw _ (List.mem_of_getElem? (i := 37) rfl))) (mvT hZ (hw _ (List.mem_of_getElem? (i := 15) rfl))) (mvT hZ (hw _ (List.mem_of_getElem? (i := 38) rfl))) (by decide) (backOf (W := 0) (rm_addP l Z aw hw [] a0 wp kp kk0 v104 v114 v124 v134 v144 v154 v164 v174 h176 n0 Z176 f177 f178 V176b g0 ne_wp_a0 ⟨rv110, rv120, rv130, rv140, rv150, rv160, rv170, rv180⟩) hZ (hw _ (List.mem_of_getElem? (i := 38) rfl)) (hw _ (List.mem_of_getElem? (i := 15) rfl)) (by decide) (by decide)) (g := (mkF m 51 #[.val (.ref a0), .val (.ref a1), .val (.ref a0), .val (.long v180), .second, .val (.int (8 : Int32))] [(.ref a0)])) rfl (by rw [hml]; rfl) (argsL := [(.ref a0)]) (rest := []) (lenOf pd_3 rfl) rfl (by show 2 * 0 + _ ≤ _; exact Nat.le_of_eq rfl) (hb hby d4_51) (fun _ _ => ⟨rfl, e176, (by decide : 0 + 0 ≤ _), (by decide : 0 + 0 ≤ _)⟩)
    dsimp only [Pt.U, Pt.locs, Pt.cells, Pt.slots] at X183 l183 y183 z183 st183 hQ183
    rw [l183, y183, z183] at X183
    obtain ⟨rfl, N183q, K183q, o183_0, o183_1, o183_2, o183_3, o183_4, o183_5, o183_6, o183_7, c183, V183q, R183q, Q183q, C183q⟩ := hQ183
    have N183 := Fr.app N176 N183q
    have f184 := own_sta_keep f177 K183q (nsS V176b.nostat ns0)
    have f185 := f178.keep K183q (ninS ne_wp_a0 nin0)
    have f186 := f179.keep K183q (ninS (Ne.symm ne_a0_a1) nin0)
    have Z183 : n0 ≤ T183.heap.size := Nat.le_trans Z176 K183q.1
    have K183 : Keep h0 T183.heap [a0] := K176.trans K183q (allS (Or.inl (List.mem_of_getElem? (i := 0) rfl)) all0)
    obtain ⟨fs, hr, hrun, hended, hW, hsame⟩ := X183.leave (v := none) (fun _ => rfl)
    refine ⟨_, _, pre181 _ ?_, hrun, hended, _, _, rfl, ?_, ⟨_, rfl⟩, hW, hsame.mono (by decide) (by decide)⟩
    · show Steps p.tables e below (T176.setTop (mkF m 47 #[.val (.ref a0), .val (.ref a1), .val (.ref a0), .val (.long v180), .second, .val (.int (8 : Int32))] [(.int (lcmpW v180 (0 : Int64)))])) _
      refine XS.ifNo X176.here hx rfl (hb hby d4_47) rfl ((if0 _ _).trans (feq (fun q => hc182 ((lw_eq v180 (0 : Int64)).mp q))).1) ?_
      refine XS.aloadN X176.here hx rfl (hb hby d4_50) rfl rfl ?_
      show Steps p.tables e below (T176.setTop (mkF m 51 #[.val (.ref a0), .val (.ref a1), .val (.ref a0), .val (.long v180), .second, .val (.int (8 : Int32))] [(.ref a0)])) _
      refine st183 _ ?_
      show Steps p.tables e below (T183.setTop (mkF m 54 #[.val (.ref a0), .val (.ref a1), .val (.ref a0), .val (.long v180), .second, .val (.int (8 : Int32))] [])) _
      exact X183.returnOut hx Bd.returns (hb hby d4_54) hr
    · show Q_rm_subtract_b Z a0 a1 wp kp kk0 kk1 t0 t1 t2 t3 t4 t5 t6 t7 u0 u1 u2 u3 u4 u5 u6 u7 h0 n0 _ T183.heap _
      exact ⟨rfl, N183, K183, o183_0, o183_1, o183_2, o183_3, o183_4, o183_5, o183_6, o183_7, V183q, R183q, own_fin_sub1 hW_a1 hW_a0 hR_a1 hR_a0 ⟨rv110, rv120, rv130, rv140, rv150, rv160, rv170, rv180⟩ (own_telS qv110 qv120 qv130 qv140 qv150 qv160 qv170 qv180) hcv180 hc182 R183q Q183q C183q⟩
theorem ef_rm_subtract_s (m : MethodId) (x0 : Addr) (x1 : Addr) (x2 : Addr) : entryFrame m #[(.ref x0), (.ref x1), (.ref x2)] 6 = mkF m 0 #[.val (.ref x0), .val (.ref x1), .val (.ref x2), .unset, .unset, .unset] [] := by first | (simp [entryFrame, mkF, argsToLocals, Value.category]; done) | rfl
def Q_rm_subtract_s (Z : State) (a0 : Addr) (wp : Addr) (kp : ClassId) (kk0 : ClassId) (u0 : Int64) (u1 : Int64) (u2 : Int64) (u3 : Int64) (u4 : Int64) (u5 : Int64) (u6 : Int64) (u7 : Int64) (h0 : Heap) (n0 : Nat) (v : Option Value) (h : Heap) (L : List Loc) : Prop := v = none ∧ Fr n0 L ∧ Keep h0 h [a0] ∧ ∃ (o0 o1 o2 o3 o4 o5 o6 o7 : Int64), Arv Z h a0 kk0 .long (8 : Int32) [(.long o0), (.long o1), (.long o2), (.long o3), (.long o4), (.long o5), (.long o6), (.long o7)] (.long (0 : Int64)) ∧ own_RR o0 o1 o2 o3 o4 o5 o6 o7 ∧ own_W o0 o1 o2 o3 o4 o5 o6 o7 < own_P ∧ (own_W o0 o1 o2 o3 o4 o5 o6 o7 = own_W u0 u1 u2 u3 u4 u5 u6 u7 - own_W u0 u1 u2 u3 u4 u5 u6 u7 ∨ own_W o0 o1 o2 o3 o4 o5 o6 o7 = own_W u0 u1 u2 u3 u4 u5 u6 u7 - own_W u0 u1 u2 u3 u4 u5 u6 u7 + own_P)
set_option maxRecDepth 65536 in
set_option maxHeartbeats 40000000 in
theorem rm_subtract_s (l : Launch) (Z : State) (aw : Array Value) (hw : ∀ d ∈ tables_1, d.before aw Z = true) (ws : List Jvm.Cond) (a0 : Addr) (wp : Addr) (kp : ClassId) (kk0 : ClassId) (u0 : Int64) (u1 : Int64) (u2 : Int64) (u3 : Int64) (u4 : Int64) (u5 : Int64) (u6 : Int64) (u7 : Int64) (h0 : Heap) (n0 : Nat) (Z0 : n0 ≤ h0.size) (SP : Sta Z h0 "com/example/serialroute/serialroute/core/P256Field" "P_WORDS" "[J" (.ref wp)) (VP : Arv Z h0 wp kp .long (8 : Int32) [(.long (4294967295 : Int64)), (.long (4294967295 : Int64)), (.long (4294967295 : Int64)), (.long (0 : Int64)), (.long (0 : Int64)), (.long (0 : Int64)), (.long (1 : Int64)), (.long (4294967295 : Int64))] (.long (0 : Int64))) (Va0 : Arv Z h0 a0 kk0 .long (8 : Int32) [(.long u0), (.long u1), (.long u2), (.long u3), (.long u4), (.long u5), (.long u6), (.long u7)] (.long (0 : Int64))) (g0 : n0 ≤ a0) (ne_wp_a0 : wp ≠ a0) (hR_a0 : own_RR u0 u1 u2 u3 u4 u5 u6 u7) (hW_a0 : own_W u0 u1 u2 u3 u4 u5 u6 u7 < own_P) :
    MetFree l (⟨"com/example/serialroute/serialroute/core/P256Field", "subtract", "([J[J[J)V"⟩ : MethodName) (head1 (Jvm.Cond.code (⟨"com/example/serialroute/serialroute/core/P256Field", "subtract", "([J[J[J)V"⟩ : MethodName) prog_29_method_6_code 6 none :: ws) ({ frames := 1, cells := 0, slots := 0, locals := 15 } : Room)) (fun a U => a = #[(.ref a0), (.ref a0), (.ref a0)] ∧ Z.Warmed39 U.vm ∧ U.heap = h0) (fun _ _ _ _ _ => True) (fun _ U oc U' => ∃ v L, oc = .returned v ∧ Q_rm_subtract_s Z a0 wp kp kk0 u0 u1 u2 u3 u4 u5 u6 u7 h0 n0 v U'.heap L ∧ FrameEnd U oc U' L ({ frames := 1, cells := 0, slots := 0, locals := 15 } : Room).cells ({ frames := 1, cells := 0, slots := 0, locals := 15 } : Room).slots) := by
  refine MetFree.of_bodySF (plainFor_of_name pn_1) hisR ?_
  intro p e s m args below meth c s₁ Bd hml0 hP hK
  obtain ⟨rfl, hZ, hh⟩ := hP
  have hx := Bd.exec
  have hby := Bd.bytes
  have hml : c.maxLocals = 6 := hml0
  have hown : s.vm.findClass "com/example/serialroute/serialroute/core/P256Field" = some m.cls := findClass_of_methodNamed Bd.named
  have hnm := (name_of_methodNamed Bd.named Bd.method).1
  have X0 : Stand p l e ({ frames := 1, cells := 0, slots := 0, locals := 15 } : Room) s m #[(.ref a0), (.ref a0), (.ref a0)] below meth c s₁ [] 0 0 := Stand.of_body Bd
  have e0 : s₁.heap = h0 := by rw [← hh, Bd.state]; rfl
  have N0 := Fr.nil n0
  have pre0 : ∀ t, Steps p.tables e below (s₁.setTop (mkF m 0 #[.val (.ref a0), .val (.ref a0), .val (.ref a0), .unset, .unset, .unset] [])) t → Steps p.tables e below (s₁.setTop (entryFrame m #[(.ref a0), (.ref a0), (.ref a0)] 6)) t := fun t k => castTop (ef_rm_subtract_s m a0 a0 a0) k
  obtain ⟨r_a00, r_a01, r_a02, r_a03, r_a04, r_a05, r_a06, r_a07⟩ := id hR_a0
  have hc0 : -1 ≤ ((0 : Int64)).toInt ∧ ((0 : Int64)).toInt ≤ 0 := by decide
  obtain ⟨cl101, Ar101, q101, S101, M101, H101, G101⟩ := id Va0
  obtain ⟨cl102, Ar102, q102, S102, M102, H102, G102⟩ := id Va0
  obtain ⟨v103, gv103⟩ : ∃ z, z = ((0 : Int64) + (u0 - u0)) := ⟨_, rfl⟩
  obtain ⟨v104, gv104⟩ : ∃ z, z = (v103 &&& (4294967295 : Int64)) := ⟨_, rfl⟩
  obtain ⟨cl105, Ar105, q105, S105, M105, H105, G105⟩ := id Va0
  obtain ⟨T106, h106, X106, e106, W106, st106⟩ := stJ X0 hx hZ e0 Ar105 (j := (0 : Int32)) (inb_of S105 ⟨by decide, by decide⟩) (g := (mkF m 32 #[.val (.ref a0), .val (.ref a0), .val (.ref a0), .val (.long v103), .second, .val (.int (0 : Int32))] [(.long v104), (.int (0 : Int32)), (.ref a0)])) rfl rfl (hb hby d4_32)
  have V106 := Arv.set Ar105 q105 S105 M105 H105 G105 rfl W106 0 rfl (Nat.le_of_ble_eq_true rfl)
  have f107 := SP.wr W106
  have f108 := VP.other W106 ne_wp_a0
  have K106 : Keep h0 h106 [a0] := (Keep.refl h0 [a0]).wr W106 (Or.inl (List.mem_of_getElem? (i := 0) rfl))
  have N106 := Fr.snoc X106 N0 g0
  have Z106 : n0 ≤ h106.size := Nat.le_trans Z0 (Keep.of_wr W106).1
  have V106b : Arv Z h106 a0 kk0 .long (8 : Int32) [(.long v104), (.long u1), (.long u2), (.long u3), (.long u4), (.long u5), (.long u6), (.long u7)] (.long (0 : Int64)) := V106
  obtain ⟨v109, gv109⟩ : ∃ z, z = (v103 >>> ((32 : Int32) &&& 0x3f).toInt64) := ⟨_, rfl⟩
  obtain ⟨qv109, rv109, hcv109⟩ := own_sub_step gv103 gv104 gv109 hc0 r_a00 r_a00
  obtain ⟨cl110, Ar110, q110, S110, M110, H110, G110⟩ := id V106b
  obtain ⟨cl111, Ar111, q111, S111, M111, H111, G111⟩ := id V106b
  obtain ⟨v112, gv112⟩ : ∃ z, z = (v109 + (u1 - u1)) := ⟨_, rfl⟩
  obtain ⟨v113, gv113⟩ : ∃ z, z = (v112 &&& (4294967295 : Int64)) := ⟨_, rfl⟩
  obtain ⟨cl114, Ar114, q114, S114, M114, H114, G114⟩ := id V106b
  obtain ⟨T115, h115, X115, e115, W115, st115⟩ := stJ X106 hx hZ e106 Ar114 (j := (1 : Int32)) (inb_of S114 ⟨by decide, by decide⟩) (g := (mkF m 32 #[.val (.ref a0), .val (.ref a0), .val (.ref a0), .val (.long v112), .second, .val (.int (1 : Int32))] [(.long v113), (.int (1 : Int32)), (.ref a0)])) rfl rfl (hb hby d4_32)
  have V115 := Arv.set Ar114 q114 S114 M114 H114 G114 rfl W115 1 rfl (Nat.le_of_ble_eq_true rfl)
  have f116 := f107.wr W115
  have f117 := f108.other W115 ne_wp_a0
  have K115 : Keep h0 h115 [a0] := K106.wr W115 (Or.inl (List.mem_of_getElem? (i := 0) rfl))
  have N115 := Fr.snoc X115 N106 g0
  have Z115 : n0 ≤ h115.size := Nat.le_trans Z106 (Keep.of_wr W115).1
  have V115b : Arv Z h115 a0 kk0 .long (8 : Int32) [(.long v104), (.long v113), (.long u2), (.long u3), (.long u4), (.long u5), (.long u6), (.long u7)] (.long (0 : Int64)) := V115
  obtain ⟨v118, gv118⟩ : ∃ z, z = (v112 >>> ((32 : Int32) &&& 0x3f).toInt64) := ⟨_, rfl⟩
  obtain ⟨qv118, rv118, hcv118⟩ := own_sub_step gv112 gv113 gv118 hcv109 r_a01 r_a01
  obtain ⟨cl119, Ar119, q119, S119, M119, H119, G119⟩ := id V115b
  obtain ⟨cl120, Ar120, q120, S120, M120, H120, G120⟩ := id V115b
  obtain ⟨v121, gv121⟩ : ∃ z, z = (v118 + (u2 - u2)) := ⟨_, rfl⟩
  obtain ⟨v122, gv122⟩ : ∃ z, z = (v121 &&& (4294967295 : Int64)) := ⟨_, rfl⟩
  obtain ⟨cl123, Ar123, q123, S123, M123, H123, G123⟩ := id V115b
  obtain ⟨T124, h124, X124, e124, W124, st124⟩ := stJ X115 hx hZ e115 Ar123 (j := (2 : Int32)) (inb_of S123 ⟨by decide, by decide⟩) (g := (mkF m 32 #[.val (.ref a0), .val (.ref a0), .val (.ref a0), .val (.long v121), .second, .val (.int (2 : Int32))] [(.long v122), (.int (2 : Int32)), (.ref a0)])) rfl rfl (hb hby d4_32)
  have V124 := Arv.set Ar123 q123 S123 M123 H123 G123 rfl W124 2 rfl (Nat.le_of_ble_eq_true rfl)
  have f125 := f116.wr W124
  have f126 := f117.other W124 ne_wp_a0
  have K124 : Keep h0 h124 [a0] := K115.wr W124 (Or.inl (List.mem_of_getElem? (i := 0) rfl))
  have N124 := Fr.snoc X124 N115 g0
  have Z124 : n0 ≤ h124.size := Nat.le_trans Z115 (Keep.of_wr W124).1
  have V124b : Arv Z h124 a0 kk0 .long (8 : Int32) [(.long v104), (.long v113), (.long v122), (.long u3), (.long u4), (.long u5), (.long u6), (.long u7)] (.long (0 : Int64)) := V124
  obtain ⟨v127, gv127⟩ : ∃ z, z = (v121 >>> ((32 : Int32) &&& 0x3f).toInt64) := ⟨_, rfl⟩
  obtain ⟨qv127, rv127, hcv127⟩ := own_sub_step gv121 gv122 gv127 hcv118 r_a02 r_a02
  obtain ⟨cl128, Ar128, q128, S128, M128, H128, G128⟩ := id V124b
  obtain ⟨cl129, Ar129, q129, S129, M129, H129, G129⟩ := id V124b
  obtain ⟨v130, gv130⟩ : ∃ z, z = (v127 + (u3 - u3)) := ⟨_, rfl⟩
  obtain ⟨v131, gv131⟩ : ∃ z, z = (v130 &&& (4294967295 : Int64)) := ⟨_, rfl⟩
  obtain ⟨cl132, Ar132, q132, S132, M132, H132, G132⟩ := id V124b
  obtain ⟨T133, h133, X133, e133, W133, st133⟩ := stJ X124 hx hZ e124 Ar132 (j := (3 : Int32)) (inb_of S132 ⟨by decide, by decide⟩) (g := (mkF m 32 #[.val (.ref a0), .val (.ref a0), .val (.ref a0), .val (.long v130), .second, .val (.int (3 : Int32))] [(.long v131), (.int (3 : Int32)), (.ref a0)])) rfl rfl (hb hby d4_32)
  have V133 := Arv.set Ar132 q132 S132 M132 H132 G132 rfl W133 3 rfl (Nat.le_of_ble_eq_true rfl)
  have f134 := f125.wr W133
  have f135 := f126.other W133 ne_wp_a0
  have K133 : Keep h0 h133 [a0] := K124.wr W133 (Or.inl (List.mem_of_getElem? (i := 0) rfl))
  have N133 := Fr.snoc X133 N124 g0
  have Z133 : n0 ≤ h133.size := Nat.le_trans Z124 (Keep.of_wr W133).1
  have V133b : Arv Z h133 a0 kk0 .long (8 : Int32) [(.long v104), (.long v113), (.long v122), (.long v131), (.long u4), (.long u5), (.long u6), (.long u7)] (.long (0 : Int64)) := V133
  obtain ⟨v136, gv136⟩ : ∃ z, z = (v130 >>> ((32 : Int32) &&& 0x3f).toInt64) := ⟨_, rfl⟩
  obtain ⟨qv136, rv136, hcv136⟩ := own_sub_step gv130 gv131 gv136 hcv127 r_a03 r_a03
  obtain ⟨cl137, Ar137, q137, S137, M137, H137, G137⟩ := id V133b
  obtain ⟨cl138, Ar138, q138, S138, M138, H138, G138⟩ := id V133b
  obtain ⟨v139, gv139⟩ : ∃ z, z = (v136 + (u4 - u4)) := ⟨_, rfl⟩
  obtain ⟨v140, gv140⟩ : ∃ z, z = (v139 &&& (4294967295 : Int64)) := ⟨_, rfl⟩
  obtain ⟨cl141, Ar141, q141, S141, M141, H141, G141⟩ := id V133b
  obtain ⟨T142, h142, X142, e142, W142, st142⟩ := stJ X133 hx hZ e133 Ar141 (j := (4 : Int32)) (inb_of S141 ⟨by decide, by decide⟩) (g := (mkF m 32 #[.val (.ref a0), .val (.ref a0), .val (.ref a0), .val (.long v139), .second, .val (.int (4 : Int32))] [(.long v140), (.int (4 : Int32)), (.ref a0)])) rfl rfl (hb hby d4_32)
  have V142 := Arv.set Ar141 q141 S141 M141 H141 G141 rfl W142 4 rfl (Nat.le_of_ble_eq_true rfl)
  have f143 := f134.wr W142
  have f144 := f135.other W142 ne_wp_a0
  have K142 : Keep h0 h142 [a0] := K133.wr W142 (Or.inl (List.mem_of_getElem? (i := 0) rfl))
  have N142 := Fr.snoc X142 N133 g0
  have Z142 : n0 ≤ h142.size := Nat.le_trans Z133 (Keep.of_wr W142).1
  have V142b : Arv Z h142 a0 kk0 .long (8 : Int32) [(.long v104), (.long v113), (.long v122), (.long v131), (.long v140), (.long u5), (.long u6), (.long u7)] (.long (0 : Int64)) := V142
  obtain ⟨v145, gv145⟩ : ∃ z, z = (v139 >>> ((32 : Int32) &&& 0x3f).toInt64) := ⟨_, rfl⟩
  obtain ⟨qv145, rv145, hcv145⟩ := own_sub_step gv139 gv140 gv145 hcv136 r_a04 r_a04
  obtain ⟨cl146, Ar146, q146, S146, M146, H146, G146⟩ := id V142b
  obtain ⟨cl147, Ar147, q147, S147, M147, H147, G147⟩ := id V142b
  obtain ⟨v148, gv148⟩ : ∃ z, z = (v145 + (u5 - u5)) := ⟨_, rfl⟩
  obtain ⟨v149, gv149⟩ : ∃ z, z = (v148 &&& (4294967295 : Int64)) := ⟨_, rfl⟩
  obtain ⟨cl150, Ar150, q150, S150, M150, H150, G150⟩ := id V142b
  obtain ⟨T151, h151, X151, e151, W151, st151⟩ := stJ X142 hx hZ e142 Ar150 (j := (5 : Int32)) (inb_of S150 ⟨by decide, by decide⟩) (g := (mkF m 32 #[.val (.ref a0), .val (.ref a0), .val (.ref a0), .val (.long v148), .second, .val (.int (5 : Int32))] [(.long v149), (.int (5 : Int32)), (.ref a0)])) rfl rfl (hb hby d4_32)
  have V151 := Arv.set Ar150 q150 S150 M150 H150 G150 rfl W151 5 rfl (Nat.le_of_ble_eq_true rfl)
  have f152 := f143.wr W151
  have f153 := f144.other W151 ne_wp_a0
  have K151 : Keep h0 h151 [a0] := K142.wr W151 (Or.inl (List.mem_of_getElem? (i := 0) rfl))
  have N151 := Fr.snoc X151 N142 g0
  have Z151 : n0 ≤ h151.size := Nat.le_trans Z142 (Keep.of_wr W151).1
  have V151b : Arv Z h151 a0 kk0 .long (8 : Int32) [(.long v104), (.long v113), (.long v122), (.long v131), (.long v140), (.long v149), (.long u6), (.long u7)] (.long (0 : Int64)) := V151
  obtain ⟨v154, gv154⟩ : ∃ z, z = (v148 >>> ((32 : Int32) &&& 0x3f).toInt64) := ⟨_, rfl⟩
  obtain ⟨qv154, rv154, hcv154⟩ := own_sub_step gv148 gv149 gv154 hcv145 r_a05 r_a05
  obtain ⟨cl155, Ar155, q155, S155, M155, H155, G155⟩ := id V151b
  obtain ⟨cl156, Ar156, q156, S156, M156, H156, G156⟩ := id V151b
  obtain ⟨v157, gv157⟩ : ∃ z, z = (v154 + (u6 - u6)) := ⟨_, rfl⟩
  obtain ⟨v158, gv158⟩ : ∃ z, z = (v157 &&& (4294967295 : Int64)) := ⟨_, rfl⟩
  obtain ⟨cl159, Ar159, q159, S159, M159, H159, G159⟩ := id V151b
  obtain ⟨T160, h160, X160, e160, W160, st160⟩ := stJ X151 hx hZ e151 Ar159 (j := (6 : Int32)) (inb_of S159 ⟨by decide, by decide⟩) (g := (mkF m 32 #[.val (.ref a0), .val (.ref a0), .val (.ref a0), .val (.long v157), .second, .val (.int (6 : Int32))] [(.long v158), (.int (6 : Int32)), (.ref a0)])) rfl rfl (hb hby d4_32)
  have V160 := Arv.set Ar159 q159 S159 M159 H159 G159 rfl W160 6 rfl (Nat.le_of_ble_eq_true rfl)
  have f161 := f152.wr W160
  have f162 := f153.other W160 ne_wp_a0
  have K160 : Keep h0 h160 [a0] := K151.wr W160 (Or.inl (List.mem_of_getElem? (i := 0) rfl))
  have N160 := Fr.snoc X160 N151 g0
  have Z160 : n0 ≤ h160.size := Nat.le_trans Z151 (Keep.of_wr W160).1
  have V160b : Arv Z h160 a0 kk0 .long (8 : Int32) [(.long v104), (.long v113), (.long v122), (.long v131), (.long v140), (.long v149), (.long v158), (.long u7)] (.long (0 : Int64)) := V160
  obtain ⟨v163, gv163⟩ : ∃ z, z = (v157 >>> ((32 : Int32) &&& 0x3f).toInt64) := ⟨_, rfl⟩
  obtain ⟨qv163, rv163, hcv163⟩ := own_sub_step gv157 gv158 gv163 hcv154 r_a06 r_a06
  obtain ⟨cl164, Ar164, q164, S164, M164, H164, G164⟩ := id V160b
  obtain ⟨cl165, Ar165, q165, S165, M165, H165, G165⟩ := id V160b
  obtain ⟨v166, gv166⟩ : ∃ z, z = (v163 + (u7 - u7)) := ⟨_, rfl⟩
  obtain ⟨v167, gv167⟩ : ∃ z, z = (v166 &&& (4294967295 : Int64)) := ⟨_, rfl⟩
  obtain ⟨cl168, Ar168, q168, S168, M168, H168, G168⟩ := id V160b
  obtain ⟨T169, h169, X169, e169, W169, st169⟩ := stJ X160 hx hZ e160 Ar168 (j := (7 : Int32)) (inb_of S168 ⟨by decide, by decide⟩) (g := (mkF m 32 #[.val (.ref a0), .val (.ref a0), .val (.ref a0), .val (.long v166), .second, .val (.int (7 : Int32))] [(.long v167), (.int (7 : Int32)), (.ref a0)])) rfl rfl (hb hby d4_32)
  have V169 := Arv.set Ar168 q168 S168 M168 H168 G168 rfl W169 7 rfl (Nat.le_of_ble_eq_true rfl)
  have f170 := f161.wr W169
  have f171 := f162.other W169 ne_wp_a0
  have K169 : Keep h0 h169 [a0] := K160.wr W169 (Or.inl (List.mem_of_getElem? (i := 0) rfl))
  have N169 := Fr.snoc X169 N160 g0
  have Z169 : n0 ≤ h169.size := Nat.le_trans Z160 (Keep.of_wr W169).1
  have V169b : Arv Z h169 a0 kk0 .long (8 : Int32) [(.long v104), (.long v113), (.long v122), (.long v131), (.long v140), (.long v149), (.long v158), (.long v167)] (.long (0 : Int64)) := V169
  obtain ⟨v172, gv172⟩ : ∃ z, z = (v166 >>> ((32 : Int32) &&& 0x3f).toInt64) := ⟨_, rfl⟩
  obtain ⟨qv172, rv172, hcv172⟩ := own_sub_step gv166 gv167 gv172 hcv163 r_a07 r_a07
  have pre173 : ∀ t, Steps p.tables e below (T169.setTop (mkF m 47 #[.val (.ref a0), .val (.ref a0), .val (.ref a0), .val (.long v172), .second, .val (.int (8 : Int32))] [(.int (lcmpW v172 (0 : Int64)))])) t → Steps p.tables e below (s₁.setTop (entryFrame m #[(.ref a0), (.ref a0), (.ref a0)] 6)) t := fun t k => by
    refine pre0 t ?_
    show Steps p.tables e below (s₁.setTop (mkF m 0 #[.val (.ref a0), .val (.ref a0), .val (.ref a0), .unset, .unset, .unset] [])) _
    refine XS.lconst X0.here hx rfl (hb hby d4_0) ?_
    refine XS.lstoreN X0.here hx rfl (hb hby d4_1) rfl (l' := #[.val (.ref a0), .val (.ref a0), .val (.ref a0), .val (.long (0 : Int64)), .second, .unset]) rfl ?_
    refine XS.iconst X0.here hx rfl (hb hby d4_2) ?_
    refine XS.istore X0.here hx rfl (hb hby d4_3) rfl (l' := #[.val (.ref a0), .val (.ref a0), .val (.ref a0), .val (.long (0 : Int64)), .second, .val (.int (0 : Int32))]) rfl ?_
    show Steps p.tables e below (s₁.setTop (mkF m 5 #[.val (.ref a0), .val (.ref a0), .val (.ref a0), .val (.long (0 : Int64)), .second, .val (.int (0 : Int32))] [])) _
    refine XS.iload X0.here hx rfl (hb hby d4_5) rfl ?_
    refine XS.bipush X0.here hx rfl (hb hby d4_7) ?_
    refine XS.icmpNo X0.here hx rfl (hb hby d4_9) rfl (tlt (by decide : (0 : Int32) < (8 : Int32))).2.1 ?_
    refine XS.lloadN X0.here hx rfl (hb hby d4_12) rfl ?_
    show Steps p.tables e below (s₁.setTop (mkF m 13 #[.val (.ref a0), .val (.ref a0), .val (.ref a0), .val (.long (0 : Int64)), .second, .val (.int (0 : Int32))] [(.long (0 : Int64))])) _
    refine XS.aloadN X0.here hx rfl (hb hby d4_13) rfl rfl ?_
    refine XS.iload X0.here hx rfl (hb hby d4_14) rfl ?_
    show Steps p.tables e below (s₁.setTop (mkF m 16 #[.val (.ref a0), .val (.ref a0), .val (.ref a0), .val (.long (0 : Int64)), .second, .val (.int (0 : Int32))] [(.int (0 : Int32)), (.ref a0), (.long (0 : Int64))])) _
    have hin101 : ¬ ((0 : Int32) < 0 ∨ cl101.slots.size ≤ ((0 : Int32)).toNatClampNeg) := (inb_of S101 ⟨by decide, by decide⟩)
    refine X0.laload hx (j := (0 : Int32)) (v := (.long u0)) (by rw [e0]; exact Ar101.1) (State.isArrayOf_alike hZ.alike Ar101.2.1) Ar101.2.2 hin101 (H101.at hin101 rfl) (g := (mkF m 16 #[.val (.ref a0), .val (.ref a0), .val (.ref a0), .val (.long (0 : Int64)), .second, .val (.int (0 : Int32))] [(.int (0 : Int32)), (.ref a0), (.long (0 : Int64))])) rfl rfl (hb hby d4_16) _ ?_
    refine XS.aloadN X0.here hx rfl (hb hby d4_17) rfl rfl ?_
    refine XS.iload X0.here hx rfl (hb hby d4_18) rfl ?_
    show Steps p.tables e below (s₁.setTop (mkF m 20 #[.val (.ref a0), .val (.ref a0), .val (.ref a0), .val (.long (0 : Int64)), .second, .val (.int (0 : Int32))] [(.int (0 : Int32)), (.ref a0), (.long u0), (.long (0 : Int64))])) _
    have hin102 : ¬ ((0 : Int32) < 0 ∨ cl102.slots.size ≤ ((0 : Int32)).toNatClampNeg) := (inb_of S102 ⟨by decide, by decide⟩)
    refine X0.laload hx (j := (0 : Int32)) (v := (.long u0)) (by rw [e0]; exact Ar102.1) (State.isArrayOf_alike hZ.alike Ar102.2.1) Ar102.2.2 hin102 (H102.at hin102 rfl) (g := (mkF m 20 #[.val (.ref a0), .val (.ref a0), .val (.ref a0), .val (.long (0 : Int64)), .second, .val (.int (0 : Int32))] [(.int (0 : Int32)), (.ref a0), (.long u0), (.long (0 : Int64))])) rfl rfl (hb hby d4_20) _ ?_
    refine XS.lsub X0.here hx rfl (hb hby d4_21) rfl ?_
    refine XS.ladd X0.here hx rfl (hb hby d4_22) rfl ?_
    show Steps p.tables e below (s₁.setTop (mkF m 23 #[.val (.ref a0), .val (.ref a0), .val (.ref a0), .val (.long (0 : Int64)), .second, .val (.int (0 : Int32))] [(.long ((0 : Int64) + (u0 - u0)))])) _
    rw [← gv103]
    refine XS.lstoreN X0.here hx rfl (hb hby d4_23) rfl (l' := #[.val (.ref a0), .val (.ref a0), .val (.ref a0), .val (.long v103), .second, .val (.int (0 : Int32))]) rfl ?_
    refine XS.aloadN X0.here hx rfl (hb hby d4_24) rfl rfl ?_
    refine XS.iload X0.here hx rfl (hb hby d4_25) rfl ?_
    show Steps p.tables e below (s₁.setTop (mkF m 27 #[.val (.ref a0), .val (.ref a0), .val (.ref a0), .val (.long v103), .second, .val (.int (0 : Int32))] [(.int (0 : Int32)), (.ref a0)])) _
    refine XS.lloadN X0.here hx rfl (hb hby d4_27) rfl ?_
    show Steps p.tables e below (s₁.setTop (mkF m 28 #[.val (.ref a0), .val (.ref a0), .val (.ref a0), .val (.long v103), .second, .val (.int (0 : Int32))] [(.long v103), (.int (0 : Int32)), (.ref a0)])) _
    refine X0.ldc2Long hx hown (mvT hZ (hw _ (List.mem_of_getElem? (i := 17) rfl))) (g := (mkF m 28 #[.val (.ref a0), .val (.ref a0), .val (.ref a0), .val (.long v103), .second, .val (.int (0 : Int32))] [(.long v103), (.int (0 : Int32)), (.ref a0)])) rfl (hb hby d4_28) _ ?_
    refine XS.land X0.here hx rfl (hb hby d4_31) rfl ?_
    show Steps p.tables e below (s₁.setTop (mkF m 32 #[.val (.ref a0), .val (.ref a0), .val (.ref a0), .val (.long v103), .second, .val (.int (0 : Int32))] [(.long (v103 &&& (4294967295 : Int64))), (.int (0 : Int32)), (.ref a0)])) _
    rw [← gv104]
    show Steps p.tables e below (s₁.setTop (mkF m 32 #[.val (.ref a0), .val (.ref a0), .val (.ref a0), .val (.long v103), .second, .val (.int (0 : Int32))] [(.long v104), (.int (0 : Int32)), (.ref a0)])) _
    refine st106 _ ?_
    refine XS.lloadN X106.here hx rfl (hb hby d4_33) rfl ?_
    refine XS.bipush X106.here hx rfl (hb hby d4_34) ?_
    refine XS.lshr X106.here hx rfl (hb hby d4_36) rfl ?_
    show Steps p.tables e below (T106.setTop (mkF m 37 #[.val (.ref a0), .val (.ref a0), .val (.ref a0), .val (.long v103), .second, .val (.int (0 : Int32))] [(.long (v103 >>> ((32 : Int32) &&& 0x3f).toInt64))])) _
    rw [← gv109]
    refine XS.lstoreN X106.here hx rfl (hb hby d4_37) rfl (l' := #[.val (.ref a0), .val (.ref a0), .val (.ref a0), .val (.long v109), .second, .val (.int (0 : Int32))]) rfl ?_
    refine XS.iinc X106.here hx rfl (hb hby d4_38) rfl (l' := #[.val (.ref a0), .val (.ref a0), .val (.ref a0), .val (.long v109), .second, .val (.int (1 : Int32))]) rfl ?_
    refine XS.goto X106.here hx rfl (pc0 := 41) (pc' := 5) rfl (hb hby d4_41) (by decide) (by decide) ?_
    show Steps p.tables e below (T106.setTop (mkF m 5 #[.val (.ref a0), .val (.ref a0), .val (.ref a0), .val (.long v109), .second, .val (.int (1 : Int32))] [])) _
    refine XS.iload X106.here hx rfl (hb hby d4_5) rfl ?_
    refine XS.bipush X106.here hx rfl (hb hby d4_7) ?_
    refine XS.icmpNo X106.here hx rfl (hb hby d4_9) rfl (tlt (by decide : (1 : Int32) < (8 : Int32))).2.1 ?_
    refine XS.lloadN X106.here hx rfl (hb hby d4_12) rfl ?_
    show Steps p.tables e below (T106.setTop (mkF m 13 #[.val (.ref a0), .val (.ref a0), .val (.ref a0), .val (.long v109), .second, .val (.int (1 : Int32))] [(.long v109)])) _
    refine XS.aloadN X106.here hx rfl (hb hby d4_13) rfl rfl ?_
    refine XS.iload X106.here hx rfl (hb hby d4_14) rfl ?_
    show Steps p.tables e below (T106.setTop (mkF m 16 #[.val (.ref a0), .val (.ref a0), .val (.ref a0), .val (.long v109), .second, .val (.int (1 : Int32))] [(.int (1 : Int32)), (.ref a0), (.long v109)])) _
    have hin110 : ¬ ((1 : Int32) < 0 ∨ cl110.slots.size ≤ ((1 : Int32)).toNatClampNeg) := (inb_of S110 ⟨by decide, by decide⟩)
    refine X106.laload hx (j := (1 : Int32)) (v := (.long u1)) (by rw [e106]; exact Ar110.1) (State.isArrayOf_alike hZ.alike Ar110.2.1) Ar110.2.2 hin110 (H110.at hin110 rfl) (g := (mkF m 16 #[.val (.ref a0), .val (.ref a0), .val (.ref a0), .val (.long v109), .second, .val (.int (1 : Int32))] [(.int (1 : Int32)), (.ref a0), (.long v109)])) rfl rfl (hb hby d4_16) _ ?_
    refine XS.aloadN X106.here hx rfl (hb hby d4_17) rfl rfl ?_
    refine XS.iload X106.here hx rfl (hb hby d4_18) rfl ?_
    show Steps p.tables e below (T106.setTop (mkF m 20 #[.val (.ref a0), .val (.ref a0), .val (.ref a0), .val (.long v109), .second, .val (.int (1 : Int32))] [(.int (1 : Int32)), (.ref a0), (.long u1), (.long v109)])) _
    have hin111 : ¬ ((1 : Int32) < 0 ∨ cl111.slots.size ≤ ((1 : Int32)).toNatClampNeg) := (inb_of S111 ⟨by decide, by decide⟩)
    refine X106.laload hx (j := (1 : Int32)) (v := (.long u1)) (by rw [e106]; exact Ar111.1) (State.isArrayOf_alike hZ.alike Ar111.2.1) Ar111.2.2 hin111 (H111.at hin111 rfl) (g := (mkF m 20 #[.val (.ref a0), .val (.ref a0), .val (.ref a0), .val (.long v109), .second, .val (.int (1 : Int32))] [(.int (1 : Int32)), (.ref a0), (.long u1), (.long v109)])) rfl rfl (hb hby d4_20) _ ?_
    refine XS.lsub X106.here hx rfl (hb hby d4_21) rfl ?_
    refine XS.ladd X106.here hx rfl (hb hby d4_22) rfl ?_
    show Steps p.tables e below (T106.setTop (mkF m 23 #[.val (.ref a0), .val (.ref a0), .val (.ref a0), .val (.long v109), .second, .val (.int (1 : Int32))] [(.long (v109 + (u1 - u1)))])) _
    rw [← gv112]
    refine XS.lstoreN X106.here hx rfl (hb hby d4_23) rfl (l' := #[.val (.ref a0), .val (.ref a0), .val (.ref a0), .val (.long v112), .second, .val (.int (1 : Int32))]) rfl ?_
    refine XS.aloadN X106.here hx rfl (hb hby d4_24) rfl rfl ?_
    refine XS.iload X106.here hx rfl (hb hby d4_25) rfl ?_
    show Steps p.tables e below (T106.setTop (mkF m 27 #[.val (.ref a0), .val (.ref a0), .val (.ref a0), .val (.long v112), .second, .val (.int (1 : Int32))] [(.int (1 : Int32)), (.ref a0)])) _
    refine XS.lloadN X106.here hx rfl (hb hby d4_27) rfl ?_
    show Steps p.tables e below (T106.setTop (mkF m 28 #[.val (.ref a0), .val (.ref a0), .val (.ref a0), .val (.long v112), .second, .val (.int (1 : Int32))] [(.long v112), (.int (1 : Int32)), (.ref a0)])) _
    refine X106.ldc2Long hx hown (mvT hZ (hw _ (List.mem_of_getElem? (i := 17) rfl))) (g := (mkF m 28 #[.val (.ref a0), .val (.ref a0), .val (.ref a0), .val (.long v112), .second, .val (.int (1 : Int32))] [(.long v112), (.int (1 : Int32)), (.ref a0)])) rfl (hb hby d4_28) _ ?_
    refine XS.land X106.here hx rfl (hb hby d4_31) rfl ?_
    show Steps p.tables e below (T106.setTop (mkF m 32 #[.val (.ref a0), .val (.ref a0), .val (.ref a0), .val (.long v112), .second, .val (.int (1 : Int32))] [(.long (v112 &&& (4294967295 : Int64))), (.int (1 : Int32)), (.ref a0)])) _
    rw [← gv113]
    show Steps p.tables e below (T106.setTop (mkF m 32 #[.val (.ref a0), .val (.ref a0), .val (.ref a0), .val (.long v112), .second, .val (.int (1 : Int32))] [(.long v113), (.int (1 : Int32)), (.ref a0)])) _
    refine st115 _ ?_
    refine XS.lloadN X115.here hx rfl (hb hby d4_33) rfl ?_
    refine XS.bipush X115.here hx rfl (hb hby d4_34) ?_
    refine XS.lshr X115.here hx rfl (hb hby d4_36) rfl ?_
    show Steps p.tables e below (T115.setTop (mkF m 37 #[.val (.ref a0), .val (.ref a0), .val (.ref a0), .val (.long v112), .second, .val (.int (1 : Int32))] [(.long (v112 >>> ((32 : Int32) &&& 0x3f).toInt64))])) _
    rw [← gv118]
    refine XS.lstoreN X115.here hx rfl (hb hby d4_37) rfl (l' := #[.val (.ref a0), .val (.ref a0), .val (.ref a0), .val (.long v118), .second, .val (.int (1 : Int32))]) rfl ?_
    refine XS.iinc X115.here hx rfl (hb hby d4_38) rfl (l' := #[.val (.ref a0), .val (.ref a0), .val (.ref a0), .val (.long v118), .second, .val (.int (2 : Int32))]) rfl ?_
    refine XS.goto X115.here hx rfl (pc0 := 41) (pc' := 5) rfl (hb hby d4_41) (by decide) (by decide) ?_
    show Steps p.tables e below (T115.setTop (mkF m 5 #[.val (.ref a0), .val (.ref a0), .val (.ref a0), .val (.long v118), .second, .val (.int (2 : Int32))] [])) _
    refine XS.iload X115.here hx rfl (hb hby d4_5) rfl ?_
    refine XS.bipush X115.here hx rfl (hb hby d4_7) ?_
    refine XS.icmpNo X115.here hx rfl (hb hby d4_9) rfl (tlt (by decide : (2 : Int32) < (8 : Int32))).2.1 ?_
    refine XS.lloadN X115.here hx rfl (hb hby d4_12) rfl ?_
    show Steps p.tables e below (T115.setTop (mkF m 13 #[.val (.ref a0), .val (.ref a0), .val (.ref a0), .val (.long v118), .second, .val (.int (2 : Int32))] [(.long v118)])) _
    refine XS.aloadN X115.here hx rfl (hb hby d4_13) rfl rfl ?_
    refine XS.iload X115.here hx rfl (hb hby d4_14) rfl ?_
    show Steps p.tables e below (T115.setTop (mkF m 16 #[.val (.ref a0), .val (.ref a0), .val (.ref a0), .val (.long v118), .second, .val (.int (2 : Int32))] [(.int (2 : Int32)), (.ref a0), (.long v118)])) _
    have hin119 : ¬ ((2 : Int32) < 0 ∨ cl119.slots.size ≤ ((2 : Int32)).toNatClampNeg) := (inb_of S119 ⟨by decide, by decide⟩)
    refine X115.laload hx (j := (2 : Int32)) (v := (.long u2)) (by rw [e115]; exact Ar119.1) (State.isArrayOf_alike hZ.alike Ar119.2.1) Ar119.2.2 hin119 (H119.at hin119 rfl) (g := (mkF m 16 #[.val (.ref a0), .val (.ref a0), .val (.ref a0), .val (.long v118), .second, .val (.int (2 : Int32))] [(.int (2 : Int32)), (.ref a0), (.long v118)])) rfl rfl (hb hby d4_16) _ ?_
    refine XS.aloadN X115.here hx rfl (hb hby d4_17) rfl rfl ?_
    refine XS.iload X115.here hx rfl (hb hby d4_18) rfl ?_
    show Steps p.tables e below (T115.setTop (mkF m 20 #[.val (.ref a0), .val (.ref a0), .val (.ref a0), .val (.long v118), .second, .val (.int (2 : Int32))] [(.int (2 : Int32)), (.ref a0), (.long u2), (.long v118)])) _
    have hin120 : ¬ ((2 : Int32) < 0 ∨ cl120.slots.size ≤ ((2 : Int32)).toNatClampNeg) := (inb_of S120 ⟨by decide, by decide⟩)
    refine X115.laload hx (j := (2 : Int32)) (v := (.long u2)) (by rw [e115]; exact Ar120.1) (State.isArrayOf_alike hZ.alike Ar120.2.1) Ar120.2.2 hin120 (H120.at hin120 rfl) (g := (mkF m 20 #[.val (.ref a0), .val (.ref a0), .val (.ref a0), .val (.long v118), .second, .val (.int (2 : Int32))] [(.int (2 : Int32)), (.ref a0), (.long u2), (.long v118)])) rfl rfl (hb hby d4_20) _ ?_
    refine XS.lsub X115.here hx rfl (hb hby d4_21) rfl ?_
    refine XS.ladd X115.here hx rfl (hb hby d4_22) rfl ?_
    show Steps p.tables e below (T115.setTop (mkF m 23 #[.val (.ref a0), .val (.ref a0), .val (.ref a0), .val (.long v118), .second, .val (.int (2 : Int32))] [(.long (v118 + (u2 - u2)))])) _
    rw [← gv121]
    refine XS.lstoreN X115.here hx rfl (hb hby d4_23) rfl (l' := #[.val (.ref a0), .val (.ref a0), .val (.ref a0), .val (.long v121), .second, .val (.int (2 : Int32))]) rfl ?_
    refine XS.aloadN X115.here hx rfl (hb hby d4_24) rfl rfl ?_
    refine XS.iload X115.here hx rfl (hb hby d4_25) rfl ?_
    show Steps p.tables e below (T115.setTop (mkF m 27 #[.val (.ref a0), .val (.ref a0), .val (.ref a0), .val (.long v121), .second, .val (.int (2 : Int32))] [(.int (2 : Int32)), (.ref a0)])) _
    refine XS.lloadN X115.here hx rfl (hb hby d4_27) rfl ?_
    show Steps p.tables e below (T115.setTop (mkF m 28 #[.val (.ref a0), .val (.ref a0), .val (.ref a0), .val (.long v121), .second, .val (.int (2 : Int32))] [(.long v121), (.int (2 : Int32)), (.ref a0)])) _
    refine X115.ldc2Long hx hown (mvT hZ (hw _ (List.mem_of_getElem? (i := 17) rfl))) (g := (mkF m 28 #[.val (.ref a0), .val (.ref a0), .val (.ref a0), .val (.long v121), .second, .val (.int (2 : Int32))] [(.long v121), (.int (2 : Int32)), (.ref a0)])) rfl (hb hby d4_28) _ ?_
    refine XS.land X115.here hx rfl (hb hby d4_31) rfl ?_
    show Steps p.tables e below (T115.setTop (mkF m 32 #[.val (.ref a0), .val (.ref a0), .val (.ref a0), .val (.long v121), .second, .val (.int (2 : Int32))] [(.long (v121 &&& (4294967295 : Int64))), (.int (2 : Int32)), (.ref a0)])) _
    rw [← gv122]
    show Steps p.tables e below (T115.setTop (mkF m 32 #[.val (.ref a0), .val (.ref a0), .val (.ref a0), .val (.long v121), .second, .val (.int (2 : Int32))] [(.long v122), (.int (2 : Int32)), (.ref a0)])) _
    refine st124 _ ?_
    refine XS.lloadN X124.here hx rfl (hb hby d4_33) rfl ?_
    refine XS.bipush X124.here hx rfl (hb hby d4_34) ?_
    refine XS.lshr X124.here hx rfl (hb hby d4_36) rfl ?_
    show Steps p.tables e below (T124.setTop (mkF m 37 #[.val (.ref a0), .val (.ref a0), .val (.ref a0), .val (.long v121), .second, .val (.int (2 : Int32))] [(.long (v121 >>> ((32 : Int32) &&& 0x3f).toInt64))])) _
    rw [← gv127]
    refine XS.lstoreN X124.here hx rfl (hb hby d4_37) rfl (l' := #[.val (.ref a0), .val (.ref a0), .val (.ref a0), .val (.long v127), .second, .val (.int (2 : Int32))]) rfl ?_
    refine XS.iinc X124.here hx rfl (hb hby d4_38) rfl (l' := #[.val (.ref a0), .val (.ref a0), .val (.ref a0), .val (.long v127), .second, .val (.int (3 : Int32))]) rfl ?_
    refine XS.goto X124.here hx rfl (pc0 := 41) (pc' := 5) rfl (hb hby d4_41) (by decide) (by decide) ?_
    show Steps p.tables e below (T124.setTop (mkF m 5 #[.val (.ref a0), .val (.ref a0), .val (.ref a0), .val (.long v127), .second, .val (.int (3 : Int32))] [])) _
    refine XS.iload X124.here hx rfl (hb hby d4_5) rfl ?_
    refine XS.bipush X124.here hx rfl (hb hby d4_7) ?_
    refine XS.icmpNo X124.here hx rfl (hb hby d4_9) rfl (tlt (by decide : (3 : Int32) < (8 : Int32))).2.1 ?_
    refine XS.lloadN X124.here hx rfl (hb hby d4_12) rfl ?_
    show Steps p.tables e below (T124.setTop (mkF m 13 #[.val (.ref a0), .val (.ref a0), .val (.ref a0), .val (.long v127), .second, .val (.int (3 : Int32))] [(.long v127)])) _
    refine XS.aloadN X124.here hx rfl (hb hby d4_13) rfl rfl ?_
    refine XS.iload X124.here hx rfl (hb hby d4_14) rfl ?_
    show Steps p.tables e below (T124.setTop (mkF m 16 #[.val (.ref a0), .val (.ref a0), .val (.ref a0), .val (.long v127), .second, .val (.int (3 : Int32))] [(.int (3 : Int32)), (.ref a0), (.long v127)])) _
    have hin128 : ¬ ((3 : Int32) < 0 ∨ cl128.slots.size ≤ ((3 : Int32)).toNatClampNeg) := (inb_of S128 ⟨by decide, by decide⟩)
    refine X124.laload hx (j := (3 : Int32)) (v := (.long u3)) (by rw [e124]; exact Ar128.1) (State.isArrayOf_alike hZ.alike Ar128.2.1) Ar128.2.2 hin128 (H128.at hin128 rfl) (g := (mkF m 16 #[.val (.ref a0), .val (.ref a0), .val (.ref a0), .val (.long v127), .second, .val (.int (3 : Int32))] [(.int (3 : Int32)), (.ref a0), (.long v127)])) rfl rfl (hb hby d4_16) _ ?_
    refine XS.aloadN X124.here hx rfl (hb hby d4_17) rfl rfl ?_
    refine XS.iload X124.here hx rfl (hb hby d4_18) rfl ?_
    show Steps p.tables e below (T124.setTop (mkF m 20 #[.val (.ref a0), .val (.ref a0), .val (.ref a0), .val (.long v127), .second, .val (.int (3 : Int32))] [(.int (3 : Int32)), (.ref a0), (.long u3), (.long v127)])) _
    have hin129 : ¬ ((3 : Int32) < 0 ∨ cl129.slots.size ≤ ((3 : Int32)).toNatClampNeg) := (inb_of S129 ⟨by decide, by decide⟩)
    refine X124.laload hx (j := (3 : Int32)) (v := (.long u3)) (by rw [e124]; exact Ar129.1) (State.isArrayOf_alike hZ.alike Ar129.2.1) Ar129.2.2 hin129 (H129.at hin129 rfl) (g := (mkF m 20 #[.val (.ref a0), .val (.ref a0), .val (.ref a0), .val (.long v127), .second, .val (.int (3 : Int32))] [(.int (3 : Int32)), (.ref a0), (.long u3), (.long v127)])) rfl rfl (hb hby d4_20) _ ?_
    refine XS.lsub X124.here hx rfl (hb hby d4_21) rfl ?_
    refine XS.ladd X124.here hx rfl (hb hby d4_22) rfl ?_
    show Steps p.tables e below (T124.setTop (mkF m 23 #[.val (.ref a0), .val (.ref a0), .val (.ref a0), .val (.long v127), .second, .val (.int (3 : Int32))] [(.long (v127 + (u3 - u3)))])) _
    rw [← gv130]
    refine XS.lstoreN X124.here hx rfl (hb hby d4_23) rfl (l' := #[.val (.ref a0), .val (.ref a0), .val (.ref a0), .val (.long v130), .second, .val (.int (3 : Int32))]) rfl ?_
    refine XS.aloadN X124.here hx rfl (hb hby d4_24) rfl rfl ?_
    refine XS.iload X124.here hx rfl (hb hby d4_25) rfl ?_
    show Steps p.tables e below (T124.setTop (mkF m 27 #[.val (.ref a0), .val (.ref a0), .val (.ref a0), .val (.long v130), .second, .val (.int (3 : Int32))] [(.int (3 : Int32)), (.ref a0)])) _
    refine XS.lloadN X124.here hx rfl (hb hby d4_27) rfl ?_
    show Steps p.tables e below (T124.setTop (mkF m 28 #[.val (.ref a0), .val (.ref a0), .val (.ref a0), .val (.long v130), .second, .val (.int (3 : Int32))] [(.long v130), (.int (3 : Int32)), (.ref a0)])) _
    refine X124.ldc2Long hx hown (mvT hZ (hw _ (List.mem_of_getElem? (i := 17) rfl))) (g := (mkF m 28 #[.val (.ref a0), .val (.ref a0), .val (.ref a0), .val (.long v130), .second, .val (.int (3 : Int32))] [(.long v130), (.int (3 : Int32)), (.ref a0)])) rfl (hb hby d4_28) _ ?_
    refine XS.land X124.here hx rfl (hb hby d4_31) rfl ?_
    show Steps p.tables e below (T124.setTop (mkF m 32 #[.val (.ref a0), .val (.ref a0), .val (.ref a0), .val (.long v130), .second, .val (.int (3 : Int32))] [(.long (v130 &&& (4294967295 : Int64))), (.int (3 : Int32)), (.ref a0)])) _
    rw [← gv131]
    show Steps p.tables e below (T124.setTop (mkF m 32 #[.val (.ref a0), .val (.ref a0), .val (.ref a0), .val (.long v130), .second, .val (.int (3 : Int32))] [(.long v131), (.int (3 : Int32)), (.ref a0)])) _
    refine st133 _ ?_
    refine XS.lloadN X133.here hx rfl (hb hby d4_33) rfl ?_
    refine XS.bipush X133.here hx rfl (hb hby d4_34) ?_
    refine XS.lshr X133.here hx rfl (hb hby d4_36) rfl ?_
    show Steps p.tables e below (T133.setTop (mkF m 37 #[.val (.ref a0), .val (.ref a0), .val (.ref a0), .val (.long v130), .second, .val (.int (3 : Int32))] [(.long (v130 >>> ((32 : Int32) &&& 0x3f).toInt64))])) _
    rw [← gv136]
    refine XS.lstoreN X133.here hx rfl (hb hby d4_37) rfl (l' := #[.val (.ref a0), .val (.ref a0), .val (.ref a0), .val (.long v136), .second, .val (.int (3 : Int32))]) rfl ?_
    refine XS.iinc X133.here hx rfl (hb hby d4_38) rfl (l' := #[.val (.ref a0), .val (.ref a0), .val (.ref a0), .val (.long v136), .second, .val (.int (4 : Int32))]) rfl ?_
    refine XS.goto X133.here hx rfl (pc0 := 41) (pc' := 5) rfl (hb hby d4_41) (by decide) (by decide) ?_
    show Steps p.tables e below (T133.setTop (mkF m 5 #[.val (.ref a0), .val (.ref a0), .val (.ref a0), .val (.long v136), .second, .val (.int (4 : Int32))] [])) _
    refine XS.iload X133.here hx rfl (hb hby d4_5) rfl ?_
    refine XS.bipush X133.here hx rfl (hb hby d4_7) ?_
    refine XS.icmpNo X133.here hx rfl (hb hby d4_9) rfl (tlt (by decide : (4 : Int32) < (8 : Int32))).2.1 ?_
    refine XS.lloadN X133.here hx rfl (hb hby d4_12) rfl ?_
    show Steps p.tables e below (T133.setTop (mkF m 13 #[.val (.ref a0), .val (.ref a0), .val (.ref a0), .val (.long v136), .second, .val (.int (4 : Int32))] [(.long v136)])) _
    refine XS.aloadN X133.here hx rfl (hb hby d4_13) rfl rfl ?_
    refine XS.iload X133.here hx rfl (hb hby d4_14) rfl ?_
    show Steps p.tables e below (T133.setTop (mkF m 16 #[.val (.ref a0), .val (.ref a0), .val (.ref a0), .val (.long v136), .second, .val (.int (4 : Int32))] [(.int (4 : Int32)), (.ref a0), (.long v136)])) _
    have hin137 : ¬ ((4 : Int32) < 0 ∨ cl137.slots.size ≤ ((4 : Int32)).toNatClampNeg) := (inb_of S137 ⟨by decide, by decide⟩)
    refine X133.laload hx (j := (4 : Int32)) (v := (.long u4)) (by rw [e133]; exact Ar137.1) (State.isArrayOf_alike hZ.alike Ar137.2.1) Ar137.2.2 hin137 (H137.at hin137 rfl) (g := (mkF m 16 #[.val (.ref a0), .val (.ref a0), .val (.ref a0), .val (.long v136), .second, .val (.int (4 : Int32))] [(.int (4 : Int32)), (.ref a0), (.long v136)])) rfl rfl (hb hby d4_16) _ ?_
    refine XS.aloadN X133.here hx rfl (hb hby d4_17) rfl rfl ?_
    refine XS.iload X133.here hx rfl (hb hby d4_18) rfl ?_
    show Steps p.tables e below (T133.setTop (mkF m 20 #[.val (.ref a0), .val (.ref a0), .val (.ref a0), .val (.long v136), .second, .val (.int (4 : Int32))] [(.int (4 : Int32)), (.ref a0), (.long u4), (.long v136)])) _
    have hin138 : ¬ ((4 : Int32) < 0 ∨ cl138.slots.size ≤ ((4 : Int32)).toNatClampNeg) := (inb_of S138 ⟨by decide, by decide⟩)
    refine X133.laload hx (j := (4 : Int32)) (v := (.long u4)) (by rw [e133]; exact Ar138.1) (State.isArrayOf_alike hZ.alike Ar138.2.1) Ar138.2.2 hin138 (H138.at hin138 rfl) (g := (mkF m 20 #[.val (.ref a0), .val (.ref a0), .val (.ref a0), .val (.long v136), .second, .val (.int (4 : Int32))] [(.int (4 : Int32)), (.ref a0), (.long u4), (.long v136)])) rfl rfl (hb hby d4_20) _ ?_
    refine XS.lsub X133.here hx rfl (hb hby d4_21) rfl ?_
    refine XS.ladd X133.here hx rfl (hb hby d4_22) rfl ?_
    show Steps p.tables e below (T133.setTop (mkF m 23 #[.val (.ref a0), .val (.ref a0), .val (.ref a0), .val (.long v136), .second, .val (.int (4 : Int32))] [(.long (v136 + (u4 - u4)))])) _
    rw [← gv139]
    refine XS.lstoreN X133.here hx rfl (hb hby d4_23) rfl (l' := #[.val (.ref a0), .val (.ref a0), .val (.ref a0), .val (.long v139), .second, .val (.int (4 : Int32))]) rfl ?_
    refine XS.aloadN X133.here hx rfl (hb hby d4_24) rfl rfl ?_
    refine XS.iload X133.here hx rfl (hb hby d4_25) rfl ?_
    show Steps p.tables e below (T133.setTop (mkF m 27 #[.val (.ref a0), .val (.ref a0), .val (.ref a0), .val (.long v139), .second, .val (.int (4 : Int32))] [(.int (4 : Int32)), (.ref a0)])) _
    refine XS.lloadN X133.here hx rfl (hb hby d4_27) rfl ?_
    show Steps p.tables e below (T133.setTop (mkF m 28 #[.val (.ref a0), .val (.ref a0), .val (.ref a0), .val (.long v139), .second, .val (.int (4 : Int32))] [(.long v139), (.int (4 : Int32)), (.ref a0)])) _
    refine X133.ldc2Long hx hown (mvT hZ (hw _ (List.mem_of_getElem? (i := 17) rfl))) (g := (mkF m 28 #[.val (.ref a0), .val (.ref a0), .val (.ref a0), .val (.long v139), .second, .val (.int (4 : Int32))] [(.long v139), (.int (4 : Int32)), (.ref a0)])) rfl (hb hby d4_28) _ ?_
    refine XS.land X133.here hx rfl (hb hby d4_31) rfl ?_
    show Steps p.tables e below (T133.setTop (mkF m 32 #[.val (.ref a0), .val (.ref a0), .val (.ref a0), .val (.long v139), .second, .val (.int (4 : Int32))] [(.long (v139 &&& (4294967295 : Int64))), (.int (4 : Int32)), (.ref a0)])) _
    rw [← gv140]
    show Steps p.tables e below (T133.setTop (mkF m 32 #[.val (.ref a0), .val (.ref a0), .val (.ref a0), .val (.long v139), .second, .val (.int (4 : Int32))] [(.long v140), (.int (4 : Int32)), (.ref a0)])) _
    refine st142 _ ?_
    refine XS.lloadN X142.here hx rfl (hb hby d4_33) rfl ?_
    refine XS.bipush X142.here hx rfl (hb hby d4_34) ?_
    refine XS.lshr X142.here hx rfl (hb hby d4_36) rfl ?_
    show Steps p.tables e below (T142.setTop (mkF m 37 #[.val (.ref a0), .val (.ref a0), .val (.ref a0), .val (.long v139), .second, .val (.int (4 : Int32))] [(.long (v139 >>> ((32 : Int32) &&& 0x3f).toInt64))])) _
    rw [← gv145]
    refine XS.lstoreN X142.here hx rfl (hb hby d4_37) rfl (l' := #[.val (.ref a0), .val (.ref a0), .val (.ref a0), .val (.long v145), .second, .val (.int (4 : Int32))]) rfl ?_
    refine XS.iinc X142.here hx rfl (hb hby d4_38) rfl (l' := #[.val (.ref a0), .val (.ref a0), .val (.ref a0), .val (.long v145), .second, .val (.int (5 : Int32))]) rfl ?_
    refine XS.goto X142.here hx rfl (pc0 := 41) (pc' := 5) rfl (hb hby d4_41) (by decide) (by decide) ?_
    show Steps p.tables e below (T142.setTop (mkF m 5 #[.val (.ref a0), .val (.ref a0), .val (.ref a0), .val (.long v145), .second, .val (.int (5 : Int32))] [])) _
    refine XS.iload X142.here hx rfl (hb hby d4_5) rfl ?_
    refine XS.bipush X142.here hx rfl (hb hby d4_7) ?_
    refine XS.icmpNo X142.here hx rfl (hb hby d4_9) rfl (tlt (by decide : (5 : Int32) < (8 : Int32))).2.1 ?_
    refine XS.lloadN X142.here hx rfl (hb hby d4_12) rfl ?_
    show Steps p.tables e below (T142.setTop (mkF m 13 #[.val (.ref a0), .val (.ref a0), .val (.ref a0), .val (.long v145), .second, .val (.int (5 : Int32))] [(.long v145)])) _
    refine XS.aloadN X142.here hx rfl (hb hby d4_13) rfl rfl ?_
    refine XS.iload X142.here hx rfl (hb hby d4_14) rfl ?_
    show Steps p.tables e below (T142.setTop (mkF m 16 #[.val (.ref a0), .val (.ref a0), .val (.ref a0), .val (.long v145), .second, .val (.int (5 : Int32))] [(.int (5 : Int32)), (.ref a0), (.long v145)])) _
    have hin146 : ¬ ((5 : Int32) < 0 ∨ cl146.slots.size ≤ ((5 : Int32)).toNatClampNeg) := (inb_of S146 ⟨by decide, by decide⟩)
    refine X142.laload hx (j := (5 : Int32)) (v := (.long u5)) (by rw [e142]; exact Ar146.1) (State.isArrayOf_alike hZ.alike Ar146.2.1) Ar146.2.2 hin146 (H146.at hin146 rfl) (g := (mkF m 16 #[.val (.ref a0), .val (.ref a0), .val (.ref a0), .val (.long v145), .second, .val (.int (5 : Int32))] [(.int (5 : Int32)), (.ref a0), (.long v145)])) rfl rfl (hb hby d4_16) _ ?_
    refine XS.aloadN X142.here hx rfl (hb hby d4_17) rfl rfl ?_
    refine XS.iload X142.here hx rfl (hb hby d4_18) rfl ?_
    show Steps p.tables e below (T142.setTop (mkF m 20 #[.val (.ref a0), .val (.ref a0), .val (.ref a0), .val (.long v145), .second, .val (.int (5 : Int32))] [(.int (5 : Int32)), (.ref a0), (.long u5), (.long v145)])) _
    have hin147 : ¬ ((5 : Int32) < 0 ∨ cl147.slots.size ≤ ((5 : Int32)).toNatClampNeg) := (inb_of S147 ⟨by decide, by decide⟩)
    refine X142.laload hx (j := (5 : Int32)) (v := (.long u5)) (by rw [e142]; exact Ar147.1) (State.isArrayOf_alike hZ.alike Ar147.2.1) Ar147.2.2 hin147 (H147.at hin147 rfl) (g := (mkF m 20 #[.val (.ref a0), .val (.ref a0), .val (.ref a0), .val (.long v145), .second, .val (.int (5 : Int32))] [(.int (5 : Int32)), (.ref a0), (.long u5), (.long v145)])) rfl rfl (hb hby d4_20) _ ?_
    refine XS.lsub X142.here hx rfl (hb hby d4_21) rfl ?_
    refine XS.ladd X142.here hx rfl (hb hby d4_22) rfl ?_
    show Steps p.tables e below (T142.setTop (mkF m 23 #[.val (.ref a0), .val (.ref a0), .val (.ref a0), .val (.long v145), .second, .val (.int (5 : Int32))] [(.long (v145 + (u5 - u5)))])) _
    rw [← gv148]
    refine XS.lstoreN X142.here hx rfl (hb hby d4_23) rfl (l' := #[.val (.ref a0), .val (.ref a0), .val (.ref a0), .val (.long v148), .second, .val (.int (5 : Int32))]) rfl ?_
    refine XS.aloadN X142.here hx rfl (hb hby d4_24) rfl rfl ?_
    refine XS.iload X142.here hx rfl (hb hby d4_25) rfl ?_
    show Steps p.tables e below (T142.setTop (mkF m 27 #[.val (.ref a0), .val (.ref a0), .val (.ref a0), .val (.long v148), .second, .val (.int (5 : Int32))] [(.int (5 : Int32)), (.ref a0)])) _
    refine XS.lloadN X142.here hx rfl (hb hby d4_27) rfl ?_
    show Steps p.tables e below (T142.setTop (mkF m 28 #[.val (.ref a0), .val (.ref a0), .val (.ref a0), .val (.long v148), .second, .val (.int (5 : Int32))] [(.long v148), (.int (5 : Int32)), (.ref a0)])) _
    refine X142.ldc2Long hx hown (mvT hZ (hw _ (List.mem_of_getElem? (i := 17) rfl))) (g := (mkF m 28 #[.val (.ref a0), .val (.ref a0), .val (.ref a0), .val (.long v148), .second, .val (.int (5 : Int32))] [(.long v148), (.int (5 : Int32)), (.ref a0)])) rfl (hb hby d4_28) _ ?_
    refine XS.land X142.here hx rfl (hb hby d4_31) rfl ?_
    show Steps p.tables e below (T142.setTop (mkF m 32 #[.val (.ref a0), .val (.ref a0), .val (.ref a0), .val (.long v148), .second, .val (.int (5 : Int32))] [(.long (v148 &&& (4294967295 : Int64))), (.int (5 : Int32)), (.ref a0)])) _
    rw [← gv149]
    show Steps p.tables e below (T142.setTop (mkF m 32 #[.val (.ref a0), .val (.ref a0), .val (.ref a0), .val (.long v148), .second, .val (.int (5 : Int32))] [(.long v149), (.int (5 : Int32)), (.ref a0)])) _
    refine st151 _ ?_
    refine XS.lloadN X151.here hx rfl (hb hby d4_33) rfl ?_
    refine XS.bipush X151.here hx rfl (hb hby d4_34) ?_
    refine XS.lshr X151.here hx rfl (hb hby d4_36) rfl ?_
    show Steps p.tables e below (T151.setTop (mkF m 37 #[.val (.ref a0), .val (.ref a0), .val (.ref a0), .val (.long v148), .second, .val (.int (5 : Int32))] [(.long (v148 >>> ((32 : Int32) &&& 0x3f).toInt64))])) _
    rw [← gv154]
    refine XS.lstoreN X151.here hx rfl (hb hby d4_37) rfl (l' := #[.val (.ref a0), .val (.ref a0), .val (.ref a0), .val (.long v154), .second, .val (.int (5 : Int32))]) rfl ?_
    refine XS.iinc X151.here hx rfl (hb hby d4_38) rfl (l' := #[.val (.ref a0), .val (.ref a0), .val (.ref a0), .val (.long v154), .second, .val (.int (6 : Int32))]) rfl ?_
    refine XS.goto X151.here hx rfl (pc0 := 41) (pc' := 5) rfl (hb hby d4_41) (by decide) (by decide) ?_
    show Steps p.tables e below (T151.setTop (mkF m 5 #[.val (.ref a0), .val (.ref a0), .val (.ref a0), .val (.long v154), .second, .val (.int (6 : Int32))] [])) _
    refine XS.iload X151.here hx rfl (hb hby d4_5) rfl ?_
    refine XS.bipush X151.here hx rfl (hb hby d4_7) ?_
    refine XS.icmpNo X151.here hx rfl (hb hby d4_9) rfl (tlt (by decide : (6 : Int32) < (8 : Int32))).2.1 ?_
    refine XS.lloadN X151.here hx rfl (hb hby d4_12) rfl ?_
    show Steps p.tables e below (T151.setTop (mkF m 13 #[.val (.ref a0), .val (.ref a0), .val (.ref a0), .val (.long v154), .second, .val (.int (6 : Int32))] [(.long v154)])) _
    refine XS.aloadN X151.here hx rfl (hb hby d4_13) rfl rfl ?_
    refine XS.iload X151.here hx rfl (hb hby d4_14) rfl ?_
    show Steps p.tables e below (T151.setTop (mkF m 16 #[.val (.ref a0), .val (.ref a0), .val (.ref a0), .val (.long v154), .second, .val (.int (6 : Int32))] [(.int (6 : Int32)), (.ref a0), (.long v154)])) _
    have hin155 : ¬ ((6 : Int32) < 0 ∨ cl155.slots.size ≤ ((6 : Int32)).toNatClampNeg) := (inb_of S155 ⟨by decide, by decide⟩)
    refine X151.laload hx (j := (6 : Int32)) (v := (.long u6)) (by rw [e151]; exact Ar155.1) (State.isArrayOf_alike hZ.alike Ar155.2.1) Ar155.2.2 hin155 (H155.at hin155 rfl) (g := (mkF m 16 #[.val (.ref a0), .val (.ref a0), .val (.ref a0), .val (.long v154), .second, .val (.int (6 : Int32))] [(.int (6 : Int32)), (.ref a0), (.long v154)])) rfl rfl (hb hby d4_16) _ ?_
    refine XS.aloadN X151.here hx rfl (hb hby d4_17) rfl rfl ?_
    refine XS.iload X151.here hx rfl (hb hby d4_18) rfl ?_
    show Steps p.tables e below (T151.setTop (mkF m 20 #[.val (.ref a0), .val (.ref a0), .val (.ref a0), .val (.long v154), .second, .val (.int (6 : Int32))] [(.int (6 : Int32)), (.ref a0), (.long u6), (.long v154)])) _
    have hin156 : ¬ ((6 : Int32) < 0 ∨ cl156.slots.size ≤ ((6 : Int32)).toNatClampNeg) := (inb_of S156 ⟨by decide, by decide⟩)
    refine X151.laload hx (j := (6 : Int32)) (v := (.long u6)) (by rw [e151]; exact Ar156.1) (State.isArrayOf_alike hZ.alike Ar156.2.1) Ar156.2.2 hin156 (H156.at hin156 rfl) (g := (mkF m 20 #[.val (.ref a0), .val (.ref a0), .val (.ref a0), .val (.long v154), .second, .val (.int (6 : Int32))] [(.int (6 : Int32)), (.ref a0), (.long u6), (.long v154)])) rfl rfl (hb hby d4_20) _ ?_
    refine XS.lsub X151.here hx rfl (hb hby d4_21) rfl ?_
    refine XS.ladd X151.here hx rfl (hb hby d4_22) rfl ?_
    show Steps p.tables e below (T151.setTop (mkF m 23 #[.val (.ref a0), .val (.ref a0), .val (.ref a0), .val (.long v154), .second, .val (.int (6 : Int32))] [(.long (v154 + (u6 - u6)))])) _
    rw [← gv157]
    refine XS.lstoreN X151.here hx rfl (hb hby d4_23) rfl (l' := #[.val (.ref a0), .val (.ref a0), .val (.ref a0), .val (.long v157), .second, .val (.int (6 : Int32))]) rfl ?_
    refine XS.aloadN X151.here hx rfl (hb hby d4_24) rfl rfl ?_
    refine XS.iload X151.here hx rfl (hb hby d4_25) rfl ?_
    show Steps p.tables e below (T151.setTop (mkF m 27 #[.val (.ref a0), .val (.ref a0), .val (.ref a0), .val (.long v157), .second, .val (.int (6 : Int32))] [(.int (6 : Int32)), (.ref a0)])) _
    refine XS.lloadN X151.here hx rfl (hb hby d4_27) rfl ?_
    show Steps p.tables e below (T151.setTop (mkF m 28 #[.val (.ref a0), .val (.ref a0), .val (.ref a0), .val (.long v157), .second, .val (.int (6 : Int32))] [(.long v157), (.int (6 : Int32)), (.ref a0)])) _
    refine X151.ldc2Long hx hown (mvT hZ (hw _ (List.mem_of_getElem? (i := 17) rfl))) (g := (mkF m 28 #[.val (.ref a0), .val (.ref a0), .val (.ref a0), .val (.long v157), .second, .val (.int (6 : Int32))] [(.long v157), (.int (6 : Int32)), (.ref a0)])) rfl (hb hby d4_28) _ ?_
    refine XS.land X151.here hx rfl (hb hby d4_31) rfl ?_
    show Steps p.tables e below (T151.setTop (mkF m 32 #[.val (.ref a0), .val (.ref a0), .val (.ref a0), .val (.long v157), .second, .val (.int (6 : Int32))] [(.long (v157 &&& (4294967295 : Int64))), (.int (6 : Int32)), (.ref a0)])) _
    rw [← gv158]
    show Steps p.tables e below (T151.setTop (mkF m 32 #[.val (.ref a0), .val (.ref a0), .val (.ref a0), .val (.long v157), .second, .val (.int (6 : Int32))] [(.long v158), (.int (6 : Int32)), (.ref a0)])) _
    refine st160 _ ?_
    refine XS.lloadN X160.here hx rfl (hb hby d4_33) rfl ?_
    refine XS.bipush X160.here hx rfl (hb hby d4_34) ?_
    refine XS.lshr X160.here hx rfl (hb hby d4_36) rfl ?_
    show Steps p.tables e below (T160.setTop (mkF m 37 #[.val (.ref a0), .val (.ref a0), .val (.ref a0), .val (.long v157), .second, .val (.int (6 : Int32))] [(.long (v157 >>> ((32 : Int32) &&& 0x3f).toInt64))])) _
    rw [← gv163]
    refine XS.lstoreN X160.here hx rfl (hb hby d4_37) rfl (l' := #[.val (.ref a0), .val (.ref a0), .val (.ref a0), .val (.long v163), .second, .val (.int (6 : Int32))]) rfl ?_
    refine XS.iinc X160.here hx rfl (hb hby d4_38) rfl (l' := #[.val (.ref a0), .val (.ref a0), .val (.ref a0), .val (.long v163), .second, .val (.int (7 : Int32))]) rfl ?_
    refine XS.goto X160.here hx rfl (pc0 := 41) (pc' := 5) rfl (hb hby d4_41) (by decide) (by decide) ?_
    show Steps p.tables e below (T160.setTop (mkF m 5 #[.val (.ref a0), .val (.ref a0), .val (.ref a0), .val (.long v163), .second, .val (.int (7 : Int32))] [])) _
    refine XS.iload X160.here hx rfl (hb hby d4_5) rfl ?_
    refine XS.bipush X160.here hx rfl (hb hby d4_7) ?_
    refine XS.icmpNo X160.here hx rfl (hb hby d4_9) rfl (tlt (by decide : (7 : Int32) < (8 : Int32))).2.1 ?_
    refine XS.lloadN X160.here hx rfl (hb hby d4_12) rfl ?_
    show Steps p.tables e below (T160.setTop (mkF m 13 #[.val (.ref a0), .val (.ref a0), .val (.ref a0), .val (.long v163), .second, .val (.int (7 : Int32))] [(.long v163)])) _
    refine XS.aloadN X160.here hx rfl (hb hby d4_13) rfl rfl ?_
    refine XS.iload X160.here hx rfl (hb hby d4_14) rfl ?_
    show Steps p.tables e below (T160.setTop (mkF m 16 #[.val (.ref a0), .val (.ref a0), .val (.ref a0), .val (.long v163), .second, .val (.int (7 : Int32))] [(.int (7 : Int32)), (.ref a0), (.long v163)])) _
    have hin164 : ¬ ((7 : Int32) < 0 ∨ cl164.slots.size ≤ ((7 : Int32)).toNatClampNeg) := (inb_of S164 ⟨by decide, by decide⟩)
    refine X160.laload hx (j := (7 : Int32)) (v := (.long u7)) (by rw [e160]; exact Ar164.1) (State.isArrayOf_alike hZ.alike Ar164.2.1) Ar164.2.2 hin164 (H164.at hin164 rfl) (g := (mkF m 16 #[.val (.ref a0), .val (.ref a0), .val (.ref a0), .val (.long v163), .second, .val (.int (7 : Int32))] [(.int (7 : Int32)), (.ref a0), (.long v163)])) rfl rfl (hb hby d4_16) _ ?_
    refine XS.aloadN X160.here hx rfl (hb hby d4_17) rfl rfl ?_
    refine XS.iload X160.here hx rfl (hb hby d4_18) rfl ?_
    show Steps p.tables e below (T160.setTop (mkF m 20 #[.val (.ref a0), .val (.ref a0), .val (.ref a0), .val (.long v163), .second, .val (.int (7 : Int32))] [(.int (7 : Int32)), (.ref a0), (.long u7), (.long v163)])) _
    have hin165 : ¬ ((7 : Int32) < 0 ∨ cl165.slots.size ≤ ((7 : Int32)).toNatClampNeg) := (inb_of S165 ⟨by decide, by decide⟩)
    refine X160.laload hx (j := (7 : Int32)) (v := (.long u7)) (by rw [e160]; exact Ar165.1) (State.isArrayOf_alike hZ.alike Ar165.2.1) Ar165.2.2 hin165 (H165.at hin165 rfl) (g := (mkF m 20 #[.val (.ref a0), .val (.ref a0), .val (.ref a0), .val (.long v163), .second, .val (.int (7 : Int32))] [(.int (7 : Int32)), (.ref a0), (.long u7), (.long v163)])) rfl rfl (hb hby d4_20) _ ?_
    refine XS.lsub X160.here hx rfl (hb hby d4_21) rfl ?_
    refine XS.ladd X160.here hx rfl (hb hby d4_22) rfl ?_
    show Steps p.tables e below (T160.setTop (mkF m 23 #[.val (.ref a0), .val (.ref a0), .val (.ref a0), .val (.long v163), .second, .val (.int (7 : Int32))] [(.long (v163 + (u7 - u7)))])) _
    rw [← gv166]
    refine XS.lstoreN X160.here hx rfl (hb hby d4_23) rfl (l' := #[.val (.ref a0), .val (.ref a0), .val (.ref a0), .val (.long v166), .second, .val (.int (7 : Int32))]) rfl ?_
    refine XS.aloadN X160.here hx rfl (hb hby d4_24) rfl rfl ?_
    refine XS.iload X160.here hx rfl (hb hby d4_25) rfl ?_
    show Steps p.tables e below (T160.setTop (mkF m 27 #[.val (.ref a0), .val (.ref a0), .val (.ref a0), .val (.long v166), .second, .val (.int (7 : Int32))] [(.int (7 : Int32)), (.ref a0)])) _
    refine XS.lloadN X160.here hx rfl (hb hby d4_27) rfl ?_
    show Steps p.tables e below (T160.setTop (mkF m 28 #[.val (.ref a0), .val (.ref a0), .val (.ref a0), .val (.long v166), .second, .val (.int (7 : Int32))] [(.long v166), (.int (7 : Int32)), (.ref a0)])) _
    refine X160.ldc2Long hx hown (mvT hZ (hw _ (List.mem_of_getElem? (i := 17) rfl))) (g := (mkF m 28 #[.val (.ref a0), .val (.ref a0), .val (.ref a0), .val (.long v166), .second, .val (.int (7 : Int32))] [(.long v166), (.int (7 : Int32)), (.ref a0)])) rfl (hb hby d4_28) _ ?_
    refine XS.land X160.here hx rfl (hb hby d4_31) rfl ?_
    show Steps p.tables e below (T160.setTop (mkF m 32 #[.val (.ref a0), .val (.ref a0), .val (.ref a0), .val (.long v166), .second, .val (.int (7 : Int32))] [(.long (v166 &&& (4294967295 : Int64))), (.int (7 : Int32)), (.ref a0)])) _
    rw [← gv167]
    show Steps p.tables e below (T160.setTop (mkF m 32 #[.val (.ref a0), .val (.ref a0), .val (.ref a0), .val (.long v166), .second, .val (.int (7 : Int32))] [(.long v167), (.int (7 : Int32)), (.ref a0)])) _
    refine st169 _ ?_
    refine XS.lloadN X169.here hx rfl (hb hby d4_33) rfl ?_
    refine XS.bipush X169.here hx rfl (hb hby d4_34) ?_
    refine XS.lshr X169.here hx rfl (hb hby d4_36) rfl ?_
    show Steps p.tables e below (T169.setTop (mkF m 37 #[.val (.ref a0), .val (.ref a0), .val (.ref a0), .val (.long v166), .second, .val (.int (7 : Int32))] [(.long (v166 >>> ((32 : Int32) &&& 0x3f).toInt64))])) _
    rw [← gv172]
    refine XS.lstoreN X169.here hx rfl (hb hby d4_37) rfl (l' := #[.val (.ref a0), .val (.ref a0), .val (.ref a0), .val (.long v172), .second, .val (.int (7 : Int32))]) rfl ?_
    refine XS.iinc X169.here hx rfl (hb hby d4_38) rfl (l' := #[.val (.ref a0), .val (.ref a0), .val (.ref a0), .val (.long v172), .second, .val (.int (8 : Int32))]) rfl ?_
    refine XS.goto X169.here hx rfl (pc0 := 41) (pc' := 5) rfl (hb hby d4_41) (by decide) (by decide) ?_
    show Steps p.tables e below (T169.setTop (mkF m 5 #[.val (.ref a0), .val (.ref a0), .val (.ref a0), .val (.long v172), .second, .val (.int (8 : Int32))] [])) _
    refine XS.iload X169.here hx rfl (hb hby d4_5) rfl ?_
    refine XS.bipush X169.here hx rfl (hb hby d4_7) ?_
    refine XS.icmpYes X169.here hx rfl (pc0 := 9) (pc' := 44) rfl (hb hby d4_9) rfl (flt (by decide : ¬ ((8 : Int32) < (8 : Int32)))).2.1 (by decide) (by decide) ?_
    refine XS.lloadN X169.here hx rfl (hb hby d4_44) rfl ?_
    show Steps p.tables e below (T169.setTop (mkF m 45 #[.val (.ref a0), .val (.ref a0), .val (.ref a0), .val (.long v172), .second, .val (.int (8 : Int32))] [(.long v172)])) _
    refine XS.lconst X169.here hx rfl (hb hby d4_45) ?_
    refine XS.lcmp X169.here hx rfl (hb hby d4_46) rfl ?_
    exact k
  by_cases hc174 : v172 = (0 : Int64)
  · obtain ⟨fs, hr, hrun, hended, hW, hsame⟩ := X169.leave (v := none) (fun _ => rfl)
    refine ⟨_, _, pre173 _ ?_, hrun, hended, _, _, rfl, ?_, ⟨_, rfl⟩, hW, hsame.mono (by decide) (by decide)⟩
    · show Steps p.tables e below (T169.setTop (mkF m 47 #[.val (.ref a0), .val (.ref a0), .val (.ref a0), .val (.long v172), .second, .val (.int (8 : Int32))] [(.int (lcmpW v172 (0 : Int64)))])) _
      refine XS.ifYes X169.here hx rfl (pc0 := 47) (pc' := 54) rfl (hb hby d4_47) rfl ((if0 _ _).trans (teq ((lw_eq v172 (0 : Int64)).mpr hc174)).1) (by decide) (by decide) ?_
      show Steps p.tables e below (T169.setTop (mkF m 54 #[.val (.ref a0), .val (.ref a0), .val (.ref a0), .val (.long v172), .second, .val (.int (8 : Int32))] [])) _
      exact X169.returnOut hx Bd.returns (hb hby d4_54) hr
    · show Q_rm_subtract_s Z a0 wp kp kk0 u0 u1 u2 u3 u4 u5 u6 u7 h0 n0 _ T169.heap _
      rw [e169]
      exact ⟨rfl, N169, K169, v104, v113, v122, v131, v140, v149, v158, v167, V169b, ⟨rv109, rv118, rv127, rv136, rv145, rv154, rv163, rv172⟩, own_fin_sub0 hW_a0 hW_a0 hR_a0 hR_a0 (own_telS qv109 qv118 qv127 qv136 qv145 qv154 qv163 qv172) hc174⟩
  · obtain ⟨_, _, ⟨T175, L175, k175, n175⟩, -, X175, ⟨Lc175, hQ175, l175, y175, z175⟩, st175⟩ := Jvm.LawKit.callS X169 hx (y := (⟨"com/example/serialroute/serialroute/core/P256Field", "addP", "([J)V"⟩ : MethodName)) hown (mvT hZ (hw _ (List.mem_of_getElem? (i := 36) rfl))) (mvT hZ (hw _ (List.mem_of_getElem? (i := 37) rfl))) (mvT hZ (hw _ (List.mem_of_getElem? (i := 15) rfl))) (mvT hZ (hw _ (List.mem_of_getElem? (i := 38) rfl))) (by decide) (backOf (W := 0) (rm_addP l Z aw hw [] a0 wp kp kk0 v104 v113 v122 v131 v140 v149 v158 v167 h169 n0 Z169 f170 f171 V169b g0 ne_wp_a0 ⟨rv109, rv118, rv127, rv136, rv145, rv154, rv163, rv172⟩) hZ (hw _ (List.mem_of_getElem? (i := 38) rfl)) (hw _ (List.mem_of_getElem? (i := 15) rfl)) (by decide) (by decide)) (g := (mkF m 51 #[.val (.ref a0), .val (.ref a0), .val (.ref a0), .val (.long v172), .second, .val (.int (8 : Int32))] [(.ref a0)])) rfl (by rw [hml]; rfl) (argsL := [(.ref a0)]) (rest := []) (lenOf pd_3 rfl) rfl (by show 2 * 0 + _ ≤ _; exact Nat.le_of_eq rfl) (hb hby d4_51) (fun _ _ => ⟨rfl, e169, (by decide : 0 + 0 ≤ _), (by decide : 0 + 0 ≤ _)⟩)
    dsimp only [Pt.U, Pt.locs, Pt.cells, Pt.slots] at X175 l175 y175 z175 st175 hQ175
    rw [l175, y175, z175] at X175
    obtain ⟨rfl, N175q, K175q, o175_0, o175_1, o175_2, o175_3, o175_4, o175_5, o175_6, o175_7, c175, V175q, R175q, Q175q, C175q⟩ := hQ175
    have N175 := Fr.app N169 N175q
    have f176 := own_sta_keep f170 K175q (nsS V169b.nostat ns0)
    have f177 := f171.keep K175q (ninS ne_wp_a0 nin0)
    have Z175 : n0 ≤ T175.heap.size := Nat.le_trans Z169 K175q.1
    have K175 : Keep h0 T175.heap [a0] := K169.trans K175q (allS (Or.inl (List.mem_of_getElem? (i := 0) rfl)) all0)
    obtain ⟨fs, hr, hrun, hended, hW, hsame⟩ := X175.leave (v := none) (fun _ => rfl)
    refine ⟨_, _, pre173 _ ?_, hrun, hended, _, _, rfl, ?_, ⟨_, rfl⟩, hW, hsame.mono (by decide) (by decide)⟩
    · show Steps p.tables e below (T169.setTop (mkF m 47 #[.val (.ref a0), .val (.ref a0), .val (.ref a0), .val (.long v172), .second, .val (.int (8 : Int32))] [(.int (lcmpW v172 (0 : Int64)))])) _
      refine XS.ifNo X169.here hx rfl (hb hby d4_47) rfl ((if0 _ _).trans (feq (fun q => hc174 ((lw_eq v172 (0 : Int64)).mp q))).1) ?_
      refine XS.aloadN X169.here hx rfl (hb hby d4_50) rfl rfl ?_
      show Steps p.tables e below (T169.setTop (mkF m 51 #[.val (.ref a0), .val (.ref a0), .val (.ref a0), .val (.long v172), .second, .val (.int (8 : Int32))] [(.ref a0)])) _
      refine st175 _ ?_
      show Steps p.tables e below (T175.setTop (mkF m 54 #[.val (.ref a0), .val (.ref a0), .val (.ref a0), .val (.long v172), .second, .val (.int (8 : Int32))] [])) _
      exact X175.returnOut hx Bd.returns (hb hby d4_54) hr
    · show Q_rm_subtract_s Z a0 wp kp kk0 u0 u1 u2 u3 u4 u5 u6 u7 h0 n0 _ T175.heap _
      exact ⟨rfl, N175, K175, o175_0, o175_1, o175_2, o175_3, o175_4, o175_5, o175_6, o175_7, V175q, R175q, own_fin_sub1 hW_a0 hW_a0 hR_a0 hR_a0 ⟨rv109, rv118, rv127, rv136, rv145, rv154, rv163, rv172⟩ (own_telS qv109 qv118 qv127 qv136 qv145 qv154 qv163 qv172) hcv172 hc174 R175q Q175q C175q⟩
theorem d8_0 : decode prog_29_method_5_code 0 = .ok (.lconst 0, 1) := by decide +kernel
theorem d8_1 : decode prog_29_method_5_code 1 = .ok (.lstore_n 3, 1) := by decide +kernel
theorem d8_2 : decode prog_29_method_5_code 2 = .ok (.iconst 0, 1) := by decide +kernel
theorem d8_3 : decode prog_29_method_5_code 3 = .ok (.istore 5, 2) := by decide +kernel
theorem d8_5 : decode prog_29_method_5_code 5 = .ok (.iload 5, 2) := by decide +kernel
theorem d8_7 : decode prog_29_method_5_code 7 = .ok (.bipush 8, 2) := by decide +kernel
theorem d8_9 : decode prog_29_method_5_code 9 = .ok (.if_icmp .ge 35, 3) := by decide +kernel
theorem d8_12 : decode prog_29_method_5_code 12 = .ok (.lload_n 3, 1) := by decide +kernel
theorem d8_13 : decode prog_29_method_5_code 13 = .ok (.aload_n 1, 1) := by decide +kernel
theorem d8_14 : decode prog_29_method_5_code 14 = .ok (.iload 5, 2) := by decide +kernel
theorem d8_16 : decode prog_29_method_5_code 16 = .ok (.laload, 1) := by decide +kernel
theorem d8_17 : decode prog_29_method_5_code 17 = .ok (.aload_n 2, 1) := by decide +kernel
theorem d8_18 : decode prog_29_method_5_code 18 = .ok (.iload 5, 2) := by decide +kernel
theorem d8_20 : decode prog_29_method_5_code 20 = .ok (.laload, 1) := by decide +kernel
theorem d8_21 : decode prog_29_method_5_code 21 = .ok (.ladd, 1) := by decide +kernel
theorem d8_22 : decode prog_29_method_5_code 22 = .ok (.ladd, 1) := by decide +kernel
theorem d8_23 : decode prog_29_method_5_code 23 = .ok (.lstore_n 3, 1) := by decide +kernel
theorem d8_24 : decode prog_29_method_5_code 24 = .ok (.aload_n 0, 1) := by decide +kernel
theorem d8_25 : decode prog_29_method_5_code 25 = .ok (.iload 5, 2) := by decide +kernel
theorem d8_27 : decode prog_29_method_5_code 27 = .ok (.lload_n 3, 1) := by decide +kernel
theorem d8_28 : decode prog_29_method_5_code 28 = .ok (.ldc2_w 60, 3) := by decide +kernel
theorem d8_31 : decode prog_29_method_5_code 31 = .ok (.land, 1) := by decide +kernel
theorem d8_32 : decode prog_29_method_5_code 32 = .ok (.lastore, 1) := by decide +kernel
theorem d8_33 : decode prog_29_method_5_code 33 = .ok (.lload_n 3, 1) := by decide +kernel
theorem d8_34 : decode prog_29_method_5_code 34 = .ok (.bipush 32, 2) := by decide +kernel
theorem d8_36 : decode prog_29_method_5_code 36 = .ok (.lushr, 1) := by decide +kernel
theorem d8_37 : decode prog_29_method_5_code 37 = .ok (.lstore_n 3, 1) := by decide +kernel
theorem d8_38 : decode prog_29_method_5_code 38 = .ok (.iinc 5 1, 3) := by decide +kernel
theorem d8_41 : decode prog_29_method_5_code 41 = .ok (.goto (-36), 3) := by decide +kernel
theorem d8_44 : decode prog_29_method_5_code 44 = .ok (.lload_n 3, 1) := by decide +kernel
theorem d8_45 : decode prog_29_method_5_code 45 = .ok (.lconst 0, 1) := by decide +kernel
theorem d8_46 : decode prog_29_method_5_code 46 = .ok (.lcmp, 1) := by decide +kernel
theorem d8_47 : decode prog_29_method_5_code 47 = .ok (.ifCond .ne 10, 3) := by decide +kernel
theorem d8_50 : decode prog_29_method_5_code 50 = .ok (.aload_n 0, 1) := by decide +kernel
theorem d8_51 : decode prog_29_method_5_code 51 = .ok (.invokestatic 62, 3) := by decide +kernel
theorem d8_54 : decode prog_29_method_5_code 54 = .ok (.ifCond .ne 7, 3) := by decide +kernel
theorem d8_57 : decode prog_29_method_5_code 57 = .ok (.aload_n 0, 1) := by decide +kernel
theorem d8_58 : decode prog_29_method_5_code 58 = .ok (.invokestatic 66, 3) := by decide +kernel
theorem d8_61 : decode prog_29_method_5_code 61 = .ok (.return_, 1) := by decide +kernel
theorem ef_rm_add_d (m : MethodId) (x0 : Addr) (x1 : Addr) (x2 : Addr) : entryFrame m #[(.ref x0), (.ref x1), (.ref x2)] 6 = mkF m 0 #[.val (.ref x0), .val (.ref x1), .val (.ref x2), .unset, .unset, .unset] [] := by first | (simp [entryFrame, mkF, argsToLocals, Value.category]; done) | rfl
def Q_rm_add_d (Z : State) (a0 : Addr) (a1 : Addr) (a2 : Addr) (wp : Addr) (kp : ClassId) (kk0 : ClassId) (kk1 : ClassId) (kk2 : ClassId) (x0 : Int64) (x1 : Int64) (x2 : Int64) (x3 : Int64) (x4 : Int64) (x5 : Int64) (x6 : Int64) (x7 : Int64) (u0 : Int64) (u1 : Int64) (u2 : Int64) (u3 : Int64) (u4 : Int64) (u5 : Int64) (u6 : Int64) (u7 : Int64) (t0 : Int64) (t1 : Int64) (t2 : Int64) (t3 : Int64) (t4 : Int64) (t5 : Int64) (t6 : Int64) (t7 : Int64) (h0 : Heap) (n0 : Nat) (v : Option Value) (h : Heap) (L : List Loc) : Prop := v = none ∧ Fr n0 L ∧ Keep h0 h [a0] ∧ ∃ (o0 o1 o2 o3 o4 o5 o6 o7 : Int64), Arv Z h a0 kk0 .long (8 : Int32) [(.long o0), (.long o1), (.long o2), (.long o3), (.long o4), (.long o5), (.long o6), (.long o7)] (.long (0 : Int64)) ∧ own_RR o0 o1 o2 o3 o4 o5 o6 o7 ∧ own_W o0 o1 o2 o3 o4 o5 o6 o7 < own_P ∧ (own_W o0 o1 o2 o3 o4 o5 o6 o7 = own_W u0 u1 u2 u3 u4 u5 u6 u7 + own_W t0 t1 t2 t3 t4 t5 t6 t7 ∨ own_W o0 o1 o2 o3 o4 o5 o6 o7 = own_W u0 u1 u2 u3 u4 u5 u6 u7 + own_W t0 t1 t2 t3 t4 t5 t6 t7 - own_P)
set_option maxRecDepth 65536 in
set_option maxHeartbeats 40000000 in
theorem rm_add_d (l : Launch) (Z : State) (aw : Array Value) (hw : ∀ d ∈ tables_1, d.before aw Z = true) (ws : List Jvm.Cond) (a0 : Addr) (a1 : Addr) (a2 : Addr) (wp : Addr) (kp : ClassId) (kk0 : ClassId) (kk1 : ClassId) (kk2 : ClassId) (x0 : Int64) (x1 : Int64) (x2 : Int64) (x3 : Int64) (x4 : Int64) (x5 : Int64) (x6 : Int64) (x7 : Int64) (u0 : Int64) (u1 : Int64) (u2 : Int64) (u3 : Int64) (u4 : Int64) (u5 : Int64) (u6 : Int64) (u7 : Int64) (t0 : Int64) (t1 : Int64) (t2 : Int64) (t3 : Int64) (t4 : Int64) (t5 : Int64) (t6 : Int64) (t7 : Int64) (h0 : Heap) (n0 : Nat) (Z0 : n0 ≤ h0.size) (SP : Sta Z h0 "com/example/serialroute/serialroute/core/P256Field" "P_WORDS" "[J" (.ref wp)) (VP : Arv Z h0 wp kp .long (8 : Int32) [(.long (4294967295 : Int64)), (.long (4294967295 : Int64)), (.long (4294967295 : Int64)), (.long (0 : Int64)), (.long (0 : Int64)), (.long (0 : Int64)), (.long (1 : Int64)), (.long (4294967295 : Int64))] (.long (0 : Int64))) (Va0 : Arv Z h0 a0 kk0 .long (8 : Int32) [(.long x0), (.long x1), (.long x2), (.long x3), (.long x4), (.long x5), (.long x6), (.long x7)] (.long (0 : Int64))) (Va1 : Arv Z h0 a1 kk1 .long (8 : Int32) [(.long u0), (.long u1), (.long u2), (.long u3), (.long u4), (.long u5), (.long u6), (.long u7)] (.long (0 : Int64))) (Va2 : Arv Z h0 a2 kk2 .long (8 : Int32) [(.long t0), (.long t1), (.long t2), (.long t3), (.long t4), (.long t5), (.long t6), (.long t7)] (.long (0 : Int64))) (g0 : n0 ≤ a0) (ne_wp_a0 : wp ≠ a0) (ne_a0_a1 : a0 ≠ a1) (ne_a0_a2 : a0 ≠ a2) (hR_a1 : own_RR u0 u1 u2 u3 u4 u5 u6 u7) (hW_a1 : own_W u0 u1 u2 u3 u4 u5 u6 u7 < own_P) (hR_a2 : own_RR t0 t1 t2 t3 t4 t5 t6 t7) (hW_a2 : own_W t0 t1 t2 t3 t4 t5 t6 t7 < own_P) :
    MetFree l (⟨"com/example/serialroute/serialroute/core/P256Field", "add", "([J[J[J)V"⟩ : MethodName) (head1 (Jvm.Cond.code (⟨"com/example/serialroute/serialroute/core/P256Field", "add", "([J[J[J)V"⟩ : MethodName) prog_29_method_5_code 6 none :: ws) ({ frames := 1, cells := 0, slots := 0, locals := 15 } : Room)) (fun a U => a = #[(.ref a0), (.ref a1), (.ref a2)] ∧ Z.Warmed39 U.vm ∧ U.heap = h0) (fun _ _ _ _ _ => True) (fun _ U oc U' => ∃ v L, oc = .returned v ∧ Q_rm_add_d Z a0 a1 a2 wp kp kk0 kk1 kk2 x0 x1 x2 x3 x4 x5 x6 x7 u0 u1 u2 u3 u4 u5 u6 u7 t0 t1 t2 t3 t4 t5 t6 t7 h0 n0 v U'.heap L ∧ FrameEnd U oc U' L ({ frames := 1, cells := 0, slots := 0, locals := 15 } : Room).cells ({ frames := 1, cells := 0, slots := 0, locals := 15 } : Room).slots) := by
  refine MetFree.of_bodySF (plainFor_of_name pn_1) hisR ?_
  intro p e s m args below meth c s₁ Bd hml0 hP hK
  obtain ⟨rfl, hZ, hh⟩ := hP
  have hx := Bd.exec
  have hby := Bd.bytes
  have hml : c.maxLocals = 6 := hml0
  have hown : s.vm.findClass "com/example/serialroute/serialroute/core/P256Field" = some m.cls := findClass_of_methodNamed Bd.named
  have hnm := (name_of_methodNamed Bd.named Bd.method).1
  have X0 : Stand p l e ({ frames := 1, cells := 0, slots := 0, locals := 15 } : Room) s m #[(.ref a0), (.ref a1), (.ref a2)] below meth c s₁ [] 0 0 := Stand.of_body Bd
  have e0 : s₁.heap = h0 := by rw [← hh, Bd.state]; rfl
  have N0 := Fr.nil n0
  have pre0 : ∀ t, Steps p.tables e below (s₁.setTop (mkF m 0 #[.val (.ref a0), .val (.ref a1), .val (.ref a2), .unset, .unset, .unset] [])) t → Steps p.tables e below (s₁.setTop (entryFrame m #[(.ref a0), (.ref a1), (.ref a2)] 6)) t := fun t k => castTop (ef_rm_add_d m a0 a1 a2) k
  obtain ⟨r_a10, r_a11, r_a12, r_a13, r_a14, r_a15, r_a16, r_a17⟩ := id hR_a1
  obtain ⟨r_a20, r_a21, r_a22, r_a23, r_a24, r_a25, r_a26, r_a27⟩ := id hR_a2
  have hc0 : 0 ≤ ((0 : Int64)).toInt ∧ ((0 : Int64)).toInt ≤ 1 := by decide
  obtain ⟨cl101, Ar101, q101, S101, M101, H101, G101⟩ := id Va1
  obtain ⟨cl102, Ar102, q102, S102, M102, H102, G102⟩ := id Va2
  obtain ⟨v103, gv103⟩ : ∃ z, z = ((0 : Int64) + (u0 + t0)) := ⟨_, rfl⟩
  obtain ⟨v104, gv104⟩ : ∃ z, z = (v103 &&& (4294967295 : Int64)) := ⟨_, rfl⟩
  obtain ⟨cl105, Ar105, q105, S105, M105, H105, G105⟩ := id Va0
  obtain ⟨T106, h106, X106, e106, W106, st106⟩ := stJ X0 hx hZ e0 Ar105 (j := (0 : Int32)) (inb_of S105 ⟨by decide, by decide⟩) (g := (mkF m 32 #[.val (.ref a0), .val (.ref a1), .val (.ref a2), .val (.long v103), .second, .val (.int (0 : Int32))] [(.long v104), (.int (0 : Int32)), (.ref a0)])) rfl rfl (hb hby d8_32)
  have V106 := Arv.set Ar105 q105 S105 M105 H105 G105 rfl W106 0 rfl (Nat.le_of_ble_eq_true rfl)
  have f107 := SP.wr W106
  have f108 := VP.other W106 ne_wp_a0
  have f109 := Va1.other W106 (Ne.symm ne_a0_a1)
  have f110 := Va2.other W106 (Ne.symm ne_a0_a2)
  have K106 : Keep h0 h106 [a0] := (Keep.refl h0 [a0]).wr W106 (Or.inl (List.mem_of_getElem? (i := 0) rfl))
  have N106 := Fr.snoc X106 N0 g0
  have Z106 : n0 ≤ h106.size := Nat.le_trans Z0 (Keep.of_wr W106).1
  have V106b : Arv Z h106 a0 kk0 .long (8 : Int32) [(.long v104), (.long x1), (.long x2), (.long x3), (.long x4), (.long x5), (.long x6), (.long x7)] (.long (0 : Int64)) := V106
  obtain ⟨v111, gv111⟩ : ∃ z, z = ((v103.toUInt64 >>> ((32 : Int32) &&& 0x3f).toInt64.toUInt64).toInt64) := ⟨_, rfl⟩
  obtain ⟨qv111, rv111, hcv111⟩ := own_add_step gv103 gv104 gv111 hc0 r_a10 r_a20
  obtain ⟨cl112, Ar112, q112, S112, M112, H112, G112⟩ := id f109
  obtain ⟨cl113, Ar113, q113, S113, M113, H113, G113⟩ := id f110
  obtain ⟨v114, gv114⟩ : ∃ z, z = (v111 + (u1 + t1)) := ⟨_, rfl⟩
  obtain ⟨v115, gv115⟩ : ∃ z, z = (v114 &&& (4294967295 : Int64)) := ⟨_, rfl⟩
  obtain ⟨cl116, Ar116, q116, S116, M116, H116, G116⟩ := id V106b
  obtain ⟨T117, h117, X117, e117, W117, st117⟩ := stJ X106 hx hZ e106 Ar116 (j := (1 : Int32)) (inb_of S116 ⟨by decide, by decide⟩) (g := (mkF m 32 #[.val (.ref a0), .val (.ref a1), .val (.ref a2), .val (.long v114), .second, .val (.int (1 : Int32))] [(.long v115), (.int (1 : Int32)), (.ref a0)])) rfl rfl (hb hby d8_32)
  have V117 := Arv.set Ar116 q116 S116 M116 H116 G116 rfl W117 1 rfl (Nat.le_of_ble_eq_true rfl)
  have f118 := f107.wr W117
  have f119 := f108.other W117 ne_wp_a0
  have f120 := f109.other W117 (Ne.symm ne_a0_a1)
  have f121 := f110.other W117 (Ne.symm ne_a0_a2)
  have K117 : Keep h0 h117 [a0] := K106.wr W117 (Or.inl (List.mem_of_getElem? (i := 0) rfl))
  have N117 := Fr.snoc X117 N106 g0
  have Z117 : n0 ≤ h117.size := Nat.le_trans Z106 (Keep.of_wr W117).1
  have V117b : Arv Z h117 a0 kk0 .long (8 : Int32) [(.long v104), (.long v115), (.long x2), (.long x3), (.long x4), (.long x5), (.long x6), (.long x7)] (.long (0 : Int64)) := V117
  obtain ⟨v122, gv122⟩ : ∃ z, z = ((v114.toUInt64 >>> ((32 : Int32) &&& 0x3f).toInt64.toUInt64).toInt64) := ⟨_, rfl⟩
  obtain ⟨qv122, rv122, hcv122⟩ := own_add_step gv114 gv115 gv122 hcv111 r_a11 r_a21
  obtain ⟨cl123, Ar123, q123, S123, M123, H123, G123⟩ := id f120
  obtain ⟨cl124, Ar124, q124, S124, M124, H124, G124⟩ := id f121
  obtain ⟨v125, gv125⟩ : ∃ z, z = (v122 + (u2 + t2)) := ⟨_, rfl⟩
  obtain ⟨v126, gv126⟩ : ∃ z, z = (v125 &&& (4294967295 : Int64)) := ⟨_, rfl⟩
  obtain ⟨cl127, Ar127, q127, S127, M127, H127, G127⟩ := id V117b
  obtain ⟨T128, h128, X128, e128, W128, st128⟩ := stJ X117 hx hZ e117 Ar127 (j := (2 : Int32)) (inb_of S127 ⟨by decide, by decide⟩) (g := (mkF m 32 #[.val (.ref a0), .val (.ref a1), .val (.ref a2), .val (.long v125), .second, .val (.int (2 : Int32))] [(.long v126), (.int (2 : Int32)), (.ref a0)])) rfl rfl (hb hby d8_32)
  have V128 := Arv.set Ar127 q127 S127 M127 H127 G127 rfl W128 2 rfl (Nat.le_of_ble_eq_true rfl)
  have f129 := f118.wr W128
  have f130 := f119.other W128 ne_wp_a0
  have f131 := f120.other W128 (Ne.symm ne_a0_a1)
  have f132 := f121.other W128 (Ne.symm ne_a0_a2)
  have K128 : Keep h0 h128 [a0] := K117.wr W128 (Or.inl (List.mem_of_getElem? (i := 0) rfl))
  have N128 := Fr.snoc X128 N117 g0
  have Z128 : n0 ≤ h128.size := Nat.le_trans Z117 (Keep.of_wr W128).1
  have V128b : Arv Z h128 a0 kk0 .long (8 : Int32) [(.long v104), (.long v115), (.long v126), (.long x3), (.long x4), (.long x5), (.long x6), (.long x7)] (.long (0 : Int64)) := V128
  obtain ⟨v133, gv133⟩ : ∃ z, z = ((v125.toUInt64 >>> ((32 : Int32) &&& 0x3f).toInt64.toUInt64).toInt64) := ⟨_, rfl⟩
  obtain ⟨qv133, rv133, hcv133⟩ := own_add_step gv125 gv126 gv133 hcv122 r_a12 r_a22
  obtain ⟨cl134, Ar134, q134, S134, M134, H134, G134⟩ := id f131
  obtain ⟨cl135, Ar135, q135, S135, M135, H135, G135⟩ := id f132
  obtain ⟨v136, gv136⟩ : ∃ z, z = (v133 + (u3 + t3)) := ⟨_, rfl⟩
  obtain ⟨v137, gv137⟩ : ∃ z, z = (v136 &&& (4294967295 : Int64)) := ⟨_, rfl⟩
  obtain ⟨cl138, Ar138, q138, S138, M138, H138, G138⟩ := id V128b
  obtain ⟨T139, h139, X139, e139, W139, st139⟩ := stJ X128 hx hZ e128 Ar138 (j := (3 : Int32)) (inb_of S138 ⟨by decide, by decide⟩) (g := (mkF m 32 #[.val (.ref a0), .val (.ref a1), .val (.ref a2), .val (.long v136), .second, .val (.int (3 : Int32))] [(.long v137), (.int (3 : Int32)), (.ref a0)])) rfl rfl (hb hby d8_32)
  have V139 := Arv.set Ar138 q138 S138 M138 H138 G138 rfl W139 3 rfl (Nat.le_of_ble_eq_true rfl)
  have f140 := f129.wr W139
  have f141 := f130.other W139 ne_wp_a0
  have f142 := f131.other W139 (Ne.symm ne_a0_a1)
  have f143 := f132.other W139 (Ne.symm ne_a0_a2)
  have K139 : Keep h0 h139 [a0] := K128.wr W139 (Or.inl (List.mem_of_getElem? (i := 0) rfl))
  have N139 := Fr.snoc X139 N128 g0
  have Z139 : n0 ≤ h139.size := Nat.le_trans Z128 (Keep.of_wr W139).1
  have V139b : Arv Z h139 a0 kk0 .long (8 : Int32) [(.long v104), (.long v115), (.long v126), (.long v137), (.long x4), (.long x5), (.long x6), (.long x7)] (.long (0 : Int64)) := V139
  obtain ⟨v144, gv144⟩ : ∃ z, z = ((v136.toUInt64 >>> ((32 : Int32) &&& 0x3f).toInt64.toUInt64).toInt64) := ⟨_, rfl⟩
  obtain ⟨qv144, rv144, hcv144⟩ := own_add_step gv136 gv137 gv144 hcv133 r_a13 r_a23
  obtain ⟨cl145, Ar145, q145, S145, M145, H145, G145⟩ := id f142
  obtain ⟨cl146, Ar146, q146, S146, M146, H146, G146⟩ := id f143
  obtain ⟨v147, gv147⟩ : ∃ z, z = (v144 + (u4 + t4)) := ⟨_, rfl⟩
  obtain ⟨v148, gv148⟩ : ∃ z, z = (v147 &&& (4294967295 : Int64)) := ⟨_, rfl⟩
  obtain ⟨cl149, Ar149, q149, S149, M149, H149, G149⟩ := id V139b
  obtain ⟨T150, h150, X150, e150, W150, st150⟩ := stJ X139 hx hZ e139 Ar149 (j := (4 : Int32)) (inb_of S149 ⟨by decide, by decide⟩) (g := (mkF m 32 #[.val (.ref a0), .val (.ref a1), .val (.ref a2), .val (.long v147), .second, .val (.int (4 : Int32))] [(.long v148), (.int (4 : Int32)), (.ref a0)])) rfl rfl (hb hby d8_32)
  have V150 := Arv.set Ar149 q149 S149 M149 H149 G149 rfl W150 4 rfl (Nat.le_of_ble_eq_true rfl)
  have f151 := f140.wr W150
  have f152 := f141.other W150 ne_wp_a0
  have f153 := f142.other W150 (Ne.symm ne_a0_a1)
  have f154 := f143.other W150 (Ne.symm ne_a0_a2)
  have K150 : Keep h0 h150 [a0] := K139.wr W150 (Or.inl (List.mem_of_getElem? (i := 0) rfl))
  have N150 := Fr.snoc X150 N139 g0
  have Z150 : n0 ≤ h150.size := Nat.le_trans Z139 (Keep.of_wr W150).1
  have V150b : Arv Z h150 a0 kk0 .long (8 : Int32) [(.long v104), (.long v115), (.long v126), (.long v137), (.long v148), (.long x5), (.long x6), (.long x7)] (.long (0 : Int64)) := V150
  obtain ⟨v155, gv155⟩ : ∃ z, z = ((v147.toUInt64 >>> ((32 : Int32) &&& 0x3f).toInt64.toUInt64).toInt64) := ⟨_, rfl⟩
  obtain ⟨qv155, rv155, hcv155⟩ := own_add_step gv147 gv148 gv155 hcv144 r_a14 r_a24
  obtain ⟨cl156, Ar156, q156, S156, M156, H156, G156⟩ := id f153
  obtain ⟨cl157, Ar157, q157, S157, M157, H157, G157⟩ := id f154
  obtain ⟨v158, gv158⟩ : ∃ z, z = (v155 + (u5 + t5)) := ⟨_, rfl⟩
  obtain ⟨v159, gv159⟩ : ∃ z, z = (v158 &&& (4294967295 : Int64)) := ⟨_, rfl⟩
  obtain ⟨cl160, Ar160, q160, S160, M160, H160, G160⟩ := id V150b
  obtain ⟨T161, h161, X161, e161, W161, st161⟩ := stJ X150 hx hZ e150 Ar160 (j := (5 : Int32)) (inb_of S160 ⟨by decide, by decide⟩) (g := (mkF m 32 #[.val (.ref a0), .val (.ref a1), .val (.ref a2), .val (.long v158), .second, .val (.int (5 : Int32))] [(.long v159), (.int (5 : Int32)), (.ref a0)])) rfl rfl (hb hby d8_32)
  have V161 := Arv.set Ar160 q160 S160 M160 H160 G160 rfl W161 5 rfl (Nat.le_of_ble_eq_true rfl)
  have f162 := f151.wr W161
  have f163 := f152.other W161 ne_wp_a0
  have f164 := f153.other W161 (Ne.symm ne_a0_a1)
  have f165 := f154.other W161 (Ne.symm ne_a0_a2)
  have K161 : Keep h0 h161 [a0] := K150.wr W161 (Or.inl (List.mem_of_getElem? (i := 0) rfl))
  have N161 := Fr.snoc X161 N150 g0
  have Z161 : n0 ≤ h161.size := Nat.le_trans Z150 (Keep.of_wr W161).1
  have V161b : Arv Z h161 a0 kk0 .long (8 : Int32) [(.long v104), (.long v115), (.long v126), (.long v137), (.long v148), (.long v159), (.long x6), (.long x7)] (.long (0 : Int64)) := V161
  obtain ⟨v166, gv166⟩ : ∃ z, z = ((v158.toUInt64 >>> ((32 : Int32) &&& 0x3f).toInt64.toUInt64).toInt64) := ⟨_, rfl⟩
  obtain ⟨qv166, rv166, hcv166⟩ := own_add_step gv158 gv159 gv166 hcv155 r_a15 r_a25
  obtain ⟨cl167, Ar167, q167, S167, M167, H167, G167⟩ := id f164
  obtain ⟨cl168, Ar168, q168, S168, M168, H168, G168⟩ := id f165
  obtain ⟨v169, gv169⟩ : ∃ z, z = (v166 + (u6 + t6)) := ⟨_, rfl⟩
  obtain ⟨v170, gv170⟩ : ∃ z, z = (v169 &&& (4294967295 : Int64)) := ⟨_, rfl⟩
  obtain ⟨cl171, Ar171, q171, S171, M171, H171, G171⟩ := id V161b
  obtain ⟨T172, h172, X172, e172, W172, st172⟩ := stJ X161 hx hZ e161 Ar171 (j := (6 : Int32)) (inb_of S171 ⟨by decide, by decide⟩) (g := (mkF m 32 #[.val (.ref a0), .val (.ref a1), .val (.ref a2), .val (.long v169), .second, .val (.int (6 : Int32))] [(.long v170), (.int (6 : Int32)), (.ref a0)])) rfl rfl (hb hby d8_32)
  have V172 := Arv.set Ar171 q171 S171 M171 H171 G171 rfl W172 6 rfl (Nat.le_of_ble_eq_true rfl)
  have f173 := f162.wr W172
  have f174 := f163.other W172 ne_wp_a0
  have f175 := f164.other W172 (Ne.symm ne_a0_a1)
  have f176 := f165.other W172 (Ne.symm ne_a0_a2)
  have K172 : Keep h0 h172 [a0] := K161.wr W172 (Or.inl (List.mem_of_getElem? (i := 0) rfl))
  have N172 := Fr.snoc X172 N161 g0
  have Z172 : n0 ≤ h172.size := Nat.le_trans Z161 (Keep.of_wr W172).1
  have V172b : Arv Z h172 a0 kk0 .long (8 : Int32) [(.long v104), (.long v115), (.long v126), (.long v137), (.long v148), (.long v159), (.long v170), (.long x7)] (.long (0 : Int64)) := V172
  obtain ⟨v177, gv177⟩ : ∃ z, z = ((v169.toUInt64 >>> ((32 : Int32) &&& 0x3f).toInt64.toUInt64).toInt64) := ⟨_, rfl⟩
  obtain ⟨qv177, rv177, hcv177⟩ := own_add_step gv169 gv170 gv177 hcv166 r_a16 r_a26
  obtain ⟨cl178, Ar178, q178, S178, M178, H178, G178⟩ := id f175
  obtain ⟨cl179, Ar179, q179, S179, M179, H179, G179⟩ := id f176
  obtain ⟨v180, gv180⟩ : ∃ z, z = (v177 + (u7 + t7)) := ⟨_, rfl⟩
  obtain ⟨v181, gv181⟩ : ∃ z, z = (v180 &&& (4294967295 : Int64)) := ⟨_, rfl⟩
  obtain ⟨cl182, Ar182, q182, S182, M182, H182, G182⟩ := id V172b
  obtain ⟨T183, h183, X183, e183, W183, st183⟩ := stJ X172 hx hZ e172 Ar182 (j := (7 : Int32)) (inb_of S182 ⟨by decide, by decide⟩) (g := (mkF m 32 #[.val (.ref a0), .val (.ref a1), .val (.ref a2), .val (.long v180), .second, .val (.int (7 : Int32))] [(.long v181), (.int (7 : Int32)), (.ref a0)])) rfl rfl (hb hby d8_32)
  have V183 := Arv.set Ar182 q182 S182 M182 H182 G182 rfl W183 7 rfl (Nat.le_of_ble_eq_true rfl)
  have f184 := f173.wr W183
  have f185 := f174.other W183 ne_wp_a0
  have f186 := f175.other W183 (Ne.symm ne_a0_a1)
  have f187 := f176.other W183 (Ne.symm ne_a0_a2)
  have K183 : Keep h0 h183 [a0] := K172.wr W183 (Or.inl (List.mem_of_getElem? (i := 0) rfl))
  have N183 := Fr.snoc X183 N172 g0
  have Z183 : n0 ≤ h183.size := Nat.le_trans Z172 (Keep.of_wr W183).1
  have V183b : Arv Z h183 a0 kk0 .long (8 : Int32) [(.long v104), (.long v115), (.long v126), (.long v137), (.long v148), (.long v159), (.long v170), (.long v181)] (.long (0 : Int64)) := V183
  obtain ⟨v188, gv188⟩ : ∃ z, z = ((v180.toUInt64 >>> ((32 : Int32) &&& 0x3f).toInt64.toUInt64).toInt64) := ⟨_, rfl⟩
  obtain ⟨qv188, rv188, hcv188⟩ := own_add_step gv180 gv181 gv188 hcv177 r_a17 r_a27
  have pre189 : ∀ t, Steps p.tables e below (T183.setTop (mkF m 47 #[.val (.ref a0), .val (.ref a1), .val (.ref a2), .val (.long v188), .second, .val (.int (8 : Int32))] [(.int (lcmpW v188 (0 : Int64)))])) t → Steps p.tables e below (s₁.setTop (entryFrame m #[(.ref a0), (.ref a1), (.ref a2)] 6)) t := fun t k => by
    refine pre0 t ?_
    show Steps p.tables e below (s₁.setTop (mkF m 0 #[.val (.ref a0), .val (.ref a1), .val (.ref a2), .unset, .unset, .unset] [])) _
    refine XS.lconst X0.here hx rfl (hb hby d8_0) ?_
    refine XS.lstoreN X0.here hx rfl (hb hby d8_1) rfl (l' := #[.val (.ref a0), .val (.ref a1), .val (.ref a2), .val (.long (0 : Int64)), .second, .unset]) rfl ?_
    refine XS.iconst X0.here hx rfl (hb hby d8_2) ?_
    refine XS.istore X0.here hx rfl (hb hby d8_3) rfl (l' := #[.val (.ref a0), .val (.ref a1), .val (.ref a2), .val (.long (0 : Int64)), .second, .val (.int (0 : Int32))]) rfl ?_
    show Steps p.tables e below (s₁.setTop (mkF m 5 #[.val (.ref a0), .val (.ref a1), .val (.ref a2), .val (.long (0 : Int64)), .second, .val (.int (0 : Int32))] [])) _
    refine XS.iload X0.here hx rfl (hb hby d8_5) rfl ?_
    refine XS.bipush X0.here hx rfl (hb hby d8_7) ?_
    refine XS.icmpNo X0.here hx rfl (hb hby d8_9) rfl (tlt (by decide : (0 : Int32) < (8 : Int32))).2.1 ?_
    refine XS.lloadN X0.here hx rfl (hb hby d8_12) rfl ?_
    show Steps p.tables e below (s₁.setTop (mkF m 13 #[.val (.ref a0), .val (.ref a1), .val (.ref a2), .val (.long (0 : Int64)), .second, .val (.int (0 : Int32))] [(.long (0 : Int64))])) _
    refine XS.aloadN X0.here hx rfl (hb hby d8_13) rfl rfl ?_
    refine XS.iload X0.here hx rfl (hb hby d8_14) rfl ?_
    show Steps p.tables e below (s₁.setTop (mkF m 16 #[.val (.ref a0), .val (.ref a1), .val (.ref a2), .val (.long (0 : Int64)), .second, .val (.int (0 : Int32))] [(.int (0 : Int32)), (.ref a1), (.long (0 : Int64))])) _
    have hin101 : ¬ ((0 : Int32) < 0 ∨ cl101.slots.size ≤ ((0 : Int32)).toNatClampNeg) := (inb_of S101 ⟨by decide, by decide⟩)
    refine X0.laload hx (j := (0 : Int32)) (v := (.long u0)) (by rw [e0]; exact Ar101.1) (State.isArrayOf_alike hZ.alike Ar101.2.1) Ar101.2.2 hin101 (H101.at hin101 rfl) (g := (mkF m 16 #[.val (.ref a0), .val (.ref a1), .val (.ref a2), .val (.long (0 : Int64)), .second, .val (.int (0 : Int32))] [(.int (0 : Int32)), (.ref a1), (.long (0 : Int64))])) rfl rfl (hb hby d8_16) _ ?_
    refine XS.aloadN X0.here hx rfl (hb hby d8_17) rfl rfl ?_
    refine XS.iload X0.here hx rfl (hb hby d8_18) rfl ?_
    show Steps p.tables e below (s₁.setTop (mkF m 20 #[.val (.ref a0), .val (.ref a1), .val (.ref a2), .val (.long (0 : Int64)), .second, .val (.int (0 : Int32))] [(.int (0 : Int32)), (.ref a2), (.long u0), (.long (0 : Int64))])) _
    have hin102 : ¬ ((0 : Int32) < 0 ∨ cl102.slots.size ≤ ((0 : Int32)).toNatClampNeg) := (inb_of S102 ⟨by decide, by decide⟩)
    refine X0.laload hx (j := (0 : Int32)) (v := (.long t0)) (by rw [e0]; exact Ar102.1) (State.isArrayOf_alike hZ.alike Ar102.2.1) Ar102.2.2 hin102 (H102.at hin102 rfl) (g := (mkF m 20 #[.val (.ref a0), .val (.ref a1), .val (.ref a2), .val (.long (0 : Int64)), .second, .val (.int (0 : Int32))] [(.int (0 : Int32)), (.ref a2), (.long u0), (.long (0 : Int64))])) rfl rfl (hb hby d8_20) _ ?_
    refine XS.ladd X0.here hx rfl (hb hby d8_21) rfl ?_
    refine XS.ladd X0.here hx rfl (hb hby d8_22) rfl ?_
    show Steps p.tables e below (s₁.setTop (mkF m 23 #[.val (.ref a0), .val (.ref a1), .val (.ref a2), .val (.long (0 : Int64)), .second, .val (.int (0 : Int32))] [(.long ((0 : Int64) + (u0 + t0)))])) _
    rw [← gv103]
    refine XS.lstoreN X0.here hx rfl (hb hby d8_23) rfl (l' := #[.val (.ref a0), .val (.ref a1), .val (.ref a2), .val (.long v103), .second, .val (.int (0 : Int32))]) rfl ?_
    refine XS.aloadN X0.here hx rfl (hb hby d8_24) rfl rfl ?_
    refine XS.iload X0.here hx rfl (hb hby d8_25) rfl ?_
    show Steps p.tables e below (s₁.setTop (mkF m 27 #[.val (.ref a0), .val (.ref a1), .val (.ref a2), .val (.long v103), .second, .val (.int (0 : Int32))] [(.int (0 : Int32)), (.ref a0)])) _
    refine XS.lloadN X0.here hx rfl (hb hby d8_27) rfl ?_
    show Steps p.tables e below (s₁.setTop (mkF m 28 #[.val (.ref a0), .val (.ref a1), .val (.ref a2), .val (.long v103), .second, .val (.int (0 : Int32))] [(.long v103), (.int (0 : Int32)), (.ref a0)])) _
    refine X0.ldc2Long hx hown (mvT hZ (hw _ (List.mem_of_getElem? (i := 17) rfl))) (g := (mkF m 28 #[.val (.ref a0), .val (.ref a1), .val (.ref a2), .val (.long v103), .second, .val (.int (0 : Int32))] [(.long v103), (.int (0 : Int32)), (.ref a0)])) rfl (hb hby d8_28) _ ?_
    refine XS.land X0.here hx rfl (hb hby d8_31) rfl ?_
    show Steps p.tables e below (s₁.setTop (mkF m 32 #[.val (.ref a0), .val (.ref a1), .val (.ref a2), .val (.long v103), .second, .val (.int (0 : Int32))] [(.long (v103 &&& (4294967295 : Int64))), (.int (0 : Int32)), (.ref a0)])) _
    rw [← gv104]
    show Steps p.tables e below (s₁.setTop (mkF m 32 #[.val (.ref a0), .val (.ref a1), .val (.ref a2), .val (.long v103), .second, .val (.int (0 : Int32))] [(.long v104), (.int (0 : Int32)), (.ref a0)])) _
    refine st106 _ ?_
    refine XS.lloadN X106.here hx rfl (hb hby d8_33) rfl ?_
    refine XS.bipush X106.here hx rfl (hb hby d8_34) ?_
    refine XS.lushr X106.here hx rfl (hb hby d8_36) rfl ?_
    show Steps p.tables e below (T106.setTop (mkF m 37 #[.val (.ref a0), .val (.ref a1), .val (.ref a2), .val (.long v103), .second, .val (.int (0 : Int32))] [(.long ((v103.toUInt64 >>> ((32 : Int32) &&& 0x3f).toInt64.toUInt64).toInt64))])) _
    rw [← gv111]
    refine XS.lstoreN X106.here hx rfl (hb hby d8_37) rfl (l' := #[.val (.ref a0), .val (.ref a1), .val (.ref a2), .val (.long v111), .second, .val (.int (0 : Int32))]) rfl ?_
    refine XS.iinc X106.here hx rfl (hb hby d8_38) rfl (l' := #[.val (.ref a0), .val (.ref a1), .val (.ref a2), .val (.long v111), .second, .val (.int (1 : Int32))]) rfl ?_
    refine XS.goto X106.here hx rfl (pc0 := 41) (pc' := 5) rfl (hb hby d8_41) (by decide) (by decide) ?_
    show Steps p.tables e below (T106.setTop (mkF m 5 #[.val (.ref a0), .val (.ref a1), .val (.ref a2), .val (.long v111), .second, .val (.int (1 : Int32))] [])) _
    refine XS.iload X106.here hx rfl (hb hby d8_5) rfl ?_
    refine XS.bipush X106.here hx rfl (hb hby d8_7) ?_
    refine XS.icmpNo X106.here hx rfl (hb hby d8_9) rfl (tlt (by decide : (1 : Int32) < (8 : Int32))).2.1 ?_
    refine XS.lloadN X106.here hx rfl (hb hby d8_12) rfl ?_
    show Steps p.tables e below (T106.setTop (mkF m 13 #[.val (.ref a0), .val (.ref a1), .val (.ref a2), .val (.long v111), .second, .val (.int (1 : Int32))] [(.long v111)])) _
    refine XS.aloadN X106.here hx rfl (hb hby d8_13) rfl rfl ?_
    refine XS.iload X106.here hx rfl (hb hby d8_14) rfl ?_
    show Steps p.tables e below (T106.setTop (mkF m 16 #[.val (.ref a0), .val (.ref a1), .val (.ref a2), .val (.long v111), .second, .val (.int (1 : Int32))] [(.int (1 : Int32)), (.ref a1), (.long v111)])) _
    have hin112 : ¬ ((1 : Int32) < 0 ∨ cl112.slots.size ≤ ((1 : Int32)).toNatClampNeg) := (inb_of S112 ⟨by decide, by decide⟩)
    refine X106.laload hx (j := (1 : Int32)) (v := (.long u1)) (by rw [e106]; exact Ar112.1) (State.isArrayOf_alike hZ.alike Ar112.2.1) Ar112.2.2 hin112 (H112.at hin112 rfl) (g := (mkF m 16 #[.val (.ref a0), .val (.ref a1), .val (.ref a2), .val (.long v111), .second, .val (.int (1 : Int32))] [(.int (1 : Int32)), (.ref a1), (.long v111)])) rfl rfl (hb hby d8_16) _ ?_
    refine XS.aloadN X106.here hx rfl (hb hby d8_17) rfl rfl ?_
    refine XS.iload X106.here hx rfl (hb hby d8_18) rfl ?_
    show Steps p.tables e below (T106.setTop (mkF m 20 #[.val (.ref a0), .val (.ref a1), .val (.ref a2), .val (.long v111), .second, .val (.int (1 : Int32))] [(.int (1 : Int32)), (.ref a2), (.long u1), (.long v111)])) _
    have hin113 : ¬ ((1 : Int32) < 0 ∨ cl113.slots.size ≤ ((1 : Int32)).toNatClampNeg) := (inb_of S113 ⟨by decide, by decide⟩)
    refine X106.laload hx (j := (1 : Int32)) (v := (.long t1)) (by rw [e106]; exact Ar113.1) (State.isArrayOf_alike hZ.alike Ar113.2.1) Ar113.2.2 hin113 (H113.at hin113 rfl) (g := (mkF m 20 #[.val (.ref a0), .val (.ref a1), .val (.ref a2), .val (.long v111), .second, .val (.int (1 : Int32))] [(.int (1 : Int32)), (.ref a2), (.long u1), (.long v111)])) rfl rfl (hb hby d8_20) _ ?_
    refine XS.ladd X106.here hx rfl (hb hby d8_21) rfl ?_
    refine XS.ladd X106.here hx rfl (hb hby d8_22) rfl ?_
    show Steps p.tables e below (T106.setTop (mkF m 23 #[.val (.ref a0), .val (.ref a1), .val (.ref a2), .val (.long v111), .second, .val (.int (1 : Int32))] [(.long (v111 + (u1 + t1)))])) _
    rw [← gv114]
    refine XS.lstoreN X106.here hx rfl (hb hby d8_23) rfl (l' := #[.val (.ref a0), .val (.ref a1), .val (.ref a2), .val (.long v114), .second, .val (.int (1 : Int32))]) rfl ?_
    refine XS.aloadN X106.here hx rfl (hb hby d8_24) rfl rfl ?_
    refine XS.iload X106.here hx rfl (hb hby d8_25) rfl ?_
    show Steps p.tables e below (T106.setTop (mkF m 27 #[.val (.ref a0), .val (.ref a1), .val (.ref a2), .val (.long v114), .second, .val (.int (1 : Int32))] [(.int (1 : Int32)), (.ref a0)])) _
    refine XS.lloadN X106.here hx rfl (hb hby d8_27) rfl ?_
    show Steps p.tables e below (T106.setTop (mkF m 28 #[.val (.ref a0), .val (.ref a1), .val (.ref a2), .val (.long v114), .second, .val (.int (1 : Int32))] [(.long v114), (.int (1 : Int32)), (.ref a0)])) _
    refine X106.ldc2Long hx hown (mvT hZ (hw _ (List.mem_of_getElem? (i := 17) rfl))) (g := (mkF m 28 #[.val (.ref a0), .val (.ref a1), .val (.ref a2), .val (.long v114), .second, .val (.int (1 : Int32))] [(.long v114), (.int (1 : Int32)), (.ref a0)])) rfl (hb hby d8_28) _ ?_
    refine XS.land X106.here hx rfl (hb hby d8_31) rfl ?_
    show Steps p.tables e below (T106.setTop (mkF m 32 #[.val (.ref a0), .val (.ref a1), .val (.ref a2), .val (.long v114), .second, .val (.int (1 : Int32))] [(.long (v114 &&& (4294967295 : Int64))), (.int (1 : Int32)), (.ref a0)])) _
    rw [← gv115]
    show Steps p.tables e below (T106.setTop (mkF m 32 #[.val (.ref a0), .val (.ref a1), .val (.ref a2), .val (.long v114), .second, .val (.int (1 : Int32))] [(.long v115), (.int (1 : Int32)), (.ref a0)])) _
    refine st117 _ ?_
    refine XS.lloadN X117.here hx rfl (hb hby d8_33) rfl ?_
    refine XS.bipush X117.here hx rfl (hb hby d8_34) ?_
    refine XS.lushr X117.here hx rfl (hb hby d8_36) rfl ?_
    show Steps p.tables e below (T117.setTop (mkF m 37 #[.val (.ref a0), .val (.ref a1), .val (.ref a2), .val (.long v114), .second, .val (.int (1 : Int32))] [(.long ((v114.toUInt64 >>> ((32 : Int32) &&& 0x3f).toInt64.toUInt64).toInt64))])) _
    rw [← gv122]
    refine XS.lstoreN X117.here hx rfl (hb hby d8_37) rfl (l' := #[.val (.ref a0), .val (.ref a1), .val (.ref a2), .val (.long v122), .second, .val (.int (1 : Int32))]) rfl ?_
    refine XS.iinc X117.here hx rfl (hb hby d8_38) rfl (l' := #[.val (.ref a0), .val (.ref a1), .val (.ref a2), .val (.long v122), .second, .val (.int (2 : Int32))]) rfl ?_
    refine XS.goto X117.here hx rfl (pc0 := 41) (pc' := 5) rfl (hb hby d8_41) (by decide) (by decide) ?_
    show Steps p.tables e below (T117.setTop (mkF m 5 #[.val (.ref a0), .val (.ref a1), .val (.ref a2), .val (.long v122), .second, .val (.int (2 : Int32))] [])) _
    refine XS.iload X117.here hx rfl (hb hby d8_5) rfl ?_
    refine XS.bipush X117.here hx rfl (hb hby d8_7) ?_
    refine XS.icmpNo X117.here hx rfl (hb hby d8_9) rfl (tlt (by decide : (2 : Int32) < (8 : Int32))).2.1 ?_
    refine XS.lloadN X117.here hx rfl (hb hby d8_12) rfl ?_
    show Steps p.tables e below (T117.setTop (mkF m 13 #[.val (.ref a0), .val (.ref a1), .val (.ref a2), .val (.long v122), .second, .val (.int (2 : Int32))] [(.long v122)])) _
    refine XS.aloadN X117.here hx rfl (hb hby d8_13) rfl rfl ?_
    refine XS.iload X117.here hx rfl (hb hby d8_14) rfl ?_
    show Steps p.tables e below (T117.setTop (mkF m 16 #[.val (.ref a0), .val (.ref a1), .val (.ref a2), .val (.long v122), .second, .val (.int (2 : Int32))] [(.int (2 : Int32)), (.ref a1), (.long v122)])) _
    have hin123 : ¬ ((2 : Int32) < 0 ∨ cl123.slots.size ≤ ((2 : Int32)).toNatClampNeg) := (inb_of S123 ⟨by decide, by decide⟩)
    refine X117.laload hx (j := (2 : Int32)) (v := (.long u2)) (by rw [e117]; exact Ar123.1) (State.isArrayOf_alike hZ.alike Ar123.2.1) Ar123.2.2 hin123 (H123.at hin123 rfl) (g := (mkF m 16 #[.val (.ref a0), .val (.ref a1), .val (.ref a2), .val (.long v122), .second, .val (.int (2 : Int32))] [(.int (2 : Int32)), (.ref a1), (.long v122)])) rfl rfl (hb hby d8_16) _ ?_
    refine XS.aloadN X117.here hx rfl (hb hby d8_17) rfl rfl ?_
    refine XS.iload X117.here hx rfl (hb hby d8_18) rfl ?_
    show Steps p.tables e below (T117.setTop (mkF m 20 #[.val (.ref a0), .val (.ref a1), .val (.ref a2), .val (.long v122), .second, .val (.int (2 : Int32))] [(.int (2 : Int32)), (.ref a2), (.long u2), (.long v122)])) _
    have hin124 : ¬ ((2 : Int32) < 0 ∨ cl124.slots.size ≤ ((2 : Int32)).toNatClampNeg) := (inb_of S124 ⟨by decide, by decide⟩)
    refine X117.laload hx (j := (2 : Int32)) (v := (.long t2)) (by rw [e117]; exact Ar124.1) (State.isArrayOf_alike hZ.alike Ar124.2.1) Ar124.2.2 hin124 (H124.at hin124 rfl) (g := (mkF m 20 #[.val (.ref a0), .val (.ref a1), .val (.ref a2), .val (.long v122), .second, .val (.int (2 : Int32))] [(.int (2 : Int32)), (.ref a2), (.long u2), (.long v122)])) rfl rfl (hb hby d8_20) _ ?_
    refine XS.ladd X117.here hx rfl (hb hby d8_21) rfl ?_
    refine XS.ladd X117.here hx rfl (hb hby d8_22) rfl ?_
    show Steps p.tables e below (T117.setTop (mkF m 23 #[.val (.ref a0), .val (.ref a1), .val (.ref a2), .val (.long v122), .second, .val (.int (2 : Int32))] [(.long (v122 + (u2 + t2)))])) _
    rw [← gv125]
    refine XS.lstoreN X117.here hx rfl (hb hby d8_23) rfl (l' := #[.val (.ref a0), .val (.ref a1), .val (.ref a2), .val (.long v125), .second, .val (.int (2 : Int32))]) rfl ?_
    refine XS.aloadN X117.here hx rfl (hb hby d8_24) rfl rfl ?_
    refine XS.iload X117.here hx rfl (hb hby d8_25) rfl ?_
    show Steps p.tables e below (T117.setTop (mkF m 27 #[.val (.ref a0), .val (.ref a1), .val (.ref a2), .val (.long v125), .second, .val (.int (2 : Int32))] [(.int (2 : Int32)), (.ref a0)])) _
    refine XS.lloadN X117.here hx rfl (hb hby d8_27) rfl ?_
    show Steps p.tables e below (T117.setTop (mkF m 28 #[.val (.ref a0), .val (.ref a1), .val (.ref a2), .val (.long v125), .second, .val (.int (2 : Int32))] [(.long v125), (.int (2 : Int32)), (.ref a0)])) _
    refine X117.ldc2Long hx hown (mvT hZ (hw _ (List.mem_of_getElem? (i := 17) rfl))) (g := (mkF m 28 #[.val (.ref a0), .val (.ref a1), .val (.ref a2), .val (.long v125), .second, .val (.int (2 : Int32))] [(.long v125), (.int (2 : Int32)), (.ref a0)])) rfl (hb hby d8_28) _ ?_
    refine XS.land X117.here hx rfl (hb hby d8_31) rfl ?_
    show Steps p.tables e below (T117.setTop (mkF m 32 #[.val (.ref a0), .val (.ref a1), .val (.ref a2), .val (.long v125), .second, .val (.int (2 : Int32))] [(.long (v125 &&& (4294967295 : Int64))), (.int (2 : Int32)), (.ref a0)])) _
    rw [← gv126]
    show Steps p.tables e below (T117.setTop (mkF m 32 #[.val (.ref a0), .val (.ref a1), .val (.ref a2), .val (.long v125), .second, .val (.int (2 : Int32))] [(.long v126), (.int (2 : Int32)), (.ref a0)])) _
    refine st128 _ ?_
    refine XS.lloadN X128.here hx rfl (hb hby d8_33) rfl ?_
    refine XS.bipush X128.here hx rfl (hb hby d8_34) ?_
    refine XS.lushr X128.here hx rfl (hb hby d8_36) rfl ?_
    show Steps p.tables e below (T128.setTop (mkF m 37 #[.val (.ref a0), .val (.ref a1), .val (.ref a2), .val (.long v125), .second, .val (.int (2 : Int32))] [(.long ((v125.toUInt64 >>> ((32 : Int32) &&& 0x3f).toInt64.toUInt64).toInt64))])) _
    rw [← gv133]
    refine XS.lstoreN X128.here hx rfl (hb hby d8_37) rfl (l' := #[.val (.ref a0), .val (.ref a1), .val (.ref a2), .val (.long v133), .second, .val (.int (2 : Int32))]) rfl ?_
    refine XS.iinc X128.here hx rfl (hb hby d8_38) rfl (l' := #[.val (.ref a0), .val (.ref a1), .val (.ref a2), .val (.long v133), .second, .val (.int (3 : Int32))]) rfl ?_
    refine XS.goto X128.here hx rfl (pc0 := 41) (pc' := 5) rfl (hb hby d8_41) (by decide) (by decide) ?_
    show Steps p.tables e below (T128.setTop (mkF m 5 #[.val (.ref a0), .val (.ref a1), .val (.ref a2), .val (.long v133), .second, .val (.int (3 : Int32))] [])) _
    refine XS.iload X128.here hx rfl (hb hby d8_5) rfl ?_
    refine XS.bipush X128.here hx rfl (hb hby d8_7) ?_
    refine XS.icmpNo X128.here hx rfl (hb hby d8_9) rfl (tlt (by decide : (3 : Int32) < (8 : Int32))).2.1 ?_
    refine XS.lloadN X128.here hx rfl (hb hby d8_12) rfl ?_
    show Steps p.tables e below (T128.setTop (mkF m 13 #[.val (.ref a0), .val (.ref a1), .val (.ref a2), .val (.long v133), .second, .val (.int (3 : Int32))] [(.long v133)])) _
    refine XS.aloadN X128.here hx rfl (hb hby d8_13) rfl rfl ?_
    refine XS.iload X128.here hx rfl (hb hby d8_14) rfl ?_
    show Steps p.tables e below (T128.setTop (mkF m 16 #[.val (.ref a0), .val (.ref a1), .val (.ref a2), .val (.long v133), .second, .val (.int (3 : Int32))] [(.int (3 : Int32)), (.ref a1), (.long v133)])) _
    have hin134 : ¬ ((3 : Int32) < 0 ∨ cl134.slots.size ≤ ((3 : Int32)).toNatClampNeg) := (inb_of S134 ⟨by decide, by decide⟩)
    refine X128.laload hx (j := (3 : Int32)) (v := (.long u3)) (by rw [e128]; exact Ar134.1) (State.isArrayOf_alike hZ.alike Ar134.2.1) Ar134.2.2 hin134 (H134.at hin134 rfl) (g := (mkF m 16 #[.val (.ref a0), .val (.ref a1), .val (.ref a2), .val (.long v133), .second, .val (.int (3 : Int32))] [(.int (3 : Int32)), (.ref a1), (.long v133)])) rfl rfl (hb hby d8_16) _ ?_
    refine XS.aloadN X128.here hx rfl (hb hby d8_17) rfl rfl ?_
    refine XS.iload X128.here hx rfl (hb hby d8_18) rfl ?_
    show Steps p.tables e below (T128.setTop (mkF m 20 #[.val (.ref a0), .val (.ref a1), .val (.ref a2), .val (.long v133), .second, .val (.int (3 : Int32))] [(.int (3 : Int32)), (.ref a2), (.long u3), (.long v133)])) _
    have hin135 : ¬ ((3 : Int32) < 0 ∨ cl135.slots.size ≤ ((3 : Int32)).toNatClampNeg) := (inb_of S135 ⟨by decide, by decide⟩)
    refine X128.laload hx (j := (3 : Int32)) (v := (.long t3)) (by rw [e128]; exact Ar135.1) (State.isArrayOf_alike hZ.alike Ar135.2.1) Ar135.2.2 hin135 (H135.at hin135 rfl) (g := (mkF m 20 #[.val (.ref a0), .val (.ref a1), .val (.ref a2), .val (.long v133), .second, .val (.int (3 : Int32))] [(.int (3 : Int32)), (.ref a2), (.long u3), (.long v133)])) rfl rfl (hb hby d8_20) _ ?_
    refine XS.ladd X128.here hx rfl (hb hby d8_21) rfl ?_
    refine XS.ladd X128.here hx rfl (hb hby d8_22) rfl ?_
    show Steps p.tables e below (T128.setTop (mkF m 23 #[.val (.ref a0), .val (.ref a1), .val (.ref a2), .val (.long v133), .second, .val (.int (3 : Int32))] [(.long (v133 + (u3 + t3)))])) _
    rw [← gv136]
    refine XS.lstoreN X128.here hx rfl (hb hby d8_23) rfl (l' := #[.val (.ref a0), .val (.ref a1), .val (.ref a2), .val (.long v136), .second, .val (.int (3 : Int32))]) rfl ?_
    refine XS.aloadN X128.here hx rfl (hb hby d8_24) rfl rfl ?_
    refine XS.iload X128.here hx rfl (hb hby d8_25) rfl ?_
    show Steps p.tables e below (T128.setTop (mkF m 27 #[.val (.ref a0), .val (.ref a1), .val (.ref a2), .val (.long v136), .second, .val (.int (3 : Int32))] [(.int (3 : Int32)), (.ref a0)])) _
    refine XS.lloadN X128.here hx rfl (hb hby d8_27) rfl ?_
    show Steps p.tables e below (T128.setTop (mkF m 28 #[.val (.ref a0), .val (.ref a1), .val (.ref a2), .val (.long v136), .second, .val (.int (3 : Int32))] [(.long v136), (.int (3 : Int32)), (.ref a0)])) _
    refine X128.ldc2Long hx hown (mvT hZ (hw _ (List.mem_of_getElem? (i := 17) rfl))) (g := (mkF m 28 #[.val (.ref a0), .val (.ref a1), .val (.ref a2), .val (.long v136), .second, .val (.int (3 : Int32))] [(.long v136), (.int (3 : Int32)), (.ref a0)])) rfl (hb hby d8_28) _ ?_
    refine XS.land X128.here hx rfl (hb hby d8_31) rfl ?_
    show Steps p.tables e below (T128.setTop (mkF m 32 #[.val (.ref a0), .val (.ref a1), .val (.ref a2), .val (.long v136), .second, .val (.int (3 : Int32))] [(.long (v136 &&& (4294967295 : Int64))), (.int (3 : Int32)), (.ref a0)])) _
    rw [← gv137]
    show Steps p.tables e below (T128.setTop (mkF m 32 #[.val (.ref a0), .val (.ref a1), .val (.ref a2), .val (.long v136), .second, .val (.int (3 : Int32))] [(.long v137), (.int (3 : Int32)), (.ref a0)])) _
    refine st139 _ ?_
    refine XS.lloadN X139.here hx rfl (hb hby d8_33) rfl ?_
    refine XS.bipush X139.here hx rfl (hb hby d8_34) ?_
    refine XS.lushr X139.here hx rfl (hb hby d8_36) rfl ?_
    show Steps p.tables e below (T139.setTop (mkF m 37 #[.val (.ref a0), .val (.ref a1), .val (.ref a2), .val (.long v136), .second, .val (.int (3 : Int32))] [(.long ((v136.toUInt64 >>> ((32 : Int32) &&& 0x3f).toInt64.toUInt64).toInt64))])) _
    rw [← gv144]
    refine XS.lstoreN X139.here hx rfl (hb hby d8_37) rfl (l' := #[.val (.ref a0), .val (.ref a1), .val (.ref a2), .val (.long v144), .second, .val (.int (3 : Int32))]) rfl ?_
    refine XS.iinc X139.here hx rfl (hb hby d8_38) rfl (l' := #[.val (.ref a0), .val (.ref a1), .val (.ref a2), .val (.long v144), .second, .val (.int (4 : Int32))]) rfl ?_
    refine XS.goto X139.here hx rfl (pc0 := 41) (pc' := 5) rfl (hb hby d8_41) (by decide) (by decide) ?_
    show Steps p.tables e below (T139.setTop (mkF m 5 #[.val (.ref a0), .val (.ref a1), .val (.ref a2), .val (.long v144), .second, .val (.int (4 : Int32))] [])) _
    refine XS.iload X139.here hx rfl (hb hby d8_5) rfl ?_
    refine XS.bipush X139.here hx rfl (hb hby d8_7) ?_
    refine XS.icmpNo X139.here hx rfl (hb hby d8_9) rfl (tlt (by decide : (4 : Int32) < (8 : Int32))).2.1 ?_
    refine XS.lloadN X139.here hx rfl (hb hby d8_12) rfl ?_
    show Steps p.tables e below (T139.setTop (mkF m 13 #[.val (.ref a0), .val (.ref a1), .val (.ref a2), .val (.long v144), .second, .val (.int (4 : Int32))] [(.long v144)])) _
    refine XS.aloadN X139.here hx rfl (hb hby d8_13) rfl rfl ?_
    refine XS.iload X139.here hx rfl (hb hby d8_14) rfl ?_
    show Steps p.tables e below (T139.setTop (mkF m 16 #[.val (.ref a0), .val (.ref a1), .val (.ref a2), .val (.long v144), .second, .val (.int (4 : Int32))] [(.int (4 : Int32)), (.ref a1), (.long v144)])) _
    have hin145 : ¬ ((4 : Int32) < 0 ∨ cl145.slots.size ≤ ((4 : Int32)).toNatClampNeg) := (inb_of S145 ⟨by decide, by decide⟩)
    refine X139.laload hx (j := (4 : Int32)) (v := (.long u4)) (by rw [e139]; exact Ar145.1) (State.isArrayOf_alike hZ.alike Ar145.2.1) Ar145.2.2 hin145 (H145.at hin145 rfl) (g := (mkF m 16 #[.val (.ref a0), .val (.ref a1), .val (.ref a2), .val (.long v144), .second, .val (.int (4 : Int32))] [(.int (4 : Int32)), (.ref a1), (.long v144)])) rfl rfl (hb hby d8_16) _ ?_
    refine XS.aloadN X139.here hx rfl (hb hby d8_17) rfl rfl ?_
    refine XS.iload X139.here hx rfl (hb hby d8_18) rfl ?_
    show Steps p.tables e below (T139.setTop (mkF m 20 #[.val (.ref a0), .val (.ref a1), .val (.ref a2), .val (.long v144), .second, .val (.int (4 : Int32))] [(.int (4 : Int32)), (.ref a2), (.long u4), (.long v144)])) _
    have hin146 : ¬ ((4 : Int32) < 0 ∨ cl146.slots.size ≤ ((4 : Int32)).toNatClampNeg) := (inb_of S146 ⟨by decide, by decide⟩)
    refine X139.laload hx (j := (4 : Int32)) (v := (.long t4)) (by rw [e139]; exact Ar146.1) (State.isArrayOf_alike hZ.alike Ar146.2.1) Ar146.2.2 hin146 (H146.at hin146 rfl) (g := (mkF m 20 #[.val (.ref a0), .val (.ref a1), .val (.ref a2), .val (.long v144), .second, .val (.int (4 : Int32))] [(.int (4 : Int32)), (.ref a2), (.long u4), (.long v144)])) rfl rfl (hb hby d8_20) _ ?_
    refine XS.ladd X139.here hx rfl (hb hby d8_21) rfl ?_
    refine XS.ladd X139.here hx rfl (hb hby d8_22) rfl ?_
    show Steps p.tables e below (T139.setTop (mkF m 23 #[.val (.ref a0), .val (.ref a1), .val (.ref a2), .val (.long v144), .second, .val (.int (4 : Int32))] [(.long (v144 + (u4 + t4)))])) _
    rw [← gv147]
    refine XS.lstoreN X139.here hx rfl (hb hby d8_23) rfl (l' := #[.val (.ref a0), .val (.ref a1), .val (.ref a2), .val (.long v147), .second, .val (.int (4 : Int32))]) rfl ?_
    refine XS.aloadN X139.here hx rfl (hb hby d8_24) rfl rfl ?_
    refine XS.iload X139.here hx rfl (hb hby d8_25) rfl ?_
    show Steps p.tables e below (T139.setTop (mkF m 27 #[.val (.ref a0), .val (.ref a1), .val (.ref a2), .val (.long v147), .second, .val (.int (4 : Int32))] [(.int (4 : Int32)), (.ref a0)])) _
    refine XS.lloadN X139.here hx rfl (hb hby d8_27) rfl ?_
    show Steps p.tables e below (T139.setTop (mkF m 28 #[.val (.ref a0), .val (.ref a1), .val (.ref a2), .val (.long v147), .second, .val (.int (4 : Int32))] [(.long v147), (.int (4 : Int32)), (.ref a0)])) _
    refine X139.ldc2Long hx hown (mvT hZ (hw _ (List.mem_of_getElem? (i := 17) rfl))) (g := (mkF m 28 #[.val (.ref a0), .val (.ref a1), .val (.ref a2), .val (.long v147), .second, .val (.int (4 : Int32))] [(.long v147), (.int (4 : Int32)), (.ref a0)])) rfl (hb hby d8_28) _ ?_
    refine XS.land X139.here hx rfl (hb hby d8_31) rfl ?_
    show Steps p.tables e below (T139.setTop (mkF m 32 #[.val (.ref a0), .val (.ref a1), .val (.ref a2), .val (.long v147), .second, .val (.int (4 : Int32))] [(.long (v147 &&& (4294967295 : Int64))), (.int (4 : Int32)), (.ref a0)])) _
    rw [← gv148]
    show Steps p.tables e below (T139.setTop (mkF m 32 #[.val (.ref a0), .val (.ref a1), .val (.ref a2), .val (.long v147), .second, .val (.int (4 : Int32))] [(.long v148), (.int (4 : Int32)), (.ref a0)])) _
    refine st150 _ ?_
    refine XS.lloadN X150.here hx rfl (hb hby d8_33) rfl ?_
    refine XS.bipush X150.here hx rfl (hb hby d8_34) ?_
    refine XS.lushr X150.here hx rfl (hb hby d8_36) rfl ?_
    show Steps p.tables e below (T150.setTop (mkF m 37 #[.val (.ref a0), .val (.ref a1), .val (.ref a2), .val (.long v147), .second, .val (.int (4 : Int32))] [(.long ((v147.toUInt64 >>> ((32 : Int32) &&& 0x3f).toInt64.toUInt64).toInt64))])) _
    rw [← gv155]
    refine XS.lstoreN X150.here hx rfl (hb hby d8_37) rfl (l' := #[.val (.ref a0), .val (.ref a1), .val (.ref a2), .val (.long v155), .second, .val (.int (4 : Int32))]) rfl ?_
    refine XS.iinc X150.here hx rfl (hb hby d8_38) rfl (l' := #[.val (.ref a0), .val (.ref a1), .val (.ref a2), .val (.long v155), .second, .val (.int (5 : Int32))]) rfl ?_
    refine XS.goto X150.here hx rfl (pc0 := 41) (pc' := 5) rfl (hb hby d8_41) (by decide) (by decide) ?_
    show Steps p.tables e below (T150.setTop (mkF m 5 #[.val (.ref a0), .val (.ref a1), .val (.ref a2), .val (.long v155), .second, .val (.int (5 : Int32))] [])) _
    refine XS.iload X150.here hx rfl (hb hby d8_5) rfl ?_
    refine XS.bipush X150.here hx rfl (hb hby d8_7) ?_
    refine XS.icmpNo X150.here hx rfl (hb hby d8_9) rfl (tlt (by decide : (5 : Int32) < (8 : Int32))).2.1 ?_
    refine XS.lloadN X150.here hx rfl (hb hby d8_12) rfl ?_
    show Steps p.tables e below (T150.setTop (mkF m 13 #[.val (.ref a0), .val (.ref a1), .val (.ref a2), .val (.long v155), .second, .val (.int (5 : Int32))] [(.long v155)])) _
    refine XS.aloadN X150.here hx rfl (hb hby d8_13) rfl rfl ?_
    refine XS.iload X150.here hx rfl (hb hby d8_14) rfl ?_
    show Steps p.tables e below (T150.setTop (mkF m 16 #[.val (.ref a0), .val (.ref a1), .val (.ref a2), .val (.long v155), .second, .val (.int (5 : Int32))] [(.int (5 : Int32)), (.ref a1), (.long v155)])) _
    have hin156 : ¬ ((5 : Int32) < 0 ∨ cl156.slots.size ≤ ((5 : Int32)).toNatClampNeg) := (inb_of S156 ⟨by decide, by decide⟩)
    refine X150.laload hx (j := (5 : Int32)) (v := (.long u5)) (by rw [e150]; exact Ar156.1) (State.isArrayOf_alike hZ.alike Ar156.2.1) Ar156.2.2 hin156 (H156.at hin156 rfl) (g := (mkF m 16 #[.val (.ref a0), .val (.ref a1), .val (.ref a2), .val (.long v155), .second, .val (.int (5 : Int32))] [(.int (5 : Int32)), (.ref a1), (.long v155)])) rfl rfl (hb hby d8_16) _ ?_
    refine XS.aloadN X150.here hx rfl (hb hby d8_17) rfl rfl ?_
    refine XS.iload X150.here hx rfl (hb hby d8_18) rfl ?_
    show Steps p.tables e below (T150.setTop (mkF m 20 #[.val (.ref a0), .val (.ref a1), .val (.ref a2), .val (.long v155), .second, .val (.int (5 : Int32))] [(.int (5 : Int32)), (.ref a2), (.long u5), (.long v155)])) _
    have hin157 : ¬ ((5 : Int32) < 0 ∨ cl157.slots.size ≤ ((5 : Int32)).toNatClampNeg) := (inb_of S157 ⟨by decide, by decide⟩)
    refine X150.laload hx (j := (5 : Int32)) (v := (.long t5)) (by rw [e150]; exact Ar157.1) (State.isArrayOf_alike hZ.alike Ar157.2.1) Ar157.2.2 hin157 (H157.at hin157 rfl) (g := (mkF m 20 #[.val (.ref a0), .val (.ref a1), .val (.ref a2), .val (.long v155), .second, .val (.int (5 : Int32))] [(.int (5 : Int32)), (.ref a2), (.long u5), (.long v155)])) rfl rfl (hb hby d8_20) _ ?_
    refine XS.ladd X150.here hx rfl (hb hby d8_21) rfl ?_
    refine XS.ladd X150.here hx rfl (hb hby d8_22) rfl ?_
    show Steps p.tables e below (T150.setTop (mkF m 23 #[.val (.ref a0), .val (.ref a1), .val (.ref a2), .val (.long v155), .second, .val (.int (5 : Int32))] [(.long (v155 + (u5 + t5)))])) _
    rw [← gv158]
    refine XS.lstoreN X150.here hx rfl (hb hby d8_23) rfl (l' := #[.val (.ref a0), .val (.ref a1), .val (.ref a2), .val (.long v158), .second, .val (.int (5 : Int32))]) rfl ?_
    refine XS.aloadN X150.here hx rfl (hb hby d8_24) rfl rfl ?_
    refine XS.iload X150.here hx rfl (hb hby d8_25) rfl ?_
    show Steps p.tables e below (T150.setTop (mkF m 27 #[.val (.ref a0), .val (.ref a1), .val (.ref a2), .val (.long v158), .second, .val (.int (5 : Int32))] [(.int (5 : Int32)), (.ref a0)])) _
    refine XS.lloadN X150.here hx rfl (hb hby d8_27) rfl ?_
    show Steps p.tables e below (T150.setTop (mkF m 28 #[.val (.ref a0), .val (.ref a1), .val (.ref a2), .val (.long v158), .second, .val (.int (5 : Int32))] [(.long v158), (.int (5 : Int32)), (.ref a0)])) _
    refine X150.ldc2Long hx hown (mvT hZ (hw _ (List.mem_of_getElem? (i := 17) rfl))) (g := (mkF m 28 #[.val (.ref a0), .val (.ref a1), .val (.ref a2), .val (.long v158), .second, .val (.int (5 : Int32))] [(.long v158), (.int (5 : Int32)), (.ref a0)])) rfl (hb hby d8_28) _ ?_
    refine XS.land X150.here hx rfl (hb hby d8_31) rfl ?_
    show Steps p.tables e below (T150.setTop (mkF m 32 #[.val (.ref a0), .val (.ref a1), .val (.ref a2), .val (.long v158), .second, .val (.int (5 : Int32))] [(.long (v158 &&& (4294967295 : Int64))), (.int (5 : Int32)), (.ref a0)])) _
    rw [← gv159]
    show Steps p.tables e below (T150.setTop (mkF m 32 #[.val (.ref a0), .val (.ref a1), .val (.ref a2), .val (.long v158), .second, .val (.int (5 : Int32))] [(.long v159), (.int (5 : Int32)), (.ref a0)])) _
    refine st161 _ ?_
    refine XS.lloadN X161.here hx rfl (hb hby d8_33) rfl ?_
    refine XS.bipush X161.here hx rfl (hb hby d8_34) ?_
    refine XS.lushr X161.here hx rfl (hb hby d8_36) rfl ?_
    show Steps p.tables e below (T161.setTop (mkF m 37 #[.val (.ref a0), .val (.ref a1), .val (.ref a2), .val (.long v158), .second, .val (.int (5 : Int32))] [(.long ((v158.toUInt64 >>> ((32 : Int32) &&& 0x3f).toInt64.toUInt64).toInt64))])) _
    rw [← gv166]
    refine XS.lstoreN X161.here hx rfl (hb hby d8_37) rfl (l' := #[.val (.ref a0), .val (.ref a1), .val (.ref a2), .val (.long v166), .second, .val (.int (5 : Int32))]) rfl ?_
    refine XS.iinc X161.here hx rfl (hb hby d8_38) rfl (l' := #[.val (.ref a0), .val (.ref a1), .val (.ref a2), .val (.long v166), .second, .val (.int (6 : Int32))]) rfl ?_
    refine XS.goto X161.here hx rfl (pc0 := 41) (pc' := 5) rfl (hb hby d8_41) (by decide) (by decide) ?_
    show Steps p.tables e below (T161.setTop (mkF m 5 #[.val (.ref a0), .val (.ref a1), .val (.ref a2), .val (.long v166), .second, .val (.int (6 : Int32))] [])) _
    refine XS.iload X161.here hx rfl (hb hby d8_5) rfl ?_
    refine XS.bipush X161.here hx rfl (hb hby d8_7) ?_
    refine XS.icmpNo X161.here hx rfl (hb hby d8_9) rfl (tlt (by decide : (6 : Int32) < (8 : Int32))).2.1 ?_
    refine XS.lloadN X161.here hx rfl (hb hby d8_12) rfl ?_
    show Steps p.tables e below (T161.setTop (mkF m 13 #[.val (.ref a0), .val (.ref a1), .val (.ref a2), .val (.long v166), .second, .val (.int (6 : Int32))] [(.long v166)])) _
    refine XS.aloadN X161.here hx rfl (hb hby d8_13) rfl rfl ?_
    refine XS.iload X161.here hx rfl (hb hby d8_14) rfl ?_
    show Steps p.tables e below (T161.setTop (mkF m 16 #[.val (.ref a0), .val (.ref a1), .val (.ref a2), .val (.long v166), .second, .val (.int (6 : Int32))] [(.int (6 : Int32)), (.ref a1), (.long v166)])) _
    have hin167 : ¬ ((6 : Int32) < 0 ∨ cl167.slots.size ≤ ((6 : Int32)).toNatClampNeg) := (inb_of S167 ⟨by decide, by decide⟩)
    refine X161.laload hx (j := (6 : Int32)) (v := (.long u6)) (by rw [e161]; exact Ar167.1) (State.isArrayOf_alike hZ.alike Ar167.2.1) Ar167.2.2 hin167 (H167.at hin167 rfl) (g := (mkF m 16 #[.val (.ref a0), .val (.ref a1), .val (.ref a2), .val (.long v166), .second, .val (.int (6 : Int32))] [(.int (6 : Int32)), (.ref a1), (.long v166)])) rfl rfl (hb hby d8_16) _ ?_
    refine XS.aloadN X161.here hx rfl (hb hby d8_17) rfl rfl ?_
    refine XS.iload X161.here hx rfl (hb hby d8_18) rfl ?_
    show Steps p.tables e below (T161.setTop (mkF m 20 #[.val (.ref a0), .val (.ref a1), .val (.ref a2), .val (.long v166), .second, .val (.int (6 : Int32))] [(.int (6 : Int32)), (.ref a2), (.long u6), (.long v166)])) _
    have hin168 : ¬ ((6 : Int32) < 0 ∨ cl168.slots.size ≤ ((6 : Int32)).toNatClampNeg) := (inb_of S168 ⟨by decide, by decide⟩)
    refine X161.laload hx (j := (6 : Int32)) (v := (.long t6)) (by rw [e161]; exact Ar168.1) (State.isArrayOf_alike hZ.alike Ar168.2.1) Ar168.2.2 hin168 (H168.at hin168 rfl) (g := (mkF m 20 #[.val (.ref a0), .val (.ref a1), .val (.ref a2), .val (.long v166), .second, .val (.int (6 : Int32))] [(.int (6 : Int32)), (.ref a2), (.long u6), (.long v166)])) rfl rfl (hb hby d8_20) _ ?_
    refine XS.ladd X161.here hx rfl (hb hby d8_21) rfl ?_
    refine XS.ladd X161.here hx rfl (hb hby d8_22) rfl ?_
    show Steps p.tables e below (T161.setTop (mkF m 23 #[.val (.ref a0), .val (.ref a1), .val (.ref a2), .val (.long v166), .second, .val (.int (6 : Int32))] [(.long (v166 + (u6 + t6)))])) _
    rw [← gv169]
    refine XS.lstoreN X161.here hx rfl (hb hby d8_23) rfl (l' := #[.val (.ref a0), .val (.ref a1), .val (.ref a2), .val (.long v169), .second, .val (.int (6 : Int32))]) rfl ?_
    refine XS.aloadN X161.here hx rfl (hb hby d8_24) rfl rfl ?_
    refine XS.iload X161.here hx rfl (hb hby d8_25) rfl ?_
    show Steps p.tables e below (T161.setTop (mkF m 27 #[.val (.ref a0), .val (.ref a1), .val (.ref a2), .val (.long v169), .second, .val (.int (6 : Int32))] [(.int (6 : Int32)), (.ref a0)])) _
    refine XS.lloadN X161.here hx rfl (hb hby d8_27) rfl ?_
    show Steps p.tables e below (T161.setTop (mkF m 28 #[.val (.ref a0), .val (.ref a1), .val (.ref a2), .val (.long v169), .second, .val (.int (6 : Int32))] [(.long v169), (.int (6 : Int32)), (.ref a0)])) _
    refine X161.ldc2Long hx hown (mvT hZ (hw _ (List.mem_of_getElem? (i := 17) rfl))) (g := (mkF m 28 #[.val (.ref a0), .val (.ref a1), .val (.ref a2), .val (.long v169), .second, .val (.int (6 : Int32))] [(.long v169), (.int (6 : Int32)), (.ref a0)])) rfl (hb hby d8_28) _ ?_
    refine XS.land X161.here hx rfl (hb hby d8_31) rfl ?_
    show Steps p.tables e below (T161.setTop (mkF m 32 #[.val (.ref a0), .val (.ref a1), .val (.ref a2), .val (.long v169), .second, .val (.int (6 : Int32))] [(.long (v169 &&& (4294967295 : Int64))), (.int (6 : Int32)), (.ref a0)])) _
    rw [← gv170]
    show Steps p.tables e below (T161.setTop (mkF m 32 #[.val (.ref a0), .val (.ref a1), .val (.ref a2), .val (.long v169), .second, .val (.int (6 : Int32))] [(.long v170), (.int (6 : Int32)), (.ref a0)])) _
    refine st172 _ ?_
    refine XS.lloadN X172.here hx rfl (hb hby d8_33) rfl ?_
    refine XS.bipush X172.here hx rfl (hb hby d8_34) ?_
    refine XS.lushr X172.here hx rfl (hb hby d8_36) rfl ?_
    show Steps p.tables e below (T172.setTop (mkF m 37 #[.val (.ref a0), .val (.ref a1), .val (.ref a2), .val (.long v169), .second, .val (.int (6 : Int32))] [(.long ((v169.toUInt64 >>> ((32 : Int32) &&& 0x3f).toInt64.toUInt64).toInt64))])) _
    rw [← gv177]
    refine XS.lstoreN X172.here hx rfl (hb hby d8_37) rfl (l' := #[.val (.ref a0), .val (.ref a1), .val (.ref a2), .val (.long v177), .second, .val (.int (6 : Int32))]) rfl ?_
    refine XS.iinc X172.here hx rfl (hb hby d8_38) rfl (l' := #[.val (.ref a0), .val (.ref a1), .val (.ref a2), .val (.long v177), .second, .val (.int (7 : Int32))]) rfl ?_
    refine XS.goto X172.here hx rfl (pc0 := 41) (pc' := 5) rfl (hb hby d8_41) (by decide) (by decide) ?_
    show Steps p.tables e below (T172.setTop (mkF m 5 #[.val (.ref a0), .val (.ref a1), .val (.ref a2), .val (.long v177), .second, .val (.int (7 : Int32))] [])) _
    refine XS.iload X172.here hx rfl (hb hby d8_5) rfl ?_
    refine XS.bipush X172.here hx rfl (hb hby d8_7) ?_
    refine XS.icmpNo X172.here hx rfl (hb hby d8_9) rfl (tlt (by decide : (7 : Int32) < (8 : Int32))).2.1 ?_
    refine XS.lloadN X172.here hx rfl (hb hby d8_12) rfl ?_
    show Steps p.tables e below (T172.setTop (mkF m 13 #[.val (.ref a0), .val (.ref a1), .val (.ref a2), .val (.long v177), .second, .val (.int (7 : Int32))] [(.long v177)])) _
    refine XS.aloadN X172.here hx rfl (hb hby d8_13) rfl rfl ?_
    refine XS.iload X172.here hx rfl (hb hby d8_14) rfl ?_
    show Steps p.tables e below (T172.setTop (mkF m 16 #[.val (.ref a0), .val (.ref a1), .val (.ref a2), .val (.long v177), .second, .val (.int (7 : Int32))] [(.int (7 : Int32)), (.ref a1), (.long v177)])) _
    have hin178 : ¬ ((7 : Int32) < 0 ∨ cl178.slots.size ≤ ((7 : Int32)).toNatClampNeg) := (inb_of S178 ⟨by decide, by decide⟩)
    refine X172.laload hx (j := (7 : Int32)) (v := (.long u7)) (by rw [e172]; exact Ar178.1) (State.isArrayOf_alike hZ.alike Ar178.2.1) Ar178.2.2 hin178 (H178.at hin178 rfl) (g := (mkF m 16 #[.val (.ref a0), .val (.ref a1), .val (.ref a2), .val (.long v177), .second, .val (.int (7 : Int32))] [(.int (7 : Int32)), (.ref a1), (.long v177)])) rfl rfl (hb hby d8_16) _ ?_
    refine XS.aloadN X172.here hx rfl (hb hby d8_17) rfl rfl ?_
    refine XS.iload X172.here hx rfl (hb hby d8_18) rfl ?_
    show Steps p.tables e below (T172.setTop (mkF m 20 #[.val (.ref a0), .val (.ref a1), .val (.ref a2), .val (.long v177), .second, .val (.int (7 : Int32))] [(.int (7 : Int32)), (.ref a2), (.long u7), (.long v177)])) _
    have hin179 : ¬ ((7 : Int32) < 0 ∨ cl179.slots.size ≤ ((7 : Int32)).toNatClampNeg) := (inb_of S179 ⟨by decide, by decide⟩)
    refine X172.laload hx (j := (7 : Int32)) (v := (.long t7)) (by rw [e172]; exact Ar179.1) (State.isArrayOf_alike hZ.alike Ar179.2.1) Ar179.2.2 hin179 (H179.at hin179 rfl) (g := (mkF m 20 #[.val (.ref a0), .val (.ref a1), .val (.ref a2), .val (.long v177), .second, .val (.int (7 : Int32))] [(.int (7 : Int32)), (.ref a2), (.long u7), (.long v177)])) rfl rfl (hb hby d8_20) _ ?_
    refine XS.ladd X172.here hx rfl (hb hby d8_21) rfl ?_
    refine XS.ladd X172.here hx rfl (hb hby d8_22) rfl ?_
    show Steps p.tables e below (T172.setTop (mkF m 23 #[.val (.ref a0), .val (.ref a1), .val (.ref a2), .val (.long v177), .second, .val (.int (7 : Int32))] [(.long (v177 + (u7 + t7)))])) _
    rw [← gv180]
    refine XS.lstoreN X172.here hx rfl (hb hby d8_23) rfl (l' := #[.val (.ref a0), .val (.ref a1), .val (.ref a2), .val (.long v180), .second, .val (.int (7 : Int32))]) rfl ?_
    refine XS.aloadN X172.here hx rfl (hb hby d8_24) rfl rfl ?_
    refine XS.iload X172.here hx rfl (hb hby d8_25) rfl ?_
    show Steps p.tables e below (T172.setTop (mkF m 27 #[.val (.ref a0), .val (.ref a1), .val (.ref a2), .val (.long v180), .second, .val (.int (7 : Int32))] [(.int (7 : Int32)), (.ref a0)])) _
    refine XS.lloadN X172.here hx rfl (hb hby d8_27) rfl ?_
    show Steps p.tables e below (T172.setTop (mkF m 28 #[.val (.ref a0), .val (.ref a1), .val (.ref a2), .val (.long v180), .second, .val (.int (7 : Int32))] [(.long v180), (.int (7 : Int32)), (.ref a0)])) _
    refine X172.ldc2Long hx hown (mvT hZ (hw _ (List.mem_of_getElem? (i := 17) rfl))) (g := (mkF m 28 #[.val (.ref a0), .val (.ref a1), .val (.ref a2), .val (.long v180), .second, .val (.int (7 : Int32))] [(.long v180), (.int (7 : Int32)), (.ref a0)])) rfl (hb hby d8_28) _ ?_
    refine XS.land X172.here hx rfl (hb hby d8_31) rfl ?_
    show Steps p.tables e below (T172.setTop (mkF m 32 #[.val (.ref a0), .val (.ref a1), .val (.ref a2), .val (.long v180), .second, .val (.int (7 : Int32))] [(.long (v180 &&& (4294967295 : Int64))), (.int (7 : Int32)), (.ref a0)])) _
    rw [← gv181]
    show Steps p.tables e below (T172.setTop (mkF m 32 #[.val (.ref a0), .val (.ref a1), .val (.ref a2), .val (.long v180), .second, .val (.int (7 : Int32))] [(.long v181), (.int (7 : Int32)), (.ref a0)])) _
    refine st183 _ ?_
    refine XS.lloadN X183.here hx rfl (hb hby d8_33) rfl ?_
    refine XS.bipush X183.here hx rfl (hb hby d8_34) ?_
    refine XS.lushr X183.here hx rfl (hb hby d8_36) rfl ?_
    show Steps p.tables e below (T183.setTop (mkF m 37 #[.val (.ref a0), .val (.ref a1), .val (.ref a2), .val (.long v180), .second, .val (.int (7 : Int32))] [(.long ((v180.toUInt64 >>> ((32 : Int32) &&& 0x3f).toInt64.toUInt64).toInt64))])) _
    rw [← gv188]
    refine XS.lstoreN X183.here hx rfl (hb hby d8_37) rfl (l' := #[.val (.ref a0), .val (.ref a1), .val (.ref a2), .val (.long v188), .second, .val (.int (7 : Int32))]) rfl ?_
    refine XS.iinc X183.here hx rfl (hb hby d8_38) rfl (l' := #[.val (.ref a0), .val (.ref a1), .val (.ref a2), .val (.long v188), .second, .val (.int (8 : Int32))]) rfl ?_
    refine XS.goto X183.here hx rfl (pc0 := 41) (pc' := 5) rfl (hb hby d8_41) (by decide) (by decide) ?_
    show Steps p.tables e below (T183.setTop (mkF m 5 #[.val (.ref a0), .val (.ref a1), .val (.ref a2), .val (.long v188), .second, .val (.int (8 : Int32))] [])) _
    refine XS.iload X183.here hx rfl (hb hby d8_5) rfl ?_
    refine XS.bipush X183.here hx rfl (hb hby d8_7) ?_
    refine XS.icmpYes X183.here hx rfl (pc0 := 9) (pc' := 44) rfl (hb hby d8_9) rfl (flt (by decide : ¬ ((8 : Int32) < (8 : Int32)))).2.1 (by decide) (by decide) ?_
    refine XS.lloadN X183.here hx rfl (hb hby d8_44) rfl ?_
    show Steps p.tables e below (T183.setTop (mkF m 45 #[.val (.ref a0), .val (.ref a1), .val (.ref a2), .val (.long v188), .second, .val (.int (8 : Int32))] [(.long v188)])) _
    refine XS.lconst X183.here hx rfl (hb hby d8_45) ?_
    refine XS.lcmp X183.here hx rfl (hb hby d8_46) rfl ?_
    exact k
  by_cases hc190 : v188 = (0 : Int64)
  · obtain ⟨_, _, ⟨T191, L191, k191, n191⟩, -, X191, ⟨Lc191, hQ191, l191, y191, z191⟩, st191⟩ := Jvm.LawKit.callS X183 hx (y := (⟨"com/example/serialroute/serialroute/core/P256Field", "belowP", "([J)Z"⟩ : MethodName)) hown (mvT hZ (hw _ (List.mem_of_getElem? (i := 30) rfl))) (mvT hZ (hw _ (List.mem_of_getElem? (i := 31) rfl))) (mvT hZ (hw _ (List.mem_of_getElem? (i := 15) rfl))) (mvT hZ (hw _ (List.mem_of_getElem? (i := 32) rfl))) (by decide) (backOf (W := 0) (rm9 l Z aw hw [] a0 wp kp kk0 v104 v115 v126 v137 v148 v159 v170 v181 h183 n0 Z183 f184 f185 V183b) hZ (hw _ (List.mem_of_getElem? (i := 32) rfl)) (hw _ (List.mem_of_getElem? (i := 15) rfl)) (by decide) (by decide)) (g := (mkF m 51 #[.val (.ref a0), .val (.ref a1), .val (.ref a2), .val (.long v188), .second, .val (.int (8 : Int32))] [(.ref a0)])) rfl (by rw [hml]; rfl) (argsL := [(.ref a0)]) (rest := []) (lenOf pd_1 rfl) rfl (by show 2 * 0 + _ ≤ _; exact Nat.le_of_eq rfl) (hb hby d8_51) (fun _ _ => ⟨rfl, e183, (by decide : 0 + 0 ≤ _), (by decide : 0 + 0 ≤ _)⟩)
    dsimp only [Pt.U, Pt.locs, Pt.cells, Pt.slots] at X191 l191 y191 z191 st191 hQ191
    rw [l191, y191, z191] at X191
    obtain ⟨rfl, N191q, e191⟩ := hQ191
    have N191 := Fr.app N183 N191q
    have pre192 : ∀ t, Steps p.tables e below (T191.setTop (mkF m 54 #[.val (.ref a0), .val (.ref a1), .val (.ref a2), .val (.long v188), .second, .val (.int (8 : Int32))] [(.int (own_bp v104 v115 v126 v137 v148 v159 v170 v181))])) t → Steps p.tables e below (s₁.setTop (entryFrame m #[(.ref a0), (.ref a1), (.ref a2)] 6)) t := fun t k => by
      refine pre189 t ?_
      show Steps p.tables e below (T183.setTop (mkF m 47 #[.val (.ref a0), .val (.ref a1), .val (.ref a2), .val (.long v188), .second, .val (.int (8 : Int32))] [(.int (lcmpW v188 (0 : Int64)))])) _
      refine XS.ifNo X183.here hx rfl (hb hby d8_47) rfl ((if0 _ _).trans (teq ((lw_eq v188 (0 : Int64)).mpr hc190)).2) ?_
      refine XS.aloadN X183.here hx rfl (hb hby d8_50) rfl rfl ?_
      show Steps p.tables e below (T183.setTop (mkF m 51 #[.val (.ref a0), .val (.ref a1), .val (.ref a2), .val (.long v188), .second, .val (.int (8 : Int32))] [(.ref a0)])) _
      refine st191 _ ?_
      exact k
    by_cases hc193 : (own_bp v104 v115 v126 v137 v148 v159 v170 v181) = (0 : Int32)
    · obtain ⟨_, _, ⟨T194, L194, k194, n194⟩, -, X194, ⟨Lc194, hQ194, l194, y194, z194⟩, st194⟩ := Jvm.LawKit.callS X191 hx (y := (⟨"com/example/serialroute/serialroute/core/P256Field", "subtractP", "([J)V"⟩ : MethodName)) hown (mvT hZ (hw _ (List.mem_of_getElem? (i := 39) rfl))) (mvT hZ (hw _ (List.mem_of_getElem? (i := 40) rfl))) (mvT hZ (hw _ (List.mem_of_getElem? (i := 15) rfl))) (mvT hZ (hw _ (List.mem_of_getElem? (i := 41) rfl))) (by decide) (backOf (W := 0) (rm_subtractP l Z aw hw [] a0 wp kp kk0 v104 v115 v126 v137 v148 v159 v170 v181 h183 n0 Z183 f184 f185 V183b g0 ne_wp_a0 ⟨rv111, rv122, rv133, rv144, rv155, rv166, rv177, rv188⟩) hZ (hw _ (List.mem_of_getElem? (i := 41) rfl)) (hw _ (List.mem_of_getElem? (i := 15) rfl)) (by decide) (by decide)) (g := (mkF m 58 #[.val (.ref a0), .val (.ref a1), .val (.ref a2), .val (.long v188), .second, .val (.int (8 : Int32))] [(.ref a0)])) rfl (by rw [hml]; rfl) (argsL := [(.ref a0)]) (rest := []) (lenOf pd_3 rfl) rfl (by show 2 * 0 + _ ≤ _; exact Nat.le_of_eq rfl) (hb hby d8_58) (fun _ _ => ⟨rfl, e191, (by decide : 0 + 0 ≤ _), (by decide : 0 + 0 ≤ _)⟩)
      dsimp only [Pt.U, Pt.locs, Pt.cells, Pt.slots] at X194 l194 y194 z194 st194 hQ194
      rw [l194, y194, z194] at X194
      obtain ⟨rfl, N194q, K194q, o194_0, o194_1, o194_2, o194_3, o194_4, o194_5, o194_6, o194_7, c194, V194q, R194q, Q194q, C194q⟩ := hQ194
      have N194 := Fr.app N191 N194q
      have f195 := own_sta_keep f184 K194q (nsS V183b.nostat ns0)
      have f196 := f185.keep K194q (ninS ne_wp_a0 nin0)
      have f197 := f186.keep K194q (ninS (Ne.symm ne_a0_a1) nin0)
      have f198 := f187.keep K194q (ninS (Ne.symm ne_a0_a2) nin0)
      have Z194 : n0 ≤ T194.heap.size := Nat.le_trans Z183 K194q.1
      have K194 : Keep h0 T194.heap [a0] := K183.trans K194q (allS (Or.inl (List.mem_of_getElem? (i := 0) rfl)) all0)
      obtain ⟨fs, hr, hrun, hended, hW, hsame⟩ := X194.leave (v := none) (fun _ => rfl)
      refine ⟨_, _, pre192 _ ?_, hrun, hended, _, _, rfl, ?_, ⟨_, rfl⟩, hW, hsame.mono (by decide) (by decide)⟩
      · show Steps p.tables e below (T191.setTop (mkF m 54 #[.val (.ref a0), .val (.ref a1), .val (.ref a2), .val (.long v188), .second, .val (.int (8 : Int32))] [(.int (own_bp v104 v115 v126 v137 v148 v159 v170 v181))])) _
        refine XS.ifNo X191.here hx rfl (hb hby d8_54) rfl ((if0 _ _).trans (teq hc193).2) ?_
        refine XS.aloadN X191.here hx rfl (hb hby d8_57) rfl rfl ?_
        show Steps p.tables e below (T191.setTop (mkF m 58 #[.val (.ref a0), .val (.ref a1), .val (.ref a2), .val (.long v188), .second, .val (.int (8 : Int32))] [(.ref a0)])) _
        refine st194 _ ?_
        show Steps p.tables e below (T194.setTop (mkF m 61 #[.val (.ref a0), .val (.ref a1), .val (.ref a2), .val (.long v188), .second, .val (.int (8 : Int32))] [])) _
        exact X194.returnOut hx Bd.returns (hb hby d8_61) hr
      · show Q_rm_add_d Z a0 a1 a2 wp kp kk0 kk1 kk2 x0 x1 x2 x3 x4 x5 x6 x7 u0 u1 u2 u3 u4 u5 u6 u7 t0 t1 t2 t3 t4 t5 t6 t7 h0 n0 _ T194.heap _
        exact ⟨rfl, N194, K194, o194_0, o194_1, o194_2, o194_3, o194_4, o194_5, o194_6, o194_7, V194q, R194q, own_fin_add1 hW_a1 hW_a2 hR_a1 hR_a2 ⟨rv111, rv122, rv133, rv144, rv155, rv166, rv177, rv188⟩ (own_telA qv111 qv122 qv133 qv144 qv155 qv166 qv177 qv188) hc190 hc193 R194q Q194q C194q⟩
    · obtain ⟨fs, hr, hrun, hended, hW, hsame⟩ := X191.leave (v := none) (fun _ => rfl)
      refine ⟨_, _, pre192 _ ?_, hrun, hended, _, _, rfl, ?_, ⟨_, rfl⟩, hW, hsame.mono (by decide) (by decide)⟩
      · show Steps p.tables e below (T191.setTop (mkF m 54 #[.val (.ref a0), .val (.ref a1), .val (.ref a2), .val (.long v188), .second, .val (.int (8 : Int32))] [(.int (own_bp v104 v115 v126 v137 v148 v159 v170 v181))])) _
        refine XS.ifYes X191.here hx rfl (pc0 := 54) (pc' := 61) rfl (hb hby d8_54) rfl ((if0 _ _).trans (feq hc193).2) (by decide) (by decide) ?_
        show Steps p.tables e below (T191.setTop (mkF m 61 #[.val (.ref a0), .val (.ref a1), .val (.ref a2), .val (.long v188), .second, .val (.int (8 : Int32))] [])) _
        exact X191.returnOut hx Bd.returns (hb hby d8_61) hr
      · show Q_rm_add_d Z a0 a1 a2 wp kp kk0 kk1 kk2 x0 x1 x2 x3 x4 x5 x6 x7 u0 u1 u2 u3 u4 u5 u6 u7 t0 t1 t2 t3 t4 t5 t6 t7 h0 n0 _ T191.heap _
        rw [e191]
        exact ⟨rfl, N191, K183, v104, v115, v126, v137, v148, v159, v170, v181, V183b, ⟨rv111, rv122, rv133, rv144, rv155, rv166, rv177, rv188⟩, own_fin_add0 hW_a1 hW_a2 hR_a1 hR_a2 ⟨rv111, rv122, rv133, rv144, rv155, rv166, rv177, rv188⟩ (own_telA qv111 qv122 qv133 qv144 qv155 qv166 qv177 qv188) hc190 hc193⟩
  · obtain ⟨_, _, ⟨T199, L199, k199, n199⟩, -, X199, ⟨Lc199, hQ199, l199, y199, z199⟩, st199⟩ := Jvm.LawKit.callS X183 hx (y := (⟨"com/example/serialroute/serialroute/core/P256Field", "subtractP", "([J)V"⟩ : MethodName)) hown (mvT hZ (hw _ (List.mem_of_getElem? (i := 39) rfl))) (mvT hZ (hw _ (List.mem_of_getElem? (i := 40) rfl))) (mvT hZ (hw _ (List.mem_of_getElem? (i := 15) rfl))) (mvT hZ (hw _ (List.mem_of_getElem? (i := 41) rfl))) (by decide) (backOf (W := 0) (rm_subtractP l Z aw hw [] a0 wp kp kk0 v104 v115 v126 v137 v148 v159 v170 v181 h183 n0 Z183 f184 f185 V183b g0 ne_wp_a0 ⟨rv111, rv122, rv133, rv144, rv155, rv166, rv177, rv188⟩) hZ (hw _ (List.mem_of_getElem? (i := 41) rfl)) (hw _ (List.mem_of_getElem? (i := 15) rfl)) (by decide) (by decide)) (g := (mkF m 58 #[.val (.ref a0), .val (.ref a1), .val (.ref a2), .val (.long v188), .second, .val (.int (8 : Int32))] [(.ref a0)])) rfl (by rw [hml]; rfl) (argsL := [(.ref a0)]) (rest := []) (lenOf pd_3 rfl) rfl (by show 2 * 0 + _ ≤ _; exact Nat.le_of_eq rfl) (hb hby d8_58) (fun _ _ => ⟨rfl, e183, (by decide : 0 + 0 ≤ _), (by decide : 0 + 0 ≤ _)⟩)
    dsimp only [Pt.U, Pt.locs, Pt.cells, Pt.slots] at X199 l199 y199 z199 st199 hQ199
    rw [l199, y199, z199] at X199
    obtain ⟨rfl, N199q, K199q, o199_0, o199_1, o199_2, o199_3, o199_4, o199_5, o199_6, o199_7, c199, V199q, R199q, Q199q, C199q⟩ := hQ199
    have N199 := Fr.app N183 N199q
    have f200 := own_sta_keep f184 K199q (nsS V183b.nostat ns0)
    have f201 := f185.keep K199q (ninS ne_wp_a0 nin0)
    have f202 := f186.keep K199q (ninS (Ne.symm ne_a0_a1) nin0)
    have f203 := f187.keep K199q (ninS (Ne.symm ne_a0_a2) nin0)
    have Z199 : n0 ≤ T199.heap.size := Nat.le_trans Z183 K199q.1
    have K199 : Keep h0 T199.heap [a0] := K183.trans K199q (allS (Or.inl (List.mem_of_getElem? (i := 0) rfl)) all0)
    obtain ⟨fs, hr, hrun, hended, hW, hsame⟩ := X199.leave (v := none) (fun _ => rfl)
    refine ⟨_, _, pre189 _ ?_, hrun, hended, _, _, rfl, ?_, ⟨_, rfl⟩, hW, hsame.mono (by decide) (by decide)⟩
    · show Steps p.tables e below (T183.setTop (mkF m 47 #[.val (.ref a0), .val (.ref a1), .val (.ref a2), .val (.long v188), .second, .val (.int (8 : Int32))] [(.int (lcmpW v188 (0 : Int64)))])) _
      refine XS.ifYes X183.here hx rfl (pc0 := 47) (pc' := 57) rfl (hb hby d8_47) rfl ((if0 _ _).trans (feq (fun q => hc190 ((lw_eq v188 (0 : Int64)).mp q))).2) (by decide) (by decide) ?_
      refine XS.aloadN X183.here hx rfl (hb hby d8_57) rfl rfl ?_
      show Steps p.tables e below (T183.setTop (mkF m 58 #[.val (.ref a0), .val (.ref a1), .val (.ref a2), .val (.long v188), .second, .val (.int (8 : Int32))] [(.ref a0)])) _
      refine st199 _ ?_
      show Steps p.tables e below (T199.setTop (mkF m 61 #[.val (.ref a0), .val (.ref a1), .val (.ref a2), .val (.long v188), .second, .val (.int (8 : Int32))] [])) _
      exact X199.returnOut hx Bd.returns (hb hby d8_61) hr
    · show Q_rm_add_d Z a0 a1 a2 wp kp kk0 kk1 kk2 x0 x1 x2 x3 x4 x5 x6 x7 u0 u1 u2 u3 u4 u5 u6 u7 t0 t1 t2 t3 t4 t5 t6 t7 h0 n0 _ T199.heap _
      exact ⟨rfl, N199, K199, o199_0, o199_1, o199_2, o199_3, o199_4, o199_5, o199_6, o199_7, V199q, R199q, own_fin_add2 hW_a1 hW_a2 hR_a1 hR_a2 ⟨rv111, rv122, rv133, rv144, rv155, rv166, rv177, rv188⟩ (own_telA qv111 qv122 qv133 qv144 qv155 qv166 qv177 qv188) hcv188 hc190 R199q Q199q C199q⟩
theorem own_lo_R (x : Int64) : own_R (x &&& (4294967295 : Int64)) := by
  have h3 := c_maskL x 4294967295 32 (by decide) (by decide)
  rw [own_p32] at h3
  unfold own_R
  omega
theorem own_hi_R (x : Int64) : own_R ((x.toUInt64 >>> ((32 : Int32) &&& 0x3f).toInt64.toUInt64).toInt64) := by
  have h4 := c_lushr x 32 32 (by decide) (by decide)
  rw [own_p32] at h4
  unfold own_R
  omega
theorem own_pick_R (k : Int32) (x y z w : Int64) : own_R (own_pick k x y z w) := by
  unfold own_pick
  by_cases h0 : k = (0 : Int32)
  · rw [if_pos h0]; exact own_lo_R x
  rw [if_neg h0]
  by_cases h1 : k = (1 : Int32)
  · rw [if_pos h1]; exact own_hi_R x
  rw [if_neg h1]
  by_cases h2 : k = (2 : Int32)
  · rw [if_pos h2]; exact own_lo_R y
  rw [if_neg h2]
  by_cases h3 : k = (3 : Int32)
  · rw [if_pos h3]; exact own_hi_R y
  rw [if_neg h3]
  by_cases h4 : k = (4 : Int32)
  · rw [if_pos h4]; exact own_lo_R z
  rw [if_neg h4]
  by_cases h5 : k = (5 : Int32)
  · rw [if_pos h5]; exact own_hi_R z
  rw [if_neg h5]
  by_cases h6 : k = (6 : Int32)
  · rw [if_pos h6]; exact own_lo_R w
  rw [if_neg h6]
  by_cases h7 : k = (7 : Int32)
  · rw [if_pos h7]; exact own_hi_R w
  rw [if_neg h7]
  by_cases h8 : k = (8 : Int32)
  · rw [if_pos h8]; unfold own_R; decide
  rw [if_neg h8]
  by_cases h9 : k = (9 : Int32)
  · rw [if_pos h9]; unfold own_R; decide
  rw [if_neg h9]
  by_cases h10 : k = (10 : Int32)
  · rw [if_pos h10]; unfold own_R; decide
  rw [if_neg h10]
  by_cases h11 : k = (11 : Int32)
  · rw [if_pos h11]; unfold own_R; decide
  rw [if_neg h11]
  by_cases h12 : k = (12 : Int32)
  · rw [if_pos h12]; unfold own_R; decide
  rw [if_neg h12]
  by_cases h13 : k = (13 : Int32)
  · rw [if_pos h13]; unfold own_R; decide
  rw [if_neg h13]
  by_cases h14 : k = (14 : Int32)
  · rw [if_pos h14]; unfold own_R; decide
  rw [if_neg h14]
  unfold own_R; decide
theorem own_w0_R (s : Int64) (sh : Int32) (x y z w : Int64) : own_R (own_w0 s sh x y z w) := own_pick_R _ _ _ _ _
theorem own_w1_R (s : Int64) (sh : Int32) (x y z w : Int64) : own_R (own_w1 s sh x y z w) := own_pick_R _ _ _ _ _
theorem own_w2_R (s : Int64) (sh : Int32) (x y z w : Int64) : own_R (own_w2 s sh x y z w) := own_pick_R _ _ _ _ _
theorem own_w3_R (s : Int64) (sh : Int32) (x y z w : Int64) : own_R (own_w3 s sh x y z w) := own_pick_R _ _ _ _ _
theorem own_w4_R (s : Int64) (sh : Int32) (x y z w : Int64) : own_R (own_w4 s sh x y z w) := own_pick_R _ _ _ _ _
theorem own_w5_R (s : Int64) (sh : Int32) (x y z w : Int64) : own_R (own_w5 s sh x y z w) := own_pick_R _ _ _ _ _
theorem own_w6_R (s : Int64) (sh : Int32) (x y z w : Int64) : own_R (own_w6 s sh x y z w) := own_pick_R _ _ _ _ _
theorem own_w7_R (s : Int64) (sh : Int32) (x y z w : Int64) : own_R (own_w7 s sh x y z w) := own_pick_R _ _ _ _ _
theorem own_e7_R (s : Int64) (sh : Int32) (x y z w : Int64) : own_R (own_e7 s sh x y z w) := by
  unfold own_e7
  split
  · unfold own_R; decide
  · exact own_w7_R _ _ _ _ _ _
theorem own_bR (s : Int64) (sh : Int32) (x y z w : Int64) : own_RR (own_w0 s sh x y z w) (own_w1 s sh x y z w) (own_w2 s sh x y z w) (own_w3 s sh x y z w) (own_w4 s sh x y z w) (own_w5 s sh x y z w) (own_w6 s sh x y z w) (own_e7 s sh x y z w) := ⟨own_w0_R _ _ _ _ _ _, own_w1_R _ _ _ _ _ _, own_w2_R _ _ _ _ _ _, own_w3_R _ _ _ _ _ _, own_w4_R _ _ _ _ _ _, own_w5_R _ _ _ _ _ _, own_w6_R _ _ _ _ _ _, own_e7_R _ _ _ _ _ _⟩
theorem own_lt7 {a0 a1 a2 a3 a4 a5 a6 a7 : Int64} (h : own_RR a0 a1 a2 a3 a4 a5 a6 a7) (q : a7.toInt ≤ 4294967294) : own_W a0 a1 a2 a3 a4 a5 a6 a7 < own_P := by
  obtain ⟨⟨h0, g0⟩, ⟨h1, g1⟩, ⟨h2, g2⟩, ⟨h3, g3⟩, ⟨h4, g4⟩, ⟨h5, g5⟩, ⟨h6, g6⟩, ⟨h7, g7⟩⟩ := h
  unfold own_W own_P
  omega
theorem own_bW (s : Int64) (sh : Int32) (x y z w : Int64) : own_W (own_w0 s sh x y z w) (own_w1 s sh x y z w) (own_w2 s sh x y z w) (own_w3 s sh x y z w) (own_w4 s sh x y z w) (own_w5 s sh x y z w) (own_w6 s sh x y z w) (own_e7 s sh x y z w) < own_P := by
  by_cases q : own_below (own_w0 s sh x y z w) (own_w1 s sh x y z w) (own_w2 s sh x y z w) (own_w3 s sh x y z w) (own_w4 s sh x y z w) (own_w5 s sh x y z w) (own_w6 s sh x y z w) (own_w7 s sh x y z w) = (0 : Int32)
  · have e : own_e7 s sh x y z w = (4294967294 : Int64) := if_pos q
    have r := own_bR s sh x y z w
    rw [e] at r ⊢
    exact own_lt7 r (by decide)
  · have e : own_e7 s sh x y z w = own_w7 s sh x y z w := if_neg q
    have r := own_bR s sh x y z w
    rw [e] at r ⊢
    exact own_below_lt r q
theorem own_uniq {a0 a1 a2 a3 a4 a5 a6 a7 b0 b1 b2 b3 b4 b5 b6 b7 : Int64} (ha : own_RR a0 a1 a2 a3 a4 a5 a6 a7) (hb : own_RR b0 b1 b2 b3 b4 b5 b6 b7) (h : own_W a0 a1 a2 a3 a4 a5 a6 a7 = own_W b0 b1 b2 b3 b4 b5 b6 b7) : a0 = b0 ∧ a1 = b1 ∧ a2 = b2 ∧ a3 = b3 ∧ a4 = b4 ∧ a5 = b5 ∧ a6 = b6 ∧ a7 = b7 := by
  obtain ⟨⟨h0, g0⟩, ⟨h1, g1⟩, ⟨h2, g2⟩, ⟨h3, g3⟩, ⟨h4, g4⟩, ⟨h5, g5⟩, ⟨h6, g6⟩, ⟨h7, g7⟩⟩ := ha
  obtain ⟨⟨k0, l0⟩, ⟨k1, l1⟩, ⟨k2, l2⟩, ⟨k3, l3⟩, ⟨k4, l4⟩, ⟨k5, l5⟩, ⟨k6, l6⟩, ⟨k7, l7⟩⟩ := hb
  unfold own_W at h
  simp only [← Int64.toInt_inj]
  refine ⟨?_, ?_, ?_, ?_, ?_, ?_, ?_, ?_⟩ <;> omega
theorem own_back {a0 a1 a2 a3 a4 a5 a6 a7 b0 b1 b2 b3 b4 b5 b6 b7 d0 d1 d2 d3 d4 d5 d6 d7 k0 k1 k2 k3 k4 k5 k6 k7 : Int64} (Rk : own_RR k0 k1 k2 k3 k4 k5 k6 k7) (Lk : own_W k0 k1 k2 k3 k4 k5 k6 k7 < own_P) (Ra : own_RR a0 a1 a2 a3 a4 a5 a6 a7) (La : own_W a0 a1 a2 a3 a4 a5 a6 a7 < own_P) (hS : own_W d0 d1 d2 d3 d4 d5 d6 d7 = own_W a0 a1 a2 a3 a4 a5 a6 a7 - own_W b0 b1 b2 b3 b4 b5 b6 b7 ∨ own_W d0 d1 d2 d3 d4 d5 d6 d7 = own_W a0 a1 a2 a3 a4 a5 a6 a7 - own_W b0 b1 b2 b3 b4 b5 b6 b7 + own_P) (hA : own_W k0 k1 k2 k3 k4 k5 k6 k7 = own_W d0 d1 d2 d3 d4 d5 d6 d7 + own_W b0 b1 b2 b3 b4 b5 b6 b7 ∨ own_W k0 k1 k2 k3 k4 k5 k6 k7 = own_W d0 d1 d2 d3 d4 d5 d6 d7 + own_W b0 b1 b2 b3 b4 b5 b6 b7 - own_P) : own_same k0 k1 k2 k3 k4 k5 k6 k7 a0 a1 a2 a3 a4 a5 a6 a7 = (1 : Int32) := by
  have wk := own_Wb Rk
  have wa := own_Wb Ra
  have hP : own_P = 115792089210356248762697446949407573530086143415290314195533631308867097853951 := rfl
  have e : own_W k0 k1 k2 k3 k4 k5 k6 k7 = own_W a0 a1 a2 a3 a4 a5 a6 a7 := by omega
  obtain ⟨rfl, rfl, rfl, rfl, rfl, rfl, rfl, rfl⟩ := own_uniq Rk Ra e
  exact own_same_refl
theorem own_and3 (x : Int32) : (x &&& (3 : Int32)) = (0 : Int32) ∨ (x &&& (3 : Int32)) = (1 : Int32) ∨ (x &&& (3 : Int32)) = (2 : Int32) ∨ (x &&& (3 : Int32)) = (3 : Int32) := by
  have h := c_and x 3 (by decide)
  have e3 : (3 : Int32).toInt = 3 := by decide
  simp only [← Int32.toInt_inj, show (0 : Int32).toInt = 0 by decide, show (1 : Int32).toInt = 1 by decide, show (2 : Int32).toInt = 2 by decide, e3]
  omega
theorem pd_4 : parseMethodDescriptor "(JIJJJJ)[J" = some ⟨[.long, .int, .long, .long, .long, .long], some (.array .long)⟩ := by decide +kernel
theorem pd_5 : parseMethodDescriptor "([J[J[J)V" = some ⟨[(.array .long), (.array .long), (.array .long)], none⟩ := by decide +kernel
theorem pd_6 : parseMethodDescriptor "([J[J)Z" = some ⟨[(.array .long), (.array .long)], some .boolean⟩ := by decide +kernel
theorem ef_rm0 (m : MethodId) (x0 : Int64) (x1 : Int64) (x2 : Int64) (x3 : Int64) (x4 : Int64) (x5 : Int32) : entryFrame m #[(.long x0), (.long x1), (.long x2), (.long x3), (.long x4), (.int x5)] maxLocals = mkF m 0 #[.val (.long x0), .second, .val (.long x1), .second, .val (.long x2), .second, .val (.long x3), .second, .val (.long x4), .second, .val (.int x5), .unset, .unset, .unset, .unset, .unset, .unset, .unset, .unset, .unset] [] := by first | (simp [entryFrame, mkF, argsToLocals, Value.category, maxLocals]; done) | rfl
def Q0 (Z : State) (q0 : Int64) (q1 : Int64) (q2 : Int64) (q3 : Int64) (q4 : Int64) (p5 : Int32) (wp : Addr) (kp : ClassId) (h0 : Heap) (n0 : Nat) (v : Option Value) (h : Heap) (L : List Loc) : Prop := v = some (.int 1) ∧ Fr n0 L
set_option maxRecDepth 65536 in
set_option maxHeartbeats 40000000 in
theorem rm0 (l : Launch) (Z : State) (aw : Array Value) (hw : ∀ d ∈ tables_1, d.before aw Z = true) (ws : List Jvm.Cond) (q0 : Int64) (q1 : Int64) (q2 : Int64) (q3 : Int64) (q4 : Int64) (p5 : Int32) (wp : Addr) (kp : ClassId) (h0 : Heap) (n0 : Nat) (Z0 : n0 ≤ h0.size) (SP : Sta Z h0 "com/example/serialroute/serialroute/core/P256Field" "P_WORDS" "[J" (.ref wp)) (VP : Arv Z h0 wp kp .long (8 : Int32) [(.long (4294967295 : Int64)), (.long (4294967295 : Int64)), (.long (4294967295 : Int64)), (.long (0 : Int64)), (.long (0 : Int64)), (.long (0 : Int64)), (.long (1 : Int64)), (.long (4294967295 : Int64))] (.long (0 : Int64))) :
    MetFree l x (head1 (Jvm.Cond.code x code maxLocals ret :: ws) room_1) (fun a U => a = #[(.long q0), (.long q1), (.long q2), (.long q3), (.long q4), (.int p5)] ∧ Z.Warmed39 U.vm ∧ U.heap = h0) (fun _ _ _ _ _ => True) (fun _ U oc U' => ∃ v L, oc = .returned v ∧ Q0 Z q0 q1 q2 q3 q4 p5 wp kp h0 n0 v U'.heap L ∧ FrameEnd U oc U' L room_1.cells room_1.slots) := by
  refine MetFree.of_bodySF (plainFor_of_name pn_0) hisR ?_
  intro p e s m args below meth c s₁ Bd hml0 hP hK
  obtain ⟨rfl, hZ, hh⟩ := hP
  have hx := Bd.exec
  have hby := Bd.bytes
  have hml : c.maxLocals = 20 := hml0
  have hown : s.vm.findClass "com/example/serialroute/serialroute/core/P256FieldSubtractPinLaw" = some m.cls := findClass_of_methodNamed Bd.named
  have hnm := (name_of_methodNamed Bd.named Bd.method).1
  have X0 : Stand p l e room_1 s m #[(.long q0), (.long q1), (.long q2), (.long q3), (.long q4), (.int p5)] below meth c s₁ [] 0 0 := Stand.of_body Bd
  have e0 : s₁.heap = h0 := by rw [← hh, Bd.state]; rfl
  have N0 := Fr.nil n0
  have pre0 : ∀ t, Steps p.tables e below (s₁.setTop (mkF m 0 #[.val (.long q0), .second, .val (.long q1), .second, .val (.long q2), .second, .val (.long q3), .second, .val (.long q4), .second, .val (.int p5), .unset, .unset, .unset, .unset, .unset, .unset, .unset, .unset, .unset] [])) t → Steps p.tables e below (s₁.setTop (entryFrame m #[(.long q0), (.long q1), (.long q2), (.long q3), (.long q4), (.int p5)] maxLocals)) t := fun t k => castTop (ef_rm0 m q0 q1 q2 q3 q4 p5) k
  obtain ⟨_, _, ⟨T101, L101, k101, n101⟩, -, X101, ⟨Lc101, hQ101, l101, y101, z101⟩, st101⟩ := Jvm.LawKit.callS X0 hx (y := (⟨"com/example/serialroute/serialroute/core/P256FieldSubtractPinLaw", "build", "(JIJJJJ)[J"⟩ : MethodName)) hown (mvT hZ (hw _ (List.mem_of_getElem? (i := 0) rfl))) (mvT hZ (hw _ (List.mem_of_getElem? (i := 1) rfl))) (mvT hZ (hw _ (List.mem_of_getElem? (i := 2) rfl))) (mvT hZ (hw _ (List.mem_of_getElem? (i := 3) rfl))) (by decide) (backOf (W := 0) (rm1 l Z aw hw [] q0 (0 : Int32) q1 q2 q3 q4 h0 n0 Z0 ) hZ (hw _ (List.mem_of_getElem? (i := 3) rfl)) (hw _ (List.mem_of_getElem? (i := 2) rfl)) (by decide) (by decide)) (g := (mkF m 9 #[.val (.long q0), .second, .val (.long q1), .second, .val (.long q2), .second, .val (.long q3), .second, .val (.long q4), .second, .val (.int p5), .unset, .unset, .unset, .unset, .unset, .unset, .unset, .unset, .unset] [(.long q4), (.long q3), (.long q2), (.long q1), (.int (0 : Int32)), (.long q0)])) rfl (by rw [hml]; rfl) (argsL := [(.long q0), (.int (0 : Int32)), (.long q1), (.long q2), (.long q3), (.long q4)]) (rest := []) (lenOf pd_4 rfl) rfl (by show 2 * 0 + _ ≤ _; exact Nat.le_of_eq rfl) (hb hby at_9) (fun _ _ => ⟨rfl, e0, (by decide : 0 + 1 ≤ _), (by decide : 0 + 8 ≤ _)⟩)
  dsimp only [Pt.U, Pt.locs, Pt.cells, Pt.slots] at X101 l101 y101 z101 st101 hQ101
  rw [l101, y101, z101] at X101
  obtain ⟨b101, kb101, rfl, N101q, K101q, g101q, V101q⟩ := hQ101
  have N101 := Fr.app N0 N101q
  have E101q := own_ext K101q
  have ne102 : wp ≠ b101 := Nat.ne_of_lt (Nat.lt_of_lt_of_le VP.lt g101q)
  have geb101 : n0 ≤ b101 := Nat.le_trans Z0 g101q
  have szb101 : h0.size ≤ b101 := g101q
  have f103 := SP.ext E101q
  have f104 := VP.ext E101q
  have Z101 : n0 ≤ T101.heap.size := Nat.le_trans Z0 E101q.1
  have K101 : Keep h0 T101.heap [] := (Keep.refl h0 []).ext E101q
  obtain ⟨_, _, ⟨T105, L105, k105, n105⟩, -, X105, ⟨Lc105, hQ105, l105, y105, z105⟩, st105⟩ := Jvm.LawKit.callS X101 hx (y := (⟨"com/example/serialroute/serialroute/core/P256FieldSubtractPinLaw", "build", "(JIJJJJ)[J"⟩ : MethodName)) hown (mvT hZ (hw _ (List.mem_of_getElem? (i := 0) rfl))) (mvT hZ (hw _ (List.mem_of_getElem? (i := 1) rfl))) (mvT hZ (hw _ (List.mem_of_getElem? (i := 2) rfl))) (mvT hZ (hw _ (List.mem_of_getElem? (i := 3) rfl))) (by decide) (backOf (W := 0) (rm1 l Z aw hw [] q0 (0 : Int32) q1 q2 q3 q4 T101.heap n0 Z101 ) hZ (hw _ (List.mem_of_getElem? (i := 3) rfl)) (hw _ (List.mem_of_getElem? (i := 2) rfl)) (by decide) (by decide)) (g := (mkF m 23 #[.val (.long q0), .second, .val (.long q1), .second, .val (.long q2), .second, .val (.long q3), .second, .val (.long q4), .second, .val (.int p5), .val (.ref b101), .unset, .unset, .unset, .unset, .unset, .unset, .unset, .unset] [(.long q4), (.long q3), (.long q2), (.long q1), (.int (0 : Int32)), (.long q0)])) rfl (by rw [hml]; rfl) (argsL := [(.long q0), (.int (0 : Int32)), (.long q1), (.long q2), (.long q3), (.long q4)]) (rest := []) (lenOf pd_4 rfl) rfl (by show 2 * 0 + _ ≤ _; exact Nat.le_of_eq rfl) (hb hby at_23) (fun _ _ => ⟨rfl, rfl, (by decide : 1 + 1 ≤ _), (by decide : 8 + 8 ≤ _)⟩)
  dsimp only [Pt.U, Pt.locs, Pt.cells, Pt.slots] at X105 l105 y105 z105 st105 hQ105
  rw [l105, y105, z105] at X105
  obtain ⟨b105, kb105, rfl, N105q, K105q, g105q, V105q⟩ := hQ105
  have N105 := Fr.app N101 N105q
  have E105q := own_ext K105q
  have ne106 : wp ≠ b105 := Nat.ne_of_lt (Nat.lt_of_lt_of_le f104.lt g105q)
  have ne107 : b101 ≠ b105 := Nat.ne_of_lt (Nat.lt_of_lt_of_le V101q.lt g105q)
  have geb105 : n0 ≤ b105 := Nat.le_trans Z101 g105q
  have szb105 : h0.size ≤ b105 := Nat.le_trans K101.1 g105q
  have f108 := f103.ext E105q
  have f109 := f104.ext E105q
  have f110 := V101q.ext E105q
  have Z105 : n0 ≤ T105.heap.size := Nat.le_trans Z101 E105q.1
  have K105 : Keep h0 T105.heap [] := K101.ext E105q
  obtain ⟨_, _, ⟨T111, L111, k111, n111⟩, -, X111, ⟨Lc111, hQ111, l111, y111, z111⟩, st111⟩ := Jvm.LawKit.callS X105 hx (y := (⟨"com/example/serialroute/serialroute/core/P256FieldSubtractPinLaw", "build", "(JIJJJJ)[J"⟩ : MethodName)) hown (mvT hZ (hw _ (List.mem_of_getElem? (i := 0) rfl))) (mvT hZ (hw _ (List.mem_of_getElem? (i := 1) rfl))) (mvT hZ (hw _ (List.mem_of_getElem? (i := 2) rfl))) (mvT hZ (hw _ (List.mem_of_getElem? (i := 3) rfl))) (by decide) (backOf (W := 0) (rm1 l Z aw hw [] q0 (32 : Int32) q1 q2 q3 q4 T105.heap n0 Z105 ) hZ (hw _ (List.mem_of_getElem? (i := 3) rfl)) (hw _ (List.mem_of_getElem? (i := 2) rfl)) (by decide) (by decide)) (g := (mkF m 38 #[.val (.long q0), .second, .val (.long q1), .second, .val (.long q2), .second, .val (.long q3), .second, .val (.long q4), .second, .val (.int p5), .val (.ref b101), .val (.ref b105), .unset, .unset, .unset, .unset, .unset, .unset, .unset] [(.long q4), (.long q3), (.long q2), (.long q1), (.int (32 : Int32)), (.long q0)])) rfl (by rw [hml]; rfl) (argsL := [(.long q0), (.int (32 : Int32)), (.long q1), (.long q2), (.long q3), (.long q4)]) (rest := []) (lenOf pd_4 rfl) rfl (by show 2 * 0 + _ ≤ _; exact Nat.le_of_eq rfl) (hb hby at_38) (fun _ _ => ⟨rfl, rfl, (by decide : 2 + 1 ≤ _), (by decide : 16 + 8 ≤ _)⟩)
  dsimp only [Pt.U, Pt.locs, Pt.cells, Pt.slots] at X111 l111 y111 z111 st111 hQ111
  rw [l111, y111, z111] at X111
  obtain ⟨b111, kb111, rfl, N111q, K111q, g111q, V111q⟩ := hQ111
  have N111 := Fr.app N105 N111q
  have E111q := own_ext K111q
  have ne112 : wp ≠ b111 := Nat.ne_of_lt (Nat.lt_of_lt_of_le f109.lt g111q)
  have ne113 : b101 ≠ b111 := Nat.ne_of_lt (Nat.lt_of_lt_of_le f110.lt g111q)
  have ne114 : b105 ≠ b111 := Nat.ne_of_lt (Nat.lt_of_lt_of_le V105q.lt g111q)
  have geb111 : n0 ≤ b111 := Nat.le_trans Z105 g111q
  have szb111 : h0.size ≤ b111 := Nat.le_trans K105.1 g111q
  have f115 := f108.ext E111q
  have f116 := f109.ext E111q
  have f117 := f110.ext E111q
  have f118 := V105q.ext E111q
  have Z111 : n0 ≤ T111.heap.size := Nat.le_trans Z105 E111q.1
  have K111 : Keep h0 T111.heap [] := K105.ext E111q
  obtain ⟨_, _, ⟨T119, L119, k119, n119⟩, -, X119, ⟨Lc119, hQ119, l119, y119, z119⟩, st119⟩ := Jvm.LawKit.callS X111 hx (y := (⟨"com/example/serialroute/serialroute/core/P256FieldSubtractPinLaw", "build", "(JIJJJJ)[J"⟩ : MethodName)) hown (mvT hZ (hw _ (List.mem_of_getElem? (i := 0) rfl))) (mvT hZ (hw _ (List.mem_of_getElem? (i := 1) rfl))) (mvT hZ (hw _ (List.mem_of_getElem? (i := 2) rfl))) (mvT hZ (hw _ (List.mem_of_getElem? (i := 3) rfl))) (by decide) (backOf (W := 0) (rm1 l Z aw hw [] q0 (32 : Int32) q1 q2 q3 q4 T111.heap n0 Z111 ) hZ (hw _ (List.mem_of_getElem? (i := 3) rfl)) (hw _ (List.mem_of_getElem? (i := 2) rfl)) (by decide) (by decide)) (g := (mkF m 53 #[.val (.long q0), .second, .val (.long q1), .second, .val (.long q2), .second, .val (.long q3), .second, .val (.long q4), .second, .val (.int p5), .val (.ref b101), .val (.ref b105), .val (.ref b111), .unset, .unset, .unset, .unset, .unset, .unset] [(.long q4), (.long q3), (.long q2), (.long q1), (.int (32 : Int32)), (.long q0)])) rfl (by rw [hml]; rfl) (argsL := [(.long q0), (.int (32 : Int32)), (.long q1), (.long q2), (.long q3), (.long q4)]) (rest := []) (lenOf pd_4 rfl) rfl (by show 2 * 0 + _ ≤ _; exact Nat.le_of_eq rfl) (hb hby at_53) (fun _ _ => ⟨rfl, rfl, (by decide : 3 + 1 ≤ _), (by decide : 24 + 8 ≤ _)⟩)
  dsimp only [Pt.U, Pt.locs, Pt.cells, Pt.slots] at X119 l119 y119 z119 st119 hQ119
  rw [l119, y119, z119] at X119
  obtain ⟨b119, kb119, rfl, N119q, K119q, g119q, V119q⟩ := hQ119
  have N119 := Fr.app N111 N119q
  have E119q := own_ext K119q
  have ne120 : wp ≠ b119 := Nat.ne_of_lt (Nat.lt_of_lt_of_le f116.lt g119q)
  have ne121 : b101 ≠ b119 := Nat.ne_of_lt (Nat.lt_of_lt_of_le f117.lt g119q)
  have ne122 : b105 ≠ b119 := Nat.ne_of_lt (Nat.lt_of_lt_of_le f118.lt g119q)
  have ne123 : b111 ≠ b119 := Nat.ne_of_lt (Nat.lt_of_lt_of_le V111q.lt g119q)
  have geb119 : n0 ≤ b119 := Nat.le_trans Z111 g119q
  have szb119 : h0.size ≤ b119 := Nat.le_trans K111.1 g119q
  have f124 := f115.ext E119q
  have f125 := f116.ext E119q
  have f126 := f117.ext E119q
  have f127 := f118.ext E119q
  have f128 := V111q.ext E119q
  have Z119 : n0 ≤ T119.heap.size := Nat.le_trans Z111 E119q.1
  have K119 : Keep h0 T119.heap [] := K111.ext E119q
  obtain ⟨T129, h129, k129, X129, e129, E129, A129, st129⟩ := newP X119 hx hZ (hw _ (List.mem_of_getElem? (i := 4) rfl)) rfl (g := (mkF m 60 #[.val (.long q0), .second, .val (.long q1), .second, .val (.long q2), .second, .val (.long q3), .second, .val (.long q4), .second, .val (.int p5), .val (.ref b101), .val (.ref b105), .val (.ref b111), .val (.ref b119), .unset, .unset, .unset, .unset, .unset] [(.int (8 : Int32))])) rfl (hb hby at_60) rfl (by decide) (cap := 8) (by decide) (by decide) (by decide) (by decide)
  obtain ⟨b129, g129⟩ : ∃ z, z = T119.heap.size := ⟨_, rfl⟩
  rw [← g129] at A129 st129
  have ne130 : wp ≠ b129 := Nat.ne_of_lt (Nat.lt_of_lt_of_le f125.lt (Nat.le_of_eq g129.symm))
  have ne131 : b101 ≠ b129 := Nat.ne_of_lt (Nat.lt_of_lt_of_le f126.lt (Nat.le_of_eq g129.symm))
  have ne132 : b105 ≠ b129 := Nat.ne_of_lt (Nat.lt_of_lt_of_le f127.lt (Nat.le_of_eq g129.symm))
  have ne133 : b111 ≠ b129 := Nat.ne_of_lt (Nat.lt_of_lt_of_le f128.lt (Nat.le_of_eq g129.symm))
  have ne134 : b119 ≠ b129 := Nat.ne_of_lt (Nat.lt_of_lt_of_le V119q.lt (Nat.le_of_eq g129.symm))
  have ge129 : n0 ≤ b129 := Nat.le_trans Z119 (Nat.le_of_eq g129.symm)
  have sz129 : h0.size ≤ b129 := Nat.le_trans K119.1 (Nat.le_of_eq g129.symm)
  have f135 := f124.ext E129
  have f136 := f125.ext E129
  have f137 := f126.ext E129
  have f138 := f127.ext E129
  have f139 := f128.ext E129
  have f140 := V119q.ext E129
  have Z129 : n0 ≤ h129.size := Nat.le_trans Z119 E129.1
  have K129 : Keep h0 h129 [] := K119.ext E129
  have V129 : Arv Z h129 b129 k129 .long (8 : Int32) [(.long (0 : Int64)), (.long (0 : Int64)), (.long (0 : Int64)), (.long (0 : Int64)), (.long (0 : Int64)), (.long (0 : Int64)), (.long (0 : Int64)), (.long (0 : Int64))] (.long (0 : Int64)) := (Arv.new A129 (by decide)).pad (pad_rep [] (.long (0 : Int64)) 8)
  obtain ⟨T141, h141, k141, X141, e141, E141, A141, st141⟩ := newP X129 hx hZ (hw _ (List.mem_of_getElem? (i := 4) rfl)) e129 (g := (mkF m 66 #[.val (.long q0), .second, .val (.long q1), .second, .val (.long q2), .second, .val (.long q3), .second, .val (.long q4), .second, .val (.int p5), .val (.ref b101), .val (.ref b105), .val (.ref b111), .val (.ref b119), .val (.ref b129), .unset, .unset, .unset, .unset] [(.int (8 : Int32))])) rfl (hb hby at_66) rfl (by decide) (cap := 8) (by decide) (by decide) (by decide) (by decide)
  obtain ⟨b141, g141⟩ : ∃ z, z = h129.size := ⟨_, rfl⟩
  rw [← g141] at A141 st141
  have ne142 : wp ≠ b141 := Nat.ne_of_lt (Nat.lt_of_lt_of_le f136.lt (Nat.le_of_eq g141.symm))
  have ne143 : b101 ≠ b141 := Nat.ne_of_lt (Nat.lt_of_lt_of_le f137.lt (Nat.le_of_eq g141.symm))
  have ne144 : b105 ≠ b141 := Nat.ne_of_lt (Nat.lt_of_lt_of_le f138.lt (Nat.le_of_eq g141.symm))
  have ne145 : b111 ≠ b141 := Nat.ne_of_lt (Nat.lt_of_lt_of_le f139.lt (Nat.le_of_eq g141.symm))
  have ne146 : b119 ≠ b141 := Nat.ne_of_lt (Nat.lt_of_lt_of_le f140.lt (Nat.le_of_eq g141.symm))
  have ne147 : b129 ≠ b141 := Nat.ne_of_lt (Nat.lt_of_lt_of_le V129.lt (Nat.le_of_eq g141.symm))
  have ge141 : n0 ≤ b141 := Nat.le_trans Z129 (Nat.le_of_eq g141.symm)
  have sz141 : h0.size ≤ b141 := Nat.le_trans K129.1 (Nat.le_of_eq g141.symm)
  have f148 := f135.ext E141
  have f149 := f136.ext E141
  have f150 := f137.ext E141
  have f151 := f138.ext E141
  have f152 := f139.ext E141
  have f153 := f140.ext E141
  have f154 := V129.ext E141
  have Z141 : n0 ≤ h141.size := Nat.le_trans Z129 E141.1
  have K141 : Keep h0 h141 [] := K129.ext E141
  have V141 : Arv Z h141 b141 k141 .long (8 : Int32) [(.long (0 : Int64)), (.long (0 : Int64)), (.long (0 : Int64)), (.long (0 : Int64)), (.long (0 : Int64)), (.long (0 : Int64)), (.long (0 : Int64)), (.long (0 : Int64))] (.long (0 : Int64)) := (Arv.new A141 (by decide)).pad (pad_rep [] (.long (0 : Int64)) 8)
  have pre155 : ∀ t, Steps p.tables e below (T141.setTop (mkF m 74 #[.val (.long q0), .second, .val (.long q1), .second, .val (.long q2), .second, .val (.long q3), .second, .val (.long q4), .second, .val (.int p5), .val (.ref b101), .val (.ref b105), .val (.ref b111), .val (.ref b119), .val (.ref b129), .val (.ref b141), .unset, .unset, .unset] [(.int (p5 &&& (3 : Int32)))])) t → Steps p.tables e below (s₁.setTop (entryFrame m #[(.long q0), (.long q1), (.long q2), (.long q3), (.long q4), (.int p5)] maxLocals)) t := fun t k => by
    refine pre0 t ?_
    show Steps p.tables e below (s₁.setTop (mkF m 0 #[.val (.long q0), .second, .val (.long q1), .second, .val (.long q2), .second, .val (.long q3), .second, .val (.long q4), .second, .val (.int p5), .unset, .unset, .unset, .unset, .unset, .unset, .unset, .unset, .unset] [])) _
    refine XS.lloadN X0.here hx rfl (hb hby at_0) rfl ?_
    refine XS.iconst X0.here hx rfl (hb hby at_1) ?_
    refine XS.lloadN X0.here hx rfl (hb hby at_2) rfl ?_
    refine XS.lload X0.here hx rfl (hb hby at_3) rfl ?_
    show Steps p.tables e below (s₁.setTop (mkF m 5 #[.val (.long q0), .second, .val (.long q1), .second, .val (.long q2), .second, .val (.long q3), .second, .val (.long q4), .second, .val (.int p5), .unset, .unset, .unset, .unset, .unset, .unset, .unset, .unset, .unset] [(.long q2), (.long q1), (.int (0 : Int32)), (.long q0)])) _
    refine XS.lload X0.here hx rfl (hb hby at_5) rfl ?_
    refine XS.lload X0.here hx rfl (hb hby at_7) rfl ?_
    show Steps p.tables e below (s₁.setTop (mkF m 9 #[.val (.long q0), .second, .val (.long q1), .second, .val (.long q2), .second, .val (.long q3), .second, .val (.long q4), .second, .val (.int p5), .unset, .unset, .unset, .unset, .unset, .unset, .unset, .unset, .unset] [(.long q4), (.long q3), (.long q2), (.long q1), (.int (0 : Int32)), (.long q0)])) _
    refine st101 _ ?_
    refine XS.astore X101.here hx rfl (hb hby at_12) rfl rfl (l' := #[.val (.long q0), .second, .val (.long q1), .second, .val (.long q2), .second, .val (.long q3), .second, .val (.long q4), .second, .val (.int p5), .val (.ref b101), .unset, .unset, .unset, .unset, .unset, .unset, .unset, .unset]) rfl ?_
    refine XS.lloadN X101.here hx rfl (hb hby at_14) rfl ?_
    refine XS.iconst X101.here hx rfl (hb hby at_15) ?_
    show Steps p.tables e below (T101.setTop (mkF m 16 #[.val (.long q0), .second, .val (.long q1), .second, .val (.long q2), .second, .val (.long q3), .second, .val (.long q4), .second, .val (.int p5), .val (.ref b101), .unset, .unset, .unset, .unset, .unset, .unset, .unset, .unset] [(.int (0 : Int32)), (.long q0)])) _
    refine XS.lloadN X101.here hx rfl (hb hby at_16) rfl ?_
    refine XS.lload X101.here hx rfl (hb hby at_17) rfl ?_
    refine XS.lload X101.here hx rfl (hb hby at_19) rfl ?_
    refine XS.lload X101.here hx rfl (hb hby at_21) rfl ?_
    show Steps p.tables e below (T101.setTop (mkF m 23 #[.val (.long q0), .second, .val (.long q1), .second, .val (.long q2), .second, .val (.long q3), .second, .val (.long q4), .second, .val (.int p5), .val (.ref b101), .unset, .unset, .unset, .unset, .unset, .unset, .unset, .unset] [(.long q4), (.long q3), (.long q2), (.long q1), (.int (0 : Int32)), (.long q0)])) _
    refine st105 _ ?_
    refine XS.astore X105.here hx rfl (hb hby at_26) rfl rfl (l' := #[.val (.long q0), .second, .val (.long q1), .second, .val (.long q2), .second, .val (.long q3), .second, .val (.long q4), .second, .val (.int p5), .val (.ref b101), .val (.ref b105), .unset, .unset, .unset, .unset, .unset, .unset, .unset]) rfl ?_
    refine XS.lloadN X105.here hx rfl (hb hby at_28) rfl ?_
    refine XS.bipush X105.here hx rfl (hb hby at_29) ?_
    show Steps p.tables e below (T105.setTop (mkF m 31 #[.val (.long q0), .second, .val (.long q1), .second, .val (.long q2), .second, .val (.long q3), .second, .val (.long q4), .second, .val (.int p5), .val (.ref b101), .val (.ref b105), .unset, .unset, .unset, .unset, .unset, .unset, .unset] [(.int (32 : Int32)), (.long q0)])) _
    refine XS.lloadN X105.here hx rfl (hb hby at_31) rfl ?_
    refine XS.lload X105.here hx rfl (hb hby at_32) rfl ?_
    refine XS.lload X105.here hx rfl (hb hby at_34) rfl ?_
    refine XS.lload X105.here hx rfl (hb hby at_36) rfl ?_
    show Steps p.tables e below (T105.setTop (mkF m 38 #[.val (.long q0), .second, .val (.long q1), .second, .val (.long q2), .second, .val (.long q3), .second, .val (.long q4), .second, .val (.int p5), .val (.ref b101), .val (.ref b105), .unset, .unset, .unset, .unset, .unset, .unset, .unset] [(.long q4), (.long q3), (.long q2), (.long q1), (.int (32 : Int32)), (.long q0)])) _
    refine st111 _ ?_
    refine XS.astore X111.here hx rfl (hb hby at_41) rfl rfl (l' := #[.val (.long q0), .second, .val (.long q1), .second, .val (.long q2), .second, .val (.long q3), .second, .val (.long q4), .second, .val (.int p5), .val (.ref b101), .val (.ref b105), .val (.ref b111), .unset, .unset, .unset, .unset, .unset, .unset]) rfl ?_
    refine XS.lloadN X111.here hx rfl (hb hby at_43) rfl ?_
    refine XS.bipush X111.here hx rfl (hb hby at_44) ?_
    show Steps p.tables e below (T111.setTop (mkF m 46 #[.val (.long q0), .second, .val (.long q1), .second, .val (.long q2), .second, .val (.long q3), .second, .val (.long q4), .second, .val (.int p5), .val (.ref b101), .val (.ref b105), .val (.ref b111), .unset, .unset, .unset, .unset, .unset, .unset] [(.int (32 : Int32)), (.long q0)])) _
    refine XS.lloadN X111.here hx rfl (hb hby at_46) rfl ?_
    refine XS.lload X111.here hx rfl (hb hby at_47) rfl ?_
    refine XS.lload X111.here hx rfl (hb hby at_49) rfl ?_
    refine XS.lload X111.here hx rfl (hb hby at_51) rfl ?_
    show Steps p.tables e below (T111.setTop (mkF m 53 #[.val (.long q0), .second, .val (.long q1), .second, .val (.long q2), .second, .val (.long q3), .second, .val (.long q4), .second, .val (.int p5), .val (.ref b101), .val (.ref b105), .val (.ref b111), .unset, .unset, .unset, .unset, .unset, .unset] [(.long q4), (.long q3), (.long q2), (.long q1), (.int (32 : Int32)), (.long q0)])) _
    refine st119 _ ?_
    refine XS.astore X119.here hx rfl (hb hby at_56) rfl rfl (l' := #[.val (.long q0), .second, .val (.long q1), .second, .val (.long q2), .second, .val (.long q3), .second, .val (.long q4), .second, .val (.int p5), .val (.ref b101), .val (.ref b105), .val (.ref b111), .val (.ref b119), .unset, .unset, .unset, .unset, .unset]) rfl ?_
    refine XS.bipush X119.here hx rfl (hb hby at_58) ?_
    show Steps p.tables e below (T119.setTop (mkF m 60 #[.val (.long q0), .second, .val (.long q1), .second, .val (.long q2), .second, .val (.long q3), .second, .val (.long q4), .second, .val (.int p5), .val (.ref b101), .val (.ref b105), .val (.ref b111), .val (.ref b119), .unset, .unset, .unset, .unset, .unset] [(.int (8 : Int32))])) _
    refine st129 _ ?_
    refine XS.astore X129.here hx rfl (hb hby at_62) rfl rfl (l' := #[.val (.long q0), .second, .val (.long q1), .second, .val (.long q2), .second, .val (.long q3), .second, .val (.long q4), .second, .val (.int p5), .val (.ref b101), .val (.ref b105), .val (.ref b111), .val (.ref b119), .val (.ref b129), .unset, .unset, .unset, .unset]) rfl ?_
    refine XS.bipush X129.here hx rfl (hb hby at_64) ?_
    show Steps p.tables e below (T129.setTop (mkF m 66 #[.val (.long q0), .second, .val (.long q1), .second, .val (.long q2), .second, .val (.long q3), .second, .val (.long q4), .second, .val (.int p5), .val (.ref b101), .val (.ref b105), .val (.ref b111), .val (.ref b119), .val (.ref b129), .unset, .unset, .unset, .unset] [(.int (8 : Int32))])) _
    refine st141 _ ?_
    refine XS.astore X141.here hx rfl (hb hby at_68) rfl rfl (l' := #[.val (.long q0), .second, .val (.long q1), .second, .val (.long q2), .second, .val (.long q3), .second, .val (.long q4), .second, .val (.int p5), .val (.ref b101), .val (.ref b105), .val (.ref b111), .val (.ref b119), .val (.ref b129), .val (.ref b141), .unset, .unset, .unset]) rfl ?_
    refine XS.iload X141.here hx rfl (hb hby at_70) rfl ?_
    refine XS.iconst X141.here hx rfl (hb hby at_72) ?_
    show Steps p.tables e below (T141.setTop (mkF m 73 #[.val (.long q0), .second, .val (.long q1), .second, .val (.long q2), .second, .val (.long q3), .second, .val (.long q4), .second, .val (.int p5), .val (.ref b101), .val (.ref b105), .val (.ref b111), .val (.ref b119), .val (.ref b129), .val (.ref b141), .unset, .unset, .unset] [(.int (3 : Int32)), (.int p5)])) _
    refine XS.iand X141.here hx rfl (hb hby at_73) rfl ?_
    exact k
  have hk := own_and3 p5
  obtain ⟨k, gk⟩ : ∃ z, z = (p5 &&& (3 : Int32)) := ⟨_, rfl⟩
  rw [← gk] at hk pre155
  rcases hk with rfl | rfl | rfl | rfl
  · skip
    obtain ⟨_, _, ⟨T156, L156, k156, n156⟩, -, X156, ⟨Lc156, hQ156, l156, y156, z156⟩, st156⟩ := Jvm.LawKit.callS X141 hx (y := (⟨"com/example/serialroute/serialroute/core/P256Field", "subtract", "([J[J[J)V"⟩ : MethodName)) hown (mvT hZ (hw _ (List.mem_of_getElem? (i := 13) rfl))) (mvT hZ (hw _ (List.mem_of_getElem? (i := 14) rfl))) (mvT hZ (hw _ (List.mem_of_getElem? (i := 15) rfl))) (mvT hZ (hw _ (List.mem_of_getElem? (i := 16) rfl))) (by decide) (backOf (W := 0) (rm_subtract_d l Z aw hw [] b129 b101 b111 wp kp k129 kb101 kb111 (0 : Int64) (0 : Int64) (0 : Int64) (0 : Int64) (0 : Int64) (0 : Int64) (0 : Int64) (0 : Int64) (own_w0 q0 (0 : Int32) q1 q2 q3 q4) (own_w1 q0 (0 : Int32) q1 q2 q3 q4) (own_w2 q0 (0 : Int32) q1 q2 q3 q4) (own_w3 q0 (0 : Int32) q1 q2 q3 q4) (own_w4 q0 (0 : Int32) q1 q2 q3 q4) (own_w5 q0 (0 : Int32) q1 q2 q3 q4) (own_w6 q0 (0 : Int32) q1 q2 q3 q4) (own_e7 q0 (0 : Int32) q1 q2 q3 q4) (own_w0 q0 (32 : Int32) q1 q2 q3 q4) (own_w1 q0 (32 : Int32) q1 q2 q3 q4) (own_w2 q0 (32 : Int32) q1 q2 q3 q4) (own_w3 q0 (32 : Int32) q1 q2 q3 q4) (own_w4 q0 (32 : Int32) q1 q2 q3 q4) (own_w5 q0 (32 : Int32) q1 q2 q3 q4) (own_w6 q0 (32 : Int32) q1 q2 q3 q4) (own_e7 q0 (32 : Int32) q1 q2 q3 q4) h141 n0 Z141 f148 f149 f154 f150 f152 ge129 ne130 (Ne.symm ne131) (Ne.symm ne133) (own_bR q0 (0 : Int32) q1 q2 q3 q4) (own_bW q0 (0 : Int32) q1 q2 q3 q4) (own_bR q0 (32 : Int32) q1 q2 q3 q4) (own_bW q0 (32 : Int32) q1 q2 q3 q4)) hZ (hw _ (List.mem_of_getElem? (i := 16) rfl)) (hw _ (List.mem_of_getElem? (i := 15) rfl)) (by decide) (by decide)) (g := (mkF m 91 #[.val (.long q0), .second, .val (.long q1), .second, .val (.long q2), .second, .val (.long q3), .second, .val (.long q4), .second, .val (.int p5), .val (.ref b101), .val (.ref b105), .val (.ref b111), .val (.ref b119), .val (.ref b129), .val (.ref b141), .val (.int (0 : Int32)), .unset, .val (.ref b119)] [(.ref b111), (.ref b101), (.ref b129)])) rfl (by rw [hml]; rfl) (argsL := [(.ref b129), (.ref b101), (.ref b111)]) (rest := []) (lenOf pd_5 rfl) rfl (by show 2 * 0 + _ ≤ _; exact Nat.le_of_eq rfl) (hb hby at_91) (fun _ _ => ⟨rfl, e141, (by decide : 6 + 0 ≤ _), (by decide : 48 + 0 ≤ _)⟩)
    dsimp only [Pt.U, Pt.locs, Pt.cells, Pt.slots] at X156 l156 y156 z156 st156 hQ156
    rw [l156, y156, z156] at X156
    obtain ⟨rfl, N156q, K156q, o156_0, o156_1, o156_2, o156_3, o156_4, o156_5, o156_6, o156_7, V156q, R156q, L156q, D156q⟩ := hQ156
    have N156 := Fr.app N119 N156q
    have f157 := own_sta_keep f148 K156q (nsS f154.nostat ns0)
    have f158 := f149.keep K156q (ninS ne130 nin0)
    have f159 := f150.keep K156q (ninS ne131 nin0)
    have f160 := f151.keep K156q (ninS ne132 nin0)
    have f161 := f152.keep K156q (ninS ne133 nin0)
    have f162 := f153.keep K156q (ninS ne134 nin0)
    have f163 := V141.keep K156q (ninS (Ne.symm ne147) nin0)
    have Z156 : n0 ≤ T156.heap.size := Nat.le_trans Z141 K156q.1
    have K156 : Keep h0 T156.heap [] := K141.trans K156q (allS (Or.inr sz129) all0)
    obtain ⟨_, _, ⟨T164, L164, k164, n164⟩, -, X164, ⟨Lc164, hQ164, l164, y164, z164⟩, st164⟩ := Jvm.LawKit.callS X156 hx (y := (⟨"com/example/serialroute/serialroute/core/P256FieldSubtractPinLaw", "same", "([J[J)Z"⟩ : MethodName)) hown (mvT hZ (hw _ (List.mem_of_getElem? (i := 18) rfl))) (mvT hZ (hw _ (List.mem_of_getElem? (i := 19) rfl))) (mvT hZ (hw _ (List.mem_of_getElem? (i := 2) rfl))) (mvT hZ (hw _ (List.mem_of_getElem? (i := 20) rfl))) (by decide) (backOf (W := 0) (rm5 l Z aw hw [] b101 b105 kb101 kb105 (own_w0 q0 (0 : Int32) q1 q2 q3 q4) (own_w1 q0 (0 : Int32) q1 q2 q3 q4) (own_w2 q0 (0 : Int32) q1 q2 q3 q4) (own_w3 q0 (0 : Int32) q1 q2 q3 q4) (own_w4 q0 (0 : Int32) q1 q2 q3 q4) (own_w5 q0 (0 : Int32) q1 q2 q3 q4) (own_w6 q0 (0 : Int32) q1 q2 q3 q4) (own_e7 q0 (0 : Int32) q1 q2 q3 q4) (own_w0 q0 (0 : Int32) q1 q2 q3 q4) (own_w1 q0 (0 : Int32) q1 q2 q3 q4) (own_w2 q0 (0 : Int32) q1 q2 q3 q4) (own_w3 q0 (0 : Int32) q1 q2 q3 q4) (own_w4 q0 (0 : Int32) q1 q2 q3 q4) (own_w5 q0 (0 : Int32) q1 q2 q3 q4) (own_w6 q0 (0 : Int32) q1 q2 q3 q4) (own_e7 q0 (0 : Int32) q1 q2 q3 q4) T156.heap n0 Z156 f159 f160) hZ (hw _ (List.mem_of_getElem? (i := 20) rfl)) (hw _ (List.mem_of_getElem? (i := 2) rfl)) (by decide) (by decide)) (g := (mkF m 177 #[.val (.long q0), .second, .val (.long q1), .second, .val (.long q2), .second, .val (.long q3), .second, .val (.long q4), .second, .val (.int p5), .val (.ref b101), .val (.ref b105), .val (.ref b111), .val (.ref b119), .val (.ref b129), .val (.ref b141), .val (.int (0 : Int32)), .val (.ref b129), .val (.ref b119)] [(.ref b105), (.ref b101)])) rfl (by rw [hml]; rfl) (argsL := [(.ref b101), (.ref b105)]) (rest := []) (lenOf pd_6 rfl) rfl (by show 2 * 0 + _ ≤ _; exact Nat.le_of_eq rfl) (hb hby at_177) (fun _ _ => ⟨rfl, rfl, (by decide : 6 + 0 ≤ _), (by decide : 48 + 0 ≤ _)⟩)
    dsimp only [Pt.U, Pt.locs, Pt.cells, Pt.slots] at X164 l164 y164 z164 st164 hQ164
    rw [l164, y164, z164] at X164
    obtain ⟨hv164, N164q, e164⟩ := hQ164
    rw [own_same_refl] at hv164
    subst hv164
    have N164 := Fr.app N156 N164q
    obtain ⟨_, _, ⟨T165, L165, k165, n165⟩, -, X165, ⟨Lc165, hQ165, l165, y165, z165⟩, st165⟩ := Jvm.LawKit.callS X164 hx (y := (⟨"com/example/serialroute/serialroute/core/P256FieldSubtractPinLaw", "same", "([J[J)Z"⟩ : MethodName)) hown (mvT hZ (hw _ (List.mem_of_getElem? (i := 18) rfl))) (mvT hZ (hw _ (List.mem_of_getElem? (i := 19) rfl))) (mvT hZ (hw _ (List.mem_of_getElem? (i := 2) rfl))) (mvT hZ (hw _ (List.mem_of_getElem? (i := 20) rfl))) (by decide) (backOf (W := 0) (rm5 l Z aw hw [] b111 b119 kb111 kb119 (own_w0 q0 (32 : Int32) q1 q2 q3 q4) (own_w1 q0 (32 : Int32) q1 q2 q3 q4) (own_w2 q0 (32 : Int32) q1 q2 q3 q4) (own_w3 q0 (32 : Int32) q1 q2 q3 q4) (own_w4 q0 (32 : Int32) q1 q2 q3 q4) (own_w5 q0 (32 : Int32) q1 q2 q3 q4) (own_w6 q0 (32 : Int32) q1 q2 q3 q4) (own_e7 q0 (32 : Int32) q1 q2 q3 q4) (own_w0 q0 (32 : Int32) q1 q2 q3 q4) (own_w1 q0 (32 : Int32) q1 q2 q3 q4) (own_w2 q0 (32 : Int32) q1 q2 q3 q4) (own_w3 q0 (32 : Int32) q1 q2 q3 q4) (own_w4 q0 (32 : Int32) q1 q2 q3 q4) (own_w5 q0 (32 : Int32) q1 q2 q3 q4) (own_w6 q0 (32 : Int32) q1 q2 q3 q4) (own_e7 q0 (32 : Int32) q1 q2 q3 q4) T156.heap n0 Z156 f161 f162) hZ (hw _ (List.mem_of_getElem? (i := 20) rfl)) (hw _ (List.mem_of_getElem? (i := 2) rfl)) (by decide) (by decide)) (g := (mkF m 200 #[.val (.long q0), .second, .val (.long q1), .second, .val (.long q2), .second, .val (.long q3), .second, .val (.long q4), .second, .val (.int p5), .val (.ref b101), .val (.ref b105), .val (.ref b111), .val (.ref b119), .val (.ref b129), .val (.ref b141), .val (.int (0 : Int32)), .val (.ref b129), .val (.ref b119)] [(.ref b119), (.ref b111)])) rfl (by rw [hml]; rfl) (argsL := [(.ref b111), (.ref b119)]) (rest := []) (lenOf pd_6 rfl) rfl (by show 2 * 0 + _ ≤ _; exact Nat.le_of_eq rfl) (hb hby at_200) (fun _ _ => ⟨rfl, e164, (by decide : 6 + 0 ≤ _), (by decide : 48 + 0 ≤ _)⟩)
    dsimp only [Pt.U, Pt.locs, Pt.cells, Pt.slots] at X165 l165 y165 z165 st165 hQ165
    rw [l165, y165, z165] at X165
    obtain ⟨hv165, N165q, e165⟩ := hQ165
    rw [own_same_refl] at hv165
    subst hv165
    have N165 := Fr.app N164 N165q
    obtain ⟨_, _, ⟨T166, L166, k166, n166⟩, -, X166, ⟨Lc166, hQ166, l166, y166, z166⟩, st166⟩ := Jvm.LawKit.callS X165 hx (y := (⟨"com/example/serialroute/serialroute/core/P256FieldSubtractPinLaw", "canonical", "([J)Z"⟩ : MethodName)) hown (mvT hZ (hw _ (List.mem_of_getElem? (i := 21) rfl))) (mvT hZ (hw _ (List.mem_of_getElem? (i := 22) rfl))) (mvT hZ (hw _ (List.mem_of_getElem? (i := 2) rfl))) (mvT hZ (hw _ (List.mem_of_getElem? (i := 23) rfl))) (by decide) (backOf (W := 0) (rm6 l Z aw hw [] b129 k129 o156_0 o156_1 o156_2 o156_3 o156_4 o156_5 o156_6 o156_7 T156.heap n0 Z156 V156q R156q L156q) hZ (hw _ (List.mem_of_getElem? (i := 23) rfl)) (hw _ (List.mem_of_getElem? (i := 2) rfl)) (by decide) (by decide)) (g := (mkF m 210 #[.val (.long q0), .second, .val (.long q1), .second, .val (.long q2), .second, .val (.long q3), .second, .val (.long q4), .second, .val (.int p5), .val (.ref b101), .val (.ref b105), .val (.ref b111), .val (.ref b119), .val (.ref b129), .val (.ref b141), .val (.int (0 : Int32)), .val (.ref b129), .val (.ref b119)] [(.ref b129)])) rfl (by rw [hml]; rfl) (argsL := [(.ref b129)]) (rest := []) (lenOf pd_1 rfl) rfl (by show 2 * 0 + _ ≤ _; exact Nat.le_of_eq rfl) (hb hby at_210) (fun _ _ => ⟨rfl, e165, (by decide : 6 + 0 ≤ _), (by decide : 48 + 0 ≤ _)⟩)
    dsimp only [Pt.U, Pt.locs, Pt.cells, Pt.slots] at X166 l166 y166 z166 st166 hQ166
    rw [l166, y166, z166] at X166
    obtain ⟨rfl, N166q, e166⟩ := hQ166
    have N166 := Fr.app N165 N166q
    obtain ⟨_, _, ⟨T167, L167, k167, n167⟩, -, X167, ⟨Lc167, hQ167, l167, y167, z167⟩, st167⟩ := Jvm.LawKit.callS X166 hx (y := (⟨"com/example/serialroute/serialroute/core/P256Field", "add", "([J[J[J)V"⟩ : MethodName)) hown (mvT hZ (hw _ (List.mem_of_getElem? (i := 27) rfl))) (mvT hZ (hw _ (List.mem_of_getElem? (i := 28) rfl))) (mvT hZ (hw _ (List.mem_of_getElem? (i := 15) rfl))) (mvT hZ (hw _ (List.mem_of_getElem? (i := 29) rfl))) (by decide) (backOf (W := 0) (rm_add_d l Z aw hw [] b141 b129 b119 wp kp k141 k129 kb119 (0 : Int64) (0 : Int64) (0 : Int64) (0 : Int64) (0 : Int64) (0 : Int64) (0 : Int64) (0 : Int64) o156_0 o156_1 o156_2 o156_3 o156_4 o156_5 o156_6 o156_7 (own_w0 q0 (32 : Int32) q1 q2 q3 q4) (own_w1 q0 (32 : Int32) q1 q2 q3 q4) (own_w2 q0 (32 : Int32) q1 q2 q3 q4) (own_w3 q0 (32 : Int32) q1 q2 q3 q4) (own_w4 q0 (32 : Int32) q1 q2 q3 q4) (own_w5 q0 (32 : Int32) q1 q2 q3 q4) (own_w6 q0 (32 : Int32) q1 q2 q3 q4) (own_e7 q0 (32 : Int32) q1 q2 q3 q4) T156.heap n0 Z156 f157 f158 f163 V156q f162 ge141 ne142 (Ne.symm ne147) (Ne.symm ne146) R156q L156q (own_bR q0 (32 : Int32) q1 q2 q3 q4) (own_bW q0 (32 : Int32) q1 q2 q3 q4)) hZ (hw _ (List.mem_of_getElem? (i := 29) rfl)) (hw _ (List.mem_of_getElem? (i := 15) rfl)) (by decide) (by decide)) (g := (mkF m 224 #[.val (.long q0), .second, .val (.long q1), .second, .val (.long q2), .second, .val (.long q3), .second, .val (.long q4), .second, .val (.int p5), .val (.ref b101), .val (.ref b105), .val (.ref b111), .val (.ref b119), .val (.ref b129), .val (.ref b141), .val (.int (0 : Int32)), .val (.ref b129), .val (.ref b119)] [(.ref b119), (.ref b129), (.ref b141)])) rfl (by rw [hml]; rfl) (argsL := [(.ref b141), (.ref b129), (.ref b119)]) (rest := []) (lenOf pd_5 rfl) rfl (by show 2 * 0 + _ ≤ _; exact Nat.le_of_eq rfl) (hb hby at_224) (fun _ _ => ⟨rfl, e166, (by decide : 6 + 0 ≤ _), (by decide : 48 + 0 ≤ _)⟩)
    dsimp only [Pt.U, Pt.locs, Pt.cells, Pt.slots] at X167 l167 y167 z167 st167 hQ167
    rw [l167, y167, z167] at X167
    obtain ⟨rfl, N167q, K167q, o167_0, o167_1, o167_2, o167_3, o167_4, o167_5, o167_6, o167_7, V167q, R167q, L167q, D167q⟩ := hQ167
    have N167 := Fr.app N166 N167q
    have f168 := own_sta_keep f157 K167q (nsS f163.nostat ns0)
    have f169 := f158.keep K167q (ninS ne142 nin0)
    have f170 := f159.keep K167q (ninS ne143 nin0)
    have f171 := f160.keep K167q (ninS ne144 nin0)
    have f172 := f161.keep K167q (ninS ne145 nin0)
    have f173 := f162.keep K167q (ninS ne146 nin0)
    have f174 := V156q.keep K167q (ninS ne147 nin0)
    have Z167 : n0 ≤ T167.heap.size := Nat.le_trans Z156 K167q.1
    have K167 : Keep h0 T167.heap [] := K156.trans K167q (allS (Or.inr sz141) all0)
    obtain ⟨_, _, ⟨T175, L175, k175, n175⟩, -, X175, ⟨Lc175, hQ175, l175, y175, z175⟩, st175⟩ := Jvm.LawKit.callS X167 hx (y := (⟨"com/example/serialroute/serialroute/core/P256FieldSubtractPinLaw", "same", "([J[J)Z"⟩ : MethodName)) hown (mvT hZ (hw _ (List.mem_of_getElem? (i := 18) rfl))) (mvT hZ (hw _ (List.mem_of_getElem? (i := 19) rfl))) (mvT hZ (hw _ (List.mem_of_getElem? (i := 2) rfl))) (mvT hZ (hw _ (List.mem_of_getElem? (i := 20) rfl))) (by decide) (backOf (W := 0) (rm5 l Z aw hw [] b141 b105 k141 kb105 o167_0 o167_1 o167_2 o167_3 o167_4 o167_5 o167_6 o167_7 (own_w0 q0 (0 : Int32) q1 q2 q3 q4) (own_w1 q0 (0 : Int32) q1 q2 q3 q4) (own_w2 q0 (0 : Int32) q1 q2 q3 q4) (own_w3 q0 (0 : Int32) q1 q2 q3 q4) (own_w4 q0 (0 : Int32) q1 q2 q3 q4) (own_w5 q0 (0 : Int32) q1 q2 q3 q4) (own_w6 q0 (0 : Int32) q1 q2 q3 q4) (own_e7 q0 (0 : Int32) q1 q2 q3 q4) T167.heap n0 Z167 V167q f171) hZ (hw _ (List.mem_of_getElem? (i := 20) rfl)) (hw _ (List.mem_of_getElem? (i := 2) rfl)) (by decide) (by decide)) (g := (mkF m 231 #[.val (.long q0), .second, .val (.long q1), .second, .val (.long q2), .second, .val (.long q3), .second, .val (.long q4), .second, .val (.int p5), .val (.ref b101), .val (.ref b105), .val (.ref b111), .val (.ref b119), .val (.ref b129), .val (.ref b141), .val (.int (0 : Int32)), .val (.ref b129), .val (.ref b119)] [(.ref b105), (.ref b141)])) rfl (by rw [hml]; rfl) (argsL := [(.ref b141), (.ref b105)]) (rest := []) (lenOf pd_6 rfl) rfl (by show 2 * 0 + _ ≤ _; exact Nat.le_of_eq rfl) (hb hby at_231) (fun _ _ => ⟨rfl, rfl, (by decide : 6 + 0 ≤ _), (by decide : 48 + 0 ≤ _)⟩)
    dsimp only [Pt.U, Pt.locs, Pt.cells, Pt.slots] at X175 l175 y175 z175 st175 hQ175
    rw [l175, y175, z175] at X175
    obtain ⟨hv175, N175q, e175⟩ := hQ175
    rw [own_back R167q L167q (own_bR q0 (0 : Int32) q1 q2 q3 q4) (own_bW q0 (0 : Int32) q1 q2 q3 q4) D156q D167q] at hv175
    subst hv175
    have N175 := Fr.app N167 N175q
    obtain ⟨fs, hr, hrun, hended, hW, hsame⟩ := X175.leave (v := some (.int (1 : Int32))) (fun h => by rw [Bd.returns] at h; cases h)
    refine ⟨_, _, pre155 _ ?_, hrun, hended, _, _, rfl, ?_, ⟨_, rfl⟩, hW, hsame.mono (by decide) (by decide)⟩
    · show Steps p.tables e below (T141.setTop (mkF m 74 #[.val (.long q0), .second, .val (.long q1), .second, .val (.long q2), .second, .val (.long q3), .second, .val (.long q4), .second, .val (.int p5), .val (.ref b101), .val (.ref b105), .val (.ref b111), .val (.ref b119), .val (.ref b129), .val (.ref b141), .unset, .unset, .unset] [(.int (0 : Int32))])) _
      refine XS.istore X141.here hx rfl (hb hby at_74) rfl (l' := #[.val (.long q0), .second, .val (.long q1), .second, .val (.long q2), .second, .val (.long q3), .second, .val (.long q4), .second, .val (.int p5), .val (.ref b101), .val (.ref b105), .val (.ref b111), .val (.ref b119), .val (.ref b129), .val (.ref b141), .val (.int (0 : Int32)), .unset, .unset]) rfl ?_
      refine XS.aload X141.here hx rfl (hb hby at_76) rfl rfl ?_
      refine XS.astore X141.here hx rfl (hb hby at_78) rfl rfl (l' := #[.val (.long q0), .second, .val (.long q1), .second, .val (.long q2), .second, .val (.long q3), .second, .val (.long q4), .second, .val (.int p5), .val (.ref b101), .val (.ref b105), .val (.ref b111), .val (.ref b119), .val (.ref b129), .val (.ref b141), .val (.int (0 : Int32)), .unset, .val (.ref b119)]) rfl ?_
      refine XS.iload X141.here hx rfl (hb hby at_80) rfl ?_
      show Steps p.tables e below (T141.setTop (mkF m 82 #[.val (.long q0), .second, .val (.long q1), .second, .val (.long q2), .second, .val (.long q3), .second, .val (.long q4), .second, .val (.int p5), .val (.ref b101), .val (.ref b105), .val (.ref b111), .val (.ref b119), .val (.ref b129), .val (.ref b141), .val (.int (0 : Int32)), .unset, .val (.ref b119)] [(.int (0 : Int32))])) _
      refine XS.ifNo X141.here hx rfl (hb hby at_82) rfl ((if0 _ _).trans (teq (by decide : (0 : Int32) = (0 : Int32))).2) ?_
      refine XS.aload X141.here hx rfl (hb hby at_85) rfl rfl ?_
      refine XS.aload X141.here hx rfl (hb hby at_87) rfl rfl ?_
      refine XS.aload X141.here hx rfl (hb hby at_89) rfl rfl ?_
      show Steps p.tables e below (T141.setTop (mkF m 91 #[.val (.long q0), .second, .val (.long q1), .second, .val (.long q2), .second, .val (.long q3), .second, .val (.long q4), .second, .val (.int p5), .val (.ref b101), .val (.ref b105), .val (.ref b111), .val (.ref b119), .val (.ref b129), .val (.ref b141), .val (.int (0 : Int32)), .unset, .val (.ref b119)] [(.ref b111), (.ref b101), (.ref b129)])) _
      refine st156 _ ?_
      refine XS.aload X156.here hx rfl (hb hby at_94) rfl rfl ?_
      refine XS.astore X156.here hx rfl (hb hby at_96) rfl rfl (l' := #[.val (.long q0), .second, .val (.long q1), .second, .val (.long q2), .second, .val (.long q3), .second, .val (.long q4), .second, .val (.int p5), .val (.ref b101), .val (.ref b105), .val (.ref b111), .val (.ref b119), .val (.ref b129), .val (.ref b141), .val (.int (0 : Int32)), .val (.ref b129), .val (.ref b119)]) rfl ?_
      refine XS.goto X156.here hx rfl (pc0 := 98) (pc' := 162) rfl (hb hby at_98) (by decide) (by decide) ?_
      show Steps p.tables e below (T156.setTop (mkF m 162 #[.val (.long q0), .second, .val (.long q1), .second, .val (.long q2), .second, .val (.long q3), .second, .val (.long q4), .second, .val (.int p5), .val (.ref b101), .val (.ref b105), .val (.ref b111), .val (.ref b119), .val (.ref b129), .val (.ref b141), .val (.int (0 : Int32)), .val (.ref b129), .val (.ref b119)] [])) _
      refine XS.iload X156.here hx rfl (hb hby at_162) rfl ?_
      refine XS.ifYes X156.here hx rfl (pc0 := 164) (pc' := 173) rfl (hb hby at_164) rfl ((if0 _ _).trans (teq (by decide : (0 : Int32) = (0 : Int32))).1) (by decide) (by decide) ?_
      refine XS.aload X156.here hx rfl (hb hby at_173) rfl rfl ?_
      refine XS.aload X156.here hx rfl (hb hby at_175) rfl rfl ?_
      show Steps p.tables e below (T156.setTop (mkF m 177 #[.val (.long q0), .second, .val (.long q1), .second, .val (.long q2), .second, .val (.long q3), .second, .val (.long q4), .second, .val (.int p5), .val (.ref b101), .val (.ref b105), .val (.ref b111), .val (.ref b119), .val (.ref b129), .val (.ref b141), .val (.int (0 : Int32)), .val (.ref b129), .val (.ref b119)] [(.ref b105), (.ref b101)])) _
      refine st164 _ ?_
      refine XS.ifYes X164.here hx rfl (pc0 := 180) (pc' := 185) rfl (hb hby at_180) rfl ((if0 _ _).trans (feq (by decide : ¬ ((1 : Int32) = (0 : Int32)))).2) (by decide) (by decide) ?_
      refine XS.iload X164.here hx rfl (hb hby at_185) rfl ?_
      refine XS.ifYes X164.here hx rfl (pc0 := 187) (pc' := 196) rfl (hb hby at_187) rfl ((if0 _ _).trans (teq (by decide : (0 : Int32) = (0 : Int32))).1) (by decide) (by decide) ?_
      show Steps p.tables e below (T164.setTop (mkF m 196 #[.val (.long q0), .second, .val (.long q1), .second, .val (.long q2), .second, .val (.long q3), .second, .val (.long q4), .second, .val (.int p5), .val (.ref b101), .val (.ref b105), .val (.ref b111), .val (.ref b119), .val (.ref b129), .val (.ref b141), .val (.int (0 : Int32)), .val (.ref b129), .val (.ref b119)] [])) _
      refine XS.aload X164.here hx rfl (hb hby at_196) rfl rfl ?_
      refine XS.aload X164.here hx rfl (hb hby at_198) rfl rfl ?_
      show Steps p.tables e below (T164.setTop (mkF m 200 #[.val (.long q0), .second, .val (.long q1), .second, .val (.long q2), .second, .val (.long q3), .second, .val (.long q4), .second, .val (.int p5), .val (.ref b101), .val (.ref b105), .val (.ref b111), .val (.ref b119), .val (.ref b129), .val (.ref b141), .val (.int (0 : Int32)), .val (.ref b129), .val (.ref b119)] [(.ref b119), (.ref b111)])) _
      refine st165 _ ?_
      refine XS.ifYes X165.here hx rfl (pc0 := 203) (pc' := 208) rfl (hb hby at_203) rfl ((if0 _ _).trans (feq (by decide : ¬ ((1 : Int32) = (0 : Int32)))).2) (by decide) (by decide) ?_
      refine XS.aload X165.here hx rfl (hb hby at_208) rfl rfl ?_
      show Steps p.tables e below (T165.setTop (mkF m 210 #[.val (.long q0), .second, .val (.long q1), .second, .val (.long q2), .second, .val (.long q3), .second, .val (.long q4), .second, .val (.int p5), .val (.ref b101), .val (.ref b105), .val (.ref b111), .val (.ref b119), .val (.ref b129), .val (.ref b141), .val (.int (0 : Int32)), .val (.ref b129), .val (.ref b119)] [(.ref b129)])) _
      refine st166 _ ?_
      refine XS.ifYes X166.here hx rfl (pc0 := 213) (pc' := 218) rfl (hb hby at_213) rfl ((if0 _ _).trans (feq (by decide : ¬ ((1 : Int32) = (0 : Int32)))).2) (by decide) (by decide) ?_
      refine XS.aload X166.here hx rfl (hb hby at_218) rfl rfl ?_
      refine XS.aload X166.here hx rfl (hb hby at_220) rfl rfl ?_
      show Steps p.tables e below (T166.setTop (mkF m 222 #[.val (.long q0), .second, .val (.long q1), .second, .val (.long q2), .second, .val (.long q3), .second, .val (.long q4), .second, .val (.int p5), .val (.ref b101), .val (.ref b105), .val (.ref b111), .val (.ref b119), .val (.ref b129), .val (.ref b141), .val (.int (0 : Int32)), .val (.ref b129), .val (.ref b119)] [(.ref b129), (.ref b141)])) _
      refine XS.aload X166.here hx rfl (hb hby at_222) rfl rfl ?_
      show Steps p.tables e below (T166.setTop (mkF m 224 #[.val (.long q0), .second, .val (.long q1), .second, .val (.long q2), .second, .val (.long q3), .second, .val (.long q4), .second, .val (.int p5), .val (.ref b101), .val (.ref b105), .val (.ref b111), .val (.ref b119), .val (.ref b129), .val (.ref b141), .val (.int (0 : Int32)), .val (.ref b129), .val (.ref b119)] [(.ref b119), (.ref b129), (.ref b141)])) _
      refine st167 _ ?_
      refine XS.aload X167.here hx rfl (hb hby at_227) rfl rfl ?_
      refine XS.aload X167.here hx rfl (hb hby at_229) rfl rfl ?_
      show Steps p.tables e below (T167.setTop (mkF m 231 #[.val (.long q0), .second, .val (.long q1), .second, .val (.long q2), .second, .val (.long q3), .second, .val (.long q4), .second, .val (.int p5), .val (.ref b101), .val (.ref b105), .val (.ref b111), .val (.ref b119), .val (.ref b129), .val (.ref b141), .val (.int (0 : Int32)), .val (.ref b129), .val (.ref b119)] [(.ref b105), (.ref b141)])) _
      refine st175 _ ?_
      show Steps p.tables e below (T175.setTop (mkF m 234 #[.val (.long q0), .second, .val (.long q1), .second, .val (.long q2), .second, .val (.long q3), .second, .val (.long q4), .second, .val (.int p5), .val (.ref b101), .val (.ref b105), .val (.ref b111), .val (.ref b119), .val (.ref b129), .val (.ref b141), .val (.int (0 : Int32)), .val (.ref b129), .val (.ref b119)] [(.int (1 : Int32))])) _
      exact retN X175 hx (t := .boolean) Bd.returns (by simp) (hb hby at_234) hr
    · show Q0 Z q0 q1 q2 q3 q4 p5 wp kp h0 n0 _ T175.heap _
      rw [e175]
      exact ⟨rfl, N175⟩
  · skip
    obtain ⟨_, _, ⟨T176, L176, k176, n176⟩, -, X176, ⟨Lc176, hQ176, l176, y176, z176⟩, st176⟩ := Jvm.LawKit.callS X141 hx (y := (⟨"com/example/serialroute/serialroute/core/P256Field", "subtract", "([J[J[J)V"⟩ : MethodName)) hown (mvT hZ (hw _ (List.mem_of_getElem? (i := 13) rfl))) (mvT hZ (hw _ (List.mem_of_getElem? (i := 14) rfl))) (mvT hZ (hw _ (List.mem_of_getElem? (i := 15) rfl))) (mvT hZ (hw _ (List.mem_of_getElem? (i := 16) rfl))) (by decide) (backOf (W := 0) (rm_subtract_a l Z aw hw [] b101 b111 wp kp kb101 kb111 (own_w0 q0 (0 : Int32) q1 q2 q3 q4) (own_w1 q0 (0 : Int32) q1 q2 q3 q4) (own_w2 q0 (0 : Int32) q1 q2 q3 q4) (own_w3 q0 (0 : Int32) q1 q2 q3 q4) (own_w4 q0 (0 : Int32) q1 q2 q3 q4) (own_w5 q0 (0 : Int32) q1 q2 q3 q4) (own_w6 q0 (0 : Int32) q1 q2 q3 q4) (own_e7 q0 (0 : Int32) q1 q2 q3 q4) (own_w0 q0 (32 : Int32) q1 q2 q3 q4) (own_w1 q0 (32 : Int32) q1 q2 q3 q4) (own_w2 q0 (32 : Int32) q1 q2 q3 q4) (own_w3 q0 (32 : Int32) q1 q2 q3 q4) (own_w4 q0 (32 : Int32) q1 q2 q3 q4) (own_w5 q0 (32 : Int32) q1 q2 q3 q4) (own_w6 q0 (32 : Int32) q1 q2 q3 q4) (own_e7 q0 (32 : Int32) q1 q2 q3 q4) h141 n0 Z141 f148 f149 f150 f152 geb101 ne102 ne113 (own_bR q0 (0 : Int32) q1 q2 q3 q4) (own_bW q0 (0 : Int32) q1 q2 q3 q4) (own_bR q0 (32 : Int32) q1 q2 q3 q4) (own_bW q0 (32 : Int32) q1 q2 q3 q4)) hZ (hw _ (List.mem_of_getElem? (i := 16) rfl)) (hw _ (List.mem_of_getElem? (i := 15) rfl)) (by decide) (by decide)) (g := (mkF m 113 #[.val (.long q0), .second, .val (.long q1), .second, .val (.long q2), .second, .val (.long q3), .second, .val (.long q4), .second, .val (.int p5), .val (.ref b101), .val (.ref b105), .val (.ref b111), .val (.ref b119), .val (.ref b129), .val (.ref b141), .val (.int (1 : Int32)), .unset, .val (.ref b119)] [(.ref b111), (.ref b101), (.ref b101)])) rfl (by rw [hml]; rfl) (argsL := [(.ref b101), (.ref b101), (.ref b111)]) (rest := []) (lenOf pd_5 rfl) rfl (by show 2 * 0 + _ ≤ _; exact Nat.le_of_eq rfl) (hb hby at_113) (fun _ _ => ⟨rfl, e141, (by decide : 6 + 0 ≤ _), (by decide : 48 + 0 ≤ _)⟩)
    dsimp only [Pt.U, Pt.locs, Pt.cells, Pt.slots] at X176 l176 y176 z176 st176 hQ176
    rw [l176, y176, z176] at X176
    obtain ⟨rfl, N176q, K176q, o176_0, o176_1, o176_2, o176_3, o176_4, o176_5, o176_6, o176_7, V176q, R176q, L176q, D176q⟩ := hQ176
    have N176 := Fr.app N119 N176q
    have f177 := own_sta_keep f148 K176q (nsS f150.nostat ns0)
    have f178 := f149.keep K176q (ninS ne102 nin0)
    have f179 := f151.keep K176q (ninS (Ne.symm ne107) nin0)
    have f180 := f152.keep K176q (ninS (Ne.symm ne113) nin0)
    have f181 := f153.keep K176q (ninS (Ne.symm ne121) nin0)
    have f182 := f154.keep K176q (ninS (Ne.symm ne131) nin0)
    have f183 := V141.keep K176q (ninS (Ne.symm ne143) nin0)
    have Z176 : n0 ≤ T176.heap.size := Nat.le_trans Z141 K176q.1
    have K176 : Keep h0 T176.heap [] := K141.trans K176q (allS (Or.inr szb101) all0)
    obtain ⟨_, _, ⟨T184, L184, k184, n184⟩, -, X184, ⟨Lc184, hQ184, l184, y184, z184⟩, st184⟩ := Jvm.LawKit.callS X176 hx (y := (⟨"com/example/serialroute/serialroute/core/P256FieldSubtractPinLaw", "same", "([J[J)Z"⟩ : MethodName)) hown (mvT hZ (hw _ (List.mem_of_getElem? (i := 18) rfl))) (mvT hZ (hw _ (List.mem_of_getElem? (i := 19) rfl))) (mvT hZ (hw _ (List.mem_of_getElem? (i := 2) rfl))) (mvT hZ (hw _ (List.mem_of_getElem? (i := 20) rfl))) (by decide) (backOf (W := 0) (rm5 l Z aw hw [] b111 b119 kb111 kb119 (own_w0 q0 (32 : Int32) q1 q2 q3 q4) (own_w1 q0 (32 : Int32) q1 q2 q3 q4) (own_w2 q0 (32 : Int32) q1 q2 q3 q4) (own_w3 q0 (32 : Int32) q1 q2 q3 q4) (own_w4 q0 (32 : Int32) q1 q2 q3 q4) (own_w5 q0 (32 : Int32) q1 q2 q3 q4) (own_w6 q0 (32 : Int32) q1 q2 q3 q4) (own_e7 q0 (32 : Int32) q1 q2 q3 q4) (own_w0 q0 (32 : Int32) q1 q2 q3 q4) (own_w1 q0 (32 : Int32) q1 q2 q3 q4) (own_w2 q0 (32 : Int32) q1 q2 q3 q4) (own_w3 q0 (32 : Int32) q1 q2 q3 q4) (own_w4 q0 (32 : Int32) q1 q2 q3 q4) (own_w5 q0 (32 : Int32) q1 q2 q3 q4) (own_w6 q0 (32 : Int32) q1 q2 q3 q4) (own_e7 q0 (32 : Int32) q1 q2 q3 q4) T176.heap n0 Z176 f180 f181) hZ (hw _ (List.mem_of_getElem? (i := 20) rfl)) (hw _ (List.mem_of_getElem? (i := 2) rfl)) (by decide) (by decide)) (g := (mkF m 200 #[.val (.long q0), .second, .val (.long q1), .second, .val (.long q2), .second, .val (.long q3), .second, .val (.long q4), .second, .val (.int p5), .val (.ref b101), .val (.ref b105), .val (.ref b111), .val (.ref b119), .val (.ref b129), .val (.ref b141), .val (.int (1 : Int32)), .val (.ref b101), .val (.ref b119)] [(.ref b119), (.ref b111)])) rfl (by rw [hml]; rfl) (argsL := [(.ref b111), (.ref b119)]) (rest := []) (lenOf pd_6 rfl) rfl (by show 2 * 0 + _ ≤ _; exact Nat.le_of_eq rfl) (hb hby at_200) (fun _ _ => ⟨rfl, rfl, (by decide : 6 + 0 ≤ _), (by decide : 48 + 0 ≤ _)⟩)
    dsimp only [Pt.U, Pt.locs, Pt.cells, Pt.slots] at X184 l184 y184 z184 st184 hQ184
    rw [l184, y184, z184] at X184
    obtain ⟨hv184, N184q, e184⟩ := hQ184
    rw [own_same_refl] at hv184
    subst hv184
    have N184 := Fr.app N176 N184q
    obtain ⟨_, _, ⟨T185, L185, k185, n185⟩, -, X185, ⟨Lc185, hQ185, l185, y185, z185⟩, st185⟩ := Jvm.LawKit.callS X184 hx (y := (⟨"com/example/serialroute/serialroute/core/P256FieldSubtractPinLaw", "canonical", "([J)Z"⟩ : MethodName)) hown (mvT hZ (hw _ (List.mem_of_getElem? (i := 21) rfl))) (mvT hZ (hw _ (List.mem_of_getElem? (i := 22) rfl))) (mvT hZ (hw _ (List.mem_of_getElem? (i := 2) rfl))) (mvT hZ (hw _ (List.mem_of_getElem? (i := 23) rfl))) (by decide) (backOf (W := 0) (rm6 l Z aw hw [] b101 kb101 o176_0 o176_1 o176_2 o176_3 o176_4 o176_5 o176_6 o176_7 T176.heap n0 Z176 V176q R176q L176q) hZ (hw _ (List.mem_of_getElem? (i := 23) rfl)) (hw _ (List.mem_of_getElem? (i := 2) rfl)) (by decide) (by decide)) (g := (mkF m 210 #[.val (.long q0), .second, .val (.long q1), .second, .val (.long q2), .second, .val (.long q3), .second, .val (.long q4), .second, .val (.int p5), .val (.ref b101), .val (.ref b105), .val (.ref b111), .val (.ref b119), .val (.ref b129), .val (.ref b141), .val (.int (1 : Int32)), .val (.ref b101), .val (.ref b119)] [(.ref b101)])) rfl (by rw [hml]; rfl) (argsL := [(.ref b101)]) (rest := []) (lenOf pd_1 rfl) rfl (by show 2 * 0 + _ ≤ _; exact Nat.le_of_eq rfl) (hb hby at_210) (fun _ _ => ⟨rfl, e184, (by decide : 6 + 0 ≤ _), (by decide : 48 + 0 ≤ _)⟩)
    dsimp only [Pt.U, Pt.locs, Pt.cells, Pt.slots] at X185 l185 y185 z185 st185 hQ185
    rw [l185, y185, z185] at X185
    obtain ⟨rfl, N185q, e185⟩ := hQ185
    have N185 := Fr.app N184 N185q
    obtain ⟨_, _, ⟨T186, L186, k186, n186⟩, -, X186, ⟨Lc186, hQ186, l186, y186, z186⟩, st186⟩ := Jvm.LawKit.callS X185 hx (y := (⟨"com/example/serialroute/serialroute/core/P256Field", "add", "([J[J[J)V"⟩ : MethodName)) hown (mvT hZ (hw _ (List.mem_of_getElem? (i := 27) rfl))) (mvT hZ (hw _ (List.mem_of_getElem? (i := 28) rfl))) (mvT hZ (hw _ (List.mem_of_getElem? (i := 15) rfl))) (mvT hZ (hw _ (List.mem_of_getElem? (i := 29) rfl))) (by decide) (backOf (W := 0) (rm_add_d l Z aw hw [] b141 b101 b119 wp kp k141 kb101 kb119 (0 : Int64) (0 : Int64) (0 : Int64) (0 : Int64) (0 : Int64) (0 : Int64) (0 : Int64) (0 : Int64) o176_0 o176_1 o176_2 o176_3 o176_4 o176_5 o176_6 o176_7 (own_w0 q0 (32 : Int32) q1 q2 q3 q4) (own_w1 q0 (32 : Int32) q1 q2 q3 q4) (own_w2 q0 (32 : Int32) q1 q2 q3 q4) (own_w3 q0 (32 : Int32) q1 q2 q3 q4) (own_w4 q0 (32 : Int32) q1 q2 q3 q4) (own_w5 q0 (32 : Int32) q1 q2 q3 q4) (own_w6 q0 (32 : Int32) q1 q2 q3 q4) (own_e7 q0 (32 : Int32) q1 q2 q3 q4) T176.heap n0 Z176 f177 f178 f183 V176q f181 ge141 ne142 (Ne.symm ne143) (Ne.symm ne146) R176q L176q (own_bR q0 (32 : Int32) q1 q2 q3 q4) (own_bW q0 (32 : Int32) q1 q2 q3 q4)) hZ (hw _ (List.mem_of_getElem? (i := 29) rfl)) (hw _ (List.mem_of_getElem? (i := 15) rfl)) (by decide) (by decide)) (g := (mkF m 224 #[.val (.long q0), .second, .val (.long q1), .second, .val (.long q2), .second, .val (.long q3), .second, .val (.long q4), .second, .val (.int p5), .val (.ref b101), .val (.ref b105), .val (.ref b111), .val (.ref b119), .val (.ref b129), .val (.ref b141), .val (.int (1 : Int32)), .val (.ref b101), .val (.ref b119)] [(.ref b119), (.ref b101), (.ref b141)])) rfl (by rw [hml]; rfl) (argsL := [(.ref b141), (.ref b101), (.ref b119)]) (rest := []) (lenOf pd_5 rfl) rfl (by show 2 * 0 + _ ≤ _; exact Nat.le_of_eq rfl) (hb hby at_224) (fun _ _ => ⟨rfl, e185, (by decide : 6 + 0 ≤ _), (by decide : 48 + 0 ≤ _)⟩)
    dsimp only [Pt.U, Pt.locs, Pt.cells, Pt.slots] at X186 l186 y186 z186 st186 hQ186
    rw [l186, y186, z186] at X186
    obtain ⟨rfl, N186q, K186q, o186_0, o186_1, o186_2, o186_3, o186_4, o186_5, o186_6, o186_7, V186q, R186q, L186q, D186q⟩ := hQ186
    have N186 := Fr.app N185 N186q
    have f187 := own_sta_keep f177 K186q (nsS f183.nostat ns0)
    have f188 := f178.keep K186q (ninS ne142 nin0)
    have f189 := f179.keep K186q (ninS ne144 nin0)
    have f190 := f180.keep K186q (ninS ne145 nin0)
    have f191 := f181.keep K186q (ninS ne146 nin0)
    have f192 := f182.keep K186q (ninS ne147 nin0)
    have f193 := V176q.keep K186q (ninS ne143 nin0)
    have Z186 : n0 ≤ T186.heap.size := Nat.le_trans Z176 K186q.1
    have K186 : Keep h0 T186.heap [] := K176.trans K186q (allS (Or.inr sz141) all0)
    obtain ⟨_, _, ⟨T194, L194, k194, n194⟩, -, X194, ⟨Lc194, hQ194, l194, y194, z194⟩, st194⟩ := Jvm.LawKit.callS X186 hx (y := (⟨"com/example/serialroute/serialroute/core/P256FieldSubtractPinLaw", "same", "([J[J)Z"⟩ : MethodName)) hown (mvT hZ (hw _ (List.mem_of_getElem? (i := 18) rfl))) (mvT hZ (hw _ (List.mem_of_getElem? (i := 19) rfl))) (mvT hZ (hw _ (List.mem_of_getElem? (i := 2) rfl))) (mvT hZ (hw _ (List.mem_of_getElem? (i := 20) rfl))) (by decide) (backOf (W := 0) (rm5 l Z aw hw [] b141 b105 k141 kb105 o186_0 o186_1 o186_2 o186_3 o186_4 o186_5 o186_6 o186_7 (own_w0 q0 (0 : Int32) q1 q2 q3 q4) (own_w1 q0 (0 : Int32) q1 q2 q3 q4) (own_w2 q0 (0 : Int32) q1 q2 q3 q4) (own_w3 q0 (0 : Int32) q1 q2 q3 q4) (own_w4 q0 (0 : Int32) q1 q2 q3 q4) (own_w5 q0 (0 : Int32) q1 q2 q3 q4) (own_w6 q0 (0 : Int32) q1 q2 q3 q4) (own_e7 q0 (0 : Int32) q1 q2 q3 q4) T186.heap n0 Z186 V186q f189) hZ (hw _ (List.mem_of_getElem? (i := 20) rfl)) (hw _ (List.mem_of_getElem? (i := 2) rfl)) (by decide) (by decide)) (g := (mkF m 231 #[.val (.long q0), .second, .val (.long q1), .second, .val (.long q2), .second, .val (.long q3), .second, .val (.long q4), .second, .val (.int p5), .val (.ref b101), .val (.ref b105), .val (.ref b111), .val (.ref b119), .val (.ref b129), .val (.ref b141), .val (.int (1 : Int32)), .val (.ref b101), .val (.ref b119)] [(.ref b105), (.ref b141)])) rfl (by rw [hml]; rfl) (argsL := [(.ref b141), (.ref b105)]) (rest := []) (lenOf pd_6 rfl) rfl (by show 2 * 0 + _ ≤ _; exact Nat.le_of_eq rfl) (hb hby at_231) (fun _ _ => ⟨rfl, rfl, (by decide : 6 + 0 ≤ _), (by decide : 48 + 0 ≤ _)⟩)
    dsimp only [Pt.U, Pt.locs, Pt.cells, Pt.slots] at X194 l194 y194 z194 st194 hQ194
    rw [l194, y194, z194] at X194
    obtain ⟨hv194, N194q, e194⟩ := hQ194
    rw [own_back R186q L186q (own_bR q0 (0 : Int32) q1 q2 q3 q4) (own_bW q0 (0 : Int32) q1 q2 q3 q4) D176q D186q] at hv194
    subst hv194
    have N194 := Fr.app N186 N194q
    obtain ⟨fs, hr, hrun, hended, hW, hsame⟩ := X194.leave (v := some (.int (1 : Int32))) (fun h => by rw [Bd.returns] at h; cases h)
    refine ⟨_, _, pre155 _ ?_, hrun, hended, _, _, rfl, ?_, ⟨_, rfl⟩, hW, hsame.mono (by decide) (by decide)⟩
    · show Steps p.tables e below (T141.setTop (mkF m 74 #[.val (.long q0), .second, .val (.long q1), .second, .val (.long q2), .second, .val (.long q3), .second, .val (.long q4), .second, .val (.int p5), .val (.ref b101), .val (.ref b105), .val (.ref b111), .val (.ref b119), .val (.ref b129), .val (.ref b141), .unset, .unset, .unset] [(.int (1 : Int32))])) _
      refine XS.istore X141.here hx rfl (hb hby at_74) rfl (l' := #[.val (.long q0), .second, .val (.long q1), .second, .val (.long q2), .second, .val (.long q3), .second, .val (.long q4), .second, .val (.int p5), .val (.ref b101), .val (.ref b105), .val (.ref b111), .val (.ref b119), .val (.ref b129), .val (.ref b141), .val (.int (1 : Int32)), .unset, .unset]) rfl ?_
      refine XS.aload X141.here hx rfl (hb hby at_76) rfl rfl ?_
      refine XS.astore X141.here hx rfl (hb hby at_78) rfl rfl (l' := #[.val (.long q0), .second, .val (.long q1), .second, .val (.long q2), .second, .val (.long q3), .second, .val (.long q4), .second, .val (.int p5), .val (.ref b101), .val (.ref b105), .val (.ref b111), .val (.ref b119), .val (.ref b129), .val (.ref b141), .val (.int (1 : Int32)), .unset, .val (.ref b119)]) rfl ?_
      refine XS.iload X141.here hx rfl (hb hby at_80) rfl ?_
      show Steps p.tables e below (T141.setTop (mkF m 82 #[.val (.long q0), .second, .val (.long q1), .second, .val (.long q2), .second, .val (.long q3), .second, .val (.long q4), .second, .val (.int p5), .val (.ref b101), .val (.ref b105), .val (.ref b111), .val (.ref b119), .val (.ref b129), .val (.ref b141), .val (.int (1 : Int32)), .unset, .val (.ref b119)] [(.int (1 : Int32))])) _
      refine XS.ifYes X141.here hx rfl (pc0 := 82) (pc' := 101) rfl (hb hby at_82) rfl ((if0 _ _).trans (feq (by decide : ¬ ((1 : Int32) = (0 : Int32)))).2) (by decide) (by decide) ?_
      refine XS.iload X141.here hx rfl (hb hby at_101) rfl ?_
      refine XS.iconst X141.here hx rfl (hb hby at_103) ?_
      refine XS.icmpNo X141.here hx rfl (hb hby at_104) rfl (teq (by decide : (1 : Int32) = (1 : Int32))).2 ?_
      show Steps p.tables e below (T141.setTop (mkF m 107 #[.val (.long q0), .second, .val (.long q1), .second, .val (.long q2), .second, .val (.long q3), .second, .val (.long q4), .second, .val (.int p5), .val (.ref b101), .val (.ref b105), .val (.ref b111), .val (.ref b119), .val (.ref b129), .val (.ref b141), .val (.int (1 : Int32)), .unset, .val (.ref b119)] [])) _
      refine XS.aload X141.here hx rfl (hb hby at_107) rfl rfl ?_
      refine XS.aload X141.here hx rfl (hb hby at_109) rfl rfl ?_
      refine XS.aload X141.here hx rfl (hb hby at_111) rfl rfl ?_
      show Steps p.tables e below (T141.setTop (mkF m 113 #[.val (.long q0), .second, .val (.long q1), .second, .val (.long q2), .second, .val (.long q3), .second, .val (.long q4), .second, .val (.int p5), .val (.ref b101), .val (.ref b105), .val (.ref b111), .val (.ref b119), .val (.ref b129), .val (.ref b141), .val (.int (1 : Int32)), .unset, .val (.ref b119)] [(.ref b111), (.ref b101), (.ref b101)])) _
      refine st176 _ ?_
      refine XS.aload X176.here hx rfl (hb hby at_116) rfl rfl ?_
      refine XS.astore X176.here hx rfl (hb hby at_118) rfl rfl (l' := #[.val (.long q0), .second, .val (.long q1), .second, .val (.long q2), .second, .val (.long q3), .second, .val (.long q4), .second, .val (.int p5), .val (.ref b101), .val (.ref b105), .val (.ref b111), .val (.ref b119), .val (.ref b129), .val (.ref b141), .val (.int (1 : Int32)), .val (.ref b101), .val (.ref b119)]) rfl ?_
      refine XS.goto X176.here hx rfl (pc0 := 120) (pc' := 162) rfl (hb hby at_120) (by decide) (by decide) ?_
      show Steps p.tables e below (T176.setTop (mkF m 162 #[.val (.long q0), .second, .val (.long q1), .second, .val (.long q2), .second, .val (.long q3), .second, .val (.long q4), .second, .val (.int p5), .val (.ref b101), .val (.ref b105), .val (.ref b111), .val (.ref b119), .val (.ref b129), .val (.ref b141), .val (.int (1 : Int32)), .val (.ref b101), .val (.ref b119)] [])) _
      refine XS.iload X176.here hx rfl (hb hby at_162) rfl ?_
      refine XS.ifNo X176.here hx rfl (hb hby at_164) rfl ((if0 _ _).trans (feq (by decide : ¬ ((1 : Int32) = (0 : Int32)))).1) ?_
      refine XS.iload X176.here hx rfl (hb hby at_167) rfl ?_
      refine XS.iconst X176.here hx rfl (hb hby at_169) ?_
      show Steps p.tables e below (T176.setTop (mkF m 170 #[.val (.long q0), .second, .val (.long q1), .second, .val (.long q2), .second, .val (.long q3), .second, .val (.long q4), .second, .val (.int p5), .val (.ref b101), .val (.ref b105), .val (.ref b111), .val (.ref b119), .val (.ref b129), .val (.ref b141), .val (.int (1 : Int32)), .val (.ref b101), .val (.ref b119)] [(.int (2 : Int32)), (.int (1 : Int32))])) _
      refine XS.icmpYes X176.here hx rfl (pc0 := 170) (pc' := 185) rfl (hb hby at_170) rfl (feq (by decide : ¬ ((1 : Int32) = (2 : Int32)))).2 (by decide) (by decide) ?_
      refine XS.iload X176.here hx rfl (hb hby at_185) rfl ?_
      refine XS.ifNo X176.here hx rfl (hb hby at_187) rfl ((if0 _ _).trans (feq (by decide : ¬ ((1 : Int32) = (0 : Int32)))).1) ?_
      refine XS.iload X176.here hx rfl (hb hby at_190) rfl ?_
      show Steps p.tables e below (T176.setTop (mkF m 192 #[.val (.long q0), .second, .val (.long q1), .second, .val (.long q2), .second, .val (.long q3), .second, .val (.long q4), .second, .val (.int p5), .val (.ref b101), .val (.ref b105), .val (.ref b111), .val (.ref b119), .val (.ref b129), .val (.ref b141), .val (.int (1 : Int32)), .val (.ref b101), .val (.ref b119)] [(.int (1 : Int32))])) _
      refine XS.iconst X176.here hx rfl (hb hby at_192) ?_
      refine XS.icmpNo X176.here hx rfl (hb hby at_193) rfl (teq (by decide : (1 : Int32) = (1 : Int32))).2 ?_
      refine XS.aload X176.here hx rfl (hb hby at_196) rfl rfl ?_
      refine XS.aload X176.here hx rfl (hb hby at_198) rfl rfl ?_
      show Steps p.tables e below (T176.setTop (mkF m 200 #[.val (.long q0), .second, .val (.long q1), .second, .val (.long q2), .second, .val (.long q3), .second, .val (.long q4), .second, .val (.int p5), .val (.ref b101), .val (.ref b105), .val (.ref b111), .val (.ref b119), .val (.ref b129), .val (.ref b141), .val (.int (1 : Int32)), .val (.ref b101), .val (.ref b119)] [(.ref b119), (.ref b111)])) _
      refine st184 _ ?_
      refine XS.ifYes X184.here hx rfl (pc0 := 203) (pc' := 208) rfl (hb hby at_203) rfl ((if0 _ _).trans (feq (by decide : ¬ ((1 : Int32) = (0 : Int32)))).2) (by decide) (by decide) ?_
      refine XS.aload X184.here hx rfl (hb hby at_208) rfl rfl ?_
      show Steps p.tables e below (T184.setTop (mkF m 210 #[.val (.long q0), .second, .val (.long q1), .second, .val (.long q2), .second, .val (.long q3), .second, .val (.long q4), .second, .val (.int p5), .val (.ref b101), .val (.ref b105), .val (.ref b111), .val (.ref b119), .val (.ref b129), .val (.ref b141), .val (.int (1 : Int32)), .val (.ref b101), .val (.ref b119)] [(.ref b101)])) _
      refine st185 _ ?_
      refine XS.ifYes X185.here hx rfl (pc0 := 213) (pc' := 218) rfl (hb hby at_213) rfl ((if0 _ _).trans (feq (by decide : ¬ ((1 : Int32) = (0 : Int32)))).2) (by decide) (by decide) ?_
      refine XS.aload X185.here hx rfl (hb hby at_218) rfl rfl ?_
      refine XS.aload X185.here hx rfl (hb hby at_220) rfl rfl ?_
      show Steps p.tables e below (T185.setTop (mkF m 222 #[.val (.long q0), .second, .val (.long q1), .second, .val (.long q2), .second, .val (.long q3), .second, .val (.long q4), .second, .val (.int p5), .val (.ref b101), .val (.ref b105), .val (.ref b111), .val (.ref b119), .val (.ref b129), .val (.ref b141), .val (.int (1 : Int32)), .val (.ref b101), .val (.ref b119)] [(.ref b101), (.ref b141)])) _
      refine XS.aload X185.here hx rfl (hb hby at_222) rfl rfl ?_
      show Steps p.tables e below (T185.setTop (mkF m 224 #[.val (.long q0), .second, .val (.long q1), .second, .val (.long q2), .second, .val (.long q3), .second, .val (.long q4), .second, .val (.int p5), .val (.ref b101), .val (.ref b105), .val (.ref b111), .val (.ref b119), .val (.ref b129), .val (.ref b141), .val (.int (1 : Int32)), .val (.ref b101), .val (.ref b119)] [(.ref b119), (.ref b101), (.ref b141)])) _
      refine st186 _ ?_
      refine XS.aload X186.here hx rfl (hb hby at_227) rfl rfl ?_
      refine XS.aload X186.here hx rfl (hb hby at_229) rfl rfl ?_
      show Steps p.tables e below (T186.setTop (mkF m 231 #[.val (.long q0), .second, .val (.long q1), .second, .val (.long q2), .second, .val (.long q3), .second, .val (.long q4), .second, .val (.int p5), .val (.ref b101), .val (.ref b105), .val (.ref b111), .val (.ref b119), .val (.ref b129), .val (.ref b141), .val (.int (1 : Int32)), .val (.ref b101), .val (.ref b119)] [(.ref b105), (.ref b141)])) _
      refine st194 _ ?_
      show Steps p.tables e below (T194.setTop (mkF m 234 #[.val (.long q0), .second, .val (.long q1), .second, .val (.long q2), .second, .val (.long q3), .second, .val (.long q4), .second, .val (.int p5), .val (.ref b101), .val (.ref b105), .val (.ref b111), .val (.ref b119), .val (.ref b129), .val (.ref b141), .val (.int (1 : Int32)), .val (.ref b101), .val (.ref b119)] [(.int (1 : Int32))])) _
      exact retN X194 hx (t := .boolean) Bd.returns (by simp) (hb hby at_234) hr
    · show Q0 Z q0 q1 q2 q3 q4 p5 wp kp h0 n0 _ T194.heap _
      rw [e194]
      exact ⟨rfl, N194⟩
  · skip
    obtain ⟨_, _, ⟨T195, L195, k195, n195⟩, -, X195, ⟨Lc195, hQ195, l195, y195, z195⟩, st195⟩ := Jvm.LawKit.callS X141 hx (y := (⟨"com/example/serialroute/serialroute/core/P256Field", "subtract", "([J[J[J)V"⟩ : MethodName)) hown (mvT hZ (hw _ (List.mem_of_getElem? (i := 13) rfl))) (mvT hZ (hw _ (List.mem_of_getElem? (i := 14) rfl))) (mvT hZ (hw _ (List.mem_of_getElem? (i := 15) rfl))) (mvT hZ (hw _ (List.mem_of_getElem? (i := 16) rfl))) (by decide) (backOf (W := 0) (rm_subtract_b l Z aw hw [] b111 b101 wp kp kb111 kb101 (own_w0 q0 (32 : Int32) q1 q2 q3 q4) (own_w1 q0 (32 : Int32) q1 q2 q3 q4) (own_w2 q0 (32 : Int32) q1 q2 q3 q4) (own_w3 q0 (32 : Int32) q1 q2 q3 q4) (own_w4 q0 (32 : Int32) q1 q2 q3 q4) (own_w5 q0 (32 : Int32) q1 q2 q3 q4) (own_w6 q0 (32 : Int32) q1 q2 q3 q4) (own_e7 q0 (32 : Int32) q1 q2 q3 q4) (own_w0 q0 (0 : Int32) q1 q2 q3 q4) (own_w1 q0 (0 : Int32) q1 q2 q3 q4) (own_w2 q0 (0 : Int32) q1 q2 q3 q4) (own_w3 q0 (0 : Int32) q1 q2 q3 q4) (own_w4 q0 (0 : Int32) q1 q2 q3 q4) (own_w5 q0 (0 : Int32) q1 q2 q3 q4) (own_w6 q0 (0 : Int32) q1 q2 q3 q4) (own_e7 q0 (0 : Int32) q1 q2 q3 q4) h141 n0 Z141 f148 f149 f152 f150 geb111 ne112 (Ne.symm ne113) (own_bR q0 (0 : Int32) q1 q2 q3 q4) (own_bW q0 (0 : Int32) q1 q2 q3 q4) (own_bR q0 (32 : Int32) q1 q2 q3 q4) (own_bW q0 (32 : Int32) q1 q2 q3 q4)) hZ (hw _ (List.mem_of_getElem? (i := 16) rfl)) (hw _ (List.mem_of_getElem? (i := 15) rfl)) (by decide) (by decide)) (g := (mkF m 135 #[.val (.long q0), .second, .val (.long q1), .second, .val (.long q2), .second, .val (.long q3), .second, .val (.long q4), .second, .val (.int p5), .val (.ref b101), .val (.ref b105), .val (.ref b111), .val (.ref b119), .val (.ref b129), .val (.ref b141), .val (.int (2 : Int32)), .unset, .val (.ref b119)] [(.ref b111), (.ref b101), (.ref b111)])) rfl (by rw [hml]; rfl) (argsL := [(.ref b111), (.ref b101), (.ref b111)]) (rest := []) (lenOf pd_5 rfl) rfl (by show 2 * 0 + _ ≤ _; exact Nat.le_of_eq rfl) (hb hby at_135) (fun _ _ => ⟨rfl, e141, (by decide : 6 + 0 ≤ _), (by decide : 48 + 0 ≤ _)⟩)
    dsimp only [Pt.U, Pt.locs, Pt.cells, Pt.slots] at X195 l195 y195 z195 st195 hQ195
    rw [l195, y195, z195] at X195
    obtain ⟨rfl, N195q, K195q, o195_0, o195_1, o195_2, o195_3, o195_4, o195_5, o195_6, o195_7, V195q, R195q, L195q, D195q⟩ := hQ195
    have N195 := Fr.app N119 N195q
    have f196 := own_sta_keep f148 K195q (nsS f152.nostat ns0)
    have f197 := f149.keep K195q (ninS ne112 nin0)
    have f198 := f150.keep K195q (ninS ne113 nin0)
    have f199 := f151.keep K195q (ninS ne114 nin0)
    have f200 := f153.keep K195q (ninS (Ne.symm ne123) nin0)
    have f201 := f154.keep K195q (ninS (Ne.symm ne133) nin0)
    have f202 := V141.keep K195q (ninS (Ne.symm ne145) nin0)
    have Z195 : n0 ≤ T195.heap.size := Nat.le_trans Z141 K195q.1
    have K195 : Keep h0 T195.heap [] := K141.trans K195q (allS (Or.inr szb111) all0)
    obtain ⟨_, _, ⟨T203, L203, k203, n203⟩, -, X203, ⟨Lc203, hQ203, l203, y203, z203⟩, st203⟩ := Jvm.LawKit.callS X195 hx (y := (⟨"com/example/serialroute/serialroute/core/P256FieldSubtractPinLaw", "same", "([J[J)Z"⟩ : MethodName)) hown (mvT hZ (hw _ (List.mem_of_getElem? (i := 18) rfl))) (mvT hZ (hw _ (List.mem_of_getElem? (i := 19) rfl))) (mvT hZ (hw _ (List.mem_of_getElem? (i := 2) rfl))) (mvT hZ (hw _ (List.mem_of_getElem? (i := 20) rfl))) (by decide) (backOf (W := 0) (rm5 l Z aw hw [] b101 b105 kb101 kb105 (own_w0 q0 (0 : Int32) q1 q2 q3 q4) (own_w1 q0 (0 : Int32) q1 q2 q3 q4) (own_w2 q0 (0 : Int32) q1 q2 q3 q4) (own_w3 q0 (0 : Int32) q1 q2 q3 q4) (own_w4 q0 (0 : Int32) q1 q2 q3 q4) (own_w5 q0 (0 : Int32) q1 q2 q3 q4) (own_w6 q0 (0 : Int32) q1 q2 q3 q4) (own_e7 q0 (0 : Int32) q1 q2 q3 q4) (own_w0 q0 (0 : Int32) q1 q2 q3 q4) (own_w1 q0 (0 : Int32) q1 q2 q3 q4) (own_w2 q0 (0 : Int32) q1 q2 q3 q4) (own_w3 q0 (0 : Int32) q1 q2 q3 q4) (own_w4 q0 (0 : Int32) q1 q2 q3 q4) (own_w5 q0 (0 : Int32) q1 q2 q3 q4) (own_w6 q0 (0 : Int32) q1 q2 q3 q4) (own_e7 q0 (0 : Int32) q1 q2 q3 q4) T195.heap n0 Z195 f198 f199) hZ (hw _ (List.mem_of_getElem? (i := 20) rfl)) (hw _ (List.mem_of_getElem? (i := 2) rfl)) (by decide) (by decide)) (g := (mkF m 177 #[.val (.long q0), .second, .val (.long q1), .second, .val (.long q2), .second, .val (.long q3), .second, .val (.long q4), .second, .val (.int p5), .val (.ref b101), .val (.ref b105), .val (.ref b111), .val (.ref b119), .val (.ref b129), .val (.ref b141), .val (.int (2 : Int32)), .val (.ref b111), .val (.ref b119)] [(.ref b105), (.ref b101)])) rfl (by rw [hml]; rfl) (argsL := [(.ref b101), (.ref b105)]) (rest := []) (lenOf pd_6 rfl) rfl (by show 2 * 0 + _ ≤ _; exact Nat.le_of_eq rfl) (hb hby at_177) (fun _ _ => ⟨rfl, rfl, (by decide : 6 + 0 ≤ _), (by decide : 48 + 0 ≤ _)⟩)
    dsimp only [Pt.U, Pt.locs, Pt.cells, Pt.slots] at X203 l203 y203 z203 st203 hQ203
    rw [l203, y203, z203] at X203
    obtain ⟨hv203, N203q, e203⟩ := hQ203
    rw [own_same_refl] at hv203
    subst hv203
    have N203 := Fr.app N195 N203q
    obtain ⟨_, _, ⟨T204, L204, k204, n204⟩, -, X204, ⟨Lc204, hQ204, l204, y204, z204⟩, st204⟩ := Jvm.LawKit.callS X203 hx (y := (⟨"com/example/serialroute/serialroute/core/P256FieldSubtractPinLaw", "canonical", "([J)Z"⟩ : MethodName)) hown (mvT hZ (hw _ (List.mem_of_getElem? (i := 21) rfl))) (mvT hZ (hw _ (List.mem_of_getElem? (i := 22) rfl))) (mvT hZ (hw _ (List.mem_of_getElem? (i := 2) rfl))) (mvT hZ (hw _ (List.mem_of_getElem? (i := 23) rfl))) (by decide) (backOf (W := 0) (rm6 l Z aw hw [] b111 kb111 o195_0 o195_1 o195_2 o195_3 o195_4 o195_5 o195_6 o195_7 T195.heap n0 Z195 V195q R195q L195q) hZ (hw _ (List.mem_of_getElem? (i := 23) rfl)) (hw _ (List.mem_of_getElem? (i := 2) rfl)) (by decide) (by decide)) (g := (mkF m 210 #[.val (.long q0), .second, .val (.long q1), .second, .val (.long q2), .second, .val (.long q3), .second, .val (.long q4), .second, .val (.int p5), .val (.ref b101), .val (.ref b105), .val (.ref b111), .val (.ref b119), .val (.ref b129), .val (.ref b141), .val (.int (2 : Int32)), .val (.ref b111), .val (.ref b119)] [(.ref b111)])) rfl (by rw [hml]; rfl) (argsL := [(.ref b111)]) (rest := []) (lenOf pd_1 rfl) rfl (by show 2 * 0 + _ ≤ _; exact Nat.le_of_eq rfl) (hb hby at_210) (fun _ _ => ⟨rfl, e203, (by decide : 6 + 0 ≤ _), (by decide : 48 + 0 ≤ _)⟩)
    dsimp only [Pt.U, Pt.locs, Pt.cells, Pt.slots] at X204 l204 y204 z204 st204 hQ204
    rw [l204, y204, z204] at X204
    obtain ⟨rfl, N204q, e204⟩ := hQ204
    have N204 := Fr.app N203 N204q
    obtain ⟨_, _, ⟨T205, L205, k205, n205⟩, -, X205, ⟨Lc205, hQ205, l205, y205, z205⟩, st205⟩ := Jvm.LawKit.callS X204 hx (y := (⟨"com/example/serialroute/serialroute/core/P256Field", "add", "([J[J[J)V"⟩ : MethodName)) hown (mvT hZ (hw _ (List.mem_of_getElem? (i := 27) rfl))) (mvT hZ (hw _ (List.mem_of_getElem? (i := 28) rfl))) (mvT hZ (hw _ (List.mem_of_getElem? (i := 15) rfl))) (mvT hZ (hw _ (List.mem_of_getElem? (i := 29) rfl))) (by decide) (backOf (W := 0) (rm_add_d l Z aw hw [] b141 b111 b119 wp kp k141 kb111 kb119 (0 : Int64) (0 : Int64) (0 : Int64) (0 : Int64) (0 : Int64) (0 : Int64) (0 : Int64) (0 : Int64) o195_0 o195_1 o195_2 o195_3 o195_4 o195_5 o195_6 o195_7 (own_w0 q0 (32 : Int32) q1 q2 q3 q4) (own_w1 q0 (32 : Int32) q1 q2 q3 q4) (own_w2 q0 (32 : Int32) q1 q2 q3 q4) (own_w3 q0 (32 : Int32) q1 q2 q3 q4) (own_w4 q0 (32 : Int32) q1 q2 q3 q4) (own_w5 q0 (32 : Int32) q1 q2 q3 q4) (own_w6 q0 (32 : Int32) q1 q2 q3 q4) (own_e7 q0 (32 : Int32) q1 q2 q3 q4) T195.heap n0 Z195 f196 f197 f202 V195q f200 ge141 ne142 (Ne.symm ne145) (Ne.symm ne146) R195q L195q (own_bR q0 (32 : Int32) q1 q2 q3 q4) (own_bW q0 (32 : Int32) q1 q2 q3 q4)) hZ (hw _ (List.mem_of_getElem? (i := 29) rfl)) (hw _ (List.mem_of_getElem? (i := 15) rfl)) (by decide) (by decide)) (g := (mkF m 224 #[.val (.long q0), .second, .val (.long q1), .second, .val (.long q2), .second, .val (.long q3), .second, .val (.long q4), .second, .val (.int p5), .val (.ref b101), .val (.ref b105), .val (.ref b111), .val (.ref b119), .val (.ref b129), .val (.ref b141), .val (.int (2 : Int32)), .val (.ref b111), .val (.ref b119)] [(.ref b119), (.ref b111), (.ref b141)])) rfl (by rw [hml]; rfl) (argsL := [(.ref b141), (.ref b111), (.ref b119)]) (rest := []) (lenOf pd_5 rfl) rfl (by show 2 * 0 + _ ≤ _; exact Nat.le_of_eq rfl) (hb hby at_224) (fun _ _ => ⟨rfl, e204, (by decide : 6 + 0 ≤ _), (by decide : 48 + 0 ≤ _)⟩)
    dsimp only [Pt.U, Pt.locs, Pt.cells, Pt.slots] at X205 l205 y205 z205 st205 hQ205
    rw [l205, y205, z205] at X205
    obtain ⟨rfl, N205q, K205q, o205_0, o205_1, o205_2, o205_3, o205_4, o205_5, o205_6, o205_7, V205q, R205q, L205q, D205q⟩ := hQ205
    have N205 := Fr.app N204 N205q
    have f206 := own_sta_keep f196 K205q (nsS f202.nostat ns0)
    have f207 := f197.keep K205q (ninS ne142 nin0)
    have f208 := f198.keep K205q (ninS ne143 nin0)
    have f209 := f199.keep K205q (ninS ne144 nin0)
    have f210 := f200.keep K205q (ninS ne146 nin0)
    have f211 := f201.keep K205q (ninS ne147 nin0)
    have f212 := V195q.keep K205q (ninS ne145 nin0)
    have Z205 : n0 ≤ T205.heap.size := Nat.le_trans Z195 K205q.1
    have K205 : Keep h0 T205.heap [] := K195.trans K205q (allS (Or.inr sz141) all0)
    obtain ⟨_, _, ⟨T213, L213, k213, n213⟩, -, X213, ⟨Lc213, hQ213, l213, y213, z213⟩, st213⟩ := Jvm.LawKit.callS X205 hx (y := (⟨"com/example/serialroute/serialroute/core/P256FieldSubtractPinLaw", "same", "([J[J)Z"⟩ : MethodName)) hown (mvT hZ (hw _ (List.mem_of_getElem? (i := 18) rfl))) (mvT hZ (hw _ (List.mem_of_getElem? (i := 19) rfl))) (mvT hZ (hw _ (List.mem_of_getElem? (i := 2) rfl))) (mvT hZ (hw _ (List.mem_of_getElem? (i := 20) rfl))) (by decide) (backOf (W := 0) (rm5 l Z aw hw [] b141 b105 k141 kb105 o205_0 o205_1 o205_2 o205_3 o205_4 o205_5 o205_6 o205_7 (own_w0 q0 (0 : Int32) q1 q2 q3 q4) (own_w1 q0 (0 : Int32) q1 q2 q3 q4) (own_w2 q0 (0 : Int32) q1 q2 q3 q4) (own_w3 q0 (0 : Int32) q1 q2 q3 q4) (own_w4 q0 (0 : Int32) q1 q2 q3 q4) (own_w5 q0 (0 : Int32) q1 q2 q3 q4) (own_w6 q0 (0 : Int32) q1 q2 q3 q4) (own_e7 q0 (0 : Int32) q1 q2 q3 q4) T205.heap n0 Z205 V205q f209) hZ (hw _ (List.mem_of_getElem? (i := 20) rfl)) (hw _ (List.mem_of_getElem? (i := 2) rfl)) (by decide) (by decide)) (g := (mkF m 231 #[.val (.long q0), .second, .val (.long q1), .second, .val (.long q2), .second, .val (.long q3), .second, .val (.long q4), .second, .val (.int p5), .val (.ref b101), .val (.ref b105), .val (.ref b111), .val (.ref b119), .val (.ref b129), .val (.ref b141), .val (.int (2 : Int32)), .val (.ref b111), .val (.ref b119)] [(.ref b105), (.ref b141)])) rfl (by rw [hml]; rfl) (argsL := [(.ref b141), (.ref b105)]) (rest := []) (lenOf pd_6 rfl) rfl (by show 2 * 0 + _ ≤ _; exact Nat.le_of_eq rfl) (hb hby at_231) (fun _ _ => ⟨rfl, rfl, (by decide : 6 + 0 ≤ _), (by decide : 48 + 0 ≤ _)⟩)
    dsimp only [Pt.U, Pt.locs, Pt.cells, Pt.slots] at X213 l213 y213 z213 st213 hQ213
    rw [l213, y213, z213] at X213
    obtain ⟨hv213, N213q, e213⟩ := hQ213
    rw [own_back R205q L205q (own_bR q0 (0 : Int32) q1 q2 q3 q4) (own_bW q0 (0 : Int32) q1 q2 q3 q4) D195q D205q] at hv213
    subst hv213
    have N213 := Fr.app N205 N213q
    obtain ⟨fs, hr, hrun, hended, hW, hsame⟩ := X213.leave (v := some (.int (1 : Int32))) (fun h => by rw [Bd.returns] at h; cases h)
    refine ⟨_, _, pre155 _ ?_, hrun, hended, _, _, rfl, ?_, ⟨_, rfl⟩, hW, hsame.mono (by decide) (by decide)⟩
    · show Steps p.tables e below (T141.setTop (mkF m 74 #[.val (.long q0), .second, .val (.long q1), .second, .val (.long q2), .second, .val (.long q3), .second, .val (.long q4), .second, .val (.int p5), .val (.ref b101), .val (.ref b105), .val (.ref b111), .val (.ref b119), .val (.ref b129), .val (.ref b141), .unset, .unset, .unset] [(.int (2 : Int32))])) _
      refine XS.istore X141.here hx rfl (hb hby at_74) rfl (l' := #[.val (.long q0), .second, .val (.long q1), .second, .val (.long q2), .second, .val (.long q3), .second, .val (.long q4), .second, .val (.int p5), .val (.ref b101), .val (.ref b105), .val (.ref b111), .val (.ref b119), .val (.ref b129), .val (.ref b141), .val (.int (2 : Int32)), .unset, .unset]) rfl ?_
      refine XS.aload X141.here hx rfl (hb hby at_76) rfl rfl ?_
      refine XS.astore X141.here hx rfl (hb hby at_78) rfl rfl (l' := #[.val (.long q0), .second, .val (.long q1), .second, .val (.long q2), .second, .val (.long q3), .second, .val (.long q4), .second, .val (.int p5), .val (.ref b101), .val (.ref b105), .val (.ref b111), .val (.ref b119), .val (.ref b129), .val (.ref b141), .val (.int (2 : Int32)), .unset, .val (.ref b119)]) rfl ?_
      refine XS.iload X141.here hx rfl (hb hby at_80) rfl ?_
      show Steps p.tables e below (T141.setTop (mkF m 82 #[.val (.long q0), .second, .val (.long q1), .second, .val (.long q2), .second, .val (.long q3), .second, .val (.long q4), .second, .val (.int p5), .val (.ref b101), .val (.ref b105), .val (.ref b111), .val (.ref b119), .val (.ref b129), .val (.ref b141), .val (.int (2 : Int32)), .unset, .val (.ref b119)] [(.int (2 : Int32))])) _
      refine XS.ifYes X141.here hx rfl (pc0 := 82) (pc' := 101) rfl (hb hby at_82) rfl ((if0 _ _).trans (feq (by decide : ¬ ((2 : Int32) = (0 : Int32)))).2) (by decide) (by decide) ?_
      refine XS.iload X141.here hx rfl (hb hby at_101) rfl ?_
      refine XS.iconst X141.here hx rfl (hb hby at_103) ?_
      refine XS.icmpYes X141.here hx rfl (pc0 := 104) (pc' := 123) rfl (hb hby at_104) rfl (feq (by decide : ¬ ((2 : Int32) = (1 : Int32)))).2 (by decide) (by decide) ?_
      show Steps p.tables e below (T141.setTop (mkF m 123 #[.val (.long q0), .second, .val (.long q1), .second, .val (.long q2), .second, .val (.long q3), .second, .val (.long q4), .second, .val (.int p5), .val (.ref b101), .val (.ref b105), .val (.ref b111), .val (.ref b119), .val (.ref b129), .val (.ref b141), .val (.int (2 : Int32)), .unset, .val (.ref b119)] [])) _
      refine XS.iload X141.here hx rfl (hb hby at_123) rfl ?_
      refine XS.iconst X141.here hx rfl (hb hby at_125) ?_
      refine XS.icmpNo X141.here hx rfl (hb hby at_126) rfl (teq (by decide : (2 : Int32) = (2 : Int32))).2 ?_
      refine XS.aload X141.here hx rfl (hb hby at_129) rfl rfl ?_
      show Steps p.tables e below (T141.setTop (mkF m 131 #[.val (.long q0), .second, .val (.long q1), .second, .val (.long q2), .second, .val (.long q3), .second, .val (.long q4), .second, .val (.int p5), .val (.ref b101), .val (.ref b105), .val (.ref b111), .val (.ref b119), .val (.ref b129), .val (.ref b141), .val (.int (2 : Int32)), .unset, .val (.ref b119)] [(.ref b111)])) _
      refine XS.aload X141.here hx rfl (hb hby at_131) rfl rfl ?_
      refine XS.aload X141.here hx rfl (hb hby at_133) rfl rfl ?_
      show Steps p.tables e below (T141.setTop (mkF m 135 #[.val (.long q0), .second, .val (.long q1), .second, .val (.long q2), .second, .val (.long q3), .second, .val (.long q4), .second, .val (.int p5), .val (.ref b101), .val (.ref b105), .val (.ref b111), .val (.ref b119), .val (.ref b129), .val (.ref b141), .val (.int (2 : Int32)), .unset, .val (.ref b119)] [(.ref b111), (.ref b101), (.ref b111)])) _
      refine st195 _ ?_
      refine XS.aload X195.here hx rfl (hb hby at_138) rfl rfl ?_
      refine XS.astore X195.here hx rfl (hb hby at_140) rfl rfl (l' := #[.val (.long q0), .second, .val (.long q1), .second, .val (.long q2), .second, .val (.long q3), .second, .val (.long q4), .second, .val (.int p5), .val (.ref b101), .val (.ref b105), .val (.ref b111), .val (.ref b119), .val (.ref b129), .val (.ref b141), .val (.int (2 : Int32)), .val (.ref b111), .val (.ref b119)]) rfl ?_
      refine XS.goto X195.here hx rfl (pc0 := 142) (pc' := 162) rfl (hb hby at_142) (by decide) (by decide) ?_
      show Steps p.tables e below (T195.setTop (mkF m 162 #[.val (.long q0), .second, .val (.long q1), .second, .val (.long q2), .second, .val (.long q3), .second, .val (.long q4), .second, .val (.int p5), .val (.ref b101), .val (.ref b105), .val (.ref b111), .val (.ref b119), .val (.ref b129), .val (.ref b141), .val (.int (2 : Int32)), .val (.ref b111), .val (.ref b119)] [])) _
      refine XS.iload X195.here hx rfl (hb hby at_162) rfl ?_
      refine XS.ifNo X195.here hx rfl (hb hby at_164) rfl ((if0 _ _).trans (feq (by decide : ¬ ((2 : Int32) = (0 : Int32)))).1) ?_
      refine XS.iload X195.here hx rfl (hb hby at_167) rfl ?_
      refine XS.iconst X195.here hx rfl (hb hby at_169) ?_
      show Steps p.tables e below (T195.setTop (mkF m 170 #[.val (.long q0), .second, .val (.long q1), .second, .val (.long q2), .second, .val (.long q3), .second, .val (.long q4), .second, .val (.int p5), .val (.ref b101), .val (.ref b105), .val (.ref b111), .val (.ref b119), .val (.ref b129), .val (.ref b141), .val (.int (2 : Int32)), .val (.ref b111), .val (.ref b119)] [(.int (2 : Int32)), (.int (2 : Int32))])) _
      refine XS.icmpNo X195.here hx rfl (hb hby at_170) rfl (teq (by decide : (2 : Int32) = (2 : Int32))).2 ?_
      refine XS.aload X195.here hx rfl (hb hby at_173) rfl rfl ?_
      refine XS.aload X195.here hx rfl (hb hby at_175) rfl rfl ?_
      show Steps p.tables e below (T195.setTop (mkF m 177 #[.val (.long q0), .second, .val (.long q1), .second, .val (.long q2), .second, .val (.long q3), .second, .val (.long q4), .second, .val (.int p5), .val (.ref b101), .val (.ref b105), .val (.ref b111), .val (.ref b119), .val (.ref b129), .val (.ref b141), .val (.int (2 : Int32)), .val (.ref b111), .val (.ref b119)] [(.ref b105), (.ref b101)])) _
      refine st203 _ ?_
      refine XS.ifYes X203.here hx rfl (pc0 := 180) (pc' := 185) rfl (hb hby at_180) rfl ((if0 _ _).trans (feq (by decide : ¬ ((1 : Int32) = (0 : Int32)))).2) (by decide) (by decide) ?_
      refine XS.iload X203.here hx rfl (hb hby at_185) rfl ?_
      refine XS.ifNo X203.here hx rfl (hb hby at_187) rfl ((if0 _ _).trans (feq (by decide : ¬ ((2 : Int32) = (0 : Int32)))).1) ?_
      show Steps p.tables e below (T203.setTop (mkF m 190 #[.val (.long q0), .second, .val (.long q1), .second, .val (.long q2), .second, .val (.long q3), .second, .val (.long q4), .second, .val (.int p5), .val (.ref b101), .val (.ref b105), .val (.ref b111), .val (.ref b119), .val (.ref b129), .val (.ref b141), .val (.int (2 : Int32)), .val (.ref b111), .val (.ref b119)] [])) _
      refine XS.iload X203.here hx rfl (hb hby at_190) rfl ?_
      refine XS.iconst X203.here hx rfl (hb hby at_192) ?_
      refine XS.icmpYes X203.here hx rfl (pc0 := 193) (pc' := 208) rfl (hb hby at_193) rfl (feq (by decide : ¬ ((2 : Int32) = (1 : Int32)))).2 (by decide) (by decide) ?_
      refine XS.aload X203.here hx rfl (hb hby at_208) rfl rfl ?_
      show Steps p.tables e below (T203.setTop (mkF m 210 #[.val (.long q0), .second, .val (.long q1), .second, .val (.long q2), .second, .val (.long q3), .second, .val (.long q4), .second, .val (.int p5), .val (.ref b101), .val (.ref b105), .val (.ref b111), .val (.ref b119), .val (.ref b129), .val (.ref b141), .val (.int (2 : Int32)), .val (.ref b111), .val (.ref b119)] [(.ref b111)])) _
      refine st204 _ ?_
      refine XS.ifYes X204.here hx rfl (pc0 := 213) (pc' := 218) rfl (hb hby at_213) rfl ((if0 _ _).trans (feq (by decide : ¬ ((1 : Int32) = (0 : Int32)))).2) (by decide) (by decide) ?_
      refine XS.aload X204.here hx rfl (hb hby at_218) rfl rfl ?_
      refine XS.aload X204.here hx rfl (hb hby at_220) rfl rfl ?_
      show Steps p.tables e below (T204.setTop (mkF m 222 #[.val (.long q0), .second, .val (.long q1), .second, .val (.long q2), .second, .val (.long q3), .second, .val (.long q4), .second, .val (.int p5), .val (.ref b101), .val (.ref b105), .val (.ref b111), .val (.ref b119), .val (.ref b129), .val (.ref b141), .val (.int (2 : Int32)), .val (.ref b111), .val (.ref b119)] [(.ref b111), (.ref b141)])) _
      refine XS.aload X204.here hx rfl (hb hby at_222) rfl rfl ?_
      show Steps p.tables e below (T204.setTop (mkF m 224 #[.val (.long q0), .second, .val (.long q1), .second, .val (.long q2), .second, .val (.long q3), .second, .val (.long q4), .second, .val (.int p5), .val (.ref b101), .val (.ref b105), .val (.ref b111), .val (.ref b119), .val (.ref b129), .val (.ref b141), .val (.int (2 : Int32)), .val (.ref b111), .val (.ref b119)] [(.ref b119), (.ref b111), (.ref b141)])) _
      refine st205 _ ?_
      refine XS.aload X205.here hx rfl (hb hby at_227) rfl rfl ?_
      refine XS.aload X205.here hx rfl (hb hby at_229) rfl rfl ?_
      show Steps p.tables e below (T205.setTop (mkF m 231 #[.val (.long q0), .second, .val (.long q1), .second, .val (.long q2), .second, .val (.long q3), .second, .val (.long q4), .second, .val (.int p5), .val (.ref b101), .val (.ref b105), .val (.ref b111), .val (.ref b119), .val (.ref b129), .val (.ref b141), .val (.int (2 : Int32)), .val (.ref b111), .val (.ref b119)] [(.ref b105), (.ref b141)])) _
      refine st213 _ ?_
      show Steps p.tables e below (T213.setTop (mkF m 234 #[.val (.long q0), .second, .val (.long q1), .second, .val (.long q2), .second, .val (.long q3), .second, .val (.long q4), .second, .val (.int p5), .val (.ref b101), .val (.ref b105), .val (.ref b111), .val (.ref b119), .val (.ref b129), .val (.ref b141), .val (.int (2 : Int32)), .val (.ref b111), .val (.ref b119)] [(.int (1 : Int32))])) _
      exact retN X213 hx (t := .boolean) Bd.returns (by simp) (hb hby at_234) hr
    · show Q0 Z q0 q1 q2 q3 q4 p5 wp kp h0 n0 _ T213.heap _
      rw [e213]
      exact ⟨rfl, N213⟩
  · skip
    obtain ⟨_, _, ⟨T214, L214, k214, n214⟩, -, X214, ⟨Lc214, hQ214, l214, y214, z214⟩, st214⟩ := Jvm.LawKit.callS X141 hx (y := (⟨"com/example/serialroute/serialroute/core/P256Field", "subtract", "([J[J[J)V"⟩ : MethodName)) hown (mvT hZ (hw _ (List.mem_of_getElem? (i := 13) rfl))) (mvT hZ (hw _ (List.mem_of_getElem? (i := 14) rfl))) (mvT hZ (hw _ (List.mem_of_getElem? (i := 15) rfl))) (mvT hZ (hw _ (List.mem_of_getElem? (i := 16) rfl))) (by decide) (backOf (W := 0) (rm_subtract_s l Z aw hw [] b101 wp kp kb101 (own_w0 q0 (0 : Int32) q1 q2 q3 q4) (own_w1 q0 (0 : Int32) q1 q2 q3 q4) (own_w2 q0 (0 : Int32) q1 q2 q3 q4) (own_w3 q0 (0 : Int32) q1 q2 q3 q4) (own_w4 q0 (0 : Int32) q1 q2 q3 q4) (own_w5 q0 (0 : Int32) q1 q2 q3 q4) (own_w6 q0 (0 : Int32) q1 q2 q3 q4) (own_e7 q0 (0 : Int32) q1 q2 q3 q4) h141 n0 Z141 f148 f149 f150 geb101 ne102 (own_bR q0 (0 : Int32) q1 q2 q3 q4) (own_bW q0 (0 : Int32) q1 q2 q3 q4)) hZ (hw _ (List.mem_of_getElem? (i := 16) rfl)) (hw _ (List.mem_of_getElem? (i := 15) rfl)) (by decide) (by decide)) (g := (mkF m 151 #[.val (.long q0), .second, .val (.long q1), .second, .val (.long q2), .second, .val (.long q3), .second, .val (.long q4), .second, .val (.int p5), .val (.ref b101), .val (.ref b105), .val (.ref b111), .val (.ref b119), .val (.ref b129), .val (.ref b141), .val (.int (3 : Int32)), .unset, .val (.ref b119)] [(.ref b101), (.ref b101), (.ref b101)])) rfl (by rw [hml]; rfl) (argsL := [(.ref b101), (.ref b101), (.ref b101)]) (rest := []) (lenOf pd_5 rfl) rfl (by show 2 * 0 + _ ≤ _; exact Nat.le_of_eq rfl) (hb hby at_151) (fun _ _ => ⟨rfl, e141, (by decide : 6 + 0 ≤ _), (by decide : 48 + 0 ≤ _)⟩)
    dsimp only [Pt.U, Pt.locs, Pt.cells, Pt.slots] at X214 l214 y214 z214 st214 hQ214
    rw [l214, y214, z214] at X214
    obtain ⟨rfl, N214q, K214q, o214_0, o214_1, o214_2, o214_3, o214_4, o214_5, o214_6, o214_7, V214q, R214q, L214q, D214q⟩ := hQ214
    have N214 := Fr.app N119 N214q
    have f215 := own_sta_keep f148 K214q (nsS f150.nostat ns0)
    have f216 := f149.keep K214q (ninS ne102 nin0)
    have f217 := f151.keep K214q (ninS (Ne.symm ne107) nin0)
    have f218 := f152.keep K214q (ninS (Ne.symm ne113) nin0)
    have f219 := f153.keep K214q (ninS (Ne.symm ne121) nin0)
    have f220 := f154.keep K214q (ninS (Ne.symm ne131) nin0)
    have f221 := V141.keep K214q (ninS (Ne.symm ne143) nin0)
    have Z214 : n0 ≤ T214.heap.size := Nat.le_trans Z141 K214q.1
    have K214 : Keep h0 T214.heap [] := K141.trans K214q (allS (Or.inr szb101) all0)
    obtain ⟨_, _, ⟨T222, L222, k222, n222⟩, -, X222, ⟨Lc222, hQ222, l222, y222, z222⟩, st222⟩ := Jvm.LawKit.callS X214 hx (y := (⟨"com/example/serialroute/serialroute/core/P256FieldSubtractPinLaw", "canonical", "([J)Z"⟩ : MethodName)) hown (mvT hZ (hw _ (List.mem_of_getElem? (i := 21) rfl))) (mvT hZ (hw _ (List.mem_of_getElem? (i := 22) rfl))) (mvT hZ (hw _ (List.mem_of_getElem? (i := 2) rfl))) (mvT hZ (hw _ (List.mem_of_getElem? (i := 23) rfl))) (by decide) (backOf (W := 0) (rm6 l Z aw hw [] b101 kb101 o214_0 o214_1 o214_2 o214_3 o214_4 o214_5 o214_6 o214_7 T214.heap n0 Z214 V214q R214q L214q) hZ (hw _ (List.mem_of_getElem? (i := 23) rfl)) (hw _ (List.mem_of_getElem? (i := 2) rfl)) (by decide) (by decide)) (g := (mkF m 210 #[.val (.long q0), .second, .val (.long q1), .second, .val (.long q2), .second, .val (.long q3), .second, .val (.long q4), .second, .val (.int p5), .val (.ref b101), .val (.ref b105), .val (.ref b111), .val (.ref b119), .val (.ref b129), .val (.ref b141), .val (.int (3 : Int32)), .val (.ref b101), .val (.ref b105)] [(.ref b101)])) rfl (by rw [hml]; rfl) (argsL := [(.ref b101)]) (rest := []) (lenOf pd_1 rfl) rfl (by show 2 * 0 + _ ≤ _; exact Nat.le_of_eq rfl) (hb hby at_210) (fun _ _ => ⟨rfl, rfl, (by decide : 6 + 0 ≤ _), (by decide : 48 + 0 ≤ _)⟩)
    dsimp only [Pt.U, Pt.locs, Pt.cells, Pt.slots] at X222 l222 y222 z222 st222 hQ222
    rw [l222, y222, z222] at X222
    obtain ⟨rfl, N222q, e222⟩ := hQ222
    have N222 := Fr.app N214 N222q
    obtain ⟨_, _, ⟨T223, L223, k223, n223⟩, -, X223, ⟨Lc223, hQ223, l223, y223, z223⟩, st223⟩ := Jvm.LawKit.callS X222 hx (y := (⟨"com/example/serialroute/serialroute/core/P256Field", "add", "([J[J[J)V"⟩ : MethodName)) hown (mvT hZ (hw _ (List.mem_of_getElem? (i := 27) rfl))) (mvT hZ (hw _ (List.mem_of_getElem? (i := 28) rfl))) (mvT hZ (hw _ (List.mem_of_getElem? (i := 15) rfl))) (mvT hZ (hw _ (List.mem_of_getElem? (i := 29) rfl))) (by decide) (backOf (W := 0) (rm_add_d l Z aw hw [] b141 b101 b105 wp kp k141 kb101 kb105 (0 : Int64) (0 : Int64) (0 : Int64) (0 : Int64) (0 : Int64) (0 : Int64) (0 : Int64) (0 : Int64) o214_0 o214_1 o214_2 o214_3 o214_4 o214_5 o214_6 o214_7 (own_w0 q0 (0 : Int32) q1 q2 q3 q4) (own_w1 q0 (0 : Int32) q1 q2 q3 q4) (own_w2 q0 (0 : Int32) q1 q2 q3 q4) (own_w3 q0 (0 : Int32) q1 q2 q3 q4) (own_w4 q0 (0 : Int32) q1 q2 q3 q4) (own_w5 q0 (0 : Int32) q1 q2 q3 q4) (own_w6 q0 (0 : Int32) q1 q2 q3 q4) (own_e7 q0 (0 : Int32) q1 q2 q3 q4) T214.heap n0 Z214 f215 f216 f221 V214q f217 ge141 ne142 (Ne.symm ne143) (Ne.symm ne144) R214q L214q (own_bR q0 (0 : Int32) q1 q2 q3 q4) (own_bW q0 (0 : Int32) q1 q2 q3 q4)) hZ (hw _ (List.mem_of_getElem? (i := 29) rfl)) (hw _ (List.mem_of_getElem? (i := 15) rfl)) (by decide) (by decide)) (g := (mkF m 224 #[.val (.long q0), .second, .val (.long q1), .second, .val (.long q2), .second, .val (.long q3), .second, .val (.long q4), .second, .val (.int p5), .val (.ref b101), .val (.ref b105), .val (.ref b111), .val (.ref b119), .val (.ref b129), .val (.ref b141), .val (.int (3 : Int32)), .val (.ref b101), .val (.ref b105)] [(.ref b105), (.ref b101), (.ref b141)])) rfl (by rw [hml]; rfl) (argsL := [(.ref b141), (.ref b101), (.ref b105)]) (rest := []) (lenOf pd_5 rfl) rfl (by show 2 * 0 + _ ≤ _; exact Nat.le_of_eq rfl) (hb hby at_224) (fun _ _ => ⟨rfl, e222, (by decide : 6 + 0 ≤ _), (by decide : 48 + 0 ≤ _)⟩)
    dsimp only [Pt.U, Pt.locs, Pt.cells, Pt.slots] at X223 l223 y223 z223 st223 hQ223
    rw [l223, y223, z223] at X223
    obtain ⟨rfl, N223q, K223q, o223_0, o223_1, o223_2, o223_3, o223_4, o223_5, o223_6, o223_7, V223q, R223q, L223q, D223q⟩ := hQ223
    have N223 := Fr.app N222 N223q
    have f224 := own_sta_keep f215 K223q (nsS f221.nostat ns0)
    have f225 := f216.keep K223q (ninS ne142 nin0)
    have f226 := f217.keep K223q (ninS ne144 nin0)
    have f227 := f218.keep K223q (ninS ne145 nin0)
    have f228 := f219.keep K223q (ninS ne146 nin0)
    have f229 := f220.keep K223q (ninS ne147 nin0)
    have f230 := V214q.keep K223q (ninS ne143 nin0)
    have Z223 : n0 ≤ T223.heap.size := Nat.le_trans Z214 K223q.1
    have K223 : Keep h0 T223.heap [] := K214.trans K223q (allS (Or.inr sz141) all0)
    obtain ⟨_, _, ⟨T231, L231, k231, n231⟩, -, X231, ⟨Lc231, hQ231, l231, y231, z231⟩, st231⟩ := Jvm.LawKit.callS X223 hx (y := (⟨"com/example/serialroute/serialroute/core/P256FieldSubtractPinLaw", "same", "([J[J)Z"⟩ : MethodName)) hown (mvT hZ (hw _ (List.mem_of_getElem? (i := 18) rfl))) (mvT hZ (hw _ (List.mem_of_getElem? (i := 19) rfl))) (mvT hZ (hw _ (List.mem_of_getElem? (i := 2) rfl))) (mvT hZ (hw _ (List.mem_of_getElem? (i := 20) rfl))) (by decide) (backOf (W := 0) (rm5 l Z aw hw [] b141 b105 k141 kb105 o223_0 o223_1 o223_2 o223_3 o223_4 o223_5 o223_6 o223_7 (own_w0 q0 (0 : Int32) q1 q2 q3 q4) (own_w1 q0 (0 : Int32) q1 q2 q3 q4) (own_w2 q0 (0 : Int32) q1 q2 q3 q4) (own_w3 q0 (0 : Int32) q1 q2 q3 q4) (own_w4 q0 (0 : Int32) q1 q2 q3 q4) (own_w5 q0 (0 : Int32) q1 q2 q3 q4) (own_w6 q0 (0 : Int32) q1 q2 q3 q4) (own_e7 q0 (0 : Int32) q1 q2 q3 q4) T223.heap n0 Z223 V223q f226) hZ (hw _ (List.mem_of_getElem? (i := 20) rfl)) (hw _ (List.mem_of_getElem? (i := 2) rfl)) (by decide) (by decide)) (g := (mkF m 231 #[.val (.long q0), .second, .val (.long q1), .second, .val (.long q2), .second, .val (.long q3), .second, .val (.long q4), .second, .val (.int p5), .val (.ref b101), .val (.ref b105), .val (.ref b111), .val (.ref b119), .val (.ref b129), .val (.ref b141), .val (.int (3 : Int32)), .val (.ref b101), .val (.ref b105)] [(.ref b105), (.ref b141)])) rfl (by rw [hml]; rfl) (argsL := [(.ref b141), (.ref b105)]) (rest := []) (lenOf pd_6 rfl) rfl (by show 2 * 0 + _ ≤ _; exact Nat.le_of_eq rfl) (hb hby at_231) (fun _ _ => ⟨rfl, rfl, (by decide : 6 + 0 ≤ _), (by decide : 48 + 0 ≤ _)⟩)
    dsimp only [Pt.U, Pt.locs, Pt.cells, Pt.slots] at X231 l231 y231 z231 st231 hQ231
    rw [l231, y231, z231] at X231
    obtain ⟨hv231, N231q, e231⟩ := hQ231
    rw [own_back R223q L223q (own_bR q0 (0 : Int32) q1 q2 q3 q4) (own_bW q0 (0 : Int32) q1 q2 q3 q4) D214q D223q] at hv231
    subst hv231
    have N231 := Fr.app N223 N231q
    obtain ⟨fs, hr, hrun, hended, hW, hsame⟩ := X231.leave (v := some (.int (1 : Int32))) (fun h => by rw [Bd.returns] at h; cases h)
    refine ⟨_, _, pre155 _ ?_, hrun, hended, _, _, rfl, ?_, ⟨_, rfl⟩, hW, hsame.mono (by decide) (by decide)⟩
    · show Steps p.tables e below (T141.setTop (mkF m 74 #[.val (.long q0), .second, .val (.long q1), .second, .val (.long q2), .second, .val (.long q3), .second, .val (.long q4), .second, .val (.int p5), .val (.ref b101), .val (.ref b105), .val (.ref b111), .val (.ref b119), .val (.ref b129), .val (.ref b141), .unset, .unset, .unset] [(.int (3 : Int32))])) _
      refine XS.istore X141.here hx rfl (hb hby at_74) rfl (l' := #[.val (.long q0), .second, .val (.long q1), .second, .val (.long q2), .second, .val (.long q3), .second, .val (.long q4), .second, .val (.int p5), .val (.ref b101), .val (.ref b105), .val (.ref b111), .val (.ref b119), .val (.ref b129), .val (.ref b141), .val (.int (3 : Int32)), .unset, .unset]) rfl ?_
      refine XS.aload X141.here hx rfl (hb hby at_76) rfl rfl ?_
      refine XS.astore X141.here hx rfl (hb hby at_78) rfl rfl (l' := #[.val (.long q0), .second, .val (.long q1), .second, .val (.long q2), .second, .val (.long q3), .second, .val (.long q4), .second, .val (.int p5), .val (.ref b101), .val (.ref b105), .val (.ref b111), .val (.ref b119), .val (.ref b129), .val (.ref b141), .val (.int (3 : Int32)), .unset, .val (.ref b119)]) rfl ?_
      refine XS.iload X141.here hx rfl (hb hby at_80) rfl ?_
      show Steps p.tables e below (T141.setTop (mkF m 82 #[.val (.long q0), .second, .val (.long q1), .second, .val (.long q2), .second, .val (.long q3), .second, .val (.long q4), .second, .val (.int p5), .val (.ref b101), .val (.ref b105), .val (.ref b111), .val (.ref b119), .val (.ref b129), .val (.ref b141), .val (.int (3 : Int32)), .unset, .val (.ref b119)] [(.int (3 : Int32))])) _
      refine XS.ifYes X141.here hx rfl (pc0 := 82) (pc' := 101) rfl (hb hby at_82) rfl ((if0 _ _).trans (feq (by decide : ¬ ((3 : Int32) = (0 : Int32)))).2) (by decide) (by decide) ?_
      refine XS.iload X141.here hx rfl (hb hby at_101) rfl ?_
      refine XS.iconst X141.here hx rfl (hb hby at_103) ?_
      refine XS.icmpYes X141.here hx rfl (pc0 := 104) (pc' := 123) rfl (hb hby at_104) rfl (feq (by decide : ¬ ((3 : Int32) = (1 : Int32)))).2 (by decide) (by decide) ?_
      show Steps p.tables e below (T141.setTop (mkF m 123 #[.val (.long q0), .second, .val (.long q1), .second, .val (.long q2), .second, .val (.long q3), .second, .val (.long q4), .second, .val (.int p5), .val (.ref b101), .val (.ref b105), .val (.ref b111), .val (.ref b119), .val (.ref b129), .val (.ref b141), .val (.int (3 : Int32)), .unset, .val (.ref b119)] [])) _
      refine XS.iload X141.here hx rfl (hb hby at_123) rfl ?_
      refine XS.iconst X141.here hx rfl (hb hby at_125) ?_
      refine XS.icmpYes X141.here hx rfl (pc0 := 126) (pc' := 145) rfl (hb hby at_126) rfl (feq (by decide : ¬ ((3 : Int32) = (2 : Int32)))).2 (by decide) (by decide) ?_
      refine XS.aload X141.here hx rfl (hb hby at_145) rfl rfl ?_
      show Steps p.tables e below (T141.setTop (mkF m 147 #[.val (.long q0), .second, .val (.long q1), .second, .val (.long q2), .second, .val (.long q3), .second, .val (.long q4), .second, .val (.int p5), .val (.ref b101), .val (.ref b105), .val (.ref b111), .val (.ref b119), .val (.ref b129), .val (.ref b141), .val (.int (3 : Int32)), .unset, .val (.ref b119)] [(.ref b101)])) _
      refine XS.aload X141.here hx rfl (hb hby at_147) rfl rfl ?_
      refine XS.aload X141.here hx rfl (hb hby at_149) rfl rfl ?_
      show Steps p.tables e below (T141.setTop (mkF m 151 #[.val (.long q0), .second, .val (.long q1), .second, .val (.long q2), .second, .val (.long q3), .second, .val (.long q4), .second, .val (.int p5), .val (.ref b101), .val (.ref b105), .val (.ref b111), .val (.ref b119), .val (.ref b129), .val (.ref b141), .val (.int (3 : Int32)), .unset, .val (.ref b119)] [(.ref b101), (.ref b101), (.ref b101)])) _
      refine st214 _ ?_
      refine XS.aload X214.here hx rfl (hb hby at_154) rfl rfl ?_
      refine XS.astore X214.here hx rfl (hb hby at_156) rfl rfl (l' := #[.val (.long q0), .second, .val (.long q1), .second, .val (.long q2), .second, .val (.long q3), .second, .val (.long q4), .second, .val (.int p5), .val (.ref b101), .val (.ref b105), .val (.ref b111), .val (.ref b119), .val (.ref b129), .val (.ref b141), .val (.int (3 : Int32)), .val (.ref b101), .val (.ref b119)]) rfl ?_
      refine XS.aload X214.here hx rfl (hb hby at_158) rfl rfl ?_
      show Steps p.tables e below (T214.setTop (mkF m 160 #[.val (.long q0), .second, .val (.long q1), .second, .val (.long q2), .second, .val (.long q3), .second, .val (.long q4), .second, .val (.int p5), .val (.ref b101), .val (.ref b105), .val (.ref b111), .val (.ref b119), .val (.ref b129), .val (.ref b141), .val (.int (3 : Int32)), .val (.ref b101), .val (.ref b119)] [(.ref b105)])) _
      refine XS.astore X214.here hx rfl (hb hby at_160) rfl rfl (l' := #[.val (.long q0), .second, .val (.long q1), .second, .val (.long q2), .second, .val (.long q3), .second, .val (.long q4), .second, .val (.int p5), .val (.ref b101), .val (.ref b105), .val (.ref b111), .val (.ref b119), .val (.ref b129), .val (.ref b141), .val (.int (3 : Int32)), .val (.ref b101), .val (.ref b105)]) rfl ?_
      refine XS.iload X214.here hx rfl (hb hby at_162) rfl ?_
      refine XS.ifNo X214.here hx rfl (hb hby at_164) rfl ((if0 _ _).trans (feq (by decide : ¬ ((3 : Int32) = (0 : Int32)))).1) ?_
      refine XS.iload X214.here hx rfl (hb hby at_167) rfl ?_
      show Steps p.tables e below (T214.setTop (mkF m 169 #[.val (.long q0), .second, .val (.long q1), .second, .val (.long q2), .second, .val (.long q3), .second, .val (.long q4), .second, .val (.int p5), .val (.ref b101), .val (.ref b105), .val (.ref b111), .val (.ref b119), .val (.ref b129), .val (.ref b141), .val (.int (3 : Int32)), .val (.ref b101), .val (.ref b105)] [(.int (3 : Int32))])) _
      refine XS.iconst X214.here hx rfl (hb hby at_169) ?_
      refine XS.icmpYes X214.here hx rfl (pc0 := 170) (pc' := 185) rfl (hb hby at_170) rfl (feq (by decide : ¬ ((3 : Int32) = (2 : Int32)))).2 (by decide) (by decide) ?_
      refine XS.iload X214.here hx rfl (hb hby at_185) rfl ?_
      refine XS.ifNo X214.here hx rfl (hb hby at_187) rfl ((if0 _ _).trans (feq (by decide : ¬ ((3 : Int32) = (0 : Int32)))).1) ?_
      show Steps p.tables e below (T214.setTop (mkF m 190 #[.val (.long q0), .second, .val (.long q1), .second, .val (.long q2), .second, .val (.long q3), .second, .val (.long q4), .second, .val (.int p5), .val (.ref b101), .val (.ref b105), .val (.ref b111), .val (.ref b119), .val (.ref b129), .val (.ref b141), .val (.int (3 : Int32)), .val (.ref b101), .val (.ref b105)] [])) _
      refine XS.iload X214.here hx rfl (hb hby at_190) rfl ?_
      refine XS.iconst X214.here hx rfl (hb hby at_192) ?_
      refine XS.icmpYes X214.here hx rfl (pc0 := 193) (pc' := 208) rfl (hb hby at_193) rfl (feq (by decide : ¬ ((3 : Int32) = (1 : Int32)))).2 (by decide) (by decide) ?_
      refine XS.aload X214.here hx rfl (hb hby at_208) rfl rfl ?_
      show Steps p.tables e below (T214.setTop (mkF m 210 #[.val (.long q0), .second, .val (.long q1), .second, .val (.long q2), .second, .val (.long q3), .second, .val (.long q4), .second, .val (.int p5), .val (.ref b101), .val (.ref b105), .val (.ref b111), .val (.ref b119), .val (.ref b129), .val (.ref b141), .val (.int (3 : Int32)), .val (.ref b101), .val (.ref b105)] [(.ref b101)])) _
      refine st222 _ ?_
      refine XS.ifYes X222.here hx rfl (pc0 := 213) (pc' := 218) rfl (hb hby at_213) rfl ((if0 _ _).trans (feq (by decide : ¬ ((1 : Int32) = (0 : Int32)))).2) (by decide) (by decide) ?_
      refine XS.aload X222.here hx rfl (hb hby at_218) rfl rfl ?_
      refine XS.aload X222.here hx rfl (hb hby at_220) rfl rfl ?_
      show Steps p.tables e below (T222.setTop (mkF m 222 #[.val (.long q0), .second, .val (.long q1), .second, .val (.long q2), .second, .val (.long q3), .second, .val (.long q4), .second, .val (.int p5), .val (.ref b101), .val (.ref b105), .val (.ref b111), .val (.ref b119), .val (.ref b129), .val (.ref b141), .val (.int (3 : Int32)), .val (.ref b101), .val (.ref b105)] [(.ref b101), (.ref b141)])) _
      refine XS.aload X222.here hx rfl (hb hby at_222) rfl rfl ?_
      show Steps p.tables e below (T222.setTop (mkF m 224 #[.val (.long q0), .second, .val (.long q1), .second, .val (.long q2), .second, .val (.long q3), .second, .val (.long q4), .second, .val (.int p5), .val (.ref b101), .val (.ref b105), .val (.ref b111), .val (.ref b119), .val (.ref b129), .val (.ref b141), .val (.int (3 : Int32)), .val (.ref b101), .val (.ref b105)] [(.ref b105), (.ref b101), (.ref b141)])) _
      refine st223 _ ?_
      refine XS.aload X223.here hx rfl (hb hby at_227) rfl rfl ?_
      refine XS.aload X223.here hx rfl (hb hby at_229) rfl rfl ?_
      show Steps p.tables e below (T223.setTop (mkF m 231 #[.val (.long q0), .second, .val (.long q1), .second, .val (.long q2), .second, .val (.long q3), .second, .val (.long q4), .second, .val (.int p5), .val (.ref b101), .val (.ref b105), .val (.ref b111), .val (.ref b119), .val (.ref b129), .val (.ref b141), .val (.int (3 : Int32)), .val (.ref b101), .val (.ref b105)] [(.ref b105), (.ref b141)])) _
      refine st231 _ ?_
      show Steps p.tables e below (T231.setTop (mkF m 234 #[.val (.long q0), .second, .val (.long q1), .second, .val (.long q2), .second, .val (.long q3), .second, .val (.long q4), .second, .val (.int p5), .val (.ref b101), .val (.ref b105), .val (.ref b111), .val (.ref b119), .val (.ref b129), .val (.ref b141), .val (.int (3 : Int32)), .val (.ref b101), .val (.ref b105)] [(.int (1 : Int32))])) _
      exact retN X231 hx (t := .boolean) Bd.returns (by simp) (hb hby at_234) hr
    · show Q0 Z q0 q1 q2 q3 q4 p5 wp kp h0 n0 _ T231.heap _
      rw [e231]
      exact ⟨rfl, N231⟩
set_option maxRecDepth 65536 in
set_option maxHeartbeats 40000000 in
theorem comes_1 {Post : Tables → Env → Array Value → State → Outcome → State → Prop} (hpost : ∀ tb e args s v u, (limb_1_1.after args s (.returned v) u = true ∧ limb_1_2.after args s (.returned v) u = true ∧ True) → FrameEnd s (.returned v) u (Jvm.fieldLocs frame_1_writes args s ++ Jvm.arrayLocs frame_1_arrays args s ++ Jvm.staticLocs frame_1_statics s) 24 192 → Post tb e args s (.returned v) u) :
    ArmFor flags0 classFile x code maxLocals ret World_1 tables_1 room_1 Calls_1 rest_1 Pre_1 Post := by
  intro l hfl _ _ p e ha hc hk s m args below hf hA hF happ hP
  obtain ⟨hcalls, hrest, hpre⟩ := hP
  obtain ⟨-, -, -, hnamed, -, -, -, hat⟩ := (Spec.applies_iff hf).mp happ
  obtain ⟨hg, hn⟩ := and_e (Cond.before_iff.mp (show (Jvm.Cond.and given_1 narrow_1).before args s = true from hpre))
  obtain ⟨hga, hgb⟩ := and_e hg
  obtain ⟨hgba, hgbb⟩ := and_e hgb
  obtain ⟨hgbba, hgbbb⟩ := and_e hgbb
  obtain ⟨hgbbba, hgbbbb⟩ := and_e hgbbb
  obtain ⟨hgbbbba, hgbbbbb⟩ := and_e hgbbbb
  obtain ⟨hgbbbbba, hgbbbbbb⟩ := and_e hgbbbbb
  obtain ⟨w0, w1, w2, w3, w4, w5, rfl⟩ : ∃ w0 w1 w2 w3 w4 w5 : Value, args = #[w0, w1, w2, w3, w4, w5] := by
    have hs : args.size = 6 := by simpa [Cond.value, given_1] using hga
    obtain ⟨L⟩ := args
    match L, hs with
    | [w0, w1, w2, w3, w4, w5], _ => exact ⟨w0, w1, w2, w3, w4, w5, rfl⟩
  have hw := fun d (hd : d ∈ tables_1) => atoms_spec (ws := Jvm.Cond.code x code maxLocals ret :: tables_1) hat d (List.mem_cons_of_mem _ hd)
  have hfit : Fit s := fun {y c} hc i hi => by
    obtain ⟨ha, rfl⟩ := Array.getElem?_eq_some_iff.mp hc
    have q := List.all_eq_true.mp ((Array.all_eq_true_iff_forall_mem.mp hF) _ (Array.getElem_mem ha)) i (List.mem_range.mpr hi)
    simpa [Array.getElem?_eq_getElem hi] using q
  obtain ⟨i0, ei0⟩ := isL_v hgba
  obtain rfl : w0 = (.long i0) := Option.some.inj ei0
  obtain ⟨i1, ei1⟩ := isL_v hgbba
  obtain rfl : w1 = (.long i1) := Option.some.inj ei1
  obtain ⟨i2, ei2⟩ := isL_v hgbbba
  obtain rfl : w2 = (.long i2) := Option.some.inj ei2
  obtain ⟨i3, ei3⟩ := isL_v hgbbbba
  obtain rfl : w3 = (.long i3) := Option.some.inj ei3
  obtain ⟨i4, ei4⟩ := isL_v hgbbbbba
  obtain rfl : w4 = (.long i4) := Option.some.inj ei4
  obtain ⟨i5, ei5⟩ := is_v hgbbbbbb
  obtain rfl : w5 = (.int i5) := Option.some.inj ei5
  obtain ⟨hna, hnb⟩ := and_e hn
  obtain ⟨hnba, hnbb⟩ := and_e hnb
  obtain ⟨hnbba, hnbbb⟩ := and_e hnbb
  obtain ⟨hnbbba, hnbbbb⟩ := and_e hnbbb
  obtain ⟨hnbbbba, hnbbbbb⟩ := and_e hnbbbb
  obtain ⟨hnbbbbba, hnbbbbbb⟩ := and_e hnbbbbb
  obtain ⟨hnbbbbbba, hnbbbbbbb⟩ := and_e hnbbbbbb
  obtain ⟨hnbbbbbbba, hnbbbbbbbb⟩ := and_e hnbbbbbbb
  obtain ⟨hnbbbbbbbba, hnbbbbbbbbb⟩ := and_e hnbbbbbbbb
  obtain ⟨wp, evp⟩ := arr_v hna
  have SP := Sta.start evp (Or.inr ⟨(hw _ (List.mem_of_getElem? (i := 15) rfl)), (hw _ (List.mem_of_getElem? (i := 34) rfl))⟩)
  obtain ⟨clp, Arp⟩ := Arr.start evp hna
  obtain ⟨l1, l2⟩ := own_len evp Arp.1 hnba
  have el0 : clp.slots[0]? = some (.long (4294967295 : Int64)) := own_elemJ evp Arp.1 hnbba
  have el1 : clp.slots[1]? = some (.long (4294967295 : Int64)) := own_elemJ evp Arp.1 hnbbba
  have el2 : clp.slots[2]? = some (.long (4294967295 : Int64)) := own_elemJ evp Arp.1 hnbbbba
  have el3 : clp.slots[3]? = some (.long (0 : Int64)) := own_elemJ evp Arp.1 hnbbbbba
  have el4 : clp.slots[4]? = some (.long (0 : Int64)) := own_elemJ evp Arp.1 hnbbbbbba
  have el5 : clp.slots[5]? = some (.long (0 : Int64)) := own_elemJ evp Arp.1 hnbbbbbbba
  have el6 : clp.slots[6]? = some (.long (1 : Int64)) := own_elemJ evp Arp.1 hnbbbbbbbba
  have el7 : clp.slots[7]? = some (.long (4294967295 : Int64)) := own_elemJ evp Arp.1 hnbbbbbbbbb
  have VP : Arv s s.heap wp clp.cls .long (8 : Int32) [(.long (4294967295 : Int64)), (.long (4294967295 : Int64)), (.long (4294967295 : Int64)), (.long (0 : Int64)), (.long (0 : Int64)), (.long (0 : Int64)), (.long (1 : Int64)), (.long (4294967295 : Int64))] (.long (0 : Int64)) := Arv.start hfit Arp l1 l2 (by decide) rfl ⟨el0, el1, el2, el3, el4, el5, el6, el7, trivial⟩
  obtain ⟨n, o, h1, h2, h3, _, L, rfl, ⟨rfl, N⟩, hq⟩ := rm0 l s _ hw tables_1 i0 i1 i2 i3 i4 i5 wp clp.cls s.heap s.heap.size (Nat.le_refl _) SP VP p e ha hc hk s m _ below hf ((Spec.applies_iff_loose hf).mp happ).1 ⟨rfl, State.Warmed39.refl s, rfl⟩ trivial
  refine ⟨n, _, h1, h2, h3, hpost _ _ _ _ _ _ ⟨Cond.after_iff.mpr rfl, Cond.after_iff.mpr (eq_i res_at (Term.int_eval (1)) rfl), trivial⟩ ⟨hq.1, hq.2.1, (hq.2.2.sift fun y hy => Or.inr (N y hy)).mono (by decide) (by decide)⟩⟩
theorem main_1_1 : Claimed_1_1 := comes_1 fun _ _ _ _ _ _ h hF => ⟨h.1, hF⟩
theorem main_1_2 : Claimed_1_2 := comes_1 fun _ _ _ _ _ _ h hF => ⟨h.2.1, hF⟩
end Jvm.Pilot.@@N@@
namespace Jvm.Pilot.@@N@@
open Jvm Jvm.ClassFile Sem Op Lib Jvm.Free Jvm.Stand Jvm.Pilot.@@N@@.Jvm.D
/-! MADE BY PROGRAM (witnessworld.py) out of the Statement's table words and the real class files: 11 classes; the members and pool entries that the words name. The judged class is class 1, her method 1. -/
namespace start1
open Jvm.ClassFile
def u (s : String) : CpInfo := .utf8 (stringToUtf16 s)
/-- a pool by its gaps: so many unusable entries, then the entry; so many at the end -/
def gap : Nat → List CpInfo → List CpInfo
  | 0, r => r
  | n + 1, r => .unusable :: gap n r
def poolList (es : List (Nat × CpInfo)) (last : Nat) : List CpInfo := es.foldr (fun e r => gap e.1 (e.2 :: r)) (gap last [])
def pool (es : List (Nat × CpInfo)) (last : Nat) : Array CpInfo := ⟨poolList es last⟩
def fileOf (pool : Array CpInfo) (this : Nat) (attrs : Array Attribute := #[]) (ms : Array MethodInfo := #[]) (fl : Nat := 33) (sup : Nat := 0) (ifs : Array Nat := #[]) (fds : Array FieldInfo := #[]) : ClassFile where
  minorVersion := 0
  majorVersion := 65
  constantPool := pool
  accessFlags := fl
  thisClass := this
  superClass := sup
  interfaces := ifs
  fields := fds
  methods := ms
  attributes := attrs
def plain (name : String) (sup : Option ClassId) : Class where
  name := name
  kind := .ordinary
  loader := none
  accessFlags := 33
  super := sup
  interfaces := #[]
  cf := none
  fields := #[]
  methods := #[]
  instanceTypes := #[]
  staticTypes := #[]
  resolved := #[]
  callSites := []
  init := .initialized
  statics := none
  mirror := none

def pool0 : Array CpInfo := pool [(5, u "<init>"), (0, u "()V"), (1, .class_ 10), (1, u "java/lang/Object")] 113

def k0m0 : Method := { name := "<init>", desc := "()V", sig := { parameters := [], returnType := none }, accessFlags := 1, code := none }
/-- java/lang/Object -/
def k0 : Class := { plain "java/lang/Object" none with
  accessFlags := 33
  interfaces := #[]
  cf := some (fileOf pool0 8 #[] #[{ accessFlags := 1, nameIndex := 5, descriptorIndex := 6, attributes := #[] }] 33 0 #[] #[])
  fields := #[]
  methods := #[k0m0]
  instanceTypes := #[]
  staticTypes := #[]
  resolved := Array.replicate 124 none
  statics := none }

def pool1 : Array CpInfo := pool [(2, .class_ 4), (1, u "java/lang/Object"), (0, u "<init>"), (0, u "()V"), (0, .methodref 8 9), (0, .class_ 10), (0, .nameAndType 11 12), (0, u "com/example/serialroute/serialroute/core/P256FieldSubtractPinLaw"), (0, u "build"), (0, u "(JIJJJJ)[J"), (0, .methodref 14 15), (0, .class_ 16), (0, .nameAndType 17 18), (0, u "com/example/serialroute/serialroute/core/P256Field"), (0, u "subtract"), (0, u "([J[J[J)V"), (0, .methodref 8 20), (0, .nameAndType 21 22), (0, u "same"), (0, u "([J[J)Z"), (0, .methodref 8 24), (0, .nameAndType 25 26), (0, u "canonical"), (0, u "([J)Z"), (0, .methodref 14 28), (0, .nameAndType 29 18), (0, u "add"), (0, .long 15), (1, .methodref 8 33), (0, .nameAndType 34 35), (0, u "pick"), (0, u "(IJJJJ)J"), (0, .methodref 8 37), (0, .nameAndType 38 26), (0, u "below"), (0, .long 4294967294), (1, .long 4294967295), (1, .long 2147483647), (1, .long 2147483648), (1, .long 2), (1, .methodref 8 50), (0, .nameAndType 51 52), (0, u "inRange"), (0, u "(J)Z"), (2, u "law"), (0, u "(JJJJJI)Z")] 5

def k1m0 : Method := { name := "<init>", desc := "()V", sig := { parameters := [], returnType := none }, accessFlags := 2, code := none }
def k1c1 : Code := { maxStack := 11, maxLocals := 20, code := code, exceptionTable := #[], attributes := #[] }
def k1m1 : Method := { name := "law", desc := "(JJJJJI)Z", sig := { parameters := [.long, .long, .long, .long, .long, .int], returnType := some .boolean }, accessFlags := 9, code := some k1c1 }
def k1c2 : Code := { maxStack := 11, maxLocals := 12, code := method_3_code, exceptionTable := #[], attributes := #[] }
def k1m2 : Method := { name := "build", desc := "(JIJJJJ)[J", sig := { parameters := [.long, .int, .long, .long, .long, .long], returnType := some (.array .long) }, accessFlags := 10, code := some k1c2 }
def k1c3 : Code := { maxStack := 4, maxLocals := 9, code := method_4_code, exceptionTable := #[], attributes := #[] }
def k1m3 : Method := { name := "pick", desc := "(IJJJJ)J", sig := { parameters := [.int, .long, .long, .long, .long], returnType := some .long }, accessFlags := 10, code := some k1c3 }
def k1c4 : Code := { maxStack := 4, maxLocals := 1, code := method_5_code, exceptionTable := #[], attributes := #[] }
def k1m4 : Method := { name := "below", desc := "([J)Z", sig := { parameters := [(.array .long)], returnType := some .boolean }, accessFlags := 10, code := some k1c4 }
def k1c5 : Code := { maxStack := 4, maxLocals := 2, code := method_6_code, exceptionTable := #[], attributes := #[] }
def k1m5 : Method := { name := "inRange", desc := "(J)Z", sig := { parameters := [.long], returnType := some .boolean }, accessFlags := 10, code := some k1c5 }
def k1c6 : Code := { maxStack := 2, maxLocals := 1, code := method_7_code, exceptionTable := #[], attributes := #[] }
def k1m6 : Method := { name := "canonical", desc := "([J)Z", sig := { parameters := [(.array .long)], returnType := some .boolean }, accessFlags := 10, code := some k1c6 }
def k1c7 : Code := { maxStack := 4, maxLocals := 2, code := method_8_code, exceptionTable := #[], attributes := #[] }
def k1m7 : Method := { name := "same", desc := "([J[J)Z", sig := { parameters := [(.array .long), (.array .long)], returnType := some .boolean }, accessFlags := 10, code := some k1c7 }
/-- com/example/serialroute/serialroute/core/P256FieldSubtractPinLaw -/
def k1 : Class := { plain "com/example/serialroute/serialroute/core/P256FieldSubtractPinLaw" (some 0) with
  accessFlags := 49
  interfaces := #[]
  cf := some (fileOf pool1 8 #[] #[{ accessFlags := 2, nameIndex := 5, descriptorIndex := 6, attributes := #[] }, { accessFlags := 9, nameIndex := 55, descriptorIndex := 56, attributes := #[] }, { accessFlags := 10, nameIndex := 11, descriptorIndex := 12, attributes := #[] }, { accessFlags := 10, nameIndex := 34, descriptorIndex := 35, attributes := #[] }, { accessFlags := 10, nameIndex := 38, descriptorIndex := 26, attributes := #[] }, { accessFlags := 10, nameIndex := 51, descriptorIndex := 52, attributes := #[] }, { accessFlags := 10, nameIndex := 25, descriptorIndex := 26, attributes := #[] }, { accessFlags := 10, nameIndex := 21, descriptorIndex := 22, attributes := #[] }] 49 2 #[] #[])
  fields := #[]
  methods := #[k1m0, k1m1, k1m2, k1m3, k1m4, k1m5, k1m6, k1m7]
  instanceTypes := #[]
  staticTypes := #[]
  resolved := Array.replicate 62 none
  statics := none }

def pool2 : Array CpInfo := pool [(2, .class_ 4), (1, u "java/lang/Object"), (0, u "<init>"), (0, u "()V"), (0, .class_ 8), (0, u "com/example/serialroute/serialroute/core/P256Field"), (2, u "product"), (0, u "[J"), (8, u "P"), (0, u "Ljava/math/BigInteger;"), (37, .long 4294967295), (1, .methodref 7 63), (0, .nameAndType 64 65), (0, u "belowP"), (0, u "([J)Z"), (0, .methodref 7 67), (0, .nameAndType 68 69), (0, u "subtractP"), (0, u "([J)V"), (0, .methodref 7 71), (0, .nameAndType 72 69), (0, u "addP"), (9, .fieldref 7 83), (0, .nameAndType 84 12), (0, u "P_WORDS"), (10, u "([J[J[J)V"), (16, u "subtract"), (2, u "add"), (0, u "WORDS"), (0, u "I"), (2, u "MASK"), (0, u "J")] 28

def k2m0 : Method := { name := "<init>", desc := "()V", sig := { parameters := [], returnType := none }, accessFlags := 0, code := none }
def k2c1 : Code := { maxStack := 6, maxLocals := 6, code := prog_29_method_5_code, exceptionTable := #[], attributes := #[] }
def k2m1 : Method := { name := "add", desc := "([J[J[J)V", sig := { parameters := [(.array .long), (.array .long), (.array .long)], returnType := none }, accessFlags := 8, code := some k2c1 }
def k2c2 : Code := { maxStack := 6, maxLocals := 6, code := prog_29_method_6_code, exceptionTable := #[], attributes := #[] }
def k2m2 : Method := { name := "subtract", desc := "([J[J[J)V", sig := { parameters := [(.array .long), (.array .long), (.array .long)], returnType := none }, accessFlags := 8, code := some k2c2 }
def k2c3 : Code := { maxStack := 4, maxLocals := 2, code := prog_29_method_13_code, exceptionTable := #[], attributes := #[] }
def k2m3 : Method := { name := "belowP", desc := "([J)Z", sig := { parameters := [(.array .long)], returnType := some .boolean }, accessFlags := 10, code := some k2c3 }
def k2c4 : Code := { maxStack := 6, maxLocals := 4, code := prog_29_method_14_code, exceptionTable := #[], attributes := #[] }
def k2m4 : Method := { name := "subtractP", desc := "([J)V", sig := { parameters := [(.array .long)], returnType := none }, accessFlags := 10, code := some k2c4 }
def k2c5 : Code := { maxStack := 6, maxLocals := 4, code := prog_29_method_15_code, exceptionTable := #[], attributes := #[] }
def k2m5 : Method := { name := "addP", desc := "([J)V", sig := { parameters := [(.array .long)], returnType := none }, accessFlags := 10, code := some k2c5 }
/-- com/example/serialroute/serialroute/core/P256Field -/
def k2 : Class := { plain "com/example/serialroute/serialroute/core/P256Field" (some 0) with
  accessFlags := 48
  interfaces := #[]
  cf := some (fileOf pool2 7 #[] #[{ accessFlags := 0, nameIndex := 5, descriptorIndex := 6, attributes := #[] }, { accessFlags := 8, nameIndex := 115, descriptorIndex := 95, attributes := #[] }, { accessFlags := 8, nameIndex := 112, descriptorIndex := 95, attributes := #[] }, { accessFlags := 10, nameIndex := 64, descriptorIndex := 65, attributes := #[] }, { accessFlags := 10, nameIndex := 68, descriptorIndex := 69, attributes := #[] }, { accessFlags := 10, nameIndex := 72, descriptorIndex := 69, attributes := #[] }] 48 2 #[] #[{ accessFlags := 24, nameIndex := 116, descriptorIndex := 117, attributes := #[] }, { accessFlags := 24, nameIndex := 21, descriptorIndex := 22, attributes := #[] }, { accessFlags := 26, nameIndex := 120, descriptorIndex := 121, attributes := #[] }, { accessFlags := 26, nameIndex := 84, descriptorIndex := 12, attributes := #[] }, { accessFlags := 18, nameIndex := 11, descriptorIndex := 12, attributes := #[] }])
  fields := #[{ name := "WORDS", type := .int, accessFlags := 24, slot := 0, constantValue := 0 }, { name := "P", type := (.object "java/math/BigInteger"), accessFlags := 24, slot := 1, constantValue := 0 }, { name := "MASK", type := .long, accessFlags := 26, slot := 2, constantValue := 0 }, { name := "P_WORDS", type := (.array .long), accessFlags := 26, slot := 3, constantValue := 0 }, { name := "product", type := (.array .long), accessFlags := 18, slot := 0, constantValue := 0 }]
  methods := #[k2m0, k2m1, k2m2, k2m3, k2m4, k2m5]
  instanceTypes := #[(.array .long)]
  staticTypes := #[.int, (.object "java/math/BigInteger"), .long, (.array .long)]
  resolved := Array.replicate 150 none
  statics := some 0 }

def pool3 : Array CpInfo := pool [(1, u "java/lang/Cloneable"), (0, .class_ 1), (0, u "java/lang/Object"), (0, .class_ 3)] 3

/-- java/lang/Cloneable -/
def k3 : Class := { plain "java/lang/Cloneable" (some 0) with
  accessFlags := 1537
  interfaces := #[]
  cf := some (fileOf pool3 2 #[] #[] 1537 4 #[] #[])
  fields := #[]
  methods := #[]
  instanceTypes := #[]
  staticTypes := #[]
  resolved := Array.replicate 8 none
  statics := none }

def pool4 : Array CpInfo := pool [(1, u "java/io/Serializable"), (0, .class_ 1), (0, u "java/lang/Object"), (0, .class_ 3)] 3

/-- java/io/Serializable -/
def k4 : Class := { plain "java/io/Serializable" (some 0) with
  accessFlags := 1537
  interfaces := #[]
  cf := some (fileOf pool4 2 #[] #[] 1537 4 #[] #[])
  fields := #[]
  methods := #[]
  instanceTypes := #[]
  staticTypes := #[]
  resolved := Array.replicate 8 none
  statics := none }

/-- the primitive byte -/
def k5 : Class := { plain "byte" none with kind := .primitive 'B', accessFlags := 0x411 }
/-- [B -/
def k6 : Class := { plain "[B" (some 0) with kind := .array 5 .byte, interfaces := #[3, 4], accessFlags := 1041 }

/-- the primitive int -/
def k7 : Class := { plain "int" none with kind := .primitive 'I', accessFlags := 0x411 }
/-- [I -/
def k8 : Class := { plain "[I" (some 0) with kind := .array 7 .int, interfaces := #[3, 4], accessFlags := 1041 }

/-- the primitive long -/
def k9 : Class := { plain "long" none with kind := .primitive 'J', accessFlags := 0x411 }
/-- [J -/
def k10 : Class := { plain "[J" (some 0) with kind := .array 9 .long, interfaces := #[3, 4], accessFlags := 1041 }

def heap : Heap := #[{ cls := 2, slots := #[.int 0, .null, .long 0, .ref 1], vm := .statics 2 },
  { cls := 10, slots := #[.long 4294967295, .long 4294967295, .long 4294967295, .long 0, .long 0, .long 0, .long 1, .long 4294967295], vm := .none }]
def classes : Array Class := #[k0, k1, k2, k3, k4, k5, k6, k7, k8, k9, k10]
def interned : List (Array UInt16 × Addr) := []
def slotsUsed : Nat := 12
def theMethod : MethodId := ⟨1, 1⟩
def args0 : Array Value := #[.long 5, .long 7, .long 0, .long 1, .long 9, .int 2]
def aboutOver (below : List Frame) : State where
  vm := { classes := classes, interned := interned.toArray }
  heap := heap
  slotsUsed := slotsUsed
  threads := #[{ frames := .invoking theMethod args0 :: below }]
def below0 : List Frame := [.native { method := ⟨0, 0⟩, args := #[] }]
def about1 : State := aboutOver below0
def p0 : Program := .bare "" "" ""
def e0 : Env := launch0.env 0 0 0
theorem w_frames : about1.frames = Frame.invoking theMethod args0 :: below0 := rfl
set_option maxRecDepth 65536 in
theorem w_args : argsFit about1.vm theMethod args0 = true := by decide +kernel
set_option maxRecDepth 65536 in
theorem w_heap : heapFits about1 = true := by decide +kernel
set_option maxRecDepth 65536 in
theorem w_runnable : about1.curStatus? = some .runnable := by decide +kernel
set_option maxRecDepth 65536 in
theorem w_alone : about1.alone = true := by decide +kernel
set_option maxRecDepth 65536 in
theorem w_named : about1.methodNamed? x = some theMethod := by decide +kernel
set_option maxRecDepth 65536 in
theorem w_hears : about1.hears theMethod below0 = true := by decide +kernel
set_option maxRecDepth 65536 in
theorem w_ripe : about1.ripe theMethod args0 below0 = true := by decide +kernel
theorem w_running : about1.status = .running := rfl
set_option maxRecDepth 65536 in
theorem w_room : about1.hasRoom e0.platform room_1 = true :=
  launch0.hasRoom_least _ room_1 (by decide +kernel) (by decide +kernel) (by decide +kernel) (by decide +kernel) (by decide +kernel) (by decide +kernel)
theorem allAtoms_all (ts : List Jvm.Cond) (a : Array Jvm.Value) (st : Jvm.State) : (allAtoms ts).before a st = ts.all (fun c => c.before a st) := by
  induction ts with
  | nil => rfl
  | cons c t ih =>
    show (Jvm.Cond.and c (allAtoms t)).before a st = _
    rw [Jvm.Cond.before_and, ih, List.all_cons]
def words1 : List Jvm.Cond := Jvm.Cond.code x code maxLocals ret :: tables_1
/-- a 'code' word, met by the world's own term for the bytes: nothing is compared byte by byte -/
theorem code_word {y : MethodName} {bytes : ByteArray} {mx : Nat} {rt : Option FieldType} {a : Array Value} {s : State} {m : MethodId} {meth : Method} {c : Code} (h1 : s.methodNamed? y = some m) (h2 : s.vm.method? m = some meth) (h3 : meth.code = some c) (h4 : c.code = bytes)
    (h5 : (c.maxLocals == mx && c.exceptionTable.isEmpty && decide (c.maxStack ≤ mostOperands) && decide (meth.sig.returnType = rt) && !meth.locks && decide (parseMethodDescriptor y.desc = some meth.sig)) = true) : (Jvm.Cond.code y bytes mx rt).before a s = true := by
  simp only [Bool.and_eq_true, beq_iff_eq, Bool.not_eq_true', decide_eq_true_eq] at h5
  obtain ⟨⟨⟨⟨⟨g1, g2⟩, g3⟩, g4⟩, g5⟩, g6⟩ := h5
  simp [Cond.before, Cond.holds, Cond.value, h1, h2, h3, h4, g1, g2, g3, g4, g5, g6]
def isCode : Jvm.Cond → Bool
  | .code _ _ _ _ => true
  | _ => false
theorem all_split {L : List Jvm.Cond} {P : Jvm.Cond → Bool} (h1 : L.all (fun c => isCode c || P c) = true) (h2 : ∀ c ∈ L.filter isCode, P c = true) : L.all P = true := by
  refine List.all_eq_true.mpr fun c hc => ?_
  have h := List.all_eq_true.mp h1 c hc
  rcases Bool.eq_false_or_eq_true (isCode c) with hi | hi
  · exact h2 c (List.mem_filter.mpr ⟨hc, hi⟩)
  · simpa [hi] using h
set_option maxRecDepth 65536 in
theorem w_c0 : (Jvm.Cond.code x code maxLocals ret).before args0 about1 = true := code_word (m := ⟨1, 1⟩) (meth := k1m1) (c := k1c1) (by decide +kernel) rfl rfl rfl (by decide +kernel)
set_option maxRecDepth 65536 in
theorem w_c1 : (Jvm.Cond.code ({ cls := "com/example/serialroute/serialroute/core/P256FieldSubtractPinLaw", name := "build", desc := "(JIJJJJ)[J" } : Jvm.MethodName) method_3_code (12 : Nat) (Option.some (Jvm.ClassFile.FieldType.array Jvm.ClassFile.FieldType.long))).before args0 about1 = true := code_word (m := ⟨1, 2⟩) (meth := k1m2) (c := k1c2) (by decide +kernel) rfl rfl rfl (by decide +kernel)
set_option maxRecDepth 65536 in
theorem w_c2 : (Jvm.Cond.code ({ cls := "com/example/serialroute/serialroute/core/P256FieldSubtractPinLaw", name := "pick", desc := "(IJJJJ)J" } : Jvm.MethodName) method_4_code (9 : Nat) (Option.some Jvm.ClassFile.FieldType.long)).before args0 about1 = true := code_word (m := ⟨1, 3⟩) (meth := k1m3) (c := k1c3) (by decide +kernel) rfl rfl rfl (by decide +kernel)
set_option maxRecDepth 65536 in
theorem w_c3 : (Jvm.Cond.code ({ cls := "com/example/serialroute/serialroute/core/P256FieldSubtractPinLaw", name := "below", desc := "([J)Z" } : Jvm.MethodName) method_5_code (1 : Nat) (Option.some Jvm.ClassFile.FieldType.boolean)).before args0 about1 = true := code_word (m := ⟨1, 4⟩) (meth := k1m4) (c := k1c4) (by decide +kernel) rfl rfl rfl (by decide +kernel)
set_option maxRecDepth 65536 in
theorem w_c4 : (Jvm.Cond.code ({ cls := "com/example/serialroute/serialroute/core/P256Field", name := "subtract", desc := "([J[J[J)V" } : Jvm.MethodName) prog_29_method_6_code (6 : Nat) (Option.none : Option Jvm.ClassFile.FieldType)).before args0 about1 = true := code_word (m := ⟨2, 2⟩) (meth := k2m2) (c := k2c2) (by decide +kernel) rfl rfl rfl (by decide +kernel)
set_option maxRecDepth 65536 in
theorem w_c5 : (Jvm.Cond.code ({ cls := "com/example/serialroute/serialroute/core/P256FieldSubtractPinLaw", name := "same", desc := "([J[J)Z" } : Jvm.MethodName) method_8_code (2 : Nat) (Option.some Jvm.ClassFile.FieldType.boolean)).before args0 about1 = true := code_word (m := ⟨1, 7⟩) (meth := k1m7) (c := k1c7) (by decide +kernel) rfl rfl rfl (by decide +kernel)
set_option maxRecDepth 65536 in
theorem w_c6 : (Jvm.Cond.code ({ cls := "com/example/serialroute/serialroute/core/P256FieldSubtractPinLaw", name := "canonical", desc := "([J)Z" } : Jvm.MethodName) method_7_code (1 : Nat) (Option.some Jvm.ClassFile.FieldType.boolean)).before args0 about1 = true := code_word (m := ⟨1, 6⟩) (meth := k1m6) (c := k1c6) (by decide +kernel) rfl rfl rfl (by decide +kernel)
set_option maxRecDepth 65536 in
theorem w_c7 : (Jvm.Cond.code ({ cls := "com/example/serialroute/serialroute/core/P256FieldSubtractPinLaw", name := "inRange", desc := "(J)Z" } : Jvm.MethodName) method_6_code (2 : Nat) (Option.some Jvm.ClassFile.FieldType.boolean)).before args0 about1 = true := code_word (m := ⟨1, 5⟩) (meth := k1m5) (c := k1c5) (by decide +kernel) rfl rfl rfl (by decide +kernel)
set_option maxRecDepth 65536 in
theorem w_c8 : (Jvm.Cond.code ({ cls := "com/example/serialroute/serialroute/core/P256Field", name := "add", desc := "([J[J[J)V" } : Jvm.MethodName) prog_29_method_5_code (6 : Nat) (Option.none : Option Jvm.ClassFile.FieldType)).before args0 about1 = true := code_word (m := ⟨2, 1⟩) (meth := k2m1) (c := k2c1) (by decide +kernel) rfl rfl rfl (by decide +kernel)
set_option maxRecDepth 65536 in
theorem w_c9 : (Jvm.Cond.code ({ cls := "com/example/serialroute/serialroute/core/P256Field", name := "belowP", desc := "([J)Z" } : Jvm.MethodName) prog_29_method_13_code (2 : Nat) (Option.some Jvm.ClassFile.FieldType.boolean)).before args0 about1 = true := code_word (m := ⟨2, 3⟩) (meth := k2m3) (c := k2c3) (by decide +kernel) rfl rfl rfl (by decide +kernel)
set_option maxRecDepth 65536 in
theorem w_c10 : (Jvm.Cond.code ({ cls := "com/example/serialroute/serialroute/core/P256Field", name := "addP", desc := "([J)V" } : Jvm.MethodName) prog_29_method_15_code (4 : Nat) (Option.none : Option Jvm.ClassFile.FieldType)).before args0 about1 = true := code_word (m := ⟨2, 5⟩) (meth := k2m5) (c := k2c5) (by decide +kernel) rfl rfl rfl (by decide +kernel)
set_option maxRecDepth 65536 in
theorem w_c11 : (Jvm.Cond.code ({ cls := "com/example/serialroute/serialroute/core/P256Field", name := "subtractP", desc := "([J)V" } : Jvm.MethodName) prog_29_method_14_code (4 : Nat) (Option.none : Option Jvm.ClassFile.FieldType)).before args0 about1 = true := code_word (m := ⟨2, 4⟩) (meth := k2m4) (c := k2c4) (by decide +kernel) rfl rfl rfl (by decide +kernel)
def codes1 : List Jvm.Cond := [Jvm.Cond.code x code maxLocals ret, Jvm.Cond.code ({ cls := "com/example/serialroute/serialroute/core/P256FieldSubtractPinLaw", name := "build", desc := "(JIJJJJ)[J" } : Jvm.MethodName) method_3_code (12 : Nat) (Option.some (Jvm.ClassFile.FieldType.array Jvm.ClassFile.FieldType.long)), Jvm.Cond.code ({ cls := "com/example/serialroute/serialroute/core/P256FieldSubtractPinLaw", name := "pick", desc := "(IJJJJ)J" } : Jvm.MethodName) method_4_code (9 : Nat) (Option.some Jvm.ClassFile.FieldType.long), Jvm.Cond.code ({ cls := "com/example/serialroute/serialroute/core/P256FieldSubtractPinLaw", name := "below", desc := "([J)Z" } : Jvm.MethodName) method_5_code (1 : Nat) (Option.some Jvm.ClassFile.FieldType.boolean), Jvm.Cond.code ({ cls := "com/example/serialroute/serialroute/core/P256Field", name := "subtract", desc := "([J[J[J)V" } : Jvm.MethodName) prog_29_method_6_code (6 : Nat) (Option.none : Option Jvm.ClassFile.FieldType), Jvm.Cond.code ({ cls := "com/example/serialroute/serialroute/core/P256FieldSubtractPinLaw", name := "same", desc := "([J[J)Z" } : Jvm.MethodName) method_8_code (2 : Nat) (Option.some Jvm.ClassFile.FieldType.boolean), Jvm.Cond.code ({ cls := "com/example/serialroute/serialroute/core/P256FieldSubtractPinLaw", name := "canonical", desc := "([J)Z" } : Jvm.MethodName) method_7_code (1 : Nat) (Option.some Jvm.ClassFile.FieldType.boolean), Jvm.Cond.code ({ cls := "com/example/serialroute/serialroute/core/P256FieldSubtractPinLaw", name := "inRange", desc := "(J)Z" } : Jvm.MethodName) method_6_code (2 : Nat) (Option.some Jvm.ClassFile.FieldType.boolean), Jvm.Cond.code ({ cls := "com/example/serialroute/serialroute/core/P256Field", name := "add", desc := "([J[J[J)V" } : Jvm.MethodName) prog_29_method_5_code (6 : Nat) (Option.none : Option Jvm.ClassFile.FieldType), Jvm.Cond.code ({ cls := "com/example/serialroute/serialroute/core/P256Field", name := "belowP", desc := "([J)Z" } : Jvm.MethodName) prog_29_method_13_code (2 : Nat) (Option.some Jvm.ClassFile.FieldType.boolean), Jvm.Cond.code ({ cls := "com/example/serialroute/serialroute/core/P256Field", name := "addP", desc := "([J)V" } : Jvm.MethodName) prog_29_method_15_code (4 : Nat) (Option.none : Option Jvm.ClassFile.FieldType), Jvm.Cond.code ({ cls := "com/example/serialroute/serialroute/core/P256Field", name := "subtractP", desc := "([J)V" } : Jvm.MethodName) prog_29_method_14_code (4 : Nat) (Option.none : Option Jvm.ClassFile.FieldType)]
set_option maxRecDepth 65536 in
theorem codes_eq : words1.filter isCode = codes1 := rfl
theorem w_codes : ∀ c ∈ words1.filter isCode, c.before args0 about1 = true := by
  rw [codes_eq]
  intro c hc
  simp only [codes1, List.mem_cons, List.not_mem_nil, or_false] at hc
  rcases hc with rfl | rfl | rfl | rfl | rfl | rfl | rfl | rfl | rfl | rfl | rfl | rfl
  · exact w_c0
  · exact w_c1
  · exact w_c2
  · exact w_c3
  · exact w_c4
  · exact w_c5
  · exact w_c6
  · exact w_c7
  · exact w_c8
  · exact w_c9
  · exact w_c10
  · exact w_c11
set_option maxRecDepth 65536 in
theorem w_t1 : (words1.take 24).all (fun c => isCode c || c.before args0 about1) = true := by decide +kernel
set_option maxRecDepth 65536 in
theorem w_t2 : (words1.drop 24).all (fun c => isCode c || c.before args0 about1) = true := by decide +kernel
theorem w_tables : (allAtoms (Jvm.Cond.code x code maxLocals ret :: tables_1)).before args0 about1 = true := by
  rw [allAtoms_all]
  show words1.all (fun c => c.before args0 about1) = true
  refine all_split ?_ w_codes
  rw [← List.take_append_drop 24 words1, List.all_append, w_t1, w_t2]
  rfl
set_option maxRecDepth 65536 in
theorem w_case : (Jvm.Cond.and given_1 narrow_1).before args0 about1 = true := by decide +kernel
theorem w_applies : (headSpec (Jvm.Cond.code x code maxLocals ret :: tables_1) room_1).applies x e0.platform about1 = true :=
  (Spec.applies_iff w_frames).mpr ⟨w_running, w_runnable, w_alone, w_named, w_hears, w_ripe, w_room, w_tables⟩
theorem atStart : AtStart classFile x code maxLocals ret World_1 tables_1 room_1 Calls_1 rest_1 Pre_1 launch0 p0 e0 about1 theMethod args0 below0 :=
  ⟨lists_1, trivial, launch0.admits_env _ _ _, launch0.least_env, fairChoices_fair.cas, fairChoices_fair.clock, w_frames, w_args, w_heap, w_applies, trivial, trivial, w_case⟩
end start1
theorem witness_1 : WitnessClaimed_1 := ⟨start1.p0, start1.e0, start1.about1, start1.theMethod, start1.args0, start1.below0, start1.atStart⟩
end Jvm.Pilot.@@N@@
