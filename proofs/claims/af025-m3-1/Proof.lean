import JvmDerived
import JvmDerived.Pilot.@@N@@Statement
import JvmDerived.Pilot.@@N@@Code
set_option linter.unusedVariables false
set_option linter.unusedSimpArgs false
@@BLOCK:NumsL.lean.txt@@
@@BLOCK:Masks.lean.txt@@
namespace Jvm.RoadKit
open Sem ClassFile Op Lib Jvm.Stand Jvm.Free Jvm.LawKit
section New
variable {p : Program} {l : Launch} {e : Env} {R : Room} {s : State} {m : MethodId} {args : Array Value} {below : List Frame} {meth : Method} {c : Code} {T : State} {locs : List Loc} {cells slots : Nat}
theorem retI (X : Stand p l e R s m args below meth c T locs cells slots) (hx : p.tables.exec = Jvm.exec) {pc : Nat} {Ls : Array Slot} {z : Int32} {rest : List Value} (hret : meth.sig.returnType = some .int) (hd : decode c.code pc = .ok (.ireturn, 1)) {fs : List Frame}
    (hl : ∀ (f : JFrame) (acts : List Action), f.method = m → f.locked = none → f.entered = [] → (doReturn e (T.setTop f) acts (some (.int z))).1 = T.setFrames fs) : Steps p.tables e below (T.setTop (mkF m pc Ls (.int z :: rest))) (T.setFrames fs) := by
  have hm' : T.vm.method? m = some meth := X.method'
  have hn : narrow .int (.int z) = .int z := rfl
  show Steps p.tables e below (T.setTop { method := m, pc := pc, locals := Ls, stack := _ :: rest, locked := none }) _
  jvm_step X.here [X.here.top, hx, hd, hm', hret, hn]
  first | (intro acts; rw [hl _ acts rfl rfl rfl]) | rw [hl _ _ rfl rfl rfl]
  exact Steps.refl _
end New
end Jvm.RoadKit
namespace Jvm.Pilot.@@N@@
open Jvm Jvm.ClassFile Sem Op Lib Jvm.Free Jvm.Stand Jvm.LawKit Jvm.RoadKit Bundle Jvm.Pilot.@@N@@.Jvm.D
theorem own_lrem (x y : Int64) : x - (x / y) * y = x % y := Int64.toInt_inj.mp (by rw [Jvm.Kit.i64_rem, Int64.toInt_mod])
theorem lremM {p : Program} {l : Launch} {e : Env} {R : Room} {s : State} {m : MethodId} {args : Array Value} {below : List Frame} {meth : Method} {c : Code} {T : State} {locs : List Loc} {cells slots : Nat} {g : JFrame} {target : State} (X : Stand p l e R s m args below meth c T locs cells slots) (hx : p.tables.exec = Jvm.exec) (hg : g.method = m) {x y : Int64} {rest : List Value} (hd : decode c.code g.pc = .ok (.lrem, 1)) (hs : g.stack = .long y :: .long x :: rest) (hy : y ≠ 0)
    (hr : Steps p.tables e below (T.setTop { g with pc := g.pc + 1, stack := .long (x % y) :: rest }) target) : Steps p.tables e below (T.setTop g) target := by
  exact XS.lrem X.here hx hg hd hs hy (by rw [own_lrem]; exact hr)
theorem own_eqI {args : Array Value} {s : State} {t : Jvm.Term} {n : Int32} (h : (Jvm.Cond.eq t (.int n)).value args s none s [] = some true) : t.eval args s none [] s = some (.int n) := by
  obtain ⟨x, y, hx, hy, k1, k2⟩ := cmp_v (Or.inl h)
  obtain rfl : y = .int n := Option.some.inj (hy.symm.trans (Term.int_eval n))
  obtain ⟨z, rfl⟩ := k2
  have q : z = n := by simpa [Jvm.Cond.value, hx, hy] using h
  rw [hx, q]

theorem own_nsroot {Z : State} {a0 : Array Value} {O K : String} {n : Nat} (w : (Jvm.Cond.noSuperclass O).before a0 Z = true) (wi : (Jvm.Cond.instantiable K n).before a0 Z = true) (hn : O ≠ K) : NS Z O K := by
  obtain ⟨c, k, h1, h2, h3, -, -⟩ := Cond.noSuperclass_spec w
  obtain ⟨t, kt, g1, -⟩ := Cond.instantiable_spec wi
  have ne := ids_ne h1 g1 hn
  refine ⟨c, t, h1, g1, fun fuel => ?_⟩
  cases fuel with
  | zero => rfl
  | succ f => simp [Vm.isSubclassAux, ne, h2, h3]
theorem own_no {Z : State} {a0 : Array Value} {C S K : String} {n : Nat} (w : (Jvm.Cond.superclass C S).before a0 Z = true) (wi : (Jvm.Cond.instantiable K n).before a0 Z = true) (N : NS Z C K) (hn : C ≠ K) : ∃ c t, Z.vm.findClass C = some c ∧ Z.vm.findClass K = some t ∧ Z.vm.assignable c t = false := by
  obtain ⟨c, t, h0, g0, n3⟩ := N
  obtain ⟨p, k, kp, h1, h2, h3, h4, h5, -, h7⟩ := Cond.superclass_spec h0 w
  obtain ⟨t', k', g1, g2, g3, g4, -⟩ := Cond.instantiable_spec wi
  cases g0.symm.trans g1
  have ne := ids_ne h0 g0 hn
  have g5 : k'.isInterface = false := by revert g4; cases k'.isInterface <;> simp
  refine ⟨c, t, h0, g0, ?_⟩
  show Z.vm.assignableAux (255 + 1) c t = false
  simp [Vm.assignableAux, ne, h2, g2, h5, g3, g5, Vm.isSubclass, n3]

theorem own_sm (x : Int64) (h1 : ¬ (x < (-128 : Int64))) (h2 : ¬ ((127 : Int64) < x)) : x.toInt32.toInt = x.toInt := by
  rw [Int64.lt_iff_toInt_lt] at h1 h2
  have a1 : (-128 : Int64).toInt = -128 := by decide
  have a2 : (127 : Int64).toInt = 127 := by decide
  rw [Int64.toInt_toInt32]
  exact Int.bmod_eq_of_le_mul_two (by omega) (by omega)
theorem own_jL (x : Int64) (h1 : ¬ (x < (-128 : Int64))) (h2 : ¬ ((127 : Int64) < x)) : ¬ (x.toInt32 + (128 : Int32)) < 0 ∧ (x.toInt32 + (128 : Int32)) < 256 := by
  have s := own_sm x h1 h2
  rw [Int64.lt_iff_toInt_lt] at h1 h2
  rw [Int32.lt_iff_toInt_lt, Int32.lt_iff_toInt_lt]
  have e := c_iadd x.toInt32 128
  have r := rng32 (x.toInt32 + 128)
  have a1 : (-128 : Int64).toInt = -128 := by decide
  have a2 : (127 : Int64).toInt = 127 := by decide
  have a3 : (128 : Int32).toInt = 128 := by decide
  have a4 : (0 : Int32).toInt = 0 := by decide
  have a5 : (256 : Int32).toInt = 256 := by decide
  omega
theorem own_jv (x : Int64) (h1 : ¬ (x < (-128 : Int64))) (h2 : ¬ ((127 : Int64) < x)) : ((x.toInt32 + (128 : Int32)) - 128).toInt64 = x := by
  have s := own_sm x h1 h2
  have q : (x.toInt32 + (128 : Int32)) - 128 = x.toInt32 := by
    rw [← Int32.toInt_inj]
    have e := c_iadd x.toInt32 128
    have e2 := c_isub (x.toInt32 + 128) 128
    have r := rng32 (x.toInt32 + 128)
    have r2 := rng32 ((x.toInt32 + 128) - 128)
    have r3 := rng32 x.toInt32
    have a3 : (128 : Int32).toInt = 128 := by decide
    omega
  rw [q, ← Int64.toInt_inj, Int32.toInt_toInt64, s]

theorem own_len {args : Array Value} {s : State} {t : Jvm.Term} {a : Addr} {cl : Cell} {ty : FieldType} {n : Int32} (ev : t.eval args s none [] s = some (.ref a)) (A : Arr s s.heap a cl ty) (h : (Jvm.Term.length t).eval args s none [] s = some (.int n)) : cl.slots.size < 2 ^ 31 ∧ cl.slots.size.toInt32 = n := by
  have q := A.fin (Vm.Alike.refl _)
  by_cases hs : cl.slots.size < 2 ^ 31
  · exact ⟨hs, Value.int.inj (Option.some.inj ((len_f ev q hs).symm.trans h))⟩
  · exfalso
    simp [Jvm.Term.eval, ev, q, hs] at h
theorem own_sub {args : Array Value} {s : State} {j : Int32} (hj : ¬ j < 0) : (Jvm.Term.sub (.index 0) (.int 128)).eval args s none [j.toNatClampNeg] s = some (.int (j - 128)) := by
  simp [Jvm.Term.eval, (back32 hj).1]

theorem own_inj (a b : Int64) (ha : 0 ≤ a.toInt ∧ a.toInt ≤ 1073741824) (hb : 0 ≤ b.toInt ∧ b.toInt ≤ 1073741824) (h : ¬ a = b) : ¬ (a.toInt32 = b.toInt32) := by
  intro q
  apply h
  have q2 := congrArg Int32.toInt q
  rw [Int64.toInt_toInt32, Int64.toInt_toInt32, Int.bmod_eq_of_le_mul_two (by omega) (by omega), Int.bmod_eq_of_le_mul_two (by omega) (by omega)] at q2
  exact Int64.toInt_inj.mp q2


theorem d1_0 : decode method_2_code 0 = .ok (.lload_n 0, 1) := by decide +kernel
theorem d1_1 : decode method_2_code 1 = .ok (.ldc2_w 9, 3) := by decide +kernel
theorem d1_4 : decode method_2_code 4 = .ok (.land, 1) := by decide +kernel
theorem d1_5 : decode method_2_code 5 = .ok (.lconst 1, 1) := by decide +kernel
theorem d1_6 : decode method_2_code 6 = .ok (.ladd, 1) := by decide +kernel
theorem d1_7 : decode method_2_code 7 = .ok (.lreturn, 1) := by decide +kernel
theorem pn_0 : plainName "com/example/libdmutex/libdmutex/core/RangeEqualsPinLaw" = true := by first | (simp [plainName, overriddenIn]; done) | decide +kernel
theorem ef_1 (m : MethodId) (x1_0 : Int64) : entryFrame m #[(.long x1_0)] 2 = mkF m 0 #[.val (.long x1_0), .second] [] := by first | (simp [entryFrame, mkF, argsToLocals, Value.category]; done) | rfl
def f1 (x1_0 : Int64) : Int64 := ((x1_0 &&& (1073741823 : Int64)) + (1 : Int64))
def Q1 (Z : State) (x1_0 : Int64) (h0 : Heap) (n0 : Nat) (v : Option Value) (h : Heap) (L : List Loc) : Prop := v = some (.long (f1 x1_0)) ∧ Fr n0 L ∧ h = h0
set_option maxRecDepth 65536 in
set_option maxHeartbeats 40000000 in
theorem rm1 (l : Launch) (Z : State) (a0 : Array Value) (hw : ∀ d ∈ tables_1, d.before a0 Z = true) (ws : List Jvm.Cond) (x1_0 : Int64) (h0 : Heap) (n0 : Nat) (Z0 : n0 ≤ h0.size) :
    MetFree l (⟨"com/example/libdmutex/libdmutex/core/RangeEqualsPinLaw", "sizeOf", "(J)J"⟩ : MethodName) (head1 (Jvm.Cond.code (⟨"com/example/libdmutex/libdmutex/core/RangeEqualsPinLaw", "sizeOf", "(J)J"⟩ : MethodName) method_2_code 2 (some .long) :: ws) ({ frames := 0, cells := 0, slots := 0, locals := 0 } : Room)) (fun a U => a = #[(.long x1_0)] ∧ Z.Warmed39 U.vm ∧ U.heap = h0) (fun _ _ _ _ _ => True) (fun _ U o U' => ∃ v L, o = .returned v ∧ Q1 Z x1_0 h0 n0 v U'.heap L ∧ FrameEnd U o U' L ({ frames := 0, cells := 0, slots := 0, locals := 0 } : Room).cells ({ frames := 0, cells := 0, slots := 0, locals := 0 } : Room).slots) := by
  refine MetFree.of_bodySF (plainFor_of_name pn_0) hisR ?_
  intro p e s m args below meth c s₁ Bd hml0 hP hK
  obtain ⟨rfl, hZ, hh⟩ := hP
  have hx := Bd.exec
  have hby := Bd.bytes
  have hml : c.maxLocals = 2 := hml0
  have hown : s.vm.findClass "com/example/libdmutex/libdmutex/core/RangeEqualsPinLaw" = some m.cls := findClass_of_methodNamed Bd.named
  have hnm := (name_of_methodNamed Bd.named Bd.method).1
  have X0 : Stand p l e ({ frames := 0, cells := 0, slots := 0, locals := 0 } : Room) s m #[(.long x1_0)] below meth c s₁ [] 0 0 := Stand.of_body Bd
  have e0 : s₁.heap = h0 := by rw [← hh, Bd.state]; rfl
  have N0 := Fr.nil n0
  have pre0 : ∀ t, Steps p.tables e below (s₁.setTop (mkF m 0 #[.val (.long x1_0), .second] [])) t → Steps p.tables e below (s₁.setTop (entryFrame m #[(.long x1_0)] 2)) t := fun t k => castTop (ef_1 m x1_0) k
  obtain ⟨fs, hr, hrun, hended, hW, hsame⟩ := X0.leave (v := some (.long ((x1_0 &&& (1073741823 : Int64)) + (1 : Int64)))) (fun h => by rw [Bd.returns] at h; cases h)
  refine ⟨_, _, pre0 _ (?_), hrun, hended, _, _, rfl, ?_, ⟨_, rfl⟩, hW, hsame.mono (by decide) (by decide)⟩
  · show Steps p.tables e below (s₁.setTop (mkF m 0 #[.val (.long x1_0), .second] [])) _
    refine XS.lloadN X0.here hx rfl (hb hby d1_0) rfl ?_
    show Steps p.tables e below (s₁.setTop (mkF m 1 #[.val (.long x1_0), .second] [(.long x1_0)])) _
    refine X0.ldc2Long hx hown (mvT hZ (hw _ (List.mem_of_getElem? (i := 5) rfl))) (g := (mkF m 1 #[.val (.long x1_0), .second] [(.long x1_0)])) rfl (hb hby d1_1) _ ?_
    show Steps p.tables e below (s₁.setTop (mkF m 4 #[.val (.long x1_0), .second] [(.long (1073741823 : Int64)), (.long x1_0)])) _
    refine XS.land X0.here hx rfl (hb hby d1_4) rfl ?_
    show Steps p.tables e below (s₁.setTop (mkF m 5 #[.val (.long x1_0), .second] [(.long (x1_0 &&& (1073741823 : Int64)))])) _
    refine XS.lconst X0.here hx rfl (hb hby d1_5) ?_
    show Steps p.tables e below (s₁.setTop (mkF m 6 #[.val (.long x1_0), .second] [(.long (1 : Int64)), (.long (x1_0 &&& (1073741823 : Int64)))])) _
    refine XS.ladd X0.here hx rfl (hb hby d1_6) rfl ?_
    show Steps p.tables e below (s₁.setTop (mkF m 7 #[.val (.long x1_0), .second] [(.long ((x1_0 &&& (1073741823 : Int64)) + (1 : Int64)))])) _
    exact retOut X0 hx Bd.returns rfl (Or.inr (Or.inl ⟨rfl, rfl, _, rfl⟩)) (hb hby d1_7) hr
  · exact ⟨rfl, N0, e0⟩
theorem d2_0 : decode method_3_code 0 = .ok (.lload_n 2, 1) := by decide +kernel
theorem d2_1 : decode method_3_code 1 = .ok (.ldc2_w 13, 3) := by decide +kernel
theorem d2_4 : decode method_3_code 4 = .ok (.land, 1) := by decide +kernel
theorem d2_5 : decode method_3_code 5 = .ok (.lload_n 0, 1) := by decide +kernel
theorem d2_6 : decode method_3_code 6 = .ok (.lrem, 1) := by decide +kernel
theorem d2_7 : decode method_3_code 7 = .ok (.lreturn, 1) := by decide +kernel
theorem ef_2 (m : MethodId) (x2_0 : Int64) (x2_1 : Int64) : entryFrame m #[(.long x2_0), (.long x2_1)] 4 = mkF m 0 #[.val (.long x2_0), .second, .val (.long x2_1), .second] [] := by first | (simp [entryFrame, mkF, argsToLocals, Value.category]; done) | rfl
def f2 (x2_0 : Int64) (x2_1 : Int64) : Int64 := ((x2_1 &&& (9223372036854775807 : Int64)) % x2_0)
def Q2 (Z : State) (x2_0 : Int64) (x2_1 : Int64) (h0 : Heap) (n0 : Nat) (v : Option Value) (h : Heap) (L : List Loc) : Prop := v = some (.long (f2 x2_0 x2_1)) ∧ Fr n0 L ∧ h = h0
set_option maxRecDepth 65536 in
set_option maxHeartbeats 40000000 in
theorem rm2 (l : Launch) (Z : State) (a0 : Array Value) (hw : ∀ d ∈ tables_1, d.before a0 Z = true) (ws : List Jvm.Cond) (x2_0 : Int64) (x2_1 : Int64) (h0 : Heap) (n0 : Nat) (Z0 : n0 ≤ h0.size) (hnz : ¬ (x2_0 = (0 : Int64))) :
    MetFree l (⟨"com/example/libdmutex/libdmutex/core/RangeEqualsPinLaw", "fromOf", "(JJ)J"⟩ : MethodName) (head1 (Jvm.Cond.code (⟨"com/example/libdmutex/libdmutex/core/RangeEqualsPinLaw", "fromOf", "(JJ)J"⟩ : MethodName) method_3_code 4 (some .long) :: ws) ({ frames := 0, cells := 0, slots := 0, locals := 0 } : Room)) (fun a U => a = #[(.long x2_0), (.long x2_1)] ∧ Z.Warmed39 U.vm ∧ U.heap = h0) (fun _ _ _ _ _ => True) (fun _ U o U' => ∃ v L, o = .returned v ∧ Q2 Z x2_0 x2_1 h0 n0 v U'.heap L ∧ FrameEnd U o U' L ({ frames := 0, cells := 0, slots := 0, locals := 0 } : Room).cells ({ frames := 0, cells := 0, slots := 0, locals := 0 } : Room).slots) := by
  refine MetFree.of_bodySF (plainFor_of_name pn_0) hisR ?_
  intro p e s m args below meth c s₁ Bd hml0 hP hK
  obtain ⟨rfl, hZ, hh⟩ := hP
  have hx := Bd.exec
  have hby := Bd.bytes
  have hml : c.maxLocals = 4 := hml0
  have hown : s.vm.findClass "com/example/libdmutex/libdmutex/core/RangeEqualsPinLaw" = some m.cls := findClass_of_methodNamed Bd.named
  have hnm := (name_of_methodNamed Bd.named Bd.method).1
  have X0 : Stand p l e ({ frames := 0, cells := 0, slots := 0, locals := 0 } : Room) s m #[(.long x2_0), (.long x2_1)] below meth c s₁ [] 0 0 := Stand.of_body Bd
  have e0 : s₁.heap = h0 := by rw [← hh, Bd.state]; rfl
  have N0 := Fr.nil n0
  have pre0 : ∀ t, Steps p.tables e below (s₁.setTop (mkF m 0 #[.val (.long x2_0), .second, .val (.long x2_1), .second] [])) t → Steps p.tables e below (s₁.setTop (entryFrame m #[(.long x2_0), (.long x2_1)] 4)) t := fun t k => castTop (ef_2 m x2_0 x2_1) k
  obtain ⟨fs, hr, hrun, hended, hW, hsame⟩ := X0.leave (v := some (.long ((x2_1 &&& (9223372036854775807 : Int64)) % x2_0))) (fun h => by rw [Bd.returns] at h; cases h)
  refine ⟨_, _, pre0 _ (?_), hrun, hended, _, _, rfl, ?_, ⟨_, rfl⟩, hW, hsame.mono (by decide) (by decide)⟩
  · show Steps p.tables e below (s₁.setTop (mkF m 0 #[.val (.long x2_0), .second, .val (.long x2_1), .second] [])) _
    refine XS.lloadN X0.here hx rfl (hb hby d2_0) rfl ?_
    show Steps p.tables e below (s₁.setTop (mkF m 1 #[.val (.long x2_0), .second, .val (.long x2_1), .second] [(.long x2_1)])) _
    refine X0.ldc2Long hx hown (mvT hZ (hw _ (List.mem_of_getElem? (i := 9) rfl))) (g := (mkF m 1 #[.val (.long x2_0), .second, .val (.long x2_1), .second] [(.long x2_1)])) rfl (hb hby d2_1) _ ?_
    show Steps p.tables e below (s₁.setTop (mkF m 4 #[.val (.long x2_0), .second, .val (.long x2_1), .second] [(.long (9223372036854775807 : Int64)), (.long x2_1)])) _
    refine XS.land X0.here hx rfl (hb hby d2_4) rfl ?_
    show Steps p.tables e below (s₁.setTop (mkF m 5 #[.val (.long x2_0), .second, .val (.long x2_1), .second] [(.long (x2_1 &&& (9223372036854775807 : Int64)))])) _
    refine XS.lloadN X0.here hx rfl (hb hby d2_5) rfl ?_
    show Steps p.tables e below (s₁.setTop (mkF m 6 #[.val (.long x2_0), .second, .val (.long x2_1), .second] [(.long x2_0), (.long (x2_1 &&& (9223372036854775807 : Int64)))])) _
    refine lremM X0 hx rfl (hb hby d2_6) rfl hnz ?_
    show Steps p.tables e below (s₁.setTop (mkF m 7 #[.val (.long x2_0), .second, .val (.long x2_1), .second] [(.long ((x2_1 &&& (9223372036854775807 : Int64)) % x2_0))])) _
    exact retOut X0 hx Bd.returns rfl (Or.inr (Or.inl ⟨rfl, rfl, _, rfl⟩)) (hb hby d2_7) hr
  · exact ⟨rfl, N0, e0⟩
theorem d3_0 : decode method_4_code 0 = .ok (.lload_n 2, 1) := by decide +kernel
theorem d3_1 : decode method_4_code 1 = .ok (.lconst 1, 1) := by decide +kernel
theorem d3_2 : decode method_4_code 2 = .ok (.ladd, 1) := by decide +kernel
theorem d3_3 : decode method_4_code 3 = .ok (.lload 4, 2) := by decide +kernel
theorem d3_5 : decode method_4_code 5 = .ok (.ldc2_w 13, 3) := by decide +kernel
theorem d3_8 : decode method_4_code 8 = .ok (.land, 1) := by decide +kernel
theorem d3_9 : decode method_4_code 9 = .ok (.lload_n 0, 1) := by decide +kernel
theorem d3_10 : decode method_4_code 10 = .ok (.lload_n 2, 1) := by decide +kernel
theorem d3_11 : decode method_4_code 11 = .ok (.lsub, 1) := by decide +kernel
theorem d3_12 : decode method_4_code 12 = .ok (.lrem, 1) := by decide +kernel
theorem d3_13 : decode method_4_code 13 = .ok (.ladd, 1) := by decide +kernel
theorem d3_14 : decode method_4_code 14 = .ok (.lreturn, 1) := by decide +kernel
theorem ef_3 (m : MethodId) (x3_0 : Int64) (x3_1 : Int64) (x3_2 : Int64) : entryFrame m #[(.long x3_0), (.long x3_1), (.long x3_2)] 6 = mkF m 0 #[.val (.long x3_0), .second, .val (.long x3_1), .second, .val (.long x3_2), .second] [] := by first | (simp [entryFrame, mkF, argsToLocals, Value.category]; done) | rfl
def f3 (x3_0 : Int64) (x3_1 : Int64) (x3_2 : Int64) : Int64 := ((x3_1 + (1 : Int64)) + ((x3_2 &&& (9223372036854775807 : Int64)) % (x3_0 - x3_1)))
def Q3 (Z : State) (x3_0 : Int64) (x3_1 : Int64) (x3_2 : Int64) (h0 : Heap) (n0 : Nat) (v : Option Value) (h : Heap) (L : List Loc) : Prop := v = some (.long (f3 x3_0 x3_1 x3_2)) ∧ Fr n0 L ∧ h = h0
set_option maxRecDepth 65536 in
set_option maxHeartbeats 40000000 in
theorem rm3 (l : Launch) (Z : State) (a0 : Array Value) (hw : ∀ d ∈ tables_1, d.before a0 Z = true) (ws : List Jvm.Cond) (x3_0 : Int64) (x3_1 : Int64) (x3_2 : Int64) (h0 : Heap) (n0 : Nat) (Z0 : n0 ≤ h0.size) (hnz : ¬ ((x3_0 - x3_1) = (0 : Int64))) :
    MetFree l (⟨"com/example/libdmutex/libdmutex/core/RangeEqualsPinLaw", "toOf", "(JJJ)J"⟩ : MethodName) (head1 (Jvm.Cond.code (⟨"com/example/libdmutex/libdmutex/core/RangeEqualsPinLaw", "toOf", "(JJJ)J"⟩ : MethodName) method_4_code 6 (some .long) :: ws) ({ frames := 0, cells := 0, slots := 0, locals := 0 } : Room)) (fun a U => a = #[(.long x3_0), (.long x3_1), (.long x3_2)] ∧ Z.Warmed39 U.vm ∧ U.heap = h0) (fun _ _ _ _ _ => True) (fun _ U o U' => ∃ v L, o = .returned v ∧ Q3 Z x3_0 x3_1 x3_2 h0 n0 v U'.heap L ∧ FrameEnd U o U' L ({ frames := 0, cells := 0, slots := 0, locals := 0 } : Room).cells ({ frames := 0, cells := 0, slots := 0, locals := 0 } : Room).slots) := by
  refine MetFree.of_bodySF (plainFor_of_name pn_0) hisR ?_
  intro p e s m args below meth c s₁ Bd hml0 hP hK
  obtain ⟨rfl, hZ, hh⟩ := hP
  have hx := Bd.exec
  have hby := Bd.bytes
  have hml : c.maxLocals = 6 := hml0
  have hown : s.vm.findClass "com/example/libdmutex/libdmutex/core/RangeEqualsPinLaw" = some m.cls := findClass_of_methodNamed Bd.named
  have hnm := (name_of_methodNamed Bd.named Bd.method).1
  have X0 : Stand p l e ({ frames := 0, cells := 0, slots := 0, locals := 0 } : Room) s m #[(.long x3_0), (.long x3_1), (.long x3_2)] below meth c s₁ [] 0 0 := Stand.of_body Bd
  have e0 : s₁.heap = h0 := by rw [← hh, Bd.state]; rfl
  have N0 := Fr.nil n0
  have pre0 : ∀ t, Steps p.tables e below (s₁.setTop (mkF m 0 #[.val (.long x3_0), .second, .val (.long x3_1), .second, .val (.long x3_2), .second] [])) t → Steps p.tables e below (s₁.setTop (entryFrame m #[(.long x3_0), (.long x3_1), (.long x3_2)] 6)) t := fun t k => castTop (ef_3 m x3_0 x3_1 x3_2) k
  obtain ⟨fs, hr, hrun, hended, hW, hsame⟩ := X0.leave (v := some (.long ((x3_1 + (1 : Int64)) + ((x3_2 &&& (9223372036854775807 : Int64)) % (x3_0 - x3_1))))) (fun h => by rw [Bd.returns] at h; cases h)
  refine ⟨_, _, pre0 _ (?_), hrun, hended, _, _, rfl, ?_, ⟨_, rfl⟩, hW, hsame.mono (by decide) (by decide)⟩
  · show Steps p.tables e below (s₁.setTop (mkF m 0 #[.val (.long x3_0), .second, .val (.long x3_1), .second, .val (.long x3_2), .second] [])) _
    refine XS.lloadN X0.here hx rfl (hb hby d3_0) rfl ?_
    show Steps p.tables e below (s₁.setTop (mkF m 1 #[.val (.long x3_0), .second, .val (.long x3_1), .second, .val (.long x3_2), .second] [(.long x3_1)])) _
    refine XS.lconst X0.here hx rfl (hb hby d3_1) ?_
    show Steps p.tables e below (s₁.setTop (mkF m 2 #[.val (.long x3_0), .second, .val (.long x3_1), .second, .val (.long x3_2), .second] [(.long (1 : Int64)), (.long x3_1)])) _
    refine XS.ladd X0.here hx rfl (hb hby d3_2) rfl ?_
    show Steps p.tables e below (s₁.setTop (mkF m 3 #[.val (.long x3_0), .second, .val (.long x3_1), .second, .val (.long x3_2), .second] [(.long (x3_1 + (1 : Int64)))])) _
    refine XS.lload X0.here hx rfl (hb hby d3_3) rfl ?_
    show Steps p.tables e below (s₁.setTop (mkF m 5 #[.val (.long x3_0), .second, .val (.long x3_1), .second, .val (.long x3_2), .second] [(.long x3_2), (.long (x3_1 + (1 : Int64)))])) _
    refine X0.ldc2Long hx hown (mvT hZ (hw _ (List.mem_of_getElem? (i := 9) rfl))) (g := (mkF m 5 #[.val (.long x3_0), .second, .val (.long x3_1), .second, .val (.long x3_2), .second] [(.long x3_2), (.long (x3_1 + (1 : Int64)))])) rfl (hb hby d3_5) _ ?_
    show Steps p.tables e below (s₁.setTop (mkF m 8 #[.val (.long x3_0), .second, .val (.long x3_1), .second, .val (.long x3_2), .second] [(.long (9223372036854775807 : Int64)), (.long x3_2), (.long (x3_1 + (1 : Int64)))])) _
    refine XS.land X0.here hx rfl (hb hby d3_8) rfl ?_
    show Steps p.tables e below (s₁.setTop (mkF m 9 #[.val (.long x3_0), .second, .val (.long x3_1), .second, .val (.long x3_2), .second] [(.long (x3_2 &&& (9223372036854775807 : Int64))), (.long (x3_1 + (1 : Int64)))])) _
    refine XS.lloadN X0.here hx rfl (hb hby d3_9) rfl ?_
    show Steps p.tables e below (s₁.setTop (mkF m 10 #[.val (.long x3_0), .second, .val (.long x3_1), .second, .val (.long x3_2), .second] [(.long x3_0), (.long (x3_2 &&& (9223372036854775807 : Int64))), (.long (x3_1 + (1 : Int64)))])) _
    refine XS.lloadN X0.here hx rfl (hb hby d3_10) rfl ?_
    show Steps p.tables e below (s₁.setTop (mkF m 11 #[.val (.long x3_0), .second, .val (.long x3_1), .second, .val (.long x3_2), .second] [(.long x3_1), (.long x3_0), (.long (x3_2 &&& (9223372036854775807 : Int64))), (.long (x3_1 + (1 : Int64)))])) _
    refine XS.lsub X0.here hx rfl (hb hby d3_11) rfl ?_
    show Steps p.tables e below (s₁.setTop (mkF m 12 #[.val (.long x3_0), .second, .val (.long x3_1), .second, .val (.long x3_2), .second] [(.long (x3_0 - x3_1)), (.long (x3_2 &&& (9223372036854775807 : Int64))), (.long (x3_1 + (1 : Int64)))])) _
    refine lremM X0 hx rfl (hb hby d3_12) rfl hnz ?_
    show Steps p.tables e below (s₁.setTop (mkF m 13 #[.val (.long x3_0), .second, .val (.long x3_1), .second, .val (.long x3_2), .second] [(.long ((x3_2 &&& (9223372036854775807 : Int64)) % (x3_0 - x3_1))), (.long (x3_1 + (1 : Int64)))])) _
    refine XS.ladd X0.here hx rfl (hb hby d3_13) rfl ?_
    show Steps p.tables e below (s₁.setTop (mkF m 14 #[.val (.long x3_0), .second, .val (.long x3_1), .second, .val (.long x3_2), .second] [(.long ((x3_1 + (1 : Int64)) + ((x3_2 &&& (9223372036854775807 : Int64)) % (x3_0 - x3_1))))])) _
    exact retOut X0 hx Bd.returns rfl (Or.inr (Or.inl ⟨rfl, rfl, _, rfl⟩)) (hb hby d3_14) hr
  · exact ⟨rfl, N0, e0⟩
theorem own_k : (1073741823 : Int64).toInt = 1073741823 := by decide
theorem own_l0 : (0 : Int64).toInt = 0 := by decide
theorem own_l1 : (1 : Int64).toInt = 1 := by decide
theorem own_l30 : (1073741824 : Int64).toInt = 1073741824 := by decide
theorem own_mk (x : Int64) : 0 ≤ (x &&& (9223372036854775807 : Int64)).toInt := by
  have h := Jvm.Kit.i64_mask x 9223372036854775807 (k := 63) (by decide) (by decide)
  omega
theorem own_s (x v : Int64) (h : v = f1 x) : 1 ≤ v.toInt ∧ v.toInt ≤ 1073741824 := by
  unfold f1 at h
  have m := Jvm.Kit.i64_mask x 1073741823 (k := 30) (by decide) (by decide)
  have e := Jvm.Kit.i64_add (x := x &&& 1073741823) (y := 1) (by rw [own_l1]; omega) (by rw [own_l1]; omega)
  rw [← h, own_l1] at e
  omega
theorem own_f (s x v : Int64) (hs : 1 ≤ s.toInt ∧ s.toInt ≤ 1073741824) (h : v = f2 s x) : 0 ≤ v.toInt ∧ v.toInt < s.toInt := by
  unfold f2 at h
  have m := own_mk x
  rw [h, Int64.toInt_mod, Int.tmod_eq_emod_of_nonneg m]
  exact ⟨Int.emod_nonneg _ (by omega), Int.emod_lt_of_pos _ (by omega)⟩
theorem own_sf (s f : Int64) (hs : 1 ≤ s.toInt ∧ s.toInt ≤ 1073741824) (hf : 0 ≤ f.toInt ∧ f.toInt < s.toInt) : (s - f).toInt = s.toInt - f.toInt := Jvm.Kit.i64_sub (by omega) (by omega)
theorem own_t (s f x v : Int64) (hs : 1 ≤ s.toInt ∧ s.toInt ≤ 1073741824) (hf : 0 ≤ f.toInt ∧ f.toInt < s.toInt) (h : v = f3 s f x) : f.toInt < v.toInt ∧ v.toInt ≤ s.toInt := by
  unfold f3 at h
  have m := own_mk x
  have d := own_sf s f hs hf
  have r : ((x &&& (9223372036854775807 : Int64)) % (s - f)).toInt = (x &&& (9223372036854775807 : Int64)).toInt % (s - f).toInt := by rw [Int64.toInt_mod, Int.tmod_eq_emod_of_nonneg m]
  have n1 := Int.emod_nonneg (x &&& (9223372036854775807 : Int64)).toInt (by omega : (s - f).toInt ≠ 0)
  have n2 := Int.emod_lt_of_pos (x &&& (9223372036854775807 : Int64)).toInt (by omega : 0 < (s - f).toInt)
  have e1 : (f + (1 : Int64)).toInt = f.toInt + 1 := by rw [Jvm.Kit.i64_add (by rw [own_l1]; omega) (by rw [own_l1]; omega), own_l1]
  rw [h, Jvm.Kit.i64_add (by rw [e1, r]; omega) (by rw [e1, r]; omega), e1, r]
  omega
theorem own_nz1 (s : Int64) (hs : 1 ≤ s.toInt ∧ s.toInt ≤ 1073741824) : ¬ (s = (0 : Int64)) := by
  intro q
  rw [q, own_l0] at hs
  omega
theorem own_nz2 (s f : Int64) (hs : 1 ≤ s.toInt ∧ s.toInt ≤ 1073741824) (hf : 0 ≤ f.toInt ∧ f.toInt < s.toInt) : ¬ ((s - f) = (0 : Int64)) := by
  intro q
  have d := own_sf s f hs hf
  rw [q, own_l0] at d
  omega
theorem own_c (s f t : Int64) (hs : 1 ≤ s.toInt ∧ s.toInt ≤ 1073741824) (hf : 0 ≤ f.toInt ∧ f.toInt < s.toInt) (ht : f.toInt < t.toInt ∧ t.toInt ≤ s.toInt) : ¬ (s < (1 : Int64)) ∧ ¬ ((1073741824 : Int64) < s) ∧ ¬ (f < (0 : Int64)) ∧ f < t ∧ ¬ (s < t) := by
  simp only [Int64.lt_iff_toInt_lt, own_l0, own_l1, own_l30]
  omega
theorem d4_0 : decode prog_39_method_1_code 0 = .ok (.aload_n 0, 1) := by decide +kernel
theorem d4_1 : decode prog_39_method_1_code 1 = .ok (.invokespecial 1, 3) := by decide +kernel
theorem d4_4 : decode prog_39_method_1_code 4 = .ok (.lload_n 1, 1) := by decide +kernel
theorem d4_5 : decode prog_39_method_1_code 5 = .ok (.lconst 1, 1) := by decide +kernel
theorem d4_6 : decode prog_39_method_1_code 6 = .ok (.lcmp, 1) := by decide +kernel
theorem d4_7 : decode prog_39_method_1_code 7 = .ok (.ifCond .lt 11, 3) := by decide +kernel
theorem d4_10 : decode prog_39_method_1_code 10 = .ok (.lload_n 1, 1) := by decide +kernel
theorem d4_11 : decode prog_39_method_1_code 11 = .ok (.ldc2_w 9, 3) := by decide +kernel
theorem d4_14 : decode prog_39_method_1_code 14 = .ok (.lcmp, 1) := by decide +kernel
theorem d4_15 : decode prog_39_method_1_code 15 = .ok (.ifCond .le 17, 3) := by decide +kernel
theorem d4_32 : decode prog_39_method_1_code 32 = .ok (.lload_n 3, 1) := by decide +kernel
theorem d4_33 : decode prog_39_method_1_code 33 = .ok (.lconst 0, 1) := by decide +kernel
theorem d4_34 : decode prog_39_method_1_code 34 = .ok (.lcmp, 1) := by decide +kernel
theorem d4_35 : decode prog_39_method_1_code 35 = .ok (.ifCond .lt 17, 3) := by decide +kernel
theorem d4_38 : decode prog_39_method_1_code 38 = .ok (.lload_n 3, 1) := by decide +kernel
theorem d4_39 : decode prog_39_method_1_code 39 = .ok (.lload 5, 2) := by decide +kernel
theorem d4_41 : decode prog_39_method_1_code 41 = .ok (.lcmp, 1) := by decide +kernel
theorem d4_42 : decode prog_39_method_1_code 42 = .ok (.ifCond .ge 10, 3) := by decide +kernel
theorem d4_45 : decode prog_39_method_1_code 45 = .ok (.lload 5, 2) := by decide +kernel
theorem d4_47 : decode prog_39_method_1_code 47 = .ok (.lload_n 1, 1) := by decide +kernel
theorem d4_48 : decode prog_39_method_1_code 48 = .ok (.lcmp, 1) := by decide +kernel
theorem d4_49 : decode prog_39_method_1_code 49 = .ok (.ifCond .le 21, 3) := by decide +kernel
theorem d4_70 : decode prog_39_method_1_code 70 = .ok (.aload_n 0, 1) := by decide +kernel
theorem d4_71 : decode prog_39_method_1_code 71 = .ok (.lload_n 1, 1) := by decide +kernel
theorem d4_72 : decode prog_39_method_1_code 72 = .ok (.l2i, 1) := by decide +kernel
theorem d4_73 : decode prog_39_method_1_code 73 = .ok (.putfield 23, 3) := by decide +kernel
theorem d4_76 : decode prog_39_method_1_code 76 = .ok (.aload_n 0, 1) := by decide +kernel
theorem d4_77 : decode prog_39_method_1_code 77 = .ok (.lload_n 3, 1) := by decide +kernel
theorem d4_78 : decode prog_39_method_1_code 78 = .ok (.l2i, 1) := by decide +kernel
theorem d4_79 : decode prog_39_method_1_code 79 = .ok (.putfield 27, 3) := by decide +kernel
theorem d4_82 : decode prog_39_method_1_code 82 = .ok (.aload_n 0, 1) := by decide +kernel
theorem d4_83 : decode prog_39_method_1_code 83 = .ok (.lload 5, 2) := by decide +kernel
theorem d4_85 : decode prog_39_method_1_code 85 = .ok (.l2i, 1) := by decide +kernel
theorem d4_86 : decode prog_39_method_1_code 86 = .ok (.putfield 30, 3) := by decide +kernel
theorem d4_89 : decode prog_39_method_1_code 89 = .ok (.return_, 1) := by decide +kernel
theorem pn_1 : plainName "com/example/libdmutex/libdmutex/core/Range" = true := by first | (simp [plainName, overriddenIn]; done) | decide +kernel
theorem ef_4 (m : MethodId) (x4_0 : Addr) (x4_1 : Int64) (x4_2 : Int64) (x4_3 : Int64) : entryFrame m #[(.ref x4_0), (.long x4_1), (.long x4_2), (.long x4_3)] 7 = mkF m 0 #[.val (.ref x4_0), .val (.long x4_1), .second, .val (.long x4_2), .second, .val (.long x4_3), .second] [] := by first | (simp [entryFrame, mkF, argsToLocals, Value.category]; done) | rfl
def Q4 (Z : State) (x4_0 : Addr) (x4_1 : Int64) (x4_2 : Int64) (x4_3 : Int64) (h0 : Heap) (n0 : Nat) (v : Option Value) (h : Heap) (L : List Loc) : Prop := v = none ∧ Fr n0 L ∧ Keep h0 h [x4_0] ∧ Exa Z h x4_0 "com/example/libdmutex/libdmutex/core/Range" ∧ Fld Z h x4_0 "com/example/libdmutex/libdmutex/core/Range" "size" "I" (.int (x4_1.toInt32)) ∧ Fld Z h x4_0 "com/example/libdmutex/libdmutex/core/Range" "from" "I" (.int (x4_2.toInt32)) ∧ Fld Z h x4_0 "com/example/libdmutex/libdmutex/core/Range" "to" "I" (.int (x4_3.toInt32))
set_option maxRecDepth 65536 in
set_option maxHeartbeats 40000000 in
theorem rm4 (l : Launch) (Z : State) (a0 : Array Value) (hw : ∀ d ∈ tables_1, d.before a0 Z = true) (ws : List Jvm.Cond) (x4_0 : Addr) (x4_1 : Int64) (x4_2 : Int64) (x4_3 : Int64) (h0 : Heap) (n0 : Nat) (Z0 : n0 ≤ h0.size) (Exa0 : Exa Z h0 x4_0 "com/example/libdmutex/libdmutex/core/Range") (g_x4_0 : n0 ≤ x4_0) (Fo_size : Fld Z h0 x4_0 "com/example/libdmutex/libdmutex/core/Range" "size" "I" (.int (0 : Int32))) (Fo_from : Fld Z h0 x4_0 "com/example/libdmutex/libdmutex/core/Range" "from" "I" (.int (0 : Int32))) (Fo_to : Fld Z h0 x4_0 "com/example/libdmutex/libdmutex/core/Range" "to" "I" (.int (0 : Int32))) (hp1 : ¬ (x4_1 < (1 : Int64))) (hp2 : ¬ ((1073741824 : Int64) < x4_1)) (hp3 : ¬ (x4_2 < (0 : Int64))) (hp4 : x4_2 < x4_3) (hp5 : ¬ (x4_1 < x4_3)) :
    MetFree l (⟨"com/example/libdmutex/libdmutex/core/Range", "<init>", "(JJJ)V"⟩ : MethodName) (head1 (Jvm.Cond.code (⟨"com/example/libdmutex/libdmutex/core/Range", "<init>", "(JJJ)V"⟩ : MethodName) prog_39_method_1_code 7 none :: ws) ({ frames := 1, cells := 0, slots := 0, locals := 12 } : Room)) (fun a U => a = #[(.ref x4_0), (.long x4_1), (.long x4_2), (.long x4_3)] ∧ Z.Warmed39 U.vm ∧ U.heap = h0) (fun _ _ _ _ _ => True) (fun _ U o U' => ∃ v L, o = .returned v ∧ Q4 Z x4_0 x4_1 x4_2 x4_3 h0 n0 v U'.heap L ∧ FrameEnd U o U' L ({ frames := 1, cells := 0, slots := 0, locals := 12 } : Room).cells ({ frames := 1, cells := 0, slots := 0, locals := 12 } : Room).slots) := by
  refine MetFree.of_bodySF (plainFor_of_name pn_1) hisR ?_
  intro p e s m args below meth c s₁ Bd hml0 hP hK
  obtain ⟨rfl, hZ, hh⟩ := hP
  have hx := Bd.exec
  have hby := Bd.bytes
  have hml : c.maxLocals = 7 := hml0
  have hown : s.vm.findClass "com/example/libdmutex/libdmutex/core/Range" = some m.cls := findClass_of_methodNamed Bd.named
  have hnm := (name_of_methodNamed Bd.named Bd.method).1
  have X0 : Stand p l e ({ frames := 1, cells := 0, slots := 0, locals := 12 } : Room) s m #[(.ref x4_0), (.long x4_1), (.long x4_2), (.long x4_3)] below meth c s₁ [] 0 0 := Stand.of_body Bd
  have e0 : s₁.heap = h0 := by rw [← hh, Bd.state]; rfl
  have N0 := Fr.nil n0
  have pre0 : ∀ t, Steps p.tables e below (s₁.setTop (mkF m 0 #[.val (.ref x4_0), .val (.long x4_1), .second, .val (.long x4_2), .second, .val (.long x4_3), .second] [])) t → Steps p.tables e below (s₁.setTop (entryFrame m #[(.ref x4_0), (.long x4_1), (.long x4_2), (.long x4_3)] 7)) t := fun t k => castTop (ef_4 m x4_0 x4_1 x4_2 x4_3) k
  obtain ⟨T1, X1, e1, st1⟩ := initO X0 hx hZ hown (hw _ (List.mem_of_getElem? (i := 19) rfl)) (hw _ (List.mem_of_getElem? (i := 20) rfl)) (hw _ (List.mem_of_getElem? (i := 21) rfl)) e0 (g := (mkF m 1 #[.val (.ref x4_0), .val (.long x4_1), .second, .val (.long x4_2), .second, .val (.long x4_3), .second] [(.ref x4_0)])) rfl (by rw [hml]; rfl) rfl (hb hby d4_1) (by decide) (W := 0) (by show 2 * 0 + _ ≤ _; exact Nat.le_of_eq rfl) (by decide)
  obtain ⟨T2, h2, X2, e2, W2, st2⟩ := putF X1 hx hZ hown (host := "") (Or.inl (hw _ (List.mem_of_getElem? (i := 23) rfl))) Via.refl e1 Fo_size Exa0 (Or.inr ⟨(hw _ (List.mem_of_getElem? (i := 24) rfl)), rfl, hnm⟩) (hw _ (List.mem_of_getElem? (i := 14) rfl)) (ty := .int) (by decide) rfl rfl (g := (mkF m 73 #[.val (.ref x4_0), .val (.long x4_1), .second, .val (.long x4_2), .second, .val (.long x4_3), .second] [(.int (x4_1.toInt32)), (.ref x4_0)])) rfl rfl (hb hby d4_73)
  have Fw2 := Fld.same W2 Fo_size
  have N2 := Fr.snoc X2 N0 g_x4_0
  have Zs2 : n0 ≤ h2.size := Nat.le_trans Z0 (Keep.of_wr W2).1
  have KC2 : Keep h0 h2 [x4_0] := (Keep.refl h0 [x4_0]).wr W2 (Or.inl (List.mem_of_getElem? (i := 0) rfl))
  have c3 := (Fld.other W2 Fo_from (Or.inr (slot_ne (Or.inr (hw _ (List.mem_of_getElem? (i := 26) rfl))) (Or.inr (hw _ (List.mem_of_getElem? (i := 24) rfl))) (by decide) (t := .int) (t' := .int) (by decide) (by decide))))
  have c4 := (Exa.wr W2 Exa0)
  obtain ⟨T5, h5, X5, e5, W5, st5⟩ := putF X2 hx hZ hown (host := "") (Or.inl (hw _ (List.mem_of_getElem? (i := 25) rfl))) Via.refl e2 c3 c4 (Or.inr ⟨(hw _ (List.mem_of_getElem? (i := 26) rfl)), rfl, hnm⟩) (hw _ (List.mem_of_getElem? (i := 14) rfl)) (ty := .int) (by decide) rfl rfl (g := (mkF m 79 #[.val (.ref x4_0), .val (.long x4_1), .second, .val (.long x4_2), .second, .val (.long x4_3), .second] [(.int (x4_2.toInt32)), (.ref x4_0)])) rfl rfl (hb hby d4_79)
  have Fw5 := Fld.same W5 c3
  have N5 := Fr.snoc X5 N2 g_x4_0
  have Zs5 : n0 ≤ h5.size := Nat.le_trans Zs2 (Keep.of_wr W5).1
  have KC5 : Keep h0 h5 [x4_0] := (KC2).wr W5 (Or.inl (List.mem_of_getElem? (i := 0) rfl))
  have c6 := (Fld.other W5 (Fld.other W2 Fo_to (Or.inr (slot_ne (Or.inr (hw _ (List.mem_of_getElem? (i := 28) rfl))) (Or.inr (hw _ (List.mem_of_getElem? (i := 24) rfl))) (by decide) (t := .int) (t' := .int) (by decide) (by decide)))) (Or.inr (slot_ne (Or.inr (hw _ (List.mem_of_getElem? (i := 28) rfl))) (Or.inr (hw _ (List.mem_of_getElem? (i := 26) rfl))) (by decide) (t := .int) (t' := .int) (by decide) (by decide))))
  have c7 := (Exa.wr W5 c4)
  obtain ⟨T8, h8, X8, e8, W8, st8⟩ := putF X5 hx hZ hown (host := "") (Or.inl (hw _ (List.mem_of_getElem? (i := 27) rfl))) Via.refl e5 c6 c7 (Or.inr ⟨(hw _ (List.mem_of_getElem? (i := 28) rfl)), rfl, hnm⟩) (hw _ (List.mem_of_getElem? (i := 14) rfl)) (ty := .int) (by decide) rfl rfl (g := (mkF m 86 #[.val (.ref x4_0), .val (.long x4_1), .second, .val (.long x4_2), .second, .val (.long x4_3), .second] [(.int (x4_3.toInt32)), (.ref x4_0)])) rfl rfl (hb hby d4_86)
  have Fw8 := Fld.same W8 c6
  have N8 := Fr.snoc X8 N5 g_x4_0
  have Zs8 : n0 ≤ h8.size := Nat.le_trans Zs5 (Keep.of_wr W8).1
  have KC8 : Keep h0 h8 [x4_0] := (KC5).wr W8 (Or.inl (List.mem_of_getElem? (i := 0) rfl))
  have c9 := (Exa.wr W8 c7)
  have c10 := (Fld.other W8 (Fld.other W5 Fw2 (Or.inr (slot_ne (Or.inr (hw _ (List.mem_of_getElem? (i := 24) rfl))) (Or.inr (hw _ (List.mem_of_getElem? (i := 26) rfl))) (by decide) (t := .int) (t' := .int) (by decide) (by decide)))) (Or.inr (slot_ne (Or.inr (hw _ (List.mem_of_getElem? (i := 24) rfl))) (Or.inr (hw _ (List.mem_of_getElem? (i := 28) rfl))) (by decide) (t := .int) (t' := .int) (by decide) (by decide))))
  have c11 := (Fld.other W8 Fw5 (Or.inr (slot_ne (Or.inr (hw _ (List.mem_of_getElem? (i := 26) rfl))) (Or.inr (hw _ (List.mem_of_getElem? (i := 28) rfl))) (by decide) (t := .int) (t' := .int) (by decide) (by decide))))
  obtain ⟨fs, hr, hrun, hended, hW, hsame⟩ := X8.leave (v := none) (fun _ => rfl)
  refine ⟨_, _, pre0 _ (?_), hrun, hended, _, _, rfl, ?_, ⟨_, rfl⟩, hW, hsame.mono (by decide) (by decide)⟩
  · show Steps p.tables e below (s₁.setTop (mkF m 0 #[.val (.ref x4_0), .val (.long x4_1), .second, .val (.long x4_2), .second, .val (.long x4_3), .second] [])) _
    refine XS.aloadN X0.here hx rfl (hb hby d4_0) rfl rfl ?_
    show Steps p.tables e below (s₁.setTop (mkF m 1 #[.val (.ref x4_0), .val (.long x4_1), .second, .val (.long x4_2), .second, .val (.long x4_3), .second] [(.ref x4_0)])) _
    refine st1 _ ?_
    show Steps p.tables e below (T1.setTop (mkF m 4 #[.val (.ref x4_0), .val (.long x4_1), .second, .val (.long x4_2), .second, .val (.long x4_3), .second] [])) _
    refine XS.lloadN X1.here hx rfl (hb hby d4_4) rfl ?_
    show Steps p.tables e below (T1.setTop (mkF m 5 #[.val (.ref x4_0), .val (.long x4_1), .second, .val (.long x4_2), .second, .val (.long x4_3), .second] [(.long x4_1)])) _
    refine XS.lconst X1.here hx rfl (hb hby d4_5) ?_
    show Steps p.tables e below (T1.setTop (mkF m 6 #[.val (.ref x4_0), .val (.long x4_1), .second, .val (.long x4_2), .second, .val (.long x4_3), .second] [(.long (1 : Int64)), (.long x4_1)])) _
    refine XS.lcmp X1.here hx rfl (hb hby d4_6) rfl ?_
    show Steps p.tables e below (T1.setTop (mkF m 7 #[.val (.ref x4_0), .val (.long x4_1), .second, .val (.long x4_2), .second, .val (.long x4_3), .second] [(.int (lcmpW x4_1 (1 : Int64)))])) _
    refine XS.ifNo X1.here hx rfl (hb hby d4_7) rfl ((if0 _ _).trans (flt (mt (lw_lt _ _).mp hp1)).1) ?_
    show Steps p.tables e below (T1.setTop (mkF m 10 #[.val (.ref x4_0), .val (.long x4_1), .second, .val (.long x4_2), .second, .val (.long x4_3), .second] [])) _
    refine XS.lloadN X1.here hx rfl (hb hby d4_10) rfl ?_
    show Steps p.tables e below (T1.setTop (mkF m 11 #[.val (.ref x4_0), .val (.long x4_1), .second, .val (.long x4_2), .second, .val (.long x4_3), .second] [(.long x4_1)])) _
    refine X1.ldc2Long hx hown (mvT hZ (hw _ (List.mem_of_getElem? (i := 22) rfl))) (g := (mkF m 11 #[.val (.ref x4_0), .val (.long x4_1), .second, .val (.long x4_2), .second, .val (.long x4_3), .second] [(.long x4_1)])) rfl (hb hby d4_11) _ ?_
    show Steps p.tables e below (T1.setTop (mkF m 14 #[.val (.ref x4_0), .val (.long x4_1), .second, .val (.long x4_2), .second, .val (.long x4_3), .second] [(.long (1073741824 : Int64)), (.long x4_1)])) _
    refine XS.lcmp X1.here hx rfl (hb hby d4_14) rfl ?_
    show Steps p.tables e below (T1.setTop (mkF m 15 #[.val (.ref x4_0), .val (.long x4_1), .second, .val (.long x4_2), .second, .val (.long x4_3), .second] [(.int (lcmpW x4_1 (1073741824 : Int64)))])) _
    refine XS.ifYes X1.here hx rfl (pc0 := 15) (pc' := 32) rfl (hb hby d4_15) rfl ((if0 _ _).trans (flt (mt (lw_gt _ _).mp hp2)).2.2.2) (by decide) (by decide) ?_
    show Steps p.tables e below (T1.setTop (mkF m 32 #[.val (.ref x4_0), .val (.long x4_1), .second, .val (.long x4_2), .second, .val (.long x4_3), .second] [])) _
    refine XS.lloadN X1.here hx rfl (hb hby d4_32) rfl ?_
    show Steps p.tables e below (T1.setTop (mkF m 33 #[.val (.ref x4_0), .val (.long x4_1), .second, .val (.long x4_2), .second, .val (.long x4_3), .second] [(.long x4_2)])) _
    refine XS.lconst X1.here hx rfl (hb hby d4_33) ?_
    show Steps p.tables e below (T1.setTop (mkF m 34 #[.val (.ref x4_0), .val (.long x4_1), .second, .val (.long x4_2), .second, .val (.long x4_3), .second] [(.long (0 : Int64)), (.long x4_2)])) _
    refine XS.lcmp X1.here hx rfl (hb hby d4_34) rfl ?_
    show Steps p.tables e below (T1.setTop (mkF m 35 #[.val (.ref x4_0), .val (.long x4_1), .second, .val (.long x4_2), .second, .val (.long x4_3), .second] [(.int (lcmpW x4_2 (0 : Int64)))])) _
    refine XS.ifNo X1.here hx rfl (hb hby d4_35) rfl ((if0 _ _).trans (flt (mt (lw_lt _ _).mp hp3)).1) ?_
    show Steps p.tables e below (T1.setTop (mkF m 38 #[.val (.ref x4_0), .val (.long x4_1), .second, .val (.long x4_2), .second, .val (.long x4_3), .second] [])) _
    refine XS.lloadN X1.here hx rfl (hb hby d4_38) rfl ?_
    show Steps p.tables e below (T1.setTop (mkF m 39 #[.val (.ref x4_0), .val (.long x4_1), .second, .val (.long x4_2), .second, .val (.long x4_3), .second] [(.long x4_2)])) _
    refine XS.lload X1.here hx rfl (hb hby d4_39) rfl ?_
    show Steps p.tables e below (T1.setTop (mkF m 41 #[.val (.ref x4_0), .val (.long x4_1), .second, .val (.long x4_2), .second, .val (.long x4_3), .second] [(.long x4_3), (.long x4_2)])) _
    refine XS.lcmp X1.here hx rfl (hb hby d4_41) rfl ?_
    show Steps p.tables e below (T1.setTop (mkF m 42 #[.val (.ref x4_0), .val (.long x4_1), .second, .val (.long x4_2), .second, .val (.long x4_3), .second] [(.int (lcmpW x4_2 x4_3))])) _
    refine XS.ifNo X1.here hx rfl (hb hby d4_42) rfl ((if0 _ _).trans (tlt ((lw_lt _ _).mpr hp4)).2.1) ?_
    show Steps p.tables e below (T1.setTop (mkF m 45 #[.val (.ref x4_0), .val (.long x4_1), .second, .val (.long x4_2), .second, .val (.long x4_3), .second] [])) _
    refine XS.lload X1.here hx rfl (hb hby d4_45) rfl ?_
    show Steps p.tables e below (T1.setTop (mkF m 47 #[.val (.ref x4_0), .val (.long x4_1), .second, .val (.long x4_2), .second, .val (.long x4_3), .second] [(.long x4_3)])) _
    refine XS.lloadN X1.here hx rfl (hb hby d4_47) rfl ?_
    show Steps p.tables e below (T1.setTop (mkF m 48 #[.val (.ref x4_0), .val (.long x4_1), .second, .val (.long x4_2), .second, .val (.long x4_3), .second] [(.long x4_1), (.long x4_3)])) _
    refine XS.lcmp X1.here hx rfl (hb hby d4_48) rfl ?_
    show Steps p.tables e below (T1.setTop (mkF m 49 #[.val (.ref x4_0), .val (.long x4_1), .second, .val (.long x4_2), .second, .val (.long x4_3), .second] [(.int (lcmpW x4_3 x4_1))])) _
    refine XS.ifYes X1.here hx rfl (pc0 := 49) (pc' := 70) rfl (hb hby d4_49) rfl ((if0 _ _).trans (flt (mt (lw_gt _ _).mp hp5)).2.2.2) (by decide) (by decide) ?_
    show Steps p.tables e below (T1.setTop (mkF m 70 #[.val (.ref x4_0), .val (.long x4_1), .second, .val (.long x4_2), .second, .val (.long x4_3), .second] [])) _
    refine XS.aloadN X1.here hx rfl (hb hby d4_70) rfl rfl ?_
    show Steps p.tables e below (T1.setTop (mkF m 71 #[.val (.ref x4_0), .val (.long x4_1), .second, .val (.long x4_2), .second, .val (.long x4_3), .second] [(.ref x4_0)])) _
    refine XS.lloadN X1.here hx rfl (hb hby d4_71) rfl ?_
    show Steps p.tables e below (T1.setTop (mkF m 72 #[.val (.ref x4_0), .val (.long x4_1), .second, .val (.long x4_2), .second, .val (.long x4_3), .second] [(.long x4_1), (.ref x4_0)])) _
    refine XS.l2i X1.here hx rfl (hb hby d4_72) rfl ?_
    show Steps p.tables e below (T1.setTop (mkF m 73 #[.val (.ref x4_0), .val (.long x4_1), .second, .val (.long x4_2), .second, .val (.long x4_3), .second] [(.int (x4_1.toInt32)), (.ref x4_0)])) _
    refine st2 _ ?_
    show Steps p.tables e below (T2.setTop (mkF m 76 #[.val (.ref x4_0), .val (.long x4_1), .second, .val (.long x4_2), .second, .val (.long x4_3), .second] [])) _
    refine XS.aloadN X2.here hx rfl (hb hby d4_76) rfl rfl ?_
    show Steps p.tables e below (T2.setTop (mkF m 77 #[.val (.ref x4_0), .val (.long x4_1), .second, .val (.long x4_2), .second, .val (.long x4_3), .second] [(.ref x4_0)])) _
    refine XS.lloadN X2.here hx rfl (hb hby d4_77) rfl ?_
    show Steps p.tables e below (T2.setTop (mkF m 78 #[.val (.ref x4_0), .val (.long x4_1), .second, .val (.long x4_2), .second, .val (.long x4_3), .second] [(.long x4_2), (.ref x4_0)])) _
    refine XS.l2i X2.here hx rfl (hb hby d4_78) rfl ?_
    show Steps p.tables e below (T2.setTop (mkF m 79 #[.val (.ref x4_0), .val (.long x4_1), .second, .val (.long x4_2), .second, .val (.long x4_3), .second] [(.int (x4_2.toInt32)), (.ref x4_0)])) _
    refine st5 _ ?_
    show Steps p.tables e below (T5.setTop (mkF m 82 #[.val (.ref x4_0), .val (.long x4_1), .second, .val (.long x4_2), .second, .val (.long x4_3), .second] [])) _
    refine XS.aloadN X5.here hx rfl (hb hby d4_82) rfl rfl ?_
    show Steps p.tables e below (T5.setTop (mkF m 83 #[.val (.ref x4_0), .val (.long x4_1), .second, .val (.long x4_2), .second, .val (.long x4_3), .second] [(.ref x4_0)])) _
    refine XS.lload X5.here hx rfl (hb hby d4_83) rfl ?_
    show Steps p.tables e below (T5.setTop (mkF m 85 #[.val (.ref x4_0), .val (.long x4_1), .second, .val (.long x4_2), .second, .val (.long x4_3), .second] [(.long x4_3), (.ref x4_0)])) _
    refine XS.l2i X5.here hx rfl (hb hby d4_85) rfl ?_
    show Steps p.tables e below (T5.setTop (mkF m 86 #[.val (.ref x4_0), .val (.long x4_1), .second, .val (.long x4_2), .second, .val (.long x4_3), .second] [(.int (x4_3.toInt32)), (.ref x4_0)])) _
    refine st8 _ ?_
    show Steps p.tables e below (T8.setTop (mkF m 89 #[.val (.ref x4_0), .val (.long x4_1), .second, .val (.long x4_2), .second, .val (.long x4_3), .second] [])) _
    exact X8.returnOut hx Bd.returns (hb hby d4_89) hr
  · show Q4 Z x4_0 x4_1 x4_2 x4_3 h0 n0 _ T8.heap _
    rw [e8]
    exact ⟨rfl, N8, KC8, c9, c10, c11, Fw8⟩
theorem d6o_0 : decode prog_39_method_6_code 0 = .ok (.aload_n 1, 1) := by decide +kernel
theorem d6o_1 : decode prog_39_method_6_code 1 = .ok (.instanceof 7, 3) := by decide +kernel
theorem d6o_4 : decode prog_39_method_6_code 4 = .ok (.ifCond .eq 45, 3) := by decide +kernel
theorem d6o_7 : decode prog_39_method_6_code 7 = .ok (.aload_n 1, 1) := by decide +kernel
theorem d6o_8 : decode prog_39_method_6_code 8 = .ok (.checkcast 7, 3) := by decide +kernel
theorem d6o_11 : decode prog_39_method_6_code 11 = .ok (.astore_n 2, 1) := by decide +kernel
theorem d6o_12 : decode prog_39_method_6_code 12 = .ok (.aload_n 0, 1) := by decide +kernel
theorem d6o_13 : decode prog_39_method_6_code 13 = .ok (.getfield 23, 3) := by decide +kernel
theorem d6o_16 : decode prog_39_method_6_code 16 = .ok (.aload_n 2, 1) := by decide +kernel
theorem d6o_17 : decode prog_39_method_6_code 17 = .ok (.getfield 23, 3) := by decide +kernel
theorem d6o_20 : decode prog_39_method_6_code 20 = .ok (.if_icmp .ne 29, 3) := by decide +kernel
theorem d6o_23 : decode prog_39_method_6_code 23 = .ok (.aload_n 0, 1) := by decide +kernel
theorem d6o_24 : decode prog_39_method_6_code 24 = .ok (.getfield 27, 3) := by decide +kernel
theorem d6o_27 : decode prog_39_method_6_code 27 = .ok (.aload_n 2, 1) := by decide +kernel
theorem d6o_28 : decode prog_39_method_6_code 28 = .ok (.getfield 27, 3) := by decide +kernel
theorem d6o_31 : decode prog_39_method_6_code 31 = .ok (.if_icmp .ne 18, 3) := by decide +kernel
theorem d6o_34 : decode prog_39_method_6_code 34 = .ok (.aload_n 0, 1) := by decide +kernel
theorem d6o_35 : decode prog_39_method_6_code 35 = .ok (.getfield 30, 3) := by decide +kernel
theorem d6o_38 : decode prog_39_method_6_code 38 = .ok (.aload_n 2, 1) := by decide +kernel
theorem d6o_39 : decode prog_39_method_6_code 39 = .ok (.getfield 30, 3) := by decide +kernel
theorem d6o_42 : decode prog_39_method_6_code 42 = .ok (.if_icmp .ne 7, 3) := by decide +kernel
theorem d6o_45 : decode prog_39_method_6_code 45 = .ok (.iconst 1, 1) := by decide +kernel
theorem d6o_46 : decode prog_39_method_6_code 46 = .ok (.goto 4, 3) := by decide +kernel
theorem d6o_49 : decode prog_39_method_6_code 49 = .ok (.iconst 0, 1) := by decide +kernel
theorem d6o_50 : decode prog_39_method_6_code 50 = .ok (.ireturn, 1) := by decide +kernel
theorem ef_6o (m : MethodId) (x6o_0 : Addr) (x6o_1 : Addr) : entryFrame m #[(.ref x6o_0), (.ref x6o_1)] 3 = mkF m 0 #[.val (.ref x6o_0), .val (.ref x6o_1), .unset] [] := by first | (simp [entryFrame, mkF, argsToLocals, Value.category]; done) | rfl
def f6o (x6o_0 : Addr) (x6o_1 : Addr) (u0_size : Int32) (u0_from : Int32) (u0_to : Int32) (u1_size : Int32) (u1_from : Int32) (u1_to : Int32) : Int32 := if u0_size = u1_size then (if u0_from = u1_from then (if u0_to = u1_to then (1 : Int32) else (0 : Int32)) else (0 : Int32)) else (0 : Int32)
def Q6o (Z : State) (x6o_0 : Addr) (x6o_1 : Addr) (u0_size : Int32) (u0_from : Int32) (u0_to : Int32) (u1_size : Int32) (u1_from : Int32) (u1_to : Int32) (h0 : Heap) (n0 : Nat) (v : Option Value) (h : Heap) (L : List Loc) : Prop := v = some (.int (f6o x6o_0 x6o_1 u0_size u0_from u0_to u1_size u1_from u1_to)) ∧ Fr n0 L ∧ h = h0
set_option maxRecDepth 65536 in
set_option maxHeartbeats 40000000 in
theorem rm6o (l : Launch) (Z : State) (a0 : Array Value) (hw : ∀ d ∈ tables_1, d.before a0 Z = true) (ws : List Jvm.Cond) (x6o_0 : Addr) (x6o_1 : Addr) (u0_size : Int32) (u0_from : Int32) (u0_to : Int32) (u1_size : Int32) (u1_from : Int32) (u1_to : Int32) (h0 : Heap) (n0 : Nat) (Z0 : n0 ≤ h0.size) (Exa0 : Exa Z h0 x6o_0 "com/example/libdmutex/libdmutex/core/Range") (Exa1 : Exa Z h0 x6o_1 "com/example/libdmutex/libdmutex/core/Range") (Fl0_size : Fld Z h0 x6o_0 "com/example/libdmutex/libdmutex/core/Range" "size" "I" (.int u0_size)) (Fl0_from : Fld Z h0 x6o_0 "com/example/libdmutex/libdmutex/core/Range" "from" "I" (.int u0_from)) (Fl0_to : Fld Z h0 x6o_0 "com/example/libdmutex/libdmutex/core/Range" "to" "I" (.int u0_to)) (Fl1_size : Fld Z h0 x6o_1 "com/example/libdmutex/libdmutex/core/Range" "size" "I" (.int u1_size)) (Fl1_from : Fld Z h0 x6o_1 "com/example/libdmutex/libdmutex/core/Range" "from" "I" (.int u1_from)) (Fl1_to : Fld Z h0 x6o_1 "com/example/libdmutex/libdmutex/core/Range" "to" "I" (.int u1_to)) :
    MetFree l (⟨"com/example/libdmutex/libdmutex/core/Range", "equals", "(Ljava/lang/Object;)Z"⟩ : MethodName) (head1 (Jvm.Cond.code (⟨"com/example/libdmutex/libdmutex/core/Range", "equals", "(Ljava/lang/Object;)Z"⟩ : MethodName) prog_39_method_6_code 3 (some .boolean) :: ws) ({ frames := 0, cells := 0, slots := 0, locals := 0 } : Room)) (fun a U => a = #[(.ref x6o_0), (.ref x6o_1)] ∧ Z.Warmed39 U.vm ∧ U.heap = h0) (fun _ _ _ _ _ => True) (fun _ U o U' => ∃ v L, o = .returned v ∧ Q6o Z x6o_0 x6o_1 u0_size u0_from u0_to u1_size u1_from u1_to h0 n0 v U'.heap L ∧ FrameEnd U o U' L ({ frames := 0, cells := 0, slots := 0, locals := 0 } : Room).cells ({ frames := 0, cells := 0, slots := 0, locals := 0 } : Room).slots) := by
  refine MetFree.of_bodySF (plainFor_of_name pn_1) hisR ?_
  intro p e s m args below meth c s₁ Bd hml0 hP hK
  obtain ⟨rfl, hZ, hh⟩ := hP
  have hx := Bd.exec
  have hby := Bd.bytes
  have hml : c.maxLocals = 3 := hml0
  have hown : s.vm.findClass "com/example/libdmutex/libdmutex/core/Range" = some m.cls := findClass_of_methodNamed Bd.named
  have hnm := (name_of_methodNamed Bd.named Bd.method).1
  have X0 : Stand p l e ({ frames := 0, cells := 0, slots := 0, locals := 0 } : Room) s m #[(.ref x6o_0), (.ref x6o_1)] below meth c s₁ [] 0 0 := Stand.of_body Bd
  have e0 : s₁.heap = h0 := by rw [← hh, Bd.state]; rfl
  have N0 := Fr.nil n0
  have pre0 : ∀ t, Steps p.tables e below (s₁.setTop (mkF m 0 #[.val (.ref x6o_0), .val (.ref x6o_1), .unset] [])) t → Steps p.tables e below (s₁.setTop (entryFrame m #[(.ref x6o_0), (.ref x6o_1)] 3)) t := fun t k => castTop (ef_6o m x6o_0 x6o_1) k
  obtain ⟨T1, X1, e1, st1⟩ := instY X0 hx hZ hown (hw _ (List.mem_of_getElem? (i := 34) rfl)) e0 (Ins.self Exa1) (g := (mkF m 1 #[.val (.ref x6o_0), .val (.ref x6o_1), .unset] [(.ref x6o_1)])) rfl rfl (hb hby d6o_1)
  obtain ⟨T2, X2, e2, st2⟩ := castY X1 hx hZ hown (hw _ (List.mem_of_getElem? (i := 34) rfl)) e1 (Ins.self Exa1) (g := (mkF m 8 #[.val (.ref x6o_0), .val (.ref x6o_1), .unset] [(.ref x6o_1)])) rfl rfl (hb hby d6o_8)
  obtain ⟨T3, X3, e3, st3⟩ := getF X2 hx hZ hown (host := "") (Or.inl (hw _ (List.mem_of_getElem? (i := 23) rfl))) Via.refl e2 Fl0_size (g := (mkF m 13 #[.val (.ref x6o_0), .val (.ref x6o_1), .val (.ref x6o_1)] [(.ref x6o_0)])) rfl rfl (hb hby d6o_13)
  obtain ⟨T4, X4, e4, st4⟩ := getF X3 hx hZ hown (host := "") (Or.inl (hw _ (List.mem_of_getElem? (i := 23) rfl))) Via.refl e3 Fl1_size (g := (mkF m 17 #[.val (.ref x6o_0), .val (.ref x6o_1), .val (.ref x6o_1)] [(.ref x6o_1), (.int u0_size)])) rfl rfl (hb hby d6o_17)
  have sg5 : ∀ t, Steps p.tables e below (T4.setTop (mkF m 20 #[.val (.ref x6o_0), .val (.ref x6o_1), .val (.ref x6o_1)] [(.int u1_size), (.int u0_size)])) t → Steps p.tables e below (s₁.setTop (mkF m 0 #[.val (.ref x6o_0), .val (.ref x6o_1), .unset] [])) t := fun t kt => by
    show Steps p.tables e below (s₁.setTop (mkF m 0 #[.val (.ref x6o_0), .val (.ref x6o_1), .unset] [])) _
    refine XS.aloadN X0.here hx rfl (hb hby d6o_0) rfl rfl ?_
    show Steps p.tables e below (s₁.setTop (mkF m 1 #[.val (.ref x6o_0), .val (.ref x6o_1), .unset] [(.ref x6o_1)])) _
    refine st1 _ ?_
    show Steps p.tables e below (T1.setTop (mkF m 4 #[.val (.ref x6o_0), .val (.ref x6o_1), .unset] [(.int (1 : Int32))])) _
    refine XS.ifNo X1.here hx rfl (hb hby d6o_4) rfl ((if0 _ _).trans (feq (by decide : ¬ ((1 : Int32) = (0 : Int32)))).1) ?_
    show Steps p.tables e below (T1.setTop (mkF m 7 #[.val (.ref x6o_0), .val (.ref x6o_1), .unset] [])) _
    refine XS.aloadN X1.here hx rfl (hb hby d6o_7) rfl rfl ?_
    show Steps p.tables e below (T1.setTop (mkF m 8 #[.val (.ref x6o_0), .val (.ref x6o_1), .unset] [(.ref x6o_1)])) _
    refine st2 _ ?_
    show Steps p.tables e below (T2.setTop (mkF m 11 #[.val (.ref x6o_0), .val (.ref x6o_1), .unset] [(.ref x6o_1)])) _
    refine XS.astoreN X2.here hx rfl (hb hby d6o_11) rfl rfl (l' := #[.val (.ref x6o_0), .val (.ref x6o_1), .val (.ref x6o_1)]) rfl ?_
    show Steps p.tables e below (T2.setTop (mkF m 12 #[.val (.ref x6o_0), .val (.ref x6o_1), .val (.ref x6o_1)] [])) _
    refine XS.aloadN X2.here hx rfl (hb hby d6o_12) rfl rfl ?_
    show Steps p.tables e below (T2.setTop (mkF m 13 #[.val (.ref x6o_0), .val (.ref x6o_1), .val (.ref x6o_1)] [(.ref x6o_0)])) _
    refine st3 _ ?_
    show Steps p.tables e below (T3.setTop (mkF m 16 #[.val (.ref x6o_0), .val (.ref x6o_1), .val (.ref x6o_1)] [(.int u0_size)])) _
    refine XS.aloadN X3.here hx rfl (hb hby d6o_16) rfl rfl ?_
    show Steps p.tables e below (T3.setTop (mkF m 17 #[.val (.ref x6o_0), .val (.ref x6o_1), .val (.ref x6o_1)] [(.ref x6o_1), (.int u0_size)])) _
    refine st4 _ ?_
    exact kt
  by_cases hc20_6 : u0_size = u1_size
  · obtain ⟨T7, X7, e7, st7⟩ := getF X4 hx hZ hown (host := "") (Or.inl (hw _ (List.mem_of_getElem? (i := 25) rfl))) Via.refl e4 Fl0_from (g := (mkF m 24 #[.val (.ref x6o_0), .val (.ref x6o_1), .val (.ref x6o_1)] [(.ref x6o_0)])) rfl rfl (hb hby d6o_24)
    obtain ⟨T8, X8, e8, st8⟩ := getF X7 hx hZ hown (host := "") (Or.inl (hw _ (List.mem_of_getElem? (i := 25) rfl))) Via.refl e7 Fl1_from (g := (mkF m 28 #[.val (.ref x6o_0), .val (.ref x6o_1), .val (.ref x6o_1)] [(.ref x6o_1), (.int u0_from)])) rfl rfl (hb hby d6o_28)
    have sg9 : ∀ t, Steps p.tables e below (T8.setTop (mkF m 31 #[.val (.ref x6o_0), .val (.ref x6o_1), .val (.ref x6o_1)] [(.int u1_from), (.int u0_from)])) t → Steps p.tables e below (T4.setTop (mkF m 20 #[.val (.ref x6o_0), .val (.ref x6o_1), .val (.ref x6o_1)] [(.int u1_size), (.int u0_size)])) t := fun t kt => by
      show Steps p.tables e below (T4.setTop (mkF m 20 #[.val (.ref x6o_0), .val (.ref x6o_1), .val (.ref x6o_1)] [(.int u1_size), (.int u0_size)])) _
      refine XS.icmpNo X4.here hx rfl (hb hby d6o_20) rfl (teq hc20_6).2 ?_
      show Steps p.tables e below (T4.setTop (mkF m 23 #[.val (.ref x6o_0), .val (.ref x6o_1), .val (.ref x6o_1)] [])) _
      refine XS.aloadN X4.here hx rfl (hb hby d6o_23) rfl rfl ?_
      show Steps p.tables e below (T4.setTop (mkF m 24 #[.val (.ref x6o_0), .val (.ref x6o_1), .val (.ref x6o_1)] [(.ref x6o_0)])) _
      refine st7 _ ?_
      show Steps p.tables e below (T7.setTop (mkF m 27 #[.val (.ref x6o_0), .val (.ref x6o_1), .val (.ref x6o_1)] [(.int u0_from)])) _
      refine XS.aloadN X7.here hx rfl (hb hby d6o_27) rfl rfl ?_
      show Steps p.tables e below (T7.setTop (mkF m 28 #[.val (.ref x6o_0), .val (.ref x6o_1), .val (.ref x6o_1)] [(.ref x6o_1), (.int u0_from)])) _
      refine st8 _ ?_
      exact kt
    by_cases hc31_10 : u0_from = u1_from
    · obtain ⟨T11, X11, e11, st11⟩ := getF X8 hx hZ hown (host := "") (Or.inl (hw _ (List.mem_of_getElem? (i := 27) rfl))) Via.refl e8 Fl0_to (g := (mkF m 35 #[.val (.ref x6o_0), .val (.ref x6o_1), .val (.ref x6o_1)] [(.ref x6o_0)])) rfl rfl (hb hby d6o_35)
      obtain ⟨T12, X12, e12, st12⟩ := getF X11 hx hZ hown (host := "") (Or.inl (hw _ (List.mem_of_getElem? (i := 27) rfl))) Via.refl e11 Fl1_to (g := (mkF m 39 #[.val (.ref x6o_0), .val (.ref x6o_1), .val (.ref x6o_1)] [(.ref x6o_1), (.int u0_to)])) rfl rfl (hb hby d6o_39)
      have sg13 : ∀ t, Steps p.tables e below (T12.setTop (mkF m 42 #[.val (.ref x6o_0), .val (.ref x6o_1), .val (.ref x6o_1)] [(.int u1_to), (.int u0_to)])) t → Steps p.tables e below (T8.setTop (mkF m 31 #[.val (.ref x6o_0), .val (.ref x6o_1), .val (.ref x6o_1)] [(.int u1_from), (.int u0_from)])) t := fun t kt => by
        show Steps p.tables e below (T8.setTop (mkF m 31 #[.val (.ref x6o_0), .val (.ref x6o_1), .val (.ref x6o_1)] [(.int u1_from), (.int u0_from)])) _
        refine XS.icmpNo X8.here hx rfl (hb hby d6o_31) rfl (teq hc31_10).2 ?_
        show Steps p.tables e below (T8.setTop (mkF m 34 #[.val (.ref x6o_0), .val (.ref x6o_1), .val (.ref x6o_1)] [])) _
        refine XS.aloadN X8.here hx rfl (hb hby d6o_34) rfl rfl ?_
        show Steps p.tables e below (T8.setTop (mkF m 35 #[.val (.ref x6o_0), .val (.ref x6o_1), .val (.ref x6o_1)] [(.ref x6o_0)])) _
        refine st11 _ ?_
        show Steps p.tables e below (T11.setTop (mkF m 38 #[.val (.ref x6o_0), .val (.ref x6o_1), .val (.ref x6o_1)] [(.int u0_to)])) _
        refine XS.aloadN X11.here hx rfl (hb hby d6o_38) rfl rfl ?_
        show Steps p.tables e below (T11.setTop (mkF m 39 #[.val (.ref x6o_0), .val (.ref x6o_1), .val (.ref x6o_1)] [(.ref x6o_1), (.int u0_to)])) _
        refine st12 _ ?_
        exact kt
      by_cases hc42_14 : u0_to = u1_to
      · obtain ⟨fs, hr, hrun, hended, hW, hsame⟩ := X12.leave (v := some (.int (1 : Int32))) (fun h => by rw [Bd.returns] at h; cases h)
        refine ⟨_, _, pre0 _ (sg5 _ (sg9 _ (sg13 _ ?_))), hrun, hended, _, _, rfl, ?_, ⟨_, rfl⟩, hW, hsame.mono (by decide) (by decide)⟩
        · show Steps p.tables e below (T12.setTop (mkF m 42 #[.val (.ref x6o_0), .val (.ref x6o_1), .val (.ref x6o_1)] [(.int u1_to), (.int u0_to)])) _
          refine XS.icmpNo X12.here hx rfl (hb hby d6o_42) rfl (teq hc42_14).2 ?_
          show Steps p.tables e below (T12.setTop (mkF m 45 #[.val (.ref x6o_0), .val (.ref x6o_1), .val (.ref x6o_1)] [])) _
          refine XS.iconst X12.here hx rfl (hb hby d6o_45) ?_
          show Steps p.tables e below (T12.setTop (mkF m 46 #[.val (.ref x6o_0), .val (.ref x6o_1), .val (.ref x6o_1)] [(.int (1 : Int32))])) _
          refine XS.goto X12.here hx rfl (pc0 := 46) (pc' := 50) rfl (hb hby d6o_46) (by decide) (by decide) ?_
          show Steps p.tables e below (T12.setTop (mkF m 50 #[.val (.ref x6o_0), .val (.ref x6o_1), .val (.ref x6o_1)] [(.int (1 : Int32))])) _
          exact retN X12 hx (t := .boolean) Bd.returns (by simp) (hb hby d6o_50) hr
        · exact ⟨congrArg (fun z => some (Value.int z)) (show (1 : Int32) = f6o x6o_0 x6o_1 u0_size u0_from u0_to u1_size u1_from u1_to from by unfold f6o; rw [if_pos hc20_6, if_pos hc31_10, if_pos hc42_14]), N0, e12⟩
      · obtain ⟨fs, hr, hrun, hended, hW, hsame⟩ := X12.leave (v := some (.int (0 : Int32))) (fun h => by rw [Bd.returns] at h; cases h)
        refine ⟨_, _, pre0 _ (sg5 _ (sg9 _ (sg13 _ ?_))), hrun, hended, _, _, rfl, ?_, ⟨_, rfl⟩, hW, hsame.mono (by decide) (by decide)⟩
        · show Steps p.tables e below (T12.setTop (mkF m 42 #[.val (.ref x6o_0), .val (.ref x6o_1), .val (.ref x6o_1)] [(.int u1_to), (.int u0_to)])) _
          refine XS.icmpYes X12.here hx rfl (pc0 := 42) (pc' := 49) rfl (hb hby d6o_42) rfl (feq hc42_14).2 (by decide) (by decide) ?_
          show Steps p.tables e below (T12.setTop (mkF m 49 #[.val (.ref x6o_0), .val (.ref x6o_1), .val (.ref x6o_1)] [])) _
          refine XS.iconst X12.here hx rfl (hb hby d6o_49) ?_
          show Steps p.tables e below (T12.setTop (mkF m 50 #[.val (.ref x6o_0), .val (.ref x6o_1), .val (.ref x6o_1)] [(.int (0 : Int32))])) _
          exact retN X12 hx (t := .boolean) Bd.returns (by simp) (hb hby d6o_50) hr
        · exact ⟨congrArg (fun z => some (Value.int z)) (show (0 : Int32) = f6o x6o_0 x6o_1 u0_size u0_from u0_to u1_size u1_from u1_to from by unfold f6o; rw [if_pos hc20_6, if_pos hc31_10, if_neg hc42_14]), N0, e12⟩
    · obtain ⟨fs, hr, hrun, hended, hW, hsame⟩ := X8.leave (v := some (.int (0 : Int32))) (fun h => by rw [Bd.returns] at h; cases h)
      refine ⟨_, _, pre0 _ (sg5 _ (sg9 _ ?_)), hrun, hended, _, _, rfl, ?_, ⟨_, rfl⟩, hW, hsame.mono (by decide) (by decide)⟩
      · show Steps p.tables e below (T8.setTop (mkF m 31 #[.val (.ref x6o_0), .val (.ref x6o_1), .val (.ref x6o_1)] [(.int u1_from), (.int u0_from)])) _
        refine XS.icmpYes X8.here hx rfl (pc0 := 31) (pc' := 49) rfl (hb hby d6o_31) rfl (feq hc31_10).2 (by decide) (by decide) ?_
        show Steps p.tables e below (T8.setTop (mkF m 49 #[.val (.ref x6o_0), .val (.ref x6o_1), .val (.ref x6o_1)] [])) _
        refine XS.iconst X8.here hx rfl (hb hby d6o_49) ?_
        show Steps p.tables e below (T8.setTop (mkF m 50 #[.val (.ref x6o_0), .val (.ref x6o_1), .val (.ref x6o_1)] [(.int (0 : Int32))])) _
        exact retN X8 hx (t := .boolean) Bd.returns (by simp) (hb hby d6o_50) hr
      · exact ⟨congrArg (fun z => some (Value.int z)) (show (0 : Int32) = f6o x6o_0 x6o_1 u0_size u0_from u0_to u1_size u1_from u1_to from by unfold f6o; rw [if_pos hc20_6, if_neg hc31_10]), N0, e8⟩
  · obtain ⟨fs, hr, hrun, hended, hW, hsame⟩ := X4.leave (v := some (.int (0 : Int32))) (fun h => by rw [Bd.returns] at h; cases h)
    refine ⟨_, _, pre0 _ (sg5 _ ?_), hrun, hended, _, _, rfl, ?_, ⟨_, rfl⟩, hW, hsame.mono (by decide) (by decide)⟩
    · show Steps p.tables e below (T4.setTop (mkF m 20 #[.val (.ref x6o_0), .val (.ref x6o_1), .val (.ref x6o_1)] [(.int u1_size), (.int u0_size)])) _
      refine XS.icmpYes X4.here hx rfl (pc0 := 20) (pc' := 49) rfl (hb hby d6o_20) rfl (feq hc20_6).2 (by decide) (by decide) ?_
      show Steps p.tables e below (T4.setTop (mkF m 49 #[.val (.ref x6o_0), .val (.ref x6o_1), .val (.ref x6o_1)] [])) _
      refine XS.iconst X4.here hx rfl (hb hby d6o_49) ?_
      show Steps p.tables e below (T4.setTop (mkF m 50 #[.val (.ref x6o_0), .val (.ref x6o_1), .val (.ref x6o_1)] [(.int (0 : Int32))])) _
      exact retN X4 hx (t := .boolean) Bd.returns (by simp) (hb hby d6o_50) hr
    · exact ⟨congrArg (fun z => some (Value.int z)) (show (0 : Int32) = f6o x6o_0 x6o_1 u0_size u0_from u0_to u1_size u1_from u1_to from by unfold f6o; rw [if_neg hc20_6]), N0, e4⟩
theorem d6n_0 : decode prog_39_method_6_code 0 = .ok (.aload_n 1, 1) := by decide +kernel
theorem d6n_1 : decode prog_39_method_6_code 1 = .ok (.instanceof 7, 3) := by decide +kernel
theorem d6n_4 : decode prog_39_method_6_code 4 = .ok (.ifCond .eq 45, 3) := by decide +kernel
theorem d6n_49 : decode prog_39_method_6_code 49 = .ok (.iconst 0, 1) := by decide +kernel
theorem d6n_50 : decode prog_39_method_6_code 50 = .ok (.ireturn, 1) := by decide +kernel
theorem ef_6n (m : MethodId) (x6n_0 : Addr) : entryFrame m #[(.ref x6n_0), .null] 3 = mkF m 0 #[.val (.ref x6n_0), .val .null, .unset] [] := by first | (simp [entryFrame, mkF, argsToLocals, Value.category]; done) | rfl
def f6n (x6n_0 : Addr) : Int32 := (0 : Int32)
def Q6n (Z : State) (x6n_0 : Addr) (h0 : Heap) (n0 : Nat) (v : Option Value) (h : Heap) (L : List Loc) : Prop := v = some (.int (f6n x6n_0)) ∧ Fr n0 L ∧ h = h0
set_option maxRecDepth 65536 in
set_option maxHeartbeats 40000000 in
theorem rm6n (l : Launch) (Z : State) (a0 : Array Value) (hw : ∀ d ∈ tables_1, d.before a0 Z = true) (ws : List Jvm.Cond) (x6n_0 : Addr) (h0 : Heap) (n0 : Nat) (Z0 : n0 ≤ h0.size) (Exa0 : Exa Z h0 x6n_0 "com/example/libdmutex/libdmutex/core/Range") :
    MetFree l (⟨"com/example/libdmutex/libdmutex/core/Range", "equals", "(Ljava/lang/Object;)Z"⟩ : MethodName) (head1 (Jvm.Cond.code (⟨"com/example/libdmutex/libdmutex/core/Range", "equals", "(Ljava/lang/Object;)Z"⟩ : MethodName) prog_39_method_6_code 3 (some .boolean) :: ws) ({ frames := 0, cells := 0, slots := 0, locals := 0 } : Room)) (fun a U => a = #[(.ref x6n_0), .null] ∧ Z.Warmed39 U.vm ∧ U.heap = h0) (fun _ _ _ _ _ => True) (fun _ U o U' => ∃ v L, o = .returned v ∧ Q6n Z x6n_0 h0 n0 v U'.heap L ∧ FrameEnd U o U' L ({ frames := 0, cells := 0, slots := 0, locals := 0 } : Room).cells ({ frames := 0, cells := 0, slots := 0, locals := 0 } : Room).slots) := by
  refine MetFree.of_bodySF (plainFor_of_name pn_1) hisR ?_
  intro p e s m args below meth c s₁ Bd hml0 hP hK
  obtain ⟨rfl, hZ, hh⟩ := hP
  have hx := Bd.exec
  have hby := Bd.bytes
  have hml : c.maxLocals = 3 := hml0
  have hown : s.vm.findClass "com/example/libdmutex/libdmutex/core/Range" = some m.cls := findClass_of_methodNamed Bd.named
  have hnm := (name_of_methodNamed Bd.named Bd.method).1
  have X0 : Stand p l e ({ frames := 0, cells := 0, slots := 0, locals := 0 } : Room) s m #[(.ref x6n_0), .null] below meth c s₁ [] 0 0 := Stand.of_body Bd
  have e0 : s₁.heap = h0 := by rw [← hh, Bd.state]; rfl
  have N0 := Fr.nil n0
  have pre0 : ∀ t, Steps p.tables e below (s₁.setTop (mkF m 0 #[.val (.ref x6n_0), .val .null, .unset] [])) t → Steps p.tables e below (s₁.setTop (entryFrame m #[(.ref x6n_0), .null] 3)) t := fun t k => castTop (ef_6n m x6n_0) k
  obtain ⟨fs, hr, hrun, hended, hW, hsame⟩ := X0.leave (v := some (.int (0 : Int32))) (fun h => by rw [Bd.returns] at h; cases h)
  refine ⟨_, _, pre0 _ (?_), hrun, hended, _, _, rfl, ?_, ⟨_, rfl⟩, hW, hsame.mono (by decide) (by decide)⟩
  · show Steps p.tables e below (s₁.setTop (mkF m 0 #[.val (.ref x6n_0), .val .null, .unset] [])) _
    refine XS.aloadN X0.here hx rfl (hb hby d6n_0) rfl rfl ?_
    show Steps p.tables e below (s₁.setTop (mkF m 1 #[.val (.ref x6n_0), .val .null, .unset] [.null])) _
    refine X0.instanceofNull hx (g := (mkF m 1 #[.val (.ref x6n_0), .val .null, .unset] [.null])) rfl rfl (hb hby d6n_1) _ ?_
    show Steps p.tables e below (s₁.setTop (mkF m 4 #[.val (.ref x6n_0), .val .null, .unset] [(.int (0 : Int32))])) _
    refine XS.ifYes X0.here hx rfl (pc0 := 4) (pc' := 49) rfl (hb hby d6n_4) rfl ((if0 _ _).trans (teq (by decide : ((0 : Int32) = (0 : Int32)))).1) (by decide) (by decide) ?_
    show Steps p.tables e below (s₁.setTop (mkF m 49 #[.val (.ref x6n_0), .val .null, .unset] [])) _
    refine XS.iconst X0.here hx rfl (hb hby d6n_49) ?_
    show Steps p.tables e below (s₁.setTop (mkF m 50 #[.val (.ref x6n_0), .val .null, .unset] [(.int (0 : Int32))])) _
    exact retN X0 hx (t := .boolean) Bd.returns (by simp) (hb hby d6n_50) hr
  · exact ⟨rfl, N0, e0⟩
theorem d6i_0 : decode prog_39_method_6_code 0 = .ok (.aload_n 1, 1) := by decide +kernel
theorem d6i_1 : decode prog_39_method_6_code 1 = .ok (.instanceof 7, 3) := by decide +kernel
theorem d6i_4 : decode prog_39_method_6_code 4 = .ok (.ifCond .eq 45, 3) := by decide +kernel
theorem d6i_49 : decode prog_39_method_6_code 49 = .ok (.iconst 0, 1) := by decide +kernel
theorem d6i_50 : decode prog_39_method_6_code 50 = .ok (.ireturn, 1) := by decide +kernel
theorem ef_6i (m : MethodId) (x6i_0 : Addr) (x6i_1 : Addr) : entryFrame m #[(.ref x6i_0), (.ref x6i_1)] 3 = mkF m 0 #[.val (.ref x6i_0), .val (.ref x6i_1), .unset] [] := by first | (simp [entryFrame, mkF, argsToLocals, Value.category]; done) | rfl
def f6i (x6i_0 : Addr) (x6i_1 : Addr) : Int32 := (0 : Int32)
def Q6i (Z : State) (x6i_0 : Addr) (x6i_1 : Addr) (h0 : Heap) (n0 : Nat) (v : Option Value) (h : Heap) (L : List Loc) : Prop := v = some (.int (f6i x6i_0 x6i_1)) ∧ Fr n0 L ∧ h = h0
set_option maxRecDepth 65536 in
set_option maxHeartbeats 40000000 in
theorem rm6i (l : Launch) (Z : State) (a0 : Array Value) (hw : ∀ d ∈ tables_1, d.before a0 Z = true) (ws : List Jvm.Cond) (x6i_0 : Addr) (x6i_1 : Addr) (h0 : Heap) (n0 : Nat) (Z0 : n0 ≤ h0.size) (Exa1 : Exa Z h0 x6i_1 "java/lang/Long") :
    MetFree l (⟨"com/example/libdmutex/libdmutex/core/Range", "equals", "(Ljava/lang/Object;)Z"⟩ : MethodName) (head1 (Jvm.Cond.code (⟨"com/example/libdmutex/libdmutex/core/Range", "equals", "(Ljava/lang/Object;)Z"⟩ : MethodName) prog_39_method_6_code 3 (some .boolean) :: ws) ({ frames := 0, cells := 0, slots := 0, locals := 0 } : Room)) (fun a U => a = #[(.ref x6i_0), (.ref x6i_1)] ∧ Z.Warmed39 U.vm ∧ U.heap = h0) (fun _ _ _ _ _ => True) (fun _ U o U' => ∃ v L, o = .returned v ∧ Q6i Z x6i_0 x6i_1 h0 n0 v U'.heap L ∧ FrameEnd U o U' L ({ frames := 0, cells := 0, slots := 0, locals := 0 } : Room).cells ({ frames := 0, cells := 0, slots := 0, locals := 0 } : Room).slots) := by
  refine MetFree.of_bodySF (plainFor_of_name pn_1) hisR ?_
  intro p e s m args below meth c s₁ Bd hml0 hP hK
  obtain ⟨rfl, hZ, hh⟩ := hP
  have hx := Bd.exec
  have hby := Bd.bytes
  have hml : c.maxLocals = 3 := hml0
  have hown : s.vm.findClass "com/example/libdmutex/libdmutex/core/Range" = some m.cls := findClass_of_methodNamed Bd.named
  have hnm := (name_of_methodNamed Bd.named Bd.method).1
  have X0 : Stand p l e ({ frames := 0, cells := 0, slots := 0, locals := 0 } : Room) s m #[(.ref x6i_0), (.ref x6i_1)] below meth c s₁ [] 0 0 := Stand.of_body Bd
  have e0 : s₁.heap = h0 := by rw [← hh, Bd.state]; rfl
  have N0 := Fr.nil n0
  have pre0 : ∀ t, Steps p.tables e below (s₁.setTop (mkF m 0 #[.val (.ref x6i_0), .val (.ref x6i_1), .unset] [])) t → Steps p.tables e below (s₁.setTop (entryFrame m #[(.ref x6i_0), (.ref x6i_1)] 3)) t := fun t k => castTop (ef_6i m x6i_0 x6i_1) k
  obtain ⟨T1, X1, e1, st1⟩ := instNo X0 hx hZ hown (hw _ (List.mem_of_getElem? (i := 34) rfl)) e0 Exa1 (own_no (hw _ (List.mem_of_getElem? (i := 44) rfl)) (hw _ (List.mem_of_getElem? (i := 14) rfl)) (NS.step (hw _ (List.mem_of_getElem? (i := 44) rfl)) (NS.step (hw _ (List.mem_of_getElem? (i := 45) rfl)) (own_nsroot (hw _ (List.mem_of_getElem? (i := 46) rfl)) (hw _ (List.mem_of_getElem? (i := 14) rfl)) (by decide)) (by decide)) (by decide)) (by decide)) (g := (mkF m 1 #[.val (.ref x6i_0), .val (.ref x6i_1), .unset] [(.ref x6i_1)])) rfl rfl (hb hby d6i_1)
  obtain ⟨fs, hr, hrun, hended, hW, hsame⟩ := X1.leave (v := some (.int (0 : Int32))) (fun h => by rw [Bd.returns] at h; cases h)
  refine ⟨_, _, pre0 _ (?_), hrun, hended, _, _, rfl, ?_, ⟨_, rfl⟩, hW, hsame.mono (by decide) (by decide)⟩
  · show Steps p.tables e below (s₁.setTop (mkF m 0 #[.val (.ref x6i_0), .val (.ref x6i_1), .unset] [])) _
    refine XS.aloadN X0.here hx rfl (hb hby d6i_0) rfl rfl ?_
    show Steps p.tables e below (s₁.setTop (mkF m 1 #[.val (.ref x6i_0), .val (.ref x6i_1), .unset] [(.ref x6i_1)])) _
    refine st1 _ ?_
    show Steps p.tables e below (T1.setTop (mkF m 4 #[.val (.ref x6i_0), .val (.ref x6i_1), .unset] [(.int (0 : Int32))])) _
    refine XS.ifYes X1.here hx rfl (pc0 := 4) (pc' := 49) rfl (hb hby d6i_4) rfl ((if0 _ _).trans (teq (by decide : ((0 : Int32) = (0 : Int32)))).1) (by decide) (by decide) ?_
    show Steps p.tables e below (T1.setTop (mkF m 49 #[.val (.ref x6i_0), .val (.ref x6i_1), .unset] [])) _
    refine XS.iconst X1.here hx rfl (hb hby d6i_49) ?_
    show Steps p.tables e below (T1.setTop (mkF m 50 #[.val (.ref x6i_0), .val (.ref x6i_1), .unset] [(.int (0 : Int32))])) _
    exact retN X1 hx (t := .boolean) Bd.returns (by simp) (hb hby d6i_50) hr
  · exact ⟨rfl, N0, e1⟩
theorem d9_0 : decode jdk_18_method_1_code 0 = .ok (.aload_n 0, 1) := by decide +kernel
theorem d9_1 : decode jdk_18_method_1_code 1 = .ok (.invokespecial 1, 3) := by decide +kernel
theorem d9_4 : decode jdk_18_method_1_code 4 = .ok (.return_, 1) := by decide +kernel
theorem pn_2 : plainName "java/lang/Number" = true := by first | (simp [plainName, overriddenIn]; done) | decide +kernel
theorem ef_9 (m : MethodId) (x9_0 : Addr) : entryFrame m #[(.ref x9_0)] 1 = mkF m 0 #[.val (.ref x9_0)] [] := by first | (simp [entryFrame, mkF, argsToLocals, Value.category]; done) | rfl
def Q9 (Z : State) (x9_0 : Addr) (h0 : Heap) (n0 : Nat) (v : Option Value) (h : Heap) (L : List Loc) : Prop := v = none ∧ Fr n0 L ∧ h = h0
set_option maxRecDepth 65536 in
set_option maxHeartbeats 40000000 in
theorem rm9 (l : Launch) (Z : State) (a0 : Array Value) (hw : ∀ d ∈ tables_1, d.before a0 Z = true) (ws : List Jvm.Cond) (x9_0 : Addr) (h0 : Heap) (n0 : Nat) (Z0 : n0 ≤ h0.size) :
    MetFree l (⟨"java/lang/Number", "<init>", "()V"⟩ : MethodName) (head1 (Jvm.Cond.code (⟨"java/lang/Number", "<init>", "()V"⟩ : MethodName) jdk_18_method_1_code 1 none :: ws) ({ frames := 1, cells := 0, slots := 0, locals := 12 } : Room)) (fun a U => a = #[(.ref x9_0)] ∧ Z.Warmed39 U.vm ∧ U.heap = h0) (fun _ _ _ _ _ => True) (fun _ U o U' => ∃ v L, o = .returned v ∧ Q9 Z x9_0 h0 n0 v U'.heap L ∧ FrameEnd U o U' L ({ frames := 1, cells := 0, slots := 0, locals := 12 } : Room).cells ({ frames := 1, cells := 0, slots := 0, locals := 12 } : Room).slots) := by
  refine MetFree.of_bodySF (plainFor_of_name pn_2) hisR ?_
  intro p e s m args below meth c s₁ Bd hml0 hP hK
  obtain ⟨rfl, hZ, hh⟩ := hP
  have hx := Bd.exec
  have hby := Bd.bytes
  have hml : c.maxLocals = 1 := hml0
  have hown : s.vm.findClass "java/lang/Number" = some m.cls := findClass_of_methodNamed Bd.named
  have hnm := (name_of_methodNamed Bd.named Bd.method).1
  have X0 : Stand p l e ({ frames := 1, cells := 0, slots := 0, locals := 12 } : Room) s m #[(.ref x9_0)] below meth c s₁ [] 0 0 := Stand.of_body Bd
  have e0 : s₁.heap = h0 := by rw [← hh, Bd.state]; rfl
  have N0 := Fr.nil n0
  have pre0 : ∀ t, Steps p.tables e below (s₁.setTop (mkF m 0 #[.val (.ref x9_0)] [])) t → Steps p.tables e below (s₁.setTop (entryFrame m #[(.ref x9_0)] 1)) t := fun t k => castTop (ef_9 m x9_0) k
  obtain ⟨T1, X1, e1, st1⟩ := initO X0 hx hZ hown (hw _ (List.mem_of_getElem? (i := 59) rfl)) (hw _ (List.mem_of_getElem? (i := 20) rfl)) (hw _ (List.mem_of_getElem? (i := 21) rfl)) e0 (g := (mkF m 1 #[.val (.ref x9_0)] [(.ref x9_0)])) rfl (by rw [hml]; rfl) rfl (hb hby d9_1) (by decide) (W := 0) (by show 2 * 0 + _ ≤ _; exact Nat.le_of_eq rfl) (by decide)
  obtain ⟨fs, hr, hrun, hended, hW, hsame⟩ := X1.leave (v := none) (fun _ => rfl)
  refine ⟨_, _, pre0 _ (?_), hrun, hended, _, _, rfl, ?_, ⟨_, rfl⟩, hW, hsame.mono (by decide) (by decide)⟩
  · show Steps p.tables e below (s₁.setTop (mkF m 0 #[.val (.ref x9_0)] [])) _
    refine XS.aloadN X0.here hx rfl (hb hby d9_0) rfl rfl ?_
    show Steps p.tables e below (s₁.setTop (mkF m 1 #[.val (.ref x9_0)] [(.ref x9_0)])) _
    refine st1 _ ?_
    show Steps p.tables e below (T1.setTop (mkF m 4 #[.val (.ref x9_0)] [])) _
    exact X1.returnOut hx Bd.returns (hb hby d9_4) hr
  · exact ⟨rfl, N0, e1⟩
theorem pd_0 : parseMethodDescriptor "()V" = some ⟨[], none⟩ := by decide +kernel
theorem d8_0 : decode jdk_35_method_26_code 0 = .ok (.aload_n 0, 1) := by decide +kernel
theorem d8_1 : decode jdk_35_method_26_code 1 = .ok (.invokespecial 270, 3) := by decide +kernel
theorem d8_4 : decode jdk_35_method_26_code 4 = .ok (.aload_n 0, 1) := by decide +kernel
theorem d8_5 : decode jdk_35_method_26_code 5 = .ok (.lload_n 1, 1) := by decide +kernel
theorem d8_6 : decode jdk_35_method_26_code 6 = .ok (.putfield 273, 3) := by decide +kernel
theorem d8_9 : decode jdk_35_method_26_code 9 = .ok (.return_, 1) := by decide +kernel
theorem pn_3 : plainName "java/lang/Long" = true := by first | (simp [plainName, overriddenIn]; done) | decide +kernel
theorem ef_8 (m : MethodId) (x8_0 : Addr) (x8_1 : Int64) : entryFrame m #[(.ref x8_0), (.long x8_1)] 3 = mkF m 0 #[.val (.ref x8_0), .val (.long x8_1), .second] [] := by first | (simp [entryFrame, mkF, argsToLocals, Value.category]; done) | rfl
def Q8 (Z : State) (x8_0 : Addr) (x8_1 : Int64) (h0 : Heap) (n0 : Nat) (v : Option Value) (h : Heap) (L : List Loc) : Prop := v = none ∧ Fr n0 L ∧ Keep h0 h [x8_0] ∧ Exa Z h x8_0 "java/lang/Long" ∧ Fld Z h x8_0 "java/lang/Long" "value" "J" (.long x8_1)
set_option maxRecDepth 65536 in
set_option maxHeartbeats 40000000 in
theorem rm8 (l : Launch) (Z : State) (a0 : Array Value) (hw : ∀ d ∈ tables_1, d.before a0 Z = true) (ws : List Jvm.Cond) (x8_0 : Addr) (x8_1 : Int64) (h0 : Heap) (n0 : Nat) (Z0 : n0 ≤ h0.size) (Exa0 : Exa Z h0 x8_0 "java/lang/Long") (g_x8_0 : n0 ≤ x8_0) (Fo_value : Fld Z h0 x8_0 "java/lang/Long" "value" "J" (.long (0 : Int64))) :
    MetFree l (⟨"java/lang/Long", "<init>", "(J)V"⟩ : MethodName) (head1 (Jvm.Cond.code (⟨"java/lang/Long", "<init>", "(J)V"⟩ : MethodName) jdk_35_method_26_code 3 none :: ws) ({ frames := 2, cells := 0, slots := 0, locals := 24 } : Room)) (fun a U => a = #[(.ref x8_0), (.long x8_1)] ∧ Z.Warmed39 U.vm ∧ U.heap = h0) (fun _ _ _ _ _ => True) (fun _ U o U' => ∃ v L, o = .returned v ∧ Q8 Z x8_0 x8_1 h0 n0 v U'.heap L ∧ FrameEnd U o U' L ({ frames := 2, cells := 0, slots := 0, locals := 24 } : Room).cells ({ frames := 2, cells := 0, slots := 0, locals := 24 } : Room).slots) := by
  refine MetFree.of_bodySF (plainFor_of_name pn_3) hisR ?_
  intro p e s m args below meth c s₁ Bd hml0 hP hK
  obtain ⟨rfl, hZ, hh⟩ := hP
  have hx := Bd.exec
  have hby := Bd.bytes
  have hml : c.maxLocals = 3 := hml0
  have hown : s.vm.findClass "java/lang/Long" = some m.cls := findClass_of_methodNamed Bd.named
  have hnm := (name_of_methodNamed Bd.named Bd.method).1
  have X0 : Stand p l e ({ frames := 2, cells := 0, slots := 0, locals := 24 } : Room) s m #[(.ref x8_0), (.long x8_1)] below meth c s₁ [] 0 0 := Stand.of_body Bd
  have e0 : s₁.heap = h0 := by rw [← hh, Bd.state]; rfl
  have N0 := Fr.nil n0
  have pre0 : ∀ t, Steps p.tables e below (s₁.setTop (mkF m 0 #[.val (.ref x8_0), .val (.long x8_1), .second] [])) t → Steps p.tables e below (s₁.setTop (entryFrame m #[(.ref x8_0), (.long x8_1)] 3)) t := fun t k => castTop (ef_8 m x8_0 x8_1) k
  have sg2 : ∀ t, Steps p.tables e below (s₁.setTop (mkF m 1 #[.val (.ref x8_0), .val (.long x8_1), .second] [(.ref x8_0)])) t → Steps p.tables e below (s₁.setTop (mkF m 0 #[.val (.ref x8_0), .val (.long x8_1), .second] [])) t := fun t kt => by
    show Steps p.tables e below (s₁.setTop (mkF m 0 #[.val (.ref x8_0), .val (.long x8_1), .second] [])) _
    refine XS.aloadN X0.here hx rfl (hb hby d8_0) rfl rfl ?_
    exact kt
  obtain ⟨rv1, _, ⟨T1, L1, k1, n1⟩, -, X1, ⟨Lc1, hQ1, l1, y1, z1⟩, st1⟩ := X0.specialBack hx (y := (⟨"java/lang/Number", "<init>", "()V"⟩ : MethodName)) rfl hown (mvT hZ (hw _ (List.mem_of_getElem? (i := 53) rfl))) (mvT hZ (hw _ (List.mem_of_getElem? (i := 54) rfl))) (mvT hZ (hw _ (List.mem_of_getElem? (i := 58) rfl))) (by decide) (backOf (W := 0) (rm9 l Z a0 hw [] x8_0 h0 n0 Z0) hZ (hw _ (List.mem_of_getElem? (i := 58) rfl)) (hw _ (List.mem_of_getElem? (i := 57) rfl)) (by decide) (by decide)) (g := (mkF m 1 #[.val (.ref x8_0), .val (.long x8_1), .second] [(.ref x8_0)])) rfl (by rw [hml]; rfl) (Steps.refl _) (a := x8_0) (argsL := []) (rest := []) (lenOf pd_0 rfl) rfl (by show 2 * 0 + _ ≤ _; exact Nat.le_of_eq rfl) (hb hby d8_1) (fun _ _ => ⟨rfl, e0, (by decide : 0 + 0 ≤ _), (by decide : 0 + 0 ≤ _)⟩)
  dsimp only [Pt.U, Pt.locs, Pt.cells, Pt.slots] at X1 l1 y1 z1 st1 hQ1
  subst l1 y1 z1
  obtain ⟨hv1, N1q, e1⟩ := hQ1
  have N1 := Fr.app N0 N1q
  subst hv1
  obtain ⟨T3, h3, X3, e3, W3, st3⟩ := putF X1 hx hZ hown (host := "") (Or.inl (hw _ (List.mem_of_getElem? (i := 60) rfl))) Via.refl e1 Fo_value Exa0 (Or.inr ⟨(hw _ (List.mem_of_getElem? (i := 61) rfl)), rfl, hnm⟩) (hw _ (List.mem_of_getElem? (i := 48) rfl)) (ty := .long) (by decide) rfl rfl (g := (mkF m 6 #[.val (.ref x8_0), .val (.long x8_1), .second] [(.long x8_1), (.ref x8_0)])) rfl rfl (hb hby d8_6)
  have Fw3 := Fld.same W3 Fo_value
  have N3 := Fr.snoc X3 N1 g_x8_0
  have Zs3 : n0 ≤ h3.size := Nat.le_trans Z0 (Keep.of_wr W3).1
  have KC3 : Keep h0 h3 [x8_0] := (Keep.refl h0 [x8_0]).wr W3 (Or.inl (List.mem_of_getElem? (i := 0) rfl))
  have c4 := (Exa.wr W3 Exa0)
  obtain ⟨fs, hr, hrun, hended, hW, hsame⟩ := X3.leave (v := none) (fun _ => rfl)
  refine ⟨_, _, pre0 _ (sg2 _ ?_), hrun, hended, _, _, rfl, ?_, ⟨_, rfl⟩, hW, hsame.mono (by decide) (by decide)⟩
  · show Steps p.tables e below (s₁.setTop (mkF m 1 #[.val (.ref x8_0), .val (.long x8_1), .second] [(.ref x8_0)])) _
    refine st1.trans ?_
    show Steps p.tables e below (T1.setTop (mkF m 4 #[.val (.ref x8_0), .val (.long x8_1), .second] [])) _
    refine XS.aloadN X1.here hx rfl (hb hby d8_4) rfl rfl ?_
    show Steps p.tables e below (T1.setTop (mkF m 5 #[.val (.ref x8_0), .val (.long x8_1), .second] [(.ref x8_0)])) _
    refine XS.lloadN X1.here hx rfl (hb hby d8_5) rfl ?_
    show Steps p.tables e below (T1.setTop (mkF m 6 #[.val (.ref x8_0), .val (.long x8_1), .second] [(.long x8_1), (.ref x8_0)])) _
    refine st3 _ ?_
    show Steps p.tables e below (T3.setTop (mkF m 9 #[.val (.ref x8_0), .val (.long x8_1), .second] [])) _
    exact X3.returnOut hx Bd.returns (hb hby d8_9) hr
  · show Q8 Z x8_0 x8_1 h0 n0 _ T3.heap _
    rw [e3]
    exact ⟨rfl, N3, KC3, c4, Fw3⟩
theorem pd_1 : parseMethodDescriptor "(J)V" = some ⟨[.long], none⟩ := by decide +kernel
theorem d7_0 : decode jdk_35_method_24_code 0 = .ok (.sipush 128, 3) := by decide +kernel
theorem d7_3 : decode jdk_35_method_24_code 3 = .ok (.istore_n 2, 1) := by decide +kernel
theorem d7_4 : decode jdk_35_method_24_code 4 = .ok (.lload_n 0, 1) := by decide +kernel
theorem d7_5 : decode jdk_35_method_24_code 5 = .ok (.ldc2_w 230, 3) := by decide +kernel
theorem d7_8 : decode jdk_35_method_24_code 8 = .ok (.lcmp, 1) := by decide +kernel
theorem d7_9 : decode jdk_35_method_24_code 9 = .ok (.ifCond .lt 22, 3) := by decide +kernel
theorem d7_12 : decode jdk_35_method_24_code 12 = .ok (.lload_n 0, 1) := by decide +kernel
theorem d7_13 : decode jdk_35_method_24_code 13 = .ok (.ldc2_w 232, 3) := by decide +kernel
theorem d7_16 : decode jdk_35_method_24_code 16 = .ok (.lcmp, 1) := by decide +kernel
theorem d7_17 : decode jdk_35_method_24_code 17 = .ok (.ifCond .gt 14, 3) := by decide +kernel
theorem d7_20 : decode jdk_35_method_24_code 20 = .ok (.getstatic 234, 3) := by decide +kernel
theorem d7_23 : decode jdk_35_method_24_code 23 = .ok (.lload_n 0, 1) := by decide +kernel
theorem d7_24 : decode jdk_35_method_24_code 24 = .ok (.l2i, 1) := by decide +kernel
theorem d7_25 : decode jdk_35_method_24_code 25 = .ok (.sipush 128, 3) := by decide +kernel
theorem d7_28 : decode jdk_35_method_24_code 28 = .ok (.iadd, 1) := by decide +kernel
theorem d7_29 : decode jdk_35_method_24_code 29 = .ok (.aaload, 1) := by decide +kernel
theorem d7_30 : decode jdk_35_method_24_code 30 = .ok (.areturn, 1) := by decide +kernel
theorem d7_31 : decode jdk_35_method_24_code 31 = .ok (.new 1, 3) := by decide +kernel
theorem d7_34 : decode jdk_35_method_24_code 34 = .ok (.dup, 1) := by decide +kernel
theorem d7_35 : decode jdk_35_method_24_code 35 = .ok (.lload_n 0, 1) := by decide +kernel
theorem d7_36 : decode jdk_35_method_24_code 36 = .ok (.invokespecial 240, 3) := by decide +kernel
theorem d7_39 : decode jdk_35_method_24_code 39 = .ok (.areturn, 1) := by decide +kernel
theorem ef_7 (m : MethodId) (x7_0 : Int64) : entryFrame m #[(.long x7_0)] 3 = mkF m 0 #[.val (.long x7_0), .second, .unset] [] := by first | (simp [entryFrame, mkF, argsToLocals, Value.category]; done) | rfl
def Q7 (Z : State) (x7_0 : Int64) (cA : Addr) (cl : Cell) (h0 : Heap) (n0 : Nat) (v : Option Value) (h : Heap) (L : List Loc) : Prop := ∃ r, v = some (.ref r) ∧ Fr n0 L ∧ Keep h0 h [] ∧ Exa Z h r "java/lang/Long"
set_option maxRecDepth 65536 in
set_option maxHeartbeats 40000000 in
theorem rm7 (l : Launch) (Z : State) (a0 : Array Value) (hw : ∀ d ∈ tables_1, d.before a0 Z = true) (ws : List Jvm.Cond) (x7_0 : Int64) (cA : Addr) (cl : Cell) (h0 : Heap) (n0 : Nat) (Z0 : n0 ≤ h0.size) (O0 : Old Z n0 h0) (JC : Bxs Z cA cl "java/lang/Long" "J" 256 (fun j => .long (j - 128).toInt64)) (SC : Sta Z Z.heap "java/lang/Long$LongCache" "cache" "[Ljava/lang/Long;" (.ref cA)) :
    MetFree l (⟨"java/lang/Long", "valueOf", "(J)Ljava/lang/Long;"⟩ : MethodName) (head1 (Jvm.Cond.code (⟨"java/lang/Long", "valueOf", "(J)Ljava/lang/Long;"⟩ : MethodName) jdk_35_method_24_code 3 (some (.object "java/lang/Long")) :: ws) ({ frames := 3, cells := 1, slots := 1, locals := 39 } : Room)) (fun a U => a = #[(.long x7_0)] ∧ Z.Warmed39 U.vm ∧ U.heap = h0) (fun _ _ _ _ _ => True) (fun _ U o U' => ∃ v L, o = .returned v ∧ Q7 Z x7_0 cA cl h0 n0 v U'.heap L ∧ FrameEnd U o U' L ({ frames := 3, cells := 1, slots := 1, locals := 39 } : Room).cells ({ frames := 3, cells := 1, slots := 1, locals := 39 } : Room).slots) := by
  refine MetFree.of_bodySF (plainFor_of_name pn_3) hisR ?_
  intro p e s m args below meth c s₁ Bd hml0 hP hK
  obtain ⟨rfl, hZ, hh⟩ := hP
  have hx := Bd.exec
  have hby := Bd.bytes
  have hml : c.maxLocals = 3 := hml0
  have hown : s.vm.findClass "java/lang/Long" = some m.cls := findClass_of_methodNamed Bd.named
  have hnm := (name_of_methodNamed Bd.named Bd.method).1
  have X0 : Stand p l e ({ frames := 3, cells := 1, slots := 1, locals := 39 } : Room) s m #[(.long x7_0)] below meth c s₁ [] 0 0 := Stand.of_body Bd
  have e0 : s₁.heap = h0 := by rw [← hh, Bd.state]; rfl
  have N0 := Fr.nil n0
  have pre0 : ∀ t, Steps p.tables e below (s₁.setTop (mkF m 0 #[.val (.long x7_0), .second, .unset] [])) t → Steps p.tables e below (s₁.setTop (entryFrame m #[(.long x7_0)] 3)) t := fun t k => castTop (ef_7 m x7_0) k
  have sg1 : ∀ t, Steps p.tables e below (s₁.setTop (mkF m 9 #[.val (.long x7_0), .second, .val (.int (128 : Int32))] [(.int (lcmpW x7_0 (-128 : Int64)))])) t → Steps p.tables e below (s₁.setTop (mkF m 0 #[.val (.long x7_0), .second, .unset] [])) t := fun t kt => by
    show Steps p.tables e below (s₁.setTop (mkF m 0 #[.val (.long x7_0), .second, .unset] [])) _
    refine XS.sipush X0.here hx rfl (hb hby d7_0) ?_
    show Steps p.tables e below (s₁.setTop (mkF m 3 #[.val (.long x7_0), .second, .unset] [(.int (128 : Int32))])) _
    refine XS.istoreN X0.here hx rfl (hb hby d7_3) rfl (l' := #[.val (.long x7_0), .second, .val (.int (128 : Int32))]) rfl ?_
    show Steps p.tables e below (s₁.setTop (mkF m 4 #[.val (.long x7_0), .second, .val (.int (128 : Int32))] [])) _
    refine XS.lloadN X0.here hx rfl (hb hby d7_4) rfl ?_
    show Steps p.tables e below (s₁.setTop (mkF m 5 #[.val (.long x7_0), .second, .val (.int (128 : Int32))] [(.long x7_0)])) _
    refine X0.ldc2Long hx hown (mvT hZ (hw _ (List.mem_of_getElem? (i := 40) rfl))) (g := (mkF m 5 #[.val (.long x7_0), .second, .val (.int (128 : Int32))] [(.long x7_0)])) rfl (hb hby d7_5) _ ?_
    show Steps p.tables e below (s₁.setTop (mkF m 8 #[.val (.long x7_0), .second, .val (.int (128 : Int32))] [(.long (-128 : Int64)), (.long x7_0)])) _
    refine XS.lcmp X0.here hx rfl (hb hby d7_8) rfl ?_
    exact kt
  by_cases hc9_2 : x7_0 < (-128 : Int64)
  · obtain ⟨T3, h3, X3, e3, E3, A3, D3, -, st3⟩ := newO X0 hx hZ hown (hw _ (List.mem_of_getElem? (i := 47) rfl)) (hw _ (List.mem_of_getElem? (i := 48) rfl)) (hw _ (List.mem_of_getElem? (i := 38) rfl)) e0 (g := (mkF m 31 #[.val (.long x7_0), .second, .val (.int (128 : Int32))] [])) rfl (hb hby d7_31) (by decide) (by decide)
    obtain ⟨b3, g3⟩ : ∃ z, z = h0.size := ⟨_, rfl⟩
    rw [← g3] at A3 D3 st3
    have g_b3 : n0 ≤ b3 := Nat.le_trans Z0 (Nat.le_of_eq g3.symm)
    have sz_b3 : h0.size ≤ b3 := Nat.le_trans (Keep.refl h0 []).1 (Nat.le_of_eq g3.symm)
    have Zs3 : n0 ≤ h3.size := Nat.le_trans Z0 E3.1
    have KC3 : Keep h0 h3 [] := (Keep.refl h0 []).ext E3
    have Ol3 : Old Z n0 h3 := (O0).ext E3
    have F_value_b3 : Fld Z h3 b3 "java/lang/Long" "value" "J" (.long (0 : Int64)) := D3 (Or.inr (hw _ (List.mem_of_getElem? (i := 61) rfl))) (ty := .long) (by decide)
    have sg5 : ∀ t, Steps p.tables e below (T3.setTop (mkF m 36 #[.val (.long x7_0), .second, .val (.int (128 : Int32))] [(.long x7_0), (.ref b3), (.ref b3)])) t → Steps p.tables e below (s₁.setTop (mkF m 9 #[.val (.long x7_0), .second, .val (.int (128 : Int32))] [(.int (lcmpW x7_0 (-128 : Int64)))])) t := fun t kt => by
      show Steps p.tables e below (s₁.setTop (mkF m 9 #[.val (.long x7_0), .second, .val (.int (128 : Int32))] [(.int (lcmpW x7_0 (-128 : Int64)))])) _
      refine XS.ifYes X0.here hx rfl (pc0 := 9) (pc' := 31) rfl (hb hby d7_9) rfl ((if0 _ _).trans (tlt ((lw_lt _ _).mpr hc9_2)).1) (by decide) (by decide) ?_
      show Steps p.tables e below (s₁.setTop (mkF m 31 #[.val (.long x7_0), .second, .val (.int (128 : Int32))] [])) _
      refine st3 _ ?_
      show Steps p.tables e below (T3.setTop (mkF m 34 #[.val (.long x7_0), .second, .val (.int (128 : Int32))] [(.ref b3)])) _
      refine XS.dup X3.here hx rfl (hb hby d7_34) rfl rfl ?_
      show Steps p.tables e below (T3.setTop (mkF m 35 #[.val (.long x7_0), .second, .val (.int (128 : Int32))] [(.ref b3), (.ref b3)])) _
      refine XS.lloadN X3.here hx rfl (hb hby d7_35) rfl ?_
      exact kt
    obtain ⟨rv4, _, ⟨T4, L4, k4, n4⟩, -, X4, ⟨Lc4, hQ4, l4, y4, z4⟩, st4⟩ := X3.specialBack hx (y := (⟨"java/lang/Long", "<init>", "(J)V"⟩ : MethodName)) rfl hown (mvT hZ (hw _ (List.mem_of_getElem? (i := 49) rfl))) (mvT hZ (hw _ (List.mem_of_getElem? (i := 50) rfl))) (mvT hZ (hw _ (List.mem_of_getElem? (i := 52) rfl))) (by decide) (backOf (W := 1) (rm8 l Z a0 hw [] b3 x7_0 h3 n0 Zs3 A3 g_b3 F_value_b3) hZ (hw _ (List.mem_of_getElem? (i := 52) rfl)) (hw _ (List.mem_of_getElem? (i := 38) rfl)) (by decide) (by decide)) (g := (mkF m 36 #[.val (.long x7_0), .second, .val (.int (128 : Int32))] [(.long x7_0), (.ref b3), (.ref b3)])) rfl (by rw [hml]; rfl) (Steps.refl _) (a := b3) (argsL := [(.long x7_0)]) (rest := [(.ref b3)]) (lenOf pd_1 rfl) rfl (by show 2 * 0 + _ ≤ _; exact Nat.le_of_eq rfl) (hb hby d7_36) (fun _ _ => ⟨rfl, e3, (by decide : 1 + 0 ≤ _), (by decide : 1 + 0 ≤ _)⟩)
    dsimp only [Pt.U, Pt.locs, Pt.cells, Pt.slots] at X4 l4 y4 z4 st4 hQ4
    subst l4 y4 z4
    obtain ⟨rfl, N4q, K4, Ex4, Fq4_value⟩ := hQ4
    have N4 := Fr.app N0 N4q
    have Zs4 : n0 ≤ T4.heap.size := Nat.le_trans Zs3 K4.1
    have KC4 : Keep h0 T4.heap [] := (KC3).trans K4 (allS (Or.inr sz_b3) all0)
    have Ol4 : Old Z n0 T4.heap := (Ol3).keep K4 (allS g_b3 all0)
    obtain ⟨fs, hr, hrun, hended, hW, hsame⟩ := X4.leave (v := some (.ref b3)) (fun h => by rw [Bd.returns] at h; cases h)
    refine ⟨_, _, pre0 _ (sg1 _ (sg5 _ ?_)), hrun, hended, _, _, rfl, ?_, ⟨_, rfl⟩, hW, hsame.mono (by decide) (by decide)⟩
    · show Steps p.tables e below (T3.setTop (mkF m 36 #[.val (.long x7_0), .second, .val (.int (128 : Int32))] [(.long x7_0), (.ref b3), (.ref b3)])) _
      refine st4.trans ?_
      show Steps p.tables e below (T4.setTop (mkF m 39 #[.val (.long x7_0), .second, .val (.int (128 : Int32))] [(.ref b3)])) _
      exact retOut X4 hx Bd.returns rfl (Or.inr (Or.inr (Or.inr (Or.inr ⟨rfl, rfl, rfl⟩)))) (hb hby d7_39) hr
    · show Q7 Z x7_0 cA cl h0 n0 _ T4.heap _
      exact ⟨b3, rfl, N4, KC4, Ex4⟩
  · have sg6 : ∀ t, Steps p.tables e below (s₁.setTop (mkF m 17 #[.val (.long x7_0), .second, .val (.int (128 : Int32))] [(.int (lcmpW x7_0 (127 : Int64)))])) t → Steps p.tables e below (s₁.setTop (mkF m 9 #[.val (.long x7_0), .second, .val (.int (128 : Int32))] [(.int (lcmpW x7_0 (-128 : Int64)))])) t := fun t kt => by
      show Steps p.tables e below (s₁.setTop (mkF m 9 #[.val (.long x7_0), .second, .val (.int (128 : Int32))] [(.int (lcmpW x7_0 (-128 : Int64)))])) _
      refine XS.ifNo X0.here hx rfl (hb hby d7_9) rfl ((if0 _ _).trans (flt (mt (lw_lt _ _).mp hc9_2)).1) ?_
      show Steps p.tables e below (s₁.setTop (mkF m 12 #[.val (.long x7_0), .second, .val (.int (128 : Int32))] [])) _
      refine XS.lloadN X0.here hx rfl (hb hby d7_12) rfl ?_
      show Steps p.tables e below (s₁.setTop (mkF m 13 #[.val (.long x7_0), .second, .val (.int (128 : Int32))] [(.long x7_0)])) _
      refine X0.ldc2Long hx hown (mvT hZ (hw _ (List.mem_of_getElem? (i := 41) rfl))) (g := (mkF m 13 #[.val (.long x7_0), .second, .val (.int (128 : Int32))] [(.long x7_0)])) rfl (hb hby d7_13) _ ?_
      show Steps p.tables e below (s₁.setTop (mkF m 16 #[.val (.long x7_0), .second, .val (.int (128 : Int32))] [(.long (127 : Int64)), (.long x7_0)])) _
      refine XS.lcmp X0.here hx rfl (hb hby d7_16) rfl ?_
      exact kt
    by_cases hc17_7 : (127 : Int64) < x7_0
    · obtain ⟨T8, h8, X8, e8, E8, A8, D8, -, st8⟩ := newO X0 hx hZ hown (hw _ (List.mem_of_getElem? (i := 47) rfl)) (hw _ (List.mem_of_getElem? (i := 48) rfl)) (hw _ (List.mem_of_getElem? (i := 38) rfl)) e0 (g := (mkF m 31 #[.val (.long x7_0), .second, .val (.int (128 : Int32))] [])) rfl (hb hby d7_31) (by decide) (by decide)
      obtain ⟨b8, g8⟩ : ∃ z, z = h0.size := ⟨_, rfl⟩
      rw [← g8] at A8 D8 st8
      have g_b8 : n0 ≤ b8 := Nat.le_trans Z0 (Nat.le_of_eq g8.symm)
      have sz_b8 : h0.size ≤ b8 := Nat.le_trans (Keep.refl h0 []).1 (Nat.le_of_eq g8.symm)
      have Zs8 : n0 ≤ h8.size := Nat.le_trans Z0 E8.1
      have KC8 : Keep h0 h8 [] := (Keep.refl h0 []).ext E8
      have Ol8 : Old Z n0 h8 := (O0).ext E8
      have F_value_b8 : Fld Z h8 b8 "java/lang/Long" "value" "J" (.long (0 : Int64)) := D8 (Or.inr (hw _ (List.mem_of_getElem? (i := 61) rfl))) (ty := .long) (by decide)
      have sg10 : ∀ t, Steps p.tables e below (T8.setTop (mkF m 36 #[.val (.long x7_0), .second, .val (.int (128 : Int32))] [(.long x7_0), (.ref b8), (.ref b8)])) t → Steps p.tables e below (s₁.setTop (mkF m 17 #[.val (.long x7_0), .second, .val (.int (128 : Int32))] [(.int (lcmpW x7_0 (127 : Int64)))])) t := fun t kt => by
        show Steps p.tables e below (s₁.setTop (mkF m 17 #[.val (.long x7_0), .second, .val (.int (128 : Int32))] [(.int (lcmpW x7_0 (127 : Int64)))])) _
        refine XS.ifYes X0.here hx rfl (pc0 := 17) (pc' := 31) rfl (hb hby d7_17) rfl ((if0 _ _).trans (tlt ((lw_gt _ _).mpr hc17_7)).2.2.1) (by decide) (by decide) ?_
        show Steps p.tables e below (s₁.setTop (mkF m 31 #[.val (.long x7_0), .second, .val (.int (128 : Int32))] [])) _
        refine st8 _ ?_
        show Steps p.tables e below (T8.setTop (mkF m 34 #[.val (.long x7_0), .second, .val (.int (128 : Int32))] [(.ref b8)])) _
        refine XS.dup X8.here hx rfl (hb hby d7_34) rfl rfl ?_
        show Steps p.tables e below (T8.setTop (mkF m 35 #[.val (.long x7_0), .second, .val (.int (128 : Int32))] [(.ref b8), (.ref b8)])) _
        refine XS.lloadN X8.here hx rfl (hb hby d7_35) rfl ?_
        exact kt
      obtain ⟨rv9, _, ⟨T9, L9, k9, n9⟩, -, X9, ⟨Lc9, hQ9, l9, y9, z9⟩, st9⟩ := X8.specialBack hx (y := (⟨"java/lang/Long", "<init>", "(J)V"⟩ : MethodName)) rfl hown (mvT hZ (hw _ (List.mem_of_getElem? (i := 49) rfl))) (mvT hZ (hw _ (List.mem_of_getElem? (i := 50) rfl))) (mvT hZ (hw _ (List.mem_of_getElem? (i := 52) rfl))) (by decide) (backOf (W := 1) (rm8 l Z a0 hw [] b8 x7_0 h8 n0 Zs8 A8 g_b8 F_value_b8) hZ (hw _ (List.mem_of_getElem? (i := 52) rfl)) (hw _ (List.mem_of_getElem? (i := 38) rfl)) (by decide) (by decide)) (g := (mkF m 36 #[.val (.long x7_0), .second, .val (.int (128 : Int32))] [(.long x7_0), (.ref b8), (.ref b8)])) rfl (by rw [hml]; rfl) (Steps.refl _) (a := b8) (argsL := [(.long x7_0)]) (rest := [(.ref b8)]) (lenOf pd_1 rfl) rfl (by show 2 * 0 + _ ≤ _; exact Nat.le_of_eq rfl) (hb hby d7_36) (fun _ _ => ⟨rfl, e8, (by decide : 1 + 0 ≤ _), (by decide : 1 + 0 ≤ _)⟩)
      dsimp only [Pt.U, Pt.locs, Pt.cells, Pt.slots] at X9 l9 y9 z9 st9 hQ9
      subst l9 y9 z9
      obtain ⟨rfl, N9q, K9, Ex9, Fq9_value⟩ := hQ9
      have N9 := Fr.app N0 N9q
      have Zs9 : n0 ≤ T9.heap.size := Nat.le_trans Zs8 K9.1
      have KC9 : Keep h0 T9.heap [] := (KC8).trans K9 (allS (Or.inr sz_b8) all0)
      have Ol9 : Old Z n0 T9.heap := (Ol8).keep K9 (allS g_b8 all0)
      obtain ⟨fs, hr, hrun, hended, hW, hsame⟩ := X9.leave (v := some (.ref b8)) (fun h => by rw [Bd.returns] at h; cases h)
      refine ⟨_, _, pre0 _ (sg1 _ (sg6 _ (sg10 _ ?_))), hrun, hended, _, _, rfl, ?_, ⟨_, rfl⟩, hW, hsame.mono (by decide) (by decide)⟩
      · show Steps p.tables e below (T8.setTop (mkF m 36 #[.val (.long x7_0), .second, .val (.int (128 : Int32))] [(.long x7_0), (.ref b8), (.ref b8)])) _
        refine st9.trans ?_
        show Steps p.tables e below (T9.setTop (mkF m 39 #[.val (.long x7_0), .second, .val (.int (128 : Int32))] [(.ref b8)])) _
        exact retOut X9 hx Bd.returns rfl (Or.inr (Or.inr (Or.inr (Or.inr ⟨rfl, rfl, rfl⟩)))) (hb hby d7_39) hr
      · show Q7 Z x7_0 cA cl h0 n0 _ T9.heap _
        exact ⟨b8, rfl, N9, KC9, Ex9⟩
    · obtain ⟨T11, X11, e11, st11⟩ := getS2 X0 hx hZ hown (host := "") (Or.inl (hw _ (List.mem_of_getElem? (i := 42) rfl))) Via.refl e0 (Sta.ext O0.2 SC) (g := (mkF m 20 #[.val (.long x7_0), .second, .val (.int (128 : Int32))] [])) rfl (hb hby d7_20)
      have hin := inb_of JC.2.1 (own_jL x7_0 hc9_2 hc17_7)
      obtain ⟨r, hsl, hE, hF⟩ := JC.2.2.2 _ hin
      obtain ⟨fs, hr, hrun, hended, hW, hsame⟩ := X11.leave (v := some (.ref r)) (fun h => by rw [Bd.returns] at h; cases h)
      refine ⟨_, _, pre0 _ (sg1 _ (sg6 _ ?_)), hrun, hended, _, _, rfl, ?_, ⟨_, rfl⟩, hW, hsame.mono (by decide) (by decide)⟩
      · show Steps p.tables e below (s₁.setTop (mkF m 17 #[.val (.long x7_0), .second, .val (.int (128 : Int32))] [(.int (lcmpW x7_0 (127 : Int64)))])) _
        refine XS.ifNo X0.here hx rfl (hb hby d7_17) rfl ((if0 _ _).trans (flt (mt (lw_gt _ _).mp hc17_7)).2.2.1) ?_
        show Steps p.tables e below (s₁.setTop (mkF m 20 #[.val (.long x7_0), .second, .val (.int (128 : Int32))] [])) _
        refine st11 _ ?_
        show Steps p.tables e below (T11.setTop (mkF m 23 #[.val (.long x7_0), .second, .val (.int (128 : Int32))] [(.ref cA)])) _
        refine XS.lloadN X11.here hx rfl (hb hby d7_23) rfl ?_
        show Steps p.tables e below (T11.setTop (mkF m 24 #[.val (.long x7_0), .second, .val (.int (128 : Int32))] [(.long x7_0), (.ref cA)])) _
        refine XS.l2i X11.here hx rfl (hb hby d7_24) rfl ?_
        show Steps p.tables e below (T11.setTop (mkF m 25 #[.val (.long x7_0), .second, .val (.int (128 : Int32))] [(.int (x7_0.toInt32)), (.ref cA)])) _
        refine XS.sipush X11.here hx rfl (hb hby d7_25) ?_
        show Steps p.tables e below (T11.setTop (mkF m 28 #[.val (.long x7_0), .second, .val (.int (128 : Int32))] [(.int (128 : Int32)), (.int (x7_0.toInt32)), (.ref cA)])) _
        refine XS.iadd X11.here hx rfl (hb hby d7_28) rfl ?_
        show Steps p.tables e below (T11.setTop (mkF m 29 #[.val (.long x7_0), .second, .val (.int (128 : Int32))] [(.int ((x7_0.toInt32) + (128 : Int32))), (.ref cA)])) _
        refine X11.aaload hx (j := ((x7_0.toInt32) + (128 : Int32))) (v := (.ref r)) (by rw [e11]; exact (Arr.ext O0.2 JC.1).1) (State.isArrayOf_alike hZ.alike JC.1.2.1) rfl JC.1.2.2 hin hsl (g := (mkF m 29 #[.val (.long x7_0), .second, .val (.int (128 : Int32))] [(.int ((x7_0.toInt32) + (128 : Int32))), (.ref cA)])) rfl rfl (hb hby d7_29) _ ?_
        show Steps p.tables e below (T11.setTop (mkF m 30 #[.val (.long x7_0), .second, .val (.int (128 : Int32))] [(.ref r)])) _
        exact retOut X11 hx Bd.returns rfl (Or.inr (Or.inr (Or.inr (Or.inr ⟨rfl, rfl, rfl⟩)))) (hb hby d7_30) hr
      · show Q7 Z x7_0 cA cl h0 n0 _ T11.heap _
        rw [e11]
        exact ⟨r, rfl, N0, Keep.refl h0 [], (Exa.ext O0.2 hE)⟩
theorem pd_2 : parseMethodDescriptor "(J)J" = some ⟨[.long], some .long⟩ := by decide +kernel
theorem pd_3 : parseMethodDescriptor "(JJ)J" = some ⟨[.long, .long], some .long⟩ := by decide +kernel
theorem pd_4 : parseMethodDescriptor "(JJJ)J" = some ⟨[.long, .long, .long], some .long⟩ := by decide +kernel
theorem pd_5 : parseMethodDescriptor "(JJJ)V" = some ⟨[.long, .long, .long], none⟩ := by decide +kernel
theorem pd_6 : parseMethodDescriptor "(Ljava/lang/Object;)Z" = some ⟨[(.object "java/lang/Object")], some .boolean⟩ := by decide +kernel
theorem pd_7 : parseMethodDescriptor "(J)Ljava/lang/Long;" = some ⟨[.long], some (.object "java/lang/Long")⟩ := by decide +kernel
theorem ef_0 (m : MethodId) (x0_0 : Int64) (x0_1 : Int64) (x0_2 : Int64) (x0_3 : Int64) (x0_4 : Int64) (x0_5 : Int64) : entryFrame m #[(.long x0_0), (.long x0_1), (.long x0_2), (.long x0_3), (.long x0_4), (.long x0_5)] maxLocals = mkF m 0 #[.val (.long x0_0), .second, .val (.long x0_1), .second, .val (.long x0_2), .second, .val (.long x0_3), .second, .val (.long x0_4), .second, .val (.long x0_5), .second, .unset, .unset, .unset, .unset, .unset, .unset, .unset, .unset, .unset, .unset, .unset, .unset, .unset, .unset, .unset, .unset, .unset, .unset, .unset, .unset, .unset, .unset, .unset] [] := by first | (simp [entryFrame, mkF, argsToLocals, Value.category, maxLocals]; done) | rfl
def Q0 (Z : State) (x0_0 : Int64) (x0_1 : Int64) (x0_2 : Int64) (x0_3 : Int64) (x0_4 : Int64) (x0_5 : Int64) (cA : Addr) (cl : Cell) (h0 : Heap) (n0 : Nat) (v : Option Value) (h : Heap) (L : List Loc) : Prop := v = some (.int 1) ∧ Fr n0 L
set_option maxRecDepth 65536 in
set_option maxHeartbeats 40000000 in
theorem rm0 (l : Launch) (Z : State) (a0 : Array Value) (hw : ∀ d ∈ tables_1, d.before a0 Z = true) (ws : List Jvm.Cond) (x0_0 : Int64) (x0_1 : Int64) (x0_2 : Int64) (x0_3 : Int64) (x0_4 : Int64) (x0_5 : Int64) (cA : Addr) (cl : Cell) (h0 : Heap) (n0 : Nat) (Z0 : n0 ≤ h0.size) (O0 : Old Z n0 h0) (JC : Bxs Z cA cl "java/lang/Long" "J" 256 (fun j => .long (j - 128).toInt64)) (SC : Sta Z Z.heap "java/lang/Long$LongCache" "cache" "[Ljava/lang/Long;" (.ref cA)) :
    MetFree l x (head1 (Jvm.Cond.code x code maxLocals ret :: ws) room_1) (fun a U => a = #[(.long x0_0), (.long x0_1), (.long x0_2), (.long x0_3), (.long x0_4), (.long x0_5)] ∧ Z.Warmed39 U.vm ∧ U.heap = h0) (fun _ _ _ _ _ => True) (fun _ U o U' => ∃ v L, o = .returned v ∧ Q0 Z x0_0 x0_1 x0_2 x0_3 x0_4 x0_5 cA cl h0 n0 v U'.heap L ∧ FrameEnd U o U' L room_1.cells room_1.slots) := by
  refine MetFree.of_bodySF (plainFor_of_name pn_0) hisR ?_
  intro p e s m args below meth c s₁ Bd hml0 hP hK
  obtain ⟨rfl, hZ, hh⟩ := hP
  have hx := Bd.exec
  have hby := Bd.bytes
  have hml : c.maxLocals = 35 := hml0
  have hown : s.vm.findClass "com/example/libdmutex/libdmutex/core/RangeEqualsPinLaw" = some m.cls := findClass_of_methodNamed Bd.named
  have hnm := (name_of_methodNamed Bd.named Bd.method).1
  have X0 : Stand p l e room_1 s m #[(.long x0_0), (.long x0_1), (.long x0_2), (.long x0_3), (.long x0_4), (.long x0_5)] below meth c s₁ [] 0 0 := Stand.of_body Bd
  have e0 : s₁.heap = h0 := by rw [← hh, Bd.state]; rfl
  have N0 := Fr.nil n0
  have pre0 : ∀ t, Steps p.tables e below (s₁.setTop (mkF m 0 #[.val (.long x0_0), .second, .val (.long x0_1), .second, .val (.long x0_2), .second, .val (.long x0_3), .second, .val (.long x0_4), .second, .val (.long x0_5), .second, .unset, .unset, .unset, .unset, .unset, .unset, .unset, .unset, .unset, .unset, .unset, .unset, .unset, .unset, .unset, .unset, .unset, .unset, .unset, .unset, .unset, .unset, .unset] [])) t → Steps p.tables e below (s₁.setTop (entryFrame m #[(.long x0_0), (.long x0_1), (.long x0_2), (.long x0_3), (.long x0_4), (.long x0_5)] maxLocals)) t := fun t k => castTop (ef_0 m x0_0 x0_1 x0_2 x0_3 x0_4 x0_5) k
  have sg1 : ∀ t, Steps p.tables e below (s₁.setTop (mkF m 9 #[.val (.long x0_0), .second, .val (.long x0_1), .second, .val (.long x0_2), .second, .val (.long x0_3), .second, .val (.long x0_4), .second, .val (.long x0_5), .second, .val (.int ((x0_3 &&& (7 : Int64)).toInt32)), .unset, .unset, .unset, .unset, .unset, .unset, .unset, .unset, .unset, .unset, .unset, .unset, .unset, .unset, .unset, .unset, .unset, .unset, .unset, .unset, .unset, .unset] [])) t → Steps p.tables e below (s₁.setTop (mkF m 0 #[.val (.long x0_0), .second, .val (.long x0_1), .second, .val (.long x0_2), .second, .val (.long x0_3), .second, .val (.long x0_4), .second, .val (.long x0_5), .second, .unset, .unset, .unset, .unset, .unset, .unset, .unset, .unset, .unset, .unset, .unset, .unset, .unset, .unset, .unset, .unset, .unset, .unset, .unset, .unset, .unset, .unset, .unset] [])) t := fun t kt => by
    show Steps p.tables e below (s₁.setTop (mkF m 0 #[.val (.long x0_0), .second, .val (.long x0_1), .second, .val (.long x0_2), .second, .val (.long x0_3), .second, .val (.long x0_4), .second, .val (.long x0_5), .second, .unset, .unset, .unset, .unset, .unset, .unset, .unset, .unset, .unset, .unset, .unset, .unset, .unset, .unset, .unset, .unset, .unset, .unset, .unset, .unset, .unset, .unset, .unset] [])) _
    refine XS.lload X0.here hx rfl (hb hby at_0) rfl ?_
    show Steps p.tables e below (s₁.setTop (mkF m 2 #[.val (.long x0_0), .second, .val (.long x0_1), .second, .val (.long x0_2), .second, .val (.long x0_3), .second, .val (.long x0_4), .second, .val (.long x0_5), .second, .unset, .unset, .unset, .unset, .unset, .unset, .unset, .unset, .unset, .unset, .unset, .unset, .unset, .unset, .unset, .unset, .unset, .unset, .unset, .unset, .unset, .unset, .unset] [(.long x0_3)])) _
    refine X0.ldc2Long hx hown (mvT hZ (hw _ (List.mem_of_getElem? (i := 0) rfl))) (g := (mkF m 2 #[.val (.long x0_0), .second, .val (.long x0_1), .second, .val (.long x0_2), .second, .val (.long x0_3), .second, .val (.long x0_4), .second, .val (.long x0_5), .second, .unset, .unset, .unset, .unset, .unset, .unset, .unset, .unset, .unset, .unset, .unset, .unset, .unset, .unset, .unset, .unset, .unset, .unset, .unset, .unset, .unset, .unset, .unset] [(.long x0_3)])) rfl (hb hby at_2) _ ?_
    show Steps p.tables e below (s₁.setTop (mkF m 5 #[.val (.long x0_0), .second, .val (.long x0_1), .second, .val (.long x0_2), .second, .val (.long x0_3), .second, .val (.long x0_4), .second, .val (.long x0_5), .second, .unset, .unset, .unset, .unset, .unset, .unset, .unset, .unset, .unset, .unset, .unset, .unset, .unset, .unset, .unset, .unset, .unset, .unset, .unset, .unset, .unset, .unset, .unset] [(.long (7 : Int64)), (.long x0_3)])) _
    refine XS.land X0.here hx rfl (hb hby at_5) rfl ?_
    show Steps p.tables e below (s₁.setTop (mkF m 6 #[.val (.long x0_0), .second, .val (.long x0_1), .second, .val (.long x0_2), .second, .val (.long x0_3), .second, .val (.long x0_4), .second, .val (.long x0_5), .second, .unset, .unset, .unset, .unset, .unset, .unset, .unset, .unset, .unset, .unset, .unset, .unset, .unset, .unset, .unset, .unset, .unset, .unset, .unset, .unset, .unset, .unset, .unset] [(.long (x0_3 &&& (7 : Int64)))])) _
    refine XS.l2i X0.here hx rfl (hb hby at_6) rfl ?_
    show Steps p.tables e below (s₁.setTop (mkF m 7 #[.val (.long x0_0), .second, .val (.long x0_1), .second, .val (.long x0_2), .second, .val (.long x0_3), .second, .val (.long x0_4), .second, .val (.long x0_5), .second, .unset, .unset, .unset, .unset, .unset, .unset, .unset, .unset, .unset, .unset, .unset, .unset, .unset, .unset, .unset, .unset, .unset, .unset, .unset, .unset, .unset, .unset, .unset] [(.int ((x0_3 &&& (7 : Int64)).toInt32))])) _
    refine XS.istore X0.here hx rfl (hb hby at_7) rfl (l' := #[.val (.long x0_0), .second, .val (.long x0_1), .second, .val (.long x0_2), .second, .val (.long x0_3), .second, .val (.long x0_4), .second, .val (.long x0_5), .second, .val (.int ((x0_3 &&& (7 : Int64)).toInt32)), .unset, .unset, .unset, .unset, .unset, .unset, .unset, .unset, .unset, .unset, .unset, .unset, .unset, .unset, .unset, .unset, .unset, .unset, .unset, .unset, .unset, .unset]) rfl ?_
    exact kt
  obtain ⟨v7, hv7⟩ : ∃ z, z = ((x0_3 &&& (7 : Int64)).toInt32) := ⟨_, rfl⟩
  rw [← hv7] at sg1
  have sg2 : ∀ t, Steps p.tables e below (s₁.setTop (mkF m 15 #[.val (.long x0_0), .second, .val (.long x0_1), .second, .val (.long x0_2), .second, .val (.long x0_3), .second, .val (.long x0_4), .second, .val (.long x0_5), .second, .val (.int v7), .val (.long ((x0_3.toUInt64 >>> ((3 : Int32) &&& 0x3f).toInt64.toUInt64).toInt64)), .second, .unset, .unset, .unset, .unset, .unset, .unset, .unset, .unset, .unset, .unset, .unset, .unset, .unset, .unset, .unset, .unset, .unset, .unset, .unset, .unset] [])) t → Steps p.tables e below (s₁.setTop (mkF m 9 #[.val (.long x0_0), .second, .val (.long x0_1), .second, .val (.long x0_2), .second, .val (.long x0_3), .second, .val (.long x0_4), .second, .val (.long x0_5), .second, .val (.int v7), .unset, .unset, .unset, .unset, .unset, .unset, .unset, .unset, .unset, .unset, .unset, .unset, .unset, .unset, .unset, .unset, .unset, .unset, .unset, .unset, .unset, .unset] [])) t := fun t kt => by
    show Steps p.tables e below (s₁.setTop (mkF m 9 #[.val (.long x0_0), .second, .val (.long x0_1), .second, .val (.long x0_2), .second, .val (.long x0_3), .second, .val (.long x0_4), .second, .val (.long x0_5), .second, .val (.int v7), .unset, .unset, .unset, .unset, .unset, .unset, .unset, .unset, .unset, .unset, .unset, .unset, .unset, .unset, .unset, .unset, .unset, .unset, .unset, .unset, .unset, .unset] [])) _
    refine XS.lload X0.here hx rfl (hb hby at_9) rfl ?_
    show Steps p.tables e below (s₁.setTop (mkF m 11 #[.val (.long x0_0), .second, .val (.long x0_1), .second, .val (.long x0_2), .second, .val (.long x0_3), .second, .val (.long x0_4), .second, .val (.long x0_5), .second, .val (.int v7), .unset, .unset, .unset, .unset, .unset, .unset, .unset, .unset, .unset, .unset, .unset, .unset, .unset, .unset, .unset, .unset, .unset, .unset, .unset, .unset, .unset, .unset] [(.long x0_3)])) _
    refine XS.iconst X0.here hx rfl (hb hby at_11) ?_
    show Steps p.tables e below (s₁.setTop (mkF m 12 #[.val (.long x0_0), .second, .val (.long x0_1), .second, .val (.long x0_2), .second, .val (.long x0_3), .second, .val (.long x0_4), .second, .val (.long x0_5), .second, .val (.int v7), .unset, .unset, .unset, .unset, .unset, .unset, .unset, .unset, .unset, .unset, .unset, .unset, .unset, .unset, .unset, .unset, .unset, .unset, .unset, .unset, .unset, .unset] [(.int (3 : Int32)), (.long x0_3)])) _
    refine XS.lushr X0.here hx rfl (hb hby at_12) rfl ?_
    show Steps p.tables e below (s₁.setTop (mkF m 13 #[.val (.long x0_0), .second, .val (.long x0_1), .second, .val (.long x0_2), .second, .val (.long x0_3), .second, .val (.long x0_4), .second, .val (.long x0_5), .second, .val (.int v7), .unset, .unset, .unset, .unset, .unset, .unset, .unset, .unset, .unset, .unset, .unset, .unset, .unset, .unset, .unset, .unset, .unset, .unset, .unset, .unset, .unset, .unset] [(.long ((x0_3.toUInt64 >>> ((3 : Int32) &&& 0x3f).toInt64.toUInt64).toInt64))])) _
    refine XS.lstore X0.here hx rfl (hb hby at_13) rfl (l' := #[.val (.long x0_0), .second, .val (.long x0_1), .second, .val (.long x0_2), .second, .val (.long x0_3), .second, .val (.long x0_4), .second, .val (.long x0_5), .second, .val (.int v7), .val (.long ((x0_3.toUInt64 >>> ((3 : Int32) &&& 0x3f).toInt64.toUInt64).toInt64)), .second, .unset, .unset, .unset, .unset, .unset, .unset, .unset, .unset, .unset, .unset, .unset, .unset, .unset, .unset, .unset, .unset, .unset, .unset, .unset, .unset]) rfl ?_
    exact kt
  obtain ⟨v13, hv13⟩ : ∃ z, z = ((x0_3.toUInt64 >>> ((3 : Int32) &&& 0x3f).toInt64.toUInt64).toInt64) := ⟨_, rfl⟩
  rw [← hv13] at sg2
  have sg4 : ∀ t, Steps p.tables e below (s₁.setTop (mkF m 16 #[.val (.long x0_0), .second, .val (.long x0_1), .second, .val (.long x0_2), .second, .val (.long x0_3), .second, .val (.long x0_4), .second, .val (.long x0_5), .second, .val (.int v7), .val (.long v13), .second, .unset, .unset, .unset, .unset, .unset, .unset, .unset, .unset, .unset, .unset, .unset, .unset, .unset, .unset, .unset, .unset, .unset, .unset, .unset, .unset] [(.long x0_0)])) t → Steps p.tables e below (s₁.setTop (mkF m 15 #[.val (.long x0_0), .second, .val (.long x0_1), .second, .val (.long x0_2), .second, .val (.long x0_3), .second, .val (.long x0_4), .second, .val (.long x0_5), .second, .val (.int v7), .val (.long v13), .second, .unset, .unset, .unset, .unset, .unset, .unset, .unset, .unset, .unset, .unset, .unset, .unset, .unset, .unset, .unset, .unset, .unset, .unset, .unset, .unset] [])) t := fun t kt => by
    show Steps p.tables e below (s₁.setTop (mkF m 15 #[.val (.long x0_0), .second, .val (.long x0_1), .second, .val (.long x0_2), .second, .val (.long x0_3), .second, .val (.long x0_4), .second, .val (.long x0_5), .second, .val (.int v7), .val (.long v13), .second, .unset, .unset, .unset, .unset, .unset, .unset, .unset, .unset, .unset, .unset, .unset, .unset, .unset, .unset, .unset, .unset, .unset, .unset, .unset, .unset] [])) _
    refine XS.lloadN X0.here hx rfl (hb hby at_15) rfl ?_
    exact kt
  obtain ⟨rv3, _, ⟨T3, L3, k3, n3⟩, -, X3, ⟨Lc3, hQ3, l3, y3, z3⟩, st3⟩ := Jvm.LawKit.callS X0 hx (y := (⟨"com/example/libdmutex/libdmutex/core/RangeEqualsPinLaw", "sizeOf", "(J)J"⟩ : MethodName)) hown (mvT hZ (hw _ (List.mem_of_getElem? (i := 1) rfl))) (mvT hZ (hw _ (List.mem_of_getElem? (i := 2) rfl))) (mvT hZ (hw _ (List.mem_of_getElem? (i := 3) rfl))) (mvT hZ (hw _ (List.mem_of_getElem? (i := 4) rfl))) (by decide) (backOf (W := 0) (rm1 l Z a0 hw [] x0_0 h0 n0 Z0) hZ (hw _ (List.mem_of_getElem? (i := 4) rfl)) (hw _ (List.mem_of_getElem? (i := 3) rfl)) (by decide) (by decide)) (g := (mkF m 16 #[.val (.long x0_0), .second, .val (.long x0_1), .second, .val (.long x0_2), .second, .val (.long x0_3), .second, .val (.long x0_4), .second, .val (.long x0_5), .second, .val (.int v7), .val (.long v13), .second, .unset, .unset, .unset, .unset, .unset, .unset, .unset, .unset, .unset, .unset, .unset, .unset, .unset, .unset, .unset, .unset, .unset, .unset, .unset, .unset] [(.long x0_0)])) rfl (by rw [hml]; rfl) (argsL := [(.long x0_0)]) (rest := []) (lenOf pd_2 rfl) rfl (by show 2 * 0 + _ ≤ _; exact Nat.le_of_eq rfl) (hb hby at_16) (fun _ _ => ⟨rfl, e0, (by decide : 0 + 0 ≤ _), (by decide : 0 + 0 ≤ _)⟩)
  dsimp only [Pt.U, Pt.locs, Pt.cells, Pt.slots] at X3 l3 y3 z3 st3 hQ3
  subst l3 y3 z3
  obtain ⟨hv3, N3q, e3⟩ := hQ3
  have N3 := Fr.app N0 N3q
  subst hv3
  have sg5 : ∀ t, Steps p.tables e below (T3.setTop (mkF m 21 #[.val (.long x0_0), .second, .val (.long x0_1), .second, .val (.long x0_2), .second, .val (.long x0_3), .second, .val (.long x0_4), .second, .val (.long x0_5), .second, .val (.int v7), .val (.long v13), .second, .val (.long (f1 x0_0)), .second, .unset, .unset, .unset, .unset, .unset, .unset, .unset, .unset, .unset, .unset, .unset, .unset, .unset, .unset, .unset, .unset, .unset, .unset] [])) t → Steps p.tables e below (s₁.setTop (mkF m 16 #[.val (.long x0_0), .second, .val (.long x0_1), .second, .val (.long x0_2), .second, .val (.long x0_3), .second, .val (.long x0_4), .second, .val (.long x0_5), .second, .val (.int v7), .val (.long v13), .second, .unset, .unset, .unset, .unset, .unset, .unset, .unset, .unset, .unset, .unset, .unset, .unset, .unset, .unset, .unset, .unset, .unset, .unset, .unset, .unset] [(.long x0_0)])) t := fun t kt => by
    show Steps p.tables e below (s₁.setTop (mkF m 16 #[.val (.long x0_0), .second, .val (.long x0_1), .second, .val (.long x0_2), .second, .val (.long x0_3), .second, .val (.long x0_4), .second, .val (.long x0_5), .second, .val (.int v7), .val (.long v13), .second, .unset, .unset, .unset, .unset, .unset, .unset, .unset, .unset, .unset, .unset, .unset, .unset, .unset, .unset, .unset, .unset, .unset, .unset, .unset, .unset] [(.long x0_0)])) _
    refine st3 _ ?_
    show Steps p.tables e below (T3.setTop (mkF m 19 #[.val (.long x0_0), .second, .val (.long x0_1), .second, .val (.long x0_2), .second, .val (.long x0_3), .second, .val (.long x0_4), .second, .val (.long x0_5), .second, .val (.int v7), .val (.long v13), .second, .unset, .unset, .unset, .unset, .unset, .unset, .unset, .unset, .unset, .unset, .unset, .unset, .unset, .unset, .unset, .unset, .unset, .unset, .unset, .unset] [(.long (f1 x0_0))])) _
    refine XS.lstore X3.here hx rfl (hb hby at_19) rfl (l' := #[.val (.long x0_0), .second, .val (.long x0_1), .second, .val (.long x0_2), .second, .val (.long x0_3), .second, .val (.long x0_4), .second, .val (.long x0_5), .second, .val (.int v7), .val (.long v13), .second, .val (.long (f1 x0_0)), .second, .unset, .unset, .unset, .unset, .unset, .unset, .unset, .unset, .unset, .unset, .unset, .unset, .unset, .unset, .unset, .unset, .unset, .unset]) rfl ?_
    exact kt
  obtain ⟨v19, hv19⟩ : ∃ z, z = (f1 x0_0) := ⟨_, rfl⟩
  rw [← hv19] at sg5
  have hs1 := own_s _ _ hv19
  have sg7 : ∀ t, Steps p.tables e below (T3.setTop (mkF m 24 #[.val (.long x0_0), .second, .val (.long x0_1), .second, .val (.long x0_2), .second, .val (.long x0_3), .second, .val (.long x0_4), .second, .val (.long x0_5), .second, .val (.int v7), .val (.long v13), .second, .val (.long v19), .second, .unset, .unset, .unset, .unset, .unset, .unset, .unset, .unset, .unset, .unset, .unset, .unset, .unset, .unset, .unset, .unset, .unset, .unset] [(.long x0_1), (.long v19)])) t → Steps p.tables e below (T3.setTop (mkF m 21 #[.val (.long x0_0), .second, .val (.long x0_1), .second, .val (.long x0_2), .second, .val (.long x0_3), .second, .val (.long x0_4), .second, .val (.long x0_5), .second, .val (.int v7), .val (.long v13), .second, .val (.long v19), .second, .unset, .unset, .unset, .unset, .unset, .unset, .unset, .unset, .unset, .unset, .unset, .unset, .unset, .unset, .unset, .unset, .unset, .unset] [])) t := fun t kt => by
    show Steps p.tables e below (T3.setTop (mkF m 21 #[.val (.long x0_0), .second, .val (.long x0_1), .second, .val (.long x0_2), .second, .val (.long x0_3), .second, .val (.long x0_4), .second, .val (.long x0_5), .second, .val (.int v7), .val (.long v13), .second, .val (.long v19), .second, .unset, .unset, .unset, .unset, .unset, .unset, .unset, .unset, .unset, .unset, .unset, .unset, .unset, .unset, .unset, .unset, .unset, .unset] [])) _
    refine XS.lload X3.here hx rfl (hb hby at_21) rfl ?_
    show Steps p.tables e below (T3.setTop (mkF m 23 #[.val (.long x0_0), .second, .val (.long x0_1), .second, .val (.long x0_2), .second, .val (.long x0_3), .second, .val (.long x0_4), .second, .val (.long x0_5), .second, .val (.int v7), .val (.long v13), .second, .val (.long v19), .second, .unset, .unset, .unset, .unset, .unset, .unset, .unset, .unset, .unset, .unset, .unset, .unset, .unset, .unset, .unset, .unset, .unset, .unset] [(.long v19)])) _
    refine XS.lloadN X3.here hx rfl (hb hby at_23) rfl ?_
    exact kt
  obtain ⟨rv6, _, ⟨T6, L6, k6, n6⟩, -, X6, ⟨Lc6, hQ6, l6, y6, z6⟩, st6⟩ := Jvm.LawKit.callS X3 hx (y := (⟨"com/example/libdmutex/libdmutex/core/RangeEqualsPinLaw", "fromOf", "(JJ)J"⟩ : MethodName)) hown (mvT hZ (hw _ (List.mem_of_getElem? (i := 6) rfl))) (mvT hZ (hw _ (List.mem_of_getElem? (i := 7) rfl))) (mvT hZ (hw _ (List.mem_of_getElem? (i := 3) rfl))) (mvT hZ (hw _ (List.mem_of_getElem? (i := 8) rfl))) (by decide) (backOf (W := 0) (rm2 l Z a0 hw [] v19 x0_1 h0 n0 Z0 (own_nz1 _ hs1)) hZ (hw _ (List.mem_of_getElem? (i := 8) rfl)) (hw _ (List.mem_of_getElem? (i := 3) rfl)) (by decide) (by decide)) (g := (mkF m 24 #[.val (.long x0_0), .second, .val (.long x0_1), .second, .val (.long x0_2), .second, .val (.long x0_3), .second, .val (.long x0_4), .second, .val (.long x0_5), .second, .val (.int v7), .val (.long v13), .second, .val (.long v19), .second, .unset, .unset, .unset, .unset, .unset, .unset, .unset, .unset, .unset, .unset, .unset, .unset, .unset, .unset, .unset, .unset, .unset, .unset] [(.long x0_1), (.long v19)])) rfl (by rw [hml]; rfl) (argsL := [(.long v19), (.long x0_1)]) (rest := []) (lenOf pd_3 rfl) rfl (by show 2 * 0 + _ ≤ _; exact Nat.le_of_eq rfl) (hb hby at_24) (fun _ _ => ⟨rfl, e3, (by decide : 0 + 0 ≤ _), (by decide : 0 + 0 ≤ _)⟩)
  dsimp only [Pt.U, Pt.locs, Pt.cells, Pt.slots] at X6 l6 y6 z6 st6 hQ6
  subst l6 y6 z6
  obtain ⟨hv6, N6q, e6⟩ := hQ6
  have N6 := Fr.app N3 N6q
  subst hv6
  have sg8 : ∀ t, Steps p.tables e below (T6.setTop (mkF m 29 #[.val (.long x0_0), .second, .val (.long x0_1), .second, .val (.long x0_2), .second, .val (.long x0_3), .second, .val (.long x0_4), .second, .val (.long x0_5), .second, .val (.int v7), .val (.long v13), .second, .val (.long v19), .second, .val (.long (f2 v19 x0_1)), .second, .unset, .unset, .unset, .unset, .unset, .unset, .unset, .unset, .unset, .unset, .unset, .unset, .unset, .unset, .unset, .unset] [])) t → Steps p.tables e below (T3.setTop (mkF m 24 #[.val (.long x0_0), .second, .val (.long x0_1), .second, .val (.long x0_2), .second, .val (.long x0_3), .second, .val (.long x0_4), .second, .val (.long x0_5), .second, .val (.int v7), .val (.long v13), .second, .val (.long v19), .second, .unset, .unset, .unset, .unset, .unset, .unset, .unset, .unset, .unset, .unset, .unset, .unset, .unset, .unset, .unset, .unset, .unset, .unset] [(.long x0_1), (.long v19)])) t := fun t kt => by
    show Steps p.tables e below (T3.setTop (mkF m 24 #[.val (.long x0_0), .second, .val (.long x0_1), .second, .val (.long x0_2), .second, .val (.long x0_3), .second, .val (.long x0_4), .second, .val (.long x0_5), .second, .val (.int v7), .val (.long v13), .second, .val (.long v19), .second, .unset, .unset, .unset, .unset, .unset, .unset, .unset, .unset, .unset, .unset, .unset, .unset, .unset, .unset, .unset, .unset, .unset, .unset] [(.long x0_1), (.long v19)])) _
    refine st6 _ ?_
    show Steps p.tables e below (T6.setTop (mkF m 27 #[.val (.long x0_0), .second, .val (.long x0_1), .second, .val (.long x0_2), .second, .val (.long x0_3), .second, .val (.long x0_4), .second, .val (.long x0_5), .second, .val (.int v7), .val (.long v13), .second, .val (.long v19), .second, .unset, .unset, .unset, .unset, .unset, .unset, .unset, .unset, .unset, .unset, .unset, .unset, .unset, .unset, .unset, .unset, .unset, .unset] [(.long (f2 v19 x0_1))])) _
    refine XS.lstore X6.here hx rfl (hb hby at_27) rfl (l' := #[.val (.long x0_0), .second, .val (.long x0_1), .second, .val (.long x0_2), .second, .val (.long x0_3), .second, .val (.long x0_4), .second, .val (.long x0_5), .second, .val (.int v7), .val (.long v13), .second, .val (.long v19), .second, .val (.long (f2 v19 x0_1)), .second, .unset, .unset, .unset, .unset, .unset, .unset, .unset, .unset, .unset, .unset, .unset, .unset, .unset, .unset, .unset, .unset]) rfl ?_
    exact kt
  obtain ⟨v27, hv27⟩ : ∃ z, z = (f2 v19 x0_1) := ⟨_, rfl⟩
  rw [← hv27] at sg8
  have hf1 := own_f _ _ _ hs1 hv27
  have sg10 : ∀ t, Steps p.tables e below (T6.setTop (mkF m 35 #[.val (.long x0_0), .second, .val (.long x0_1), .second, .val (.long x0_2), .second, .val (.long x0_3), .second, .val (.long x0_4), .second, .val (.long x0_5), .second, .val (.int v7), .val (.long v13), .second, .val (.long v19), .second, .val (.long v27), .second, .unset, .unset, .unset, .unset, .unset, .unset, .unset, .unset, .unset, .unset, .unset, .unset, .unset, .unset, .unset, .unset] [(.long x0_2), (.long v27), (.long v19)])) t → Steps p.tables e below (T6.setTop (mkF m 29 #[.val (.long x0_0), .second, .val (.long x0_1), .second, .val (.long x0_2), .second, .val (.long x0_3), .second, .val (.long x0_4), .second, .val (.long x0_5), .second, .val (.int v7), .val (.long v13), .second, .val (.long v19), .second, .val (.long v27), .second, .unset, .unset, .unset, .unset, .unset, .unset, .unset, .unset, .unset, .unset, .unset, .unset, .unset, .unset, .unset, .unset] [])) t := fun t kt => by
    show Steps p.tables e below (T6.setTop (mkF m 29 #[.val (.long x0_0), .second, .val (.long x0_1), .second, .val (.long x0_2), .second, .val (.long x0_3), .second, .val (.long x0_4), .second, .val (.long x0_5), .second, .val (.int v7), .val (.long v13), .second, .val (.long v19), .second, .val (.long v27), .second, .unset, .unset, .unset, .unset, .unset, .unset, .unset, .unset, .unset, .unset, .unset, .unset, .unset, .unset, .unset, .unset] [])) _
    refine XS.lload X6.here hx rfl (hb hby at_29) rfl ?_
    show Steps p.tables e below (T6.setTop (mkF m 31 #[.val (.long x0_0), .second, .val (.long x0_1), .second, .val (.long x0_2), .second, .val (.long x0_3), .second, .val (.long x0_4), .second, .val (.long x0_5), .second, .val (.int v7), .val (.long v13), .second, .val (.long v19), .second, .val (.long v27), .second, .unset, .unset, .unset, .unset, .unset, .unset, .unset, .unset, .unset, .unset, .unset, .unset, .unset, .unset, .unset, .unset] [(.long v19)])) _
    refine XS.lload X6.here hx rfl (hb hby at_31) rfl ?_
    show Steps p.tables e below (T6.setTop (mkF m 33 #[.val (.long x0_0), .second, .val (.long x0_1), .second, .val (.long x0_2), .second, .val (.long x0_3), .second, .val (.long x0_4), .second, .val (.long x0_5), .second, .val (.int v7), .val (.long v13), .second, .val (.long v19), .second, .val (.long v27), .second, .unset, .unset, .unset, .unset, .unset, .unset, .unset, .unset, .unset, .unset, .unset, .unset, .unset, .unset, .unset, .unset] [(.long v27), (.long v19)])) _
    refine XS.lload X6.here hx rfl (hb hby at_33) rfl ?_
    exact kt
  obtain ⟨rv9, _, ⟨T9, L9, k9, n9⟩, -, X9, ⟨Lc9, hQ9, l9, y9, z9⟩, st9⟩ := Jvm.LawKit.callS X6 hx (y := (⟨"com/example/libdmutex/libdmutex/core/RangeEqualsPinLaw", "toOf", "(JJJ)J"⟩ : MethodName)) hown (mvT hZ (hw _ (List.mem_of_getElem? (i := 10) rfl))) (mvT hZ (hw _ (List.mem_of_getElem? (i := 11) rfl))) (mvT hZ (hw _ (List.mem_of_getElem? (i := 3) rfl))) (mvT hZ (hw _ (List.mem_of_getElem? (i := 12) rfl))) (by decide) (backOf (W := 0) (rm3 l Z a0 hw [] v19 v27 x0_2 h0 n0 Z0 (own_nz2 _ _ hs1 hf1)) hZ (hw _ (List.mem_of_getElem? (i := 12) rfl)) (hw _ (List.mem_of_getElem? (i := 3) rfl)) (by decide) (by decide)) (g := (mkF m 35 #[.val (.long x0_0), .second, .val (.long x0_1), .second, .val (.long x0_2), .second, .val (.long x0_3), .second, .val (.long x0_4), .second, .val (.long x0_5), .second, .val (.int v7), .val (.long v13), .second, .val (.long v19), .second, .val (.long v27), .second, .unset, .unset, .unset, .unset, .unset, .unset, .unset, .unset, .unset, .unset, .unset, .unset, .unset, .unset, .unset, .unset] [(.long x0_2), (.long v27), (.long v19)])) rfl (by rw [hml]; rfl) (argsL := [(.long v19), (.long v27), (.long x0_2)]) (rest := []) (lenOf pd_4 rfl) rfl (by show 2 * 0 + _ ≤ _; exact Nat.le_of_eq rfl) (hb hby at_35) (fun _ _ => ⟨rfl, e6, (by decide : 0 + 0 ≤ _), (by decide : 0 + 0 ≤ _)⟩)
  dsimp only [Pt.U, Pt.locs, Pt.cells, Pt.slots] at X9 l9 y9 z9 st9 hQ9
  subst l9 y9 z9
  obtain ⟨hv9, N9q, e9⟩ := hQ9
  have N9 := Fr.app N6 N9q
  subst hv9
  have sg11 : ∀ t, Steps p.tables e below (T9.setTop (mkF m 40 #[.val (.long x0_0), .second, .val (.long x0_1), .second, .val (.long x0_2), .second, .val (.long x0_3), .second, .val (.long x0_4), .second, .val (.long x0_5), .second, .val (.int v7), .val (.long v13), .second, .val (.long v19), .second, .val (.long v27), .second, .val (.long (f3 v19 v27 x0_2)), .second, .unset, .unset, .unset, .unset, .unset, .unset, .unset, .unset, .unset, .unset, .unset, .unset, .unset, .unset] [])) t → Steps p.tables e below (T6.setTop (mkF m 35 #[.val (.long x0_0), .second, .val (.long x0_1), .second, .val (.long x0_2), .second, .val (.long x0_3), .second, .val (.long x0_4), .second, .val (.long x0_5), .second, .val (.int v7), .val (.long v13), .second, .val (.long v19), .second, .val (.long v27), .second, .unset, .unset, .unset, .unset, .unset, .unset, .unset, .unset, .unset, .unset, .unset, .unset, .unset, .unset, .unset, .unset] [(.long x0_2), (.long v27), (.long v19)])) t := fun t kt => by
    show Steps p.tables e below (T6.setTop (mkF m 35 #[.val (.long x0_0), .second, .val (.long x0_1), .second, .val (.long x0_2), .second, .val (.long x0_3), .second, .val (.long x0_4), .second, .val (.long x0_5), .second, .val (.int v7), .val (.long v13), .second, .val (.long v19), .second, .val (.long v27), .second, .unset, .unset, .unset, .unset, .unset, .unset, .unset, .unset, .unset, .unset, .unset, .unset, .unset, .unset, .unset, .unset] [(.long x0_2), (.long v27), (.long v19)])) _
    refine st9 _ ?_
    show Steps p.tables e below (T9.setTop (mkF m 38 #[.val (.long x0_0), .second, .val (.long x0_1), .second, .val (.long x0_2), .second, .val (.long x0_3), .second, .val (.long x0_4), .second, .val (.long x0_5), .second, .val (.int v7), .val (.long v13), .second, .val (.long v19), .second, .val (.long v27), .second, .unset, .unset, .unset, .unset, .unset, .unset, .unset, .unset, .unset, .unset, .unset, .unset, .unset, .unset, .unset, .unset] [(.long (f3 v19 v27 x0_2))])) _
    refine XS.lstore X9.here hx rfl (hb hby at_38) rfl (l' := #[.val (.long x0_0), .second, .val (.long x0_1), .second, .val (.long x0_2), .second, .val (.long x0_3), .second, .val (.long x0_4), .second, .val (.long x0_5), .second, .val (.int v7), .val (.long v13), .second, .val (.long v19), .second, .val (.long v27), .second, .val (.long (f3 v19 v27 x0_2)), .second, .unset, .unset, .unset, .unset, .unset, .unset, .unset, .unset, .unset, .unset, .unset, .unset, .unset, .unset]) rfl ?_
    exact kt
  obtain ⟨v38, hv38⟩ : ∃ z, z = (f3 v19 v27 x0_2) := ⟨_, rfl⟩
  rw [← hv38] at sg11
  have ht1 := own_t _ _ _ _ hs1 hf1 hv38
  have sg12 : ∀ t, Steps p.tables e below (T9.setTop (mkF m 44 #[.val (.long x0_0), .second, .val (.long x0_1), .second, .val (.long x0_2), .second, .val (.long x0_3), .second, .val (.long x0_4), .second, .val (.long x0_5), .second, .val (.int v7), .val (.long v13), .second, .val (.long v19), .second, .val (.long v27), .second, .val (.long v38), .second, .unset, .unset, .unset, .unset, .unset, .unset, .unset, .unset, .unset, .unset, .unset, .unset, .unset, .unset] [(.int (v7 &&& (1 : Int32)))])) t → Steps p.tables e below (T9.setTop (mkF m 40 #[.val (.long x0_0), .second, .val (.long x0_1), .second, .val (.long x0_2), .second, .val (.long x0_3), .second, .val (.long x0_4), .second, .val (.long x0_5), .second, .val (.int v7), .val (.long v13), .second, .val (.long v19), .second, .val (.long v27), .second, .val (.long v38), .second, .unset, .unset, .unset, .unset, .unset, .unset, .unset, .unset, .unset, .unset, .unset, .unset, .unset, .unset] [])) t := fun t kt => by
    show Steps p.tables e below (T9.setTop (mkF m 40 #[.val (.long x0_0), .second, .val (.long x0_1), .second, .val (.long x0_2), .second, .val (.long x0_3), .second, .val (.long x0_4), .second, .val (.long x0_5), .second, .val (.int v7), .val (.long v13), .second, .val (.long v19), .second, .val (.long v27), .second, .val (.long v38), .second, .unset, .unset, .unset, .unset, .unset, .unset, .unset, .unset, .unset, .unset, .unset, .unset, .unset, .unset] [])) _
    refine XS.iload X9.here hx rfl (hb hby at_40) rfl ?_
    show Steps p.tables e below (T9.setTop (mkF m 42 #[.val (.long x0_0), .second, .val (.long x0_1), .second, .val (.long x0_2), .second, .val (.long x0_3), .second, .val (.long x0_4), .second, .val (.long x0_5), .second, .val (.int v7), .val (.long v13), .second, .val (.long v19), .second, .val (.long v27), .second, .val (.long v38), .second, .unset, .unset, .unset, .unset, .unset, .unset, .unset, .unset, .unset, .unset, .unset, .unset, .unset, .unset] [(.int v7)])) _
    refine XS.iconst X9.here hx rfl (hb hby at_42) ?_
    show Steps p.tables e below (T9.setTop (mkF m 43 #[.val (.long x0_0), .second, .val (.long x0_1), .second, .val (.long x0_2), .second, .val (.long x0_3), .second, .val (.long x0_4), .second, .val (.long x0_5), .second, .val (.int v7), .val (.long v13), .second, .val (.long v19), .second, .val (.long v27), .second, .val (.long v38), .second, .unset, .unset, .unset, .unset, .unset, .unset, .unset, .unset, .unset, .unset, .unset, .unset, .unset, .unset] [(.int (1 : Int32)), (.int v7)])) _
    refine XS.iand X9.here hx rfl (hb hby at_43) rfl ?_
    exact kt
  have sg13 : ∀ t, Steps p.tables e below (T9.setTop (mkF m 53 #[.val (.long x0_0), .second, .val (.long x0_1), .second, .val (.long x0_2), .second, .val (.long x0_3), .second, .val (.long x0_4), .second, .val (.long x0_5), .second, .val (.int v7), .val (.long v13), .second, .val (.long v19), .second, .val (.long v27), .second, .val (.long v38), .second, .unset, .unset, .unset, .unset, .unset, .unset, .unset, .unset, .unset, .unset, .unset, .unset, .unset, .unset] [(.long (if (v7 &&& (1 : Int32)) = (0 : Int32) then v13 else x0_0))])) t → Steps p.tables e below (T9.setTop (mkF m 44 #[.val (.long x0_0), .second, .val (.long x0_1), .second, .val (.long x0_2), .second, .val (.long x0_3), .second, .val (.long x0_4), .second, .val (.long x0_5), .second, .val (.int v7), .val (.long v13), .second, .val (.long v19), .second, .val (.long v27), .second, .val (.long v38), .second, .unset, .unset, .unset, .unset, .unset, .unset, .unset, .unset, .unset, .unset, .unset, .unset, .unset, .unset] [(.int (v7 &&& (1 : Int32)))])) t := fun t kt => by
    by_cases hm : (v7 &&& (1 : Int32)) = (0 : Int32)
    · rw [if_pos hm] at kt
      show Steps p.tables e below (T9.setTop (mkF m 44 #[.val (.long x0_0), .second, .val (.long x0_1), .second, .val (.long x0_2), .second, .val (.long x0_3), .second, .val (.long x0_4), .second, .val (.long x0_5), .second, .val (.int v7), .val (.long v13), .second, .val (.long v19), .second, .val (.long v27), .second, .val (.long v38), .second, .unset, .unset, .unset, .unset, .unset, .unset, .unset, .unset, .unset, .unset, .unset, .unset, .unset, .unset] [(.int (v7 &&& (1 : Int32)))])) _
      refine XS.ifYes X9.here hx rfl (pc0 := 44) (pc' := 51) rfl (hb hby at_44) rfl ((if0 _ _).trans (teq hm).1) (by decide) (by decide) ?_
      show Steps p.tables e below (T9.setTop (mkF m 51 #[.val (.long x0_0), .second, .val (.long x0_1), .second, .val (.long x0_2), .second, .val (.long x0_3), .second, .val (.long x0_4), .second, .val (.long x0_5), .second, .val (.int v7), .val (.long v13), .second, .val (.long v19), .second, .val (.long v27), .second, .val (.long v38), .second, .unset, .unset, .unset, .unset, .unset, .unset, .unset, .unset, .unset, .unset, .unset, .unset, .unset, .unset] [])) _
      refine XS.lload X9.here hx rfl (hb hby at_51) rfl ?_
      exact kt
    · rw [if_neg hm] at kt
      show Steps p.tables e below (T9.setTop (mkF m 44 #[.val (.long x0_0), .second, .val (.long x0_1), .second, .val (.long x0_2), .second, .val (.long x0_3), .second, .val (.long x0_4), .second, .val (.long x0_5), .second, .val (.int v7), .val (.long v13), .second, .val (.long v19), .second, .val (.long v27), .second, .val (.long v38), .second, .unset, .unset, .unset, .unset, .unset, .unset, .unset, .unset, .unset, .unset, .unset, .unset, .unset, .unset] [(.int (v7 &&& (1 : Int32)))])) _
      refine XS.ifNo X9.here hx rfl (hb hby at_44) rfl ((if0 _ _).trans (feq hm).1) ?_
      show Steps p.tables e below (T9.setTop (mkF m 47 #[.val (.long x0_0), .second, .val (.long x0_1), .second, .val (.long x0_2), .second, .val (.long x0_3), .second, .val (.long x0_4), .second, .val (.long x0_5), .second, .val (.int v7), .val (.long v13), .second, .val (.long v19), .second, .val (.long v27), .second, .val (.long v38), .second, .unset, .unset, .unset, .unset, .unset, .unset, .unset, .unset, .unset, .unset, .unset, .unset, .unset, .unset] [])) _
      refine XS.lloadN X9.here hx rfl (hb hby at_47) rfl ?_
      show Steps p.tables e below (T9.setTop (mkF m 48 #[.val (.long x0_0), .second, .val (.long x0_1), .second, .val (.long x0_2), .second, .val (.long x0_3), .second, .val (.long x0_4), .second, .val (.long x0_5), .second, .val (.int v7), .val (.long v13), .second, .val (.long v19), .second, .val (.long v27), .second, .val (.long v38), .second, .unset, .unset, .unset, .unset, .unset, .unset, .unset, .unset, .unset, .unset, .unset, .unset, .unset, .unset] [(.long x0_0)])) _
      refine XS.goto X9.here hx rfl (pc0 := 48) (pc' := 53) rfl (hb hby at_48) (by decide) (by decide) ?_
      exact kt
  obtain ⟨rv14, _, ⟨T14, L14, k14, n14⟩, -, X14, ⟨Lc14, hQ14, l14, y14, z14⟩, st14⟩ := Jvm.LawKit.callS X9 hx (y := (⟨"com/example/libdmutex/libdmutex/core/RangeEqualsPinLaw", "sizeOf", "(J)J"⟩ : MethodName)) hown (mvT hZ (hw _ (List.mem_of_getElem? (i := 1) rfl))) (mvT hZ (hw _ (List.mem_of_getElem? (i := 2) rfl))) (mvT hZ (hw _ (List.mem_of_getElem? (i := 3) rfl))) (mvT hZ (hw _ (List.mem_of_getElem? (i := 4) rfl))) (by decide) (backOf (W := 0) (rm1 l Z a0 hw [] (if (v7 &&& (1 : Int32)) = (0 : Int32) then v13 else x0_0) h0 n0 Z0) hZ (hw _ (List.mem_of_getElem? (i := 4) rfl)) (hw _ (List.mem_of_getElem? (i := 3) rfl)) (by decide) (by decide)) (g := (mkF m 53 #[.val (.long x0_0), .second, .val (.long x0_1), .second, .val (.long x0_2), .second, .val (.long x0_3), .second, .val (.long x0_4), .second, .val (.long x0_5), .second, .val (.int v7), .val (.long v13), .second, .val (.long v19), .second, .val (.long v27), .second, .val (.long v38), .second, .unset, .unset, .unset, .unset, .unset, .unset, .unset, .unset, .unset, .unset, .unset, .unset, .unset, .unset] [(.long (if (v7 &&& (1 : Int32)) = (0 : Int32) then v13 else x0_0))])) rfl (by rw [hml]; rfl) (argsL := [(.long (if (v7 &&& (1 : Int32)) = (0 : Int32) then v13 else x0_0))]) (rest := []) (lenOf pd_2 rfl) rfl (by show 2 * 0 + _ ≤ _; exact Nat.le_of_eq rfl) (hb hby at_53) (fun _ _ => ⟨rfl, e9, (by decide : 0 + 0 ≤ _), (by decide : 0 + 0 ≤ _)⟩)
  dsimp only [Pt.U, Pt.locs, Pt.cells, Pt.slots] at X14 l14 y14 z14 st14 hQ14
  subst l14 y14 z14
  obtain ⟨hv14, N14q, e14⟩ := hQ14
  have N14 := Fr.app N9 N14q
  subst hv14
  have sg15 : ∀ t, Steps p.tables e below (T14.setTop (mkF m 58 #[.val (.long x0_0), .second, .val (.long x0_1), .second, .val (.long x0_2), .second, .val (.long x0_3), .second, .val (.long x0_4), .second, .val (.long x0_5), .second, .val (.int v7), .val (.long v13), .second, .val (.long v19), .second, .val (.long v27), .second, .val (.long v38), .second, .val (.long (f1 (if (v7 &&& (1 : Int32)) = (0 : Int32) then v13 else x0_0))), .second, .unset, .unset, .unset, .unset, .unset, .unset, .unset, .unset, .unset, .unset, .unset, .unset] [])) t → Steps p.tables e below (T9.setTop (mkF m 53 #[.val (.long x0_0), .second, .val (.long x0_1), .second, .val (.long x0_2), .second, .val (.long x0_3), .second, .val (.long x0_4), .second, .val (.long x0_5), .second, .val (.int v7), .val (.long v13), .second, .val (.long v19), .second, .val (.long v27), .second, .val (.long v38), .second, .unset, .unset, .unset, .unset, .unset, .unset, .unset, .unset, .unset, .unset, .unset, .unset, .unset, .unset] [(.long (if (v7 &&& (1 : Int32)) = (0 : Int32) then v13 else x0_0))])) t := fun t kt => by
    show Steps p.tables e below (T9.setTop (mkF m 53 #[.val (.long x0_0), .second, .val (.long x0_1), .second, .val (.long x0_2), .second, .val (.long x0_3), .second, .val (.long x0_4), .second, .val (.long x0_5), .second, .val (.int v7), .val (.long v13), .second, .val (.long v19), .second, .val (.long v27), .second, .val (.long v38), .second, .unset, .unset, .unset, .unset, .unset, .unset, .unset, .unset, .unset, .unset, .unset, .unset, .unset, .unset] [(.long (if (v7 &&& (1 : Int32)) = (0 : Int32) then v13 else x0_0))])) _
    refine st14 _ ?_
    show Steps p.tables e below (T14.setTop (mkF m 56 #[.val (.long x0_0), .second, .val (.long x0_1), .second, .val (.long x0_2), .second, .val (.long x0_3), .second, .val (.long x0_4), .second, .val (.long x0_5), .second, .val (.int v7), .val (.long v13), .second, .val (.long v19), .second, .val (.long v27), .second, .val (.long v38), .second, .unset, .unset, .unset, .unset, .unset, .unset, .unset, .unset, .unset, .unset, .unset, .unset, .unset, .unset] [(.long (f1 (if (v7 &&& (1 : Int32)) = (0 : Int32) then v13 else x0_0)))])) _
    refine XS.lstore X14.here hx rfl (hb hby at_56) rfl (l' := #[.val (.long x0_0), .second, .val (.long x0_1), .second, .val (.long x0_2), .second, .val (.long x0_3), .second, .val (.long x0_4), .second, .val (.long x0_5), .second, .val (.int v7), .val (.long v13), .second, .val (.long v19), .second, .val (.long v27), .second, .val (.long v38), .second, .val (.long (f1 (if (v7 &&& (1 : Int32)) = (0 : Int32) then v13 else x0_0))), .second, .unset, .unset, .unset, .unset, .unset, .unset, .unset, .unset, .unset, .unset, .unset, .unset]) rfl ?_
    exact kt
  obtain ⟨v56, hv56⟩ : ∃ z, z = (f1 (if (v7 &&& (1 : Int32)) = (0 : Int32) then v13 else x0_0)) := ⟨_, rfl⟩
  rw [← hv56] at sg15
  have hs2 := own_s _ _ hv56
  have sg16 : ∀ t, Steps p.tables e below (T14.setTop (mkF m 64 #[.val (.long x0_0), .second, .val (.long x0_1), .second, .val (.long x0_2), .second, .val (.long x0_3), .second, .val (.long x0_4), .second, .val (.long x0_5), .second, .val (.int v7), .val (.long v13), .second, .val (.long v19), .second, .val (.long v27), .second, .val (.long v38), .second, .val (.long v56), .second, .unset, .unset, .unset, .unset, .unset, .unset, .unset, .unset, .unset, .unset, .unset, .unset] [(.int (v7 &&& (2 : Int32))), (.long v56)])) t → Steps p.tables e below (T14.setTop (mkF m 58 #[.val (.long x0_0), .second, .val (.long x0_1), .second, .val (.long x0_2), .second, .val (.long x0_3), .second, .val (.long x0_4), .second, .val (.long x0_5), .second, .val (.int v7), .val (.long v13), .second, .val (.long v19), .second, .val (.long v27), .second, .val (.long v38), .second, .val (.long v56), .second, .unset, .unset, .unset, .unset, .unset, .unset, .unset, .unset, .unset, .unset, .unset, .unset] [])) t := fun t kt => by
    show Steps p.tables e below (T14.setTop (mkF m 58 #[.val (.long x0_0), .second, .val (.long x0_1), .second, .val (.long x0_2), .second, .val (.long x0_3), .second, .val (.long x0_4), .second, .val (.long x0_5), .second, .val (.int v7), .val (.long v13), .second, .val (.long v19), .second, .val (.long v27), .second, .val (.long v38), .second, .val (.long v56), .second, .unset, .unset, .unset, .unset, .unset, .unset, .unset, .unset, .unset, .unset, .unset, .unset] [])) _
    refine XS.lload X14.here hx rfl (hb hby at_58) rfl ?_
    show Steps p.tables e below (T14.setTop (mkF m 60 #[.val (.long x0_0), .second, .val (.long x0_1), .second, .val (.long x0_2), .second, .val (.long x0_3), .second, .val (.long x0_4), .second, .val (.long x0_5), .second, .val (.int v7), .val (.long v13), .second, .val (.long v19), .second, .val (.long v27), .second, .val (.long v38), .second, .val (.long v56), .second, .unset, .unset, .unset, .unset, .unset, .unset, .unset, .unset, .unset, .unset, .unset, .unset] [(.long v56)])) _
    refine XS.iload X14.here hx rfl (hb hby at_60) rfl ?_
    show Steps p.tables e below (T14.setTop (mkF m 62 #[.val (.long x0_0), .second, .val (.long x0_1), .second, .val (.long x0_2), .second, .val (.long x0_3), .second, .val (.long x0_4), .second, .val (.long x0_5), .second, .val (.int v7), .val (.long v13), .second, .val (.long v19), .second, .val (.long v27), .second, .val (.long v38), .second, .val (.long v56), .second, .unset, .unset, .unset, .unset, .unset, .unset, .unset, .unset, .unset, .unset, .unset, .unset] [(.int v7), (.long v56)])) _
    refine XS.iconst X14.here hx rfl (hb hby at_62) ?_
    show Steps p.tables e below (T14.setTop (mkF m 63 #[.val (.long x0_0), .second, .val (.long x0_1), .second, .val (.long x0_2), .second, .val (.long x0_3), .second, .val (.long x0_4), .second, .val (.long x0_5), .second, .val (.int v7), .val (.long v13), .second, .val (.long v19), .second, .val (.long v27), .second, .val (.long v38), .second, .val (.long v56), .second, .unset, .unset, .unset, .unset, .unset, .unset, .unset, .unset, .unset, .unset, .unset, .unset] [(.int (2 : Int32)), (.int v7), (.long v56)])) _
    refine XS.iand X14.here hx rfl (hb hby at_63) rfl ?_
    exact kt
  have sg17 : ∀ t, Steps p.tables e below (T14.setTop (mkF m 73 #[.val (.long x0_0), .second, .val (.long x0_1), .second, .val (.long x0_2), .second, .val (.long x0_3), .second, .val (.long x0_4), .second, .val (.long x0_5), .second, .val (.int v7), .val (.long v13), .second, .val (.long v19), .second, .val (.long v27), .second, .val (.long v38), .second, .val (.long v56), .second, .unset, .unset, .unset, .unset, .unset, .unset, .unset, .unset, .unset, .unset, .unset, .unset] [(.long (if (v7 &&& (2 : Int32)) = (0 : Int32) then x0_4 else x0_1)), (.long v56)])) t → Steps p.tables e below (T14.setTop (mkF m 64 #[.val (.long x0_0), .second, .val (.long x0_1), .second, .val (.long x0_2), .second, .val (.long x0_3), .second, .val (.long x0_4), .second, .val (.long x0_5), .second, .val (.int v7), .val (.long v13), .second, .val (.long v19), .second, .val (.long v27), .second, .val (.long v38), .second, .val (.long v56), .second, .unset, .unset, .unset, .unset, .unset, .unset, .unset, .unset, .unset, .unset, .unset, .unset] [(.int (v7 &&& (2 : Int32))), (.long v56)])) t := fun t kt => by
    by_cases hm : (v7 &&& (2 : Int32)) = (0 : Int32)
    · rw [if_pos hm] at kt
      show Steps p.tables e below (T14.setTop (mkF m 64 #[.val (.long x0_0), .second, .val (.long x0_1), .second, .val (.long x0_2), .second, .val (.long x0_3), .second, .val (.long x0_4), .second, .val (.long x0_5), .second, .val (.int v7), .val (.long v13), .second, .val (.long v19), .second, .val (.long v27), .second, .val (.long v38), .second, .val (.long v56), .second, .unset, .unset, .unset, .unset, .unset, .unset, .unset, .unset, .unset, .unset, .unset, .unset] [(.int (v7 &&& (2 : Int32))), (.long v56)])) _
      refine XS.ifYes X14.here hx rfl (pc0 := 64) (pc' := 71) rfl (hb hby at_64) rfl ((if0 _ _).trans (teq hm).1) (by decide) (by decide) ?_
      show Steps p.tables e below (T14.setTop (mkF m 71 #[.val (.long x0_0), .second, .val (.long x0_1), .second, .val (.long x0_2), .second, .val (.long x0_3), .second, .val (.long x0_4), .second, .val (.long x0_5), .second, .val (.int v7), .val (.long v13), .second, .val (.long v19), .second, .val (.long v27), .second, .val (.long v38), .second, .val (.long v56), .second, .unset, .unset, .unset, .unset, .unset, .unset, .unset, .unset, .unset, .unset, .unset, .unset] [(.long v56)])) _
      refine XS.lload X14.here hx rfl (hb hby at_71) rfl ?_
      exact kt
    · rw [if_neg hm] at kt
      show Steps p.tables e below (T14.setTop (mkF m 64 #[.val (.long x0_0), .second, .val (.long x0_1), .second, .val (.long x0_2), .second, .val (.long x0_3), .second, .val (.long x0_4), .second, .val (.long x0_5), .second, .val (.int v7), .val (.long v13), .second, .val (.long v19), .second, .val (.long v27), .second, .val (.long v38), .second, .val (.long v56), .second, .unset, .unset, .unset, .unset, .unset, .unset, .unset, .unset, .unset, .unset, .unset, .unset] [(.int (v7 &&& (2 : Int32))), (.long v56)])) _
      refine XS.ifNo X14.here hx rfl (hb hby at_64) rfl ((if0 _ _).trans (feq hm).1) ?_
      show Steps p.tables e below (T14.setTop (mkF m 67 #[.val (.long x0_0), .second, .val (.long x0_1), .second, .val (.long x0_2), .second, .val (.long x0_3), .second, .val (.long x0_4), .second, .val (.long x0_5), .second, .val (.int v7), .val (.long v13), .second, .val (.long v19), .second, .val (.long v27), .second, .val (.long v38), .second, .val (.long v56), .second, .unset, .unset, .unset, .unset, .unset, .unset, .unset, .unset, .unset, .unset, .unset, .unset] [(.long v56)])) _
      refine XS.lloadN X14.here hx rfl (hb hby at_67) rfl ?_
      show Steps p.tables e below (T14.setTop (mkF m 68 #[.val (.long x0_0), .second, .val (.long x0_1), .second, .val (.long x0_2), .second, .val (.long x0_3), .second, .val (.long x0_4), .second, .val (.long x0_5), .second, .val (.int v7), .val (.long v13), .second, .val (.long v19), .second, .val (.long v27), .second, .val (.long v38), .second, .val (.long v56), .second, .unset, .unset, .unset, .unset, .unset, .unset, .unset, .unset, .unset, .unset, .unset, .unset] [(.long x0_1), (.long v56)])) _
      refine XS.goto X14.here hx rfl (pc0 := 68) (pc' := 73) rfl (hb hby at_68) (by decide) (by decide) ?_
      exact kt
  obtain ⟨rv18, _, ⟨T18, L18, k18, n18⟩, -, X18, ⟨Lc18, hQ18, l18, y18, z18⟩, st18⟩ := Jvm.LawKit.callS X14 hx (y := (⟨"com/example/libdmutex/libdmutex/core/RangeEqualsPinLaw", "fromOf", "(JJ)J"⟩ : MethodName)) hown (mvT hZ (hw _ (List.mem_of_getElem? (i := 6) rfl))) (mvT hZ (hw _ (List.mem_of_getElem? (i := 7) rfl))) (mvT hZ (hw _ (List.mem_of_getElem? (i := 3) rfl))) (mvT hZ (hw _ (List.mem_of_getElem? (i := 8) rfl))) (by decide) (backOf (W := 0) (rm2 l Z a0 hw [] v56 (if (v7 &&& (2 : Int32)) = (0 : Int32) then x0_4 else x0_1) h0 n0 Z0 (own_nz1 _ hs2)) hZ (hw _ (List.mem_of_getElem? (i := 8) rfl)) (hw _ (List.mem_of_getElem? (i := 3) rfl)) (by decide) (by decide)) (g := (mkF m 73 #[.val (.long x0_0), .second, .val (.long x0_1), .second, .val (.long x0_2), .second, .val (.long x0_3), .second, .val (.long x0_4), .second, .val (.long x0_5), .second, .val (.int v7), .val (.long v13), .second, .val (.long v19), .second, .val (.long v27), .second, .val (.long v38), .second, .val (.long v56), .second, .unset, .unset, .unset, .unset, .unset, .unset, .unset, .unset, .unset, .unset, .unset, .unset] [(.long (if (v7 &&& (2 : Int32)) = (0 : Int32) then x0_4 else x0_1)), (.long v56)])) rfl (by rw [hml]; rfl) (argsL := [(.long v56), (.long (if (v7 &&& (2 : Int32)) = (0 : Int32) then x0_4 else x0_1))]) (rest := []) (lenOf pd_3 rfl) rfl (by show 2 * 0 + _ ≤ _; exact Nat.le_of_eq rfl) (hb hby at_73) (fun _ _ => ⟨rfl, e14, (by decide : 0 + 0 ≤ _), (by decide : 0 + 0 ≤ _)⟩)
  dsimp only [Pt.U, Pt.locs, Pt.cells, Pt.slots] at X18 l18 y18 z18 st18 hQ18
  subst l18 y18 z18
  obtain ⟨hv18, N18q, e18⟩ := hQ18
  have N18 := Fr.app N14 N18q
  subst hv18
  have sg19 : ∀ t, Steps p.tables e below (T18.setTop (mkF m 78 #[.val (.long x0_0), .second, .val (.long x0_1), .second, .val (.long x0_2), .second, .val (.long x0_3), .second, .val (.long x0_4), .second, .val (.long x0_5), .second, .val (.int v7), .val (.long v13), .second, .val (.long v19), .second, .val (.long v27), .second, .val (.long v38), .second, .val (.long v56), .second, .val (.long (f2 v56 (if (v7 &&& (2 : Int32)) = (0 : Int32) then x0_4 else x0_1))), .second, .unset, .unset, .unset, .unset, .unset, .unset, .unset, .unset, .unset, .unset] [])) t → Steps p.tables e below (T14.setTop (mkF m 73 #[.val (.long x0_0), .second, .val (.long x0_1), .second, .val (.long x0_2), .second, .val (.long x0_3), .second, .val (.long x0_4), .second, .val (.long x0_5), .second, .val (.int v7), .val (.long v13), .second, .val (.long v19), .second, .val (.long v27), .second, .val (.long v38), .second, .val (.long v56), .second, .unset, .unset, .unset, .unset, .unset, .unset, .unset, .unset, .unset, .unset, .unset, .unset] [(.long (if (v7 &&& (2 : Int32)) = (0 : Int32) then x0_4 else x0_1)), (.long v56)])) t := fun t kt => by
    show Steps p.tables e below (T14.setTop (mkF m 73 #[.val (.long x0_0), .second, .val (.long x0_1), .second, .val (.long x0_2), .second, .val (.long x0_3), .second, .val (.long x0_4), .second, .val (.long x0_5), .second, .val (.int v7), .val (.long v13), .second, .val (.long v19), .second, .val (.long v27), .second, .val (.long v38), .second, .val (.long v56), .second, .unset, .unset, .unset, .unset, .unset, .unset, .unset, .unset, .unset, .unset, .unset, .unset] [(.long (if (v7 &&& (2 : Int32)) = (0 : Int32) then x0_4 else x0_1)), (.long v56)])) _
    refine st18 _ ?_
    show Steps p.tables e below (T18.setTop (mkF m 76 #[.val (.long x0_0), .second, .val (.long x0_1), .second, .val (.long x0_2), .second, .val (.long x0_3), .second, .val (.long x0_4), .second, .val (.long x0_5), .second, .val (.int v7), .val (.long v13), .second, .val (.long v19), .second, .val (.long v27), .second, .val (.long v38), .second, .val (.long v56), .second, .unset, .unset, .unset, .unset, .unset, .unset, .unset, .unset, .unset, .unset, .unset, .unset] [(.long (f2 v56 (if (v7 &&& (2 : Int32)) = (0 : Int32) then x0_4 else x0_1)))])) _
    refine XS.lstore X18.here hx rfl (hb hby at_76) rfl (l' := #[.val (.long x0_0), .second, .val (.long x0_1), .second, .val (.long x0_2), .second, .val (.long x0_3), .second, .val (.long x0_4), .second, .val (.long x0_5), .second, .val (.int v7), .val (.long v13), .second, .val (.long v19), .second, .val (.long v27), .second, .val (.long v38), .second, .val (.long v56), .second, .val (.long (f2 v56 (if (v7 &&& (2 : Int32)) = (0 : Int32) then x0_4 else x0_1))), .second, .unset, .unset, .unset, .unset, .unset, .unset, .unset, .unset, .unset, .unset]) rfl ?_
    exact kt
  obtain ⟨v76, hv76⟩ : ∃ z, z = (f2 v56 (if (v7 &&& (2 : Int32)) = (0 : Int32) then x0_4 else x0_1)) := ⟨_, rfl⟩
  rw [← hv76] at sg19
  have hf2 := own_f _ _ _ hs2 hv76
  have sg20 : ∀ t, Steps p.tables e below (T18.setTop (mkF m 86 #[.val (.long x0_0), .second, .val (.long x0_1), .second, .val (.long x0_2), .second, .val (.long x0_3), .second, .val (.long x0_4), .second, .val (.long x0_5), .second, .val (.int v7), .val (.long v13), .second, .val (.long v19), .second, .val (.long v27), .second, .val (.long v38), .second, .val (.long v56), .second, .val (.long v76), .second, .unset, .unset, .unset, .unset, .unset, .unset, .unset, .unset, .unset, .unset] [(.int (v7 &&& (4 : Int32))), (.long v76), (.long v56)])) t → Steps p.tables e below (T18.setTop (mkF m 78 #[.val (.long x0_0), .second, .val (.long x0_1), .second, .val (.long x0_2), .second, .val (.long x0_3), .second, .val (.long x0_4), .second, .val (.long x0_5), .second, .val (.int v7), .val (.long v13), .second, .val (.long v19), .second, .val (.long v27), .second, .val (.long v38), .second, .val (.long v56), .second, .val (.long v76), .second, .unset, .unset, .unset, .unset, .unset, .unset, .unset, .unset, .unset, .unset] [])) t := fun t kt => by
    show Steps p.tables e below (T18.setTop (mkF m 78 #[.val (.long x0_0), .second, .val (.long x0_1), .second, .val (.long x0_2), .second, .val (.long x0_3), .second, .val (.long x0_4), .second, .val (.long x0_5), .second, .val (.int v7), .val (.long v13), .second, .val (.long v19), .second, .val (.long v27), .second, .val (.long v38), .second, .val (.long v56), .second, .val (.long v76), .second, .unset, .unset, .unset, .unset, .unset, .unset, .unset, .unset, .unset, .unset] [])) _
    refine XS.lload X18.here hx rfl (hb hby at_78) rfl ?_
    show Steps p.tables e below (T18.setTop (mkF m 80 #[.val (.long x0_0), .second, .val (.long x0_1), .second, .val (.long x0_2), .second, .val (.long x0_3), .second, .val (.long x0_4), .second, .val (.long x0_5), .second, .val (.int v7), .val (.long v13), .second, .val (.long v19), .second, .val (.long v27), .second, .val (.long v38), .second, .val (.long v56), .second, .val (.long v76), .second, .unset, .unset, .unset, .unset, .unset, .unset, .unset, .unset, .unset, .unset] [(.long v56)])) _
    refine XS.lload X18.here hx rfl (hb hby at_80) rfl ?_
    show Steps p.tables e below (T18.setTop (mkF m 82 #[.val (.long x0_0), .second, .val (.long x0_1), .second, .val (.long x0_2), .second, .val (.long x0_3), .second, .val (.long x0_4), .second, .val (.long x0_5), .second, .val (.int v7), .val (.long v13), .second, .val (.long v19), .second, .val (.long v27), .second, .val (.long v38), .second, .val (.long v56), .second, .val (.long v76), .second, .unset, .unset, .unset, .unset, .unset, .unset, .unset, .unset, .unset, .unset] [(.long v76), (.long v56)])) _
    refine XS.iload X18.here hx rfl (hb hby at_82) rfl ?_
    show Steps p.tables e below (T18.setTop (mkF m 84 #[.val (.long x0_0), .second, .val (.long x0_1), .second, .val (.long x0_2), .second, .val (.long x0_3), .second, .val (.long x0_4), .second, .val (.long x0_5), .second, .val (.int v7), .val (.long v13), .second, .val (.long v19), .second, .val (.long v27), .second, .val (.long v38), .second, .val (.long v56), .second, .val (.long v76), .second, .unset, .unset, .unset, .unset, .unset, .unset, .unset, .unset, .unset, .unset] [(.int v7), (.long v76), (.long v56)])) _
    refine XS.iconst X18.here hx rfl (hb hby at_84) ?_
    show Steps p.tables e below (T18.setTop (mkF m 85 #[.val (.long x0_0), .second, .val (.long x0_1), .second, .val (.long x0_2), .second, .val (.long x0_3), .second, .val (.long x0_4), .second, .val (.long x0_5), .second, .val (.int v7), .val (.long v13), .second, .val (.long v19), .second, .val (.long v27), .second, .val (.long v38), .second, .val (.long v56), .second, .val (.long v76), .second, .unset, .unset, .unset, .unset, .unset, .unset, .unset, .unset, .unset, .unset] [(.int (4 : Int32)), (.int v7), (.long v76), (.long v56)])) _
    refine XS.iand X18.here hx rfl (hb hby at_85) rfl ?_
    exact kt
  have sg21 : ∀ t, Steps p.tables e below (T18.setTop (mkF m 96 #[.val (.long x0_0), .second, .val (.long x0_1), .second, .val (.long x0_2), .second, .val (.long x0_3), .second, .val (.long x0_4), .second, .val (.long x0_5), .second, .val (.int v7), .val (.long v13), .second, .val (.long v19), .second, .val (.long v27), .second, .val (.long v38), .second, .val (.long v56), .second, .val (.long v76), .second, .unset, .unset, .unset, .unset, .unset, .unset, .unset, .unset, .unset, .unset] [(.long (if (v7 &&& (4 : Int32)) = (0 : Int32) then x0_5 else x0_2)), (.long v76), (.long v56)])) t → Steps p.tables e below (T18.setTop (mkF m 86 #[.val (.long x0_0), .second, .val (.long x0_1), .second, .val (.long x0_2), .second, .val (.long x0_3), .second, .val (.long x0_4), .second, .val (.long x0_5), .second, .val (.int v7), .val (.long v13), .second, .val (.long v19), .second, .val (.long v27), .second, .val (.long v38), .second, .val (.long v56), .second, .val (.long v76), .second, .unset, .unset, .unset, .unset, .unset, .unset, .unset, .unset, .unset, .unset] [(.int (v7 &&& (4 : Int32))), (.long v76), (.long v56)])) t := fun t kt => by
    by_cases hm : (v7 &&& (4 : Int32)) = (0 : Int32)
    · rw [if_pos hm] at kt
      show Steps p.tables e below (T18.setTop (mkF m 86 #[.val (.long x0_0), .second, .val (.long x0_1), .second, .val (.long x0_2), .second, .val (.long x0_3), .second, .val (.long x0_4), .second, .val (.long x0_5), .second, .val (.int v7), .val (.long v13), .second, .val (.long v19), .second, .val (.long v27), .second, .val (.long v38), .second, .val (.long v56), .second, .val (.long v76), .second, .unset, .unset, .unset, .unset, .unset, .unset, .unset, .unset, .unset, .unset] [(.int (v7 &&& (4 : Int32))), (.long v76), (.long v56)])) _
      refine XS.ifYes X18.here hx rfl (pc0 := 86) (pc' := 94) rfl (hb hby at_86) rfl ((if0 _ _).trans (teq hm).1) (by decide) (by decide) ?_
      show Steps p.tables e below (T18.setTop (mkF m 94 #[.val (.long x0_0), .second, .val (.long x0_1), .second, .val (.long x0_2), .second, .val (.long x0_3), .second, .val (.long x0_4), .second, .val (.long x0_5), .second, .val (.int v7), .val (.long v13), .second, .val (.long v19), .second, .val (.long v27), .second, .val (.long v38), .second, .val (.long v56), .second, .val (.long v76), .second, .unset, .unset, .unset, .unset, .unset, .unset, .unset, .unset, .unset, .unset] [(.long v76), (.long v56)])) _
      refine XS.lload X18.here hx rfl (hb hby at_94) rfl ?_
      exact kt
    · rw [if_neg hm] at kt
      show Steps p.tables e below (T18.setTop (mkF m 86 #[.val (.long x0_0), .second, .val (.long x0_1), .second, .val (.long x0_2), .second, .val (.long x0_3), .second, .val (.long x0_4), .second, .val (.long x0_5), .second, .val (.int v7), .val (.long v13), .second, .val (.long v19), .second, .val (.long v27), .second, .val (.long v38), .second, .val (.long v56), .second, .val (.long v76), .second, .unset, .unset, .unset, .unset, .unset, .unset, .unset, .unset, .unset, .unset] [(.int (v7 &&& (4 : Int32))), (.long v76), (.long v56)])) _
      refine XS.ifNo X18.here hx rfl (hb hby at_86) rfl ((if0 _ _).trans (feq hm).1) ?_
      show Steps p.tables e below (T18.setTop (mkF m 89 #[.val (.long x0_0), .second, .val (.long x0_1), .second, .val (.long x0_2), .second, .val (.long x0_3), .second, .val (.long x0_4), .second, .val (.long x0_5), .second, .val (.int v7), .val (.long v13), .second, .val (.long v19), .second, .val (.long v27), .second, .val (.long v38), .second, .val (.long v56), .second, .val (.long v76), .second, .unset, .unset, .unset, .unset, .unset, .unset, .unset, .unset, .unset, .unset] [(.long v76), (.long v56)])) _
      refine XS.lload X18.here hx rfl (hb hby at_89) rfl ?_
      show Steps p.tables e below (T18.setTop (mkF m 91 #[.val (.long x0_0), .second, .val (.long x0_1), .second, .val (.long x0_2), .second, .val (.long x0_3), .second, .val (.long x0_4), .second, .val (.long x0_5), .second, .val (.int v7), .val (.long v13), .second, .val (.long v19), .second, .val (.long v27), .second, .val (.long v38), .second, .val (.long v56), .second, .val (.long v76), .second, .unset, .unset, .unset, .unset, .unset, .unset, .unset, .unset, .unset, .unset] [(.long x0_2), (.long v76), (.long v56)])) _
      refine XS.goto X18.here hx rfl (pc0 := 91) (pc' := 96) rfl (hb hby at_91) (by decide) (by decide) ?_
      exact kt
  obtain ⟨rv22, _, ⟨T22, L22, k22, n22⟩, -, X22, ⟨Lc22, hQ22, l22, y22, z22⟩, st22⟩ := Jvm.LawKit.callS X18 hx (y := (⟨"com/example/libdmutex/libdmutex/core/RangeEqualsPinLaw", "toOf", "(JJJ)J"⟩ : MethodName)) hown (mvT hZ (hw _ (List.mem_of_getElem? (i := 10) rfl))) (mvT hZ (hw _ (List.mem_of_getElem? (i := 11) rfl))) (mvT hZ (hw _ (List.mem_of_getElem? (i := 3) rfl))) (mvT hZ (hw _ (List.mem_of_getElem? (i := 12) rfl))) (by decide) (backOf (W := 0) (rm3 l Z a0 hw [] v56 v76 (if (v7 &&& (4 : Int32)) = (0 : Int32) then x0_5 else x0_2) h0 n0 Z0 (own_nz2 _ _ hs2 hf2)) hZ (hw _ (List.mem_of_getElem? (i := 12) rfl)) (hw _ (List.mem_of_getElem? (i := 3) rfl)) (by decide) (by decide)) (g := (mkF m 96 #[.val (.long x0_0), .second, .val (.long x0_1), .second, .val (.long x0_2), .second, .val (.long x0_3), .second, .val (.long x0_4), .second, .val (.long x0_5), .second, .val (.int v7), .val (.long v13), .second, .val (.long v19), .second, .val (.long v27), .second, .val (.long v38), .second, .val (.long v56), .second, .val (.long v76), .second, .unset, .unset, .unset, .unset, .unset, .unset, .unset, .unset, .unset, .unset] [(.long (if (v7 &&& (4 : Int32)) = (0 : Int32) then x0_5 else x0_2)), (.long v76), (.long v56)])) rfl (by rw [hml]; rfl) (argsL := [(.long v56), (.long v76), (.long (if (v7 &&& (4 : Int32)) = (0 : Int32) then x0_5 else x0_2))]) (rest := []) (lenOf pd_4 rfl) rfl (by show 2 * 0 + _ ≤ _; exact Nat.le_of_eq rfl) (hb hby at_96) (fun _ _ => ⟨rfl, e18, (by decide : 0 + 0 ≤ _), (by decide : 0 + 0 ≤ _)⟩)
  dsimp only [Pt.U, Pt.locs, Pt.cells, Pt.slots] at X22 l22 y22 z22 st22 hQ22
  subst l22 y22 z22
  obtain ⟨hv22, N22q, e22⟩ := hQ22
  have N22 := Fr.app N18 N22q
  subst hv22
  have sg23 : ∀ t, Steps p.tables e below (T22.setTop (mkF m 101 #[.val (.long x0_0), .second, .val (.long x0_1), .second, .val (.long x0_2), .second, .val (.long x0_3), .second, .val (.long x0_4), .second, .val (.long x0_5), .second, .val (.int v7), .val (.long v13), .second, .val (.long v19), .second, .val (.long v27), .second, .val (.long v38), .second, .val (.long v56), .second, .val (.long v76), .second, .val (.long (f3 v56 v76 (if (v7 &&& (4 : Int32)) = (0 : Int32) then x0_5 else x0_2))), .second, .unset, .unset, .unset, .unset, .unset, .unset, .unset, .unset] [])) t → Steps p.tables e below (T18.setTop (mkF m 96 #[.val (.long x0_0), .second, .val (.long x0_1), .second, .val (.long x0_2), .second, .val (.long x0_3), .second, .val (.long x0_4), .second, .val (.long x0_5), .second, .val (.int v7), .val (.long v13), .second, .val (.long v19), .second, .val (.long v27), .second, .val (.long v38), .second, .val (.long v56), .second, .val (.long v76), .second, .unset, .unset, .unset, .unset, .unset, .unset, .unset, .unset, .unset, .unset] [(.long (if (v7 &&& (4 : Int32)) = (0 : Int32) then x0_5 else x0_2)), (.long v76), (.long v56)])) t := fun t kt => by
    show Steps p.tables e below (T18.setTop (mkF m 96 #[.val (.long x0_0), .second, .val (.long x0_1), .second, .val (.long x0_2), .second, .val (.long x0_3), .second, .val (.long x0_4), .second, .val (.long x0_5), .second, .val (.int v7), .val (.long v13), .second, .val (.long v19), .second, .val (.long v27), .second, .val (.long v38), .second, .val (.long v56), .second, .val (.long v76), .second, .unset, .unset, .unset, .unset, .unset, .unset, .unset, .unset, .unset, .unset] [(.long (if (v7 &&& (4 : Int32)) = (0 : Int32) then x0_5 else x0_2)), (.long v76), (.long v56)])) _
    refine st22 _ ?_
    show Steps p.tables e below (T22.setTop (mkF m 99 #[.val (.long x0_0), .second, .val (.long x0_1), .second, .val (.long x0_2), .second, .val (.long x0_3), .second, .val (.long x0_4), .second, .val (.long x0_5), .second, .val (.int v7), .val (.long v13), .second, .val (.long v19), .second, .val (.long v27), .second, .val (.long v38), .second, .val (.long v56), .second, .val (.long v76), .second, .unset, .unset, .unset, .unset, .unset, .unset, .unset, .unset, .unset, .unset] [(.long (f3 v56 v76 (if (v7 &&& (4 : Int32)) = (0 : Int32) then x0_5 else x0_2)))])) _
    refine XS.lstore X22.here hx rfl (hb hby at_99) rfl (l' := #[.val (.long x0_0), .second, .val (.long x0_1), .second, .val (.long x0_2), .second, .val (.long x0_3), .second, .val (.long x0_4), .second, .val (.long x0_5), .second, .val (.int v7), .val (.long v13), .second, .val (.long v19), .second, .val (.long v27), .second, .val (.long v38), .second, .val (.long v56), .second, .val (.long v76), .second, .val (.long (f3 v56 v76 (if (v7 &&& (4 : Int32)) = (0 : Int32) then x0_5 else x0_2))), .second, .unset, .unset, .unset, .unset, .unset, .unset, .unset, .unset]) rfl ?_
    exact kt
  obtain ⟨v99, hv99⟩ : ∃ z, z = (f3 v56 v76 (if (v7 &&& (4 : Int32)) = (0 : Int32) then x0_5 else x0_2)) := ⟨_, rfl⟩
  rw [← hv99] at sg23
  have ht2 := own_t _ _ _ _ hs2 hf2 hv99
  obtain ⟨T24, h24, X24, e24, E24, A24, D24, -, st24⟩ := newO X22 hx hZ hown (hw _ (List.mem_of_getElem? (i := 13) rfl)) (hw _ (List.mem_of_getElem? (i := 14) rfl)) (hw _ (List.mem_of_getElem? (i := 15) rfl)) e22 (g := (mkF m 101 #[.val (.long x0_0), .second, .val (.long x0_1), .second, .val (.long x0_2), .second, .val (.long x0_3), .second, .val (.long x0_4), .second, .val (.long x0_5), .second, .val (.int v7), .val (.long v13), .second, .val (.long v19), .second, .val (.long v27), .second, .val (.long v38), .second, .val (.long v56), .second, .val (.long v76), .second, .val (.long v99), .second, .unset, .unset, .unset, .unset, .unset, .unset, .unset, .unset] [])) rfl (hb hby at_101) (by decide) (by decide)
  obtain ⟨b24, g24⟩ : ∃ z, z = h0.size := ⟨_, rfl⟩
  rw [← g24] at A24 D24 st24
  have g_b24 : n0 ≤ b24 := Nat.le_trans Z0 (Nat.le_of_eq g24.symm)
  have Zs24 : n0 ≤ h24.size := Nat.le_trans Z0 E24.1
  have Ol24 : Old Z n0 h24 := (O0).ext E24
  have F_size_b24 : Fld Z h24 b24 "com/example/libdmutex/libdmutex/core/Range" "size" "I" (.int (0 : Int32)) := D24 (Or.inr (hw _ (List.mem_of_getElem? (i := 24) rfl))) (ty := .int) (by decide)
  have F_from_b24 : Fld Z h24 b24 "com/example/libdmutex/libdmutex/core/Range" "from" "I" (.int (0 : Int32)) := D24 (Or.inr (hw _ (List.mem_of_getElem? (i := 26) rfl))) (ty := .int) (by decide)
  have F_to_b24 : Fld Z h24 b24 "com/example/libdmutex/libdmutex/core/Range" "to" "I" (.int (0 : Int32)) := D24 (Or.inr (hw _ (List.mem_of_getElem? (i := 28) rfl))) (ty := .int) (by decide)
  have sg26 : ∀ t, Steps p.tables e below (T24.setTop (mkF m 111 #[.val (.long x0_0), .second, .val (.long x0_1), .second, .val (.long x0_2), .second, .val (.long x0_3), .second, .val (.long x0_4), .second, .val (.long x0_5), .second, .val (.int v7), .val (.long v13), .second, .val (.long v19), .second, .val (.long v27), .second, .val (.long v38), .second, .val (.long v56), .second, .val (.long v76), .second, .val (.long v99), .second, .unset, .unset, .unset, .unset, .unset, .unset, .unset, .unset] [(.long v38), (.long v27), (.long v19), (.ref b24), (.ref b24)])) t → Steps p.tables e below (T22.setTop (mkF m 101 #[.val (.long x0_0), .second, .val (.long x0_1), .second, .val (.long x0_2), .second, .val (.long x0_3), .second, .val (.long x0_4), .second, .val (.long x0_5), .second, .val (.int v7), .val (.long v13), .second, .val (.long v19), .second, .val (.long v27), .second, .val (.long v38), .second, .val (.long v56), .second, .val (.long v76), .second, .val (.long v99), .second, .unset, .unset, .unset, .unset, .unset, .unset, .unset, .unset] [])) t := fun t kt => by
    show Steps p.tables e below (T22.setTop (mkF m 101 #[.val (.long x0_0), .second, .val (.long x0_1), .second, .val (.long x0_2), .second, .val (.long x0_3), .second, .val (.long x0_4), .second, .val (.long x0_5), .second, .val (.int v7), .val (.long v13), .second, .val (.long v19), .second, .val (.long v27), .second, .val (.long v38), .second, .val (.long v56), .second, .val (.long v76), .second, .val (.long v99), .second, .unset, .unset, .unset, .unset, .unset, .unset, .unset, .unset] [])) _
    refine st24 _ ?_
    show Steps p.tables e below (T24.setTop (mkF m 104 #[.val (.long x0_0), .second, .val (.long x0_1), .second, .val (.long x0_2), .second, .val (.long x0_3), .second, .val (.long x0_4), .second, .val (.long x0_5), .second, .val (.int v7), .val (.long v13), .second, .val (.long v19), .second, .val (.long v27), .second, .val (.long v38), .second, .val (.long v56), .second, .val (.long v76), .second, .val (.long v99), .second, .unset, .unset, .unset, .unset, .unset, .unset, .unset, .unset] [(.ref b24)])) _
    refine XS.dup X24.here hx rfl (hb hby at_104) rfl rfl ?_
    show Steps p.tables e below (T24.setTop (mkF m 105 #[.val (.long x0_0), .second, .val (.long x0_1), .second, .val (.long x0_2), .second, .val (.long x0_3), .second, .val (.long x0_4), .second, .val (.long x0_5), .second, .val (.int v7), .val (.long v13), .second, .val (.long v19), .second, .val (.long v27), .second, .val (.long v38), .second, .val (.long v56), .second, .val (.long v76), .second, .val (.long v99), .second, .unset, .unset, .unset, .unset, .unset, .unset, .unset, .unset] [(.ref b24), (.ref b24)])) _
    refine XS.lload X24.here hx rfl (hb hby at_105) rfl ?_
    show Steps p.tables e below (T24.setTop (mkF m 107 #[.val (.long x0_0), .second, .val (.long x0_1), .second, .val (.long x0_2), .second, .val (.long x0_3), .second, .val (.long x0_4), .second, .val (.long x0_5), .second, .val (.int v7), .val (.long v13), .second, .val (.long v19), .second, .val (.long v27), .second, .val (.long v38), .second, .val (.long v56), .second, .val (.long v76), .second, .val (.long v99), .second, .unset, .unset, .unset, .unset, .unset, .unset, .unset, .unset] [(.long v19), (.ref b24), (.ref b24)])) _
    refine XS.lload X24.here hx rfl (hb hby at_107) rfl ?_
    show Steps p.tables e below (T24.setTop (mkF m 109 #[.val (.long x0_0), .second, .val (.long x0_1), .second, .val (.long x0_2), .second, .val (.long x0_3), .second, .val (.long x0_4), .second, .val (.long x0_5), .second, .val (.int v7), .val (.long v13), .second, .val (.long v19), .second, .val (.long v27), .second, .val (.long v38), .second, .val (.long v56), .second, .val (.long v76), .second, .val (.long v99), .second, .unset, .unset, .unset, .unset, .unset, .unset, .unset, .unset] [(.long v27), (.long v19), (.ref b24), (.ref b24)])) _
    refine XS.lload X24.here hx rfl (hb hby at_109) rfl ?_
    exact kt
  obtain ⟨rv25, _, ⟨T25, L25, k25, n25⟩, -, X25, ⟨Lc25, hQ25, l25, y25, z25⟩, st25⟩ := X24.specialBack hx (y := (⟨"com/example/libdmutex/libdmutex/core/Range", "<init>", "(JJJ)V"⟩ : MethodName)) rfl hown (mvT hZ (hw _ (List.mem_of_getElem? (i := 16) rfl))) (mvT hZ (hw _ (List.mem_of_getElem? (i := 17) rfl))) (mvT hZ (hw _ (List.mem_of_getElem? (i := 18) rfl))) (by decide) (backOf (W := 1) (rm4 l Z a0 hw [] b24 v19 v27 v38 h24 n0 Zs24 A24 g_b24 F_size_b24 F_from_b24 F_to_b24 (own_c _ _ _ hs1 hf1 ht1).1 (own_c _ _ _ hs1 hf1 ht1).2.1 (own_c _ _ _ hs1 hf1 ht1).2.2.1 (own_c _ _ _ hs1 hf1 ht1).2.2.2.1 (own_c _ _ _ hs1 hf1 ht1).2.2.2.2) hZ (hw _ (List.mem_of_getElem? (i := 18) rfl)) (hw _ (List.mem_of_getElem? (i := 15) rfl)) (by decide) (by decide)) (g := (mkF m 111 #[.val (.long x0_0), .second, .val (.long x0_1), .second, .val (.long x0_2), .second, .val (.long x0_3), .second, .val (.long x0_4), .second, .val (.long x0_5), .second, .val (.int v7), .val (.long v13), .second, .val (.long v19), .second, .val (.long v27), .second, .val (.long v38), .second, .val (.long v56), .second, .val (.long v76), .second, .val (.long v99), .second, .unset, .unset, .unset, .unset, .unset, .unset, .unset, .unset] [(.long v38), (.long v27), (.long v19), (.ref b24), (.ref b24)])) rfl (by rw [hml]; rfl) (Steps.refl _) (a := b24) (argsL := [(.long v19), (.long v27), (.long v38)]) (rest := [(.ref b24)]) (lenOf pd_5 rfl) rfl (by show 2 * 0 + _ ≤ _; exact Nat.le_of_eq rfl) (hb hby at_111) (fun _ _ => ⟨rfl, e24, (by decide : 1 + 0 ≤ _), (by decide : 3 + 0 ≤ _)⟩)
  dsimp only [Pt.U, Pt.locs, Pt.cells, Pt.slots] at X25 l25 y25 z25 st25 hQ25
  subst l25 y25 z25
  obtain ⟨rfl, N25q, K25, Ex25, Fq25_size, Fq25_from, Fq25_to⟩ := hQ25
  have N25 := Fr.app N22 N25q
  have Zs25 : n0 ≤ T25.heap.size := Nat.le_trans Zs24 K25.1
  have Ol25 : Old Z n0 T25.heap := (Ol24).keep K25 (allS g_b24 all0)
  obtain ⟨T27, h27, X27, e27, E27, A27, D27, -, st27⟩ := newO X25 hx hZ hown (hw _ (List.mem_of_getElem? (i := 13) rfl)) (hw _ (List.mem_of_getElem? (i := 14) rfl)) (hw _ (List.mem_of_getElem? (i := 15) rfl)) rfl (g := (mkF m 116 #[.val (.long x0_0), .second, .val (.long x0_1), .second, .val (.long x0_2), .second, .val (.long x0_3), .second, .val (.long x0_4), .second, .val (.long x0_5), .second, .val (.int v7), .val (.long v13), .second, .val (.long v19), .second, .val (.long v27), .second, .val (.long v38), .second, .val (.long v56), .second, .val (.long v76), .second, .val (.long v99), .second, .val (.ref b24), .unset, .unset, .unset, .unset, .unset, .unset, .unset] [])) rfl (hb hby at_116) (by decide) (by decide)
  obtain ⟨b27, g27⟩ : ∃ z, z = T25.heap.size := ⟨_, rfl⟩
  rw [← g27] at A27 D27 st27
  have g_b27 : n0 ≤ b27 := Nat.le_trans Zs25 (Nat.le_of_eq g27.symm)
  have ne_b24_b27 : b24 ≠ b27 := Nat.ne_of_lt (Nat.lt_of_lt_of_le Ex25.lt (Nat.le_of_eq g27.symm))
  have Zs27 : n0 ≤ h27.size := Nat.le_trans Zs25 E27.1
  have Ol27 : Old Z n0 h27 := (Ol25).ext E27
  have F_size_b27 : Fld Z h27 b27 "com/example/libdmutex/libdmutex/core/Range" "size" "I" (.int (0 : Int32)) := D27 (Or.inr (hw _ (List.mem_of_getElem? (i := 24) rfl))) (ty := .int) (by decide)
  have F_from_b27 : Fld Z h27 b27 "com/example/libdmutex/libdmutex/core/Range" "from" "I" (.int (0 : Int32)) := D27 (Or.inr (hw _ (List.mem_of_getElem? (i := 26) rfl))) (ty := .int) (by decide)
  have F_to_b27 : Fld Z h27 b27 "com/example/libdmutex/libdmutex/core/Range" "to" "I" (.int (0 : Int32)) := D27 (Or.inr (hw _ (List.mem_of_getElem? (i := 28) rfl))) (ty := .int) (by decide)
  have sg29 : ∀ t, Steps p.tables e below (T27.setTop (mkF m 126 #[.val (.long x0_0), .second, .val (.long x0_1), .second, .val (.long x0_2), .second, .val (.long x0_3), .second, .val (.long x0_4), .second, .val (.long x0_5), .second, .val (.int v7), .val (.long v13), .second, .val (.long v19), .second, .val (.long v27), .second, .val (.long v38), .second, .val (.long v56), .second, .val (.long v76), .second, .val (.long v99), .second, .val (.ref b24), .unset, .unset, .unset, .unset, .unset, .unset, .unset] [(.long v99), (.long v76), (.long v56), (.ref b27), (.ref b27)])) t → Steps p.tables e below (T24.setTop (mkF m 111 #[.val (.long x0_0), .second, .val (.long x0_1), .second, .val (.long x0_2), .second, .val (.long x0_3), .second, .val (.long x0_4), .second, .val (.long x0_5), .second, .val (.int v7), .val (.long v13), .second, .val (.long v19), .second, .val (.long v27), .second, .val (.long v38), .second, .val (.long v56), .second, .val (.long v76), .second, .val (.long v99), .second, .unset, .unset, .unset, .unset, .unset, .unset, .unset, .unset] [(.long v38), (.long v27), (.long v19), (.ref b24), (.ref b24)])) t := fun t kt => by
    show Steps p.tables e below (T24.setTop (mkF m 111 #[.val (.long x0_0), .second, .val (.long x0_1), .second, .val (.long x0_2), .second, .val (.long x0_3), .second, .val (.long x0_4), .second, .val (.long x0_5), .second, .val (.int v7), .val (.long v13), .second, .val (.long v19), .second, .val (.long v27), .second, .val (.long v38), .second, .val (.long v56), .second, .val (.long v76), .second, .val (.long v99), .second, .unset, .unset, .unset, .unset, .unset, .unset, .unset, .unset] [(.long v38), (.long v27), (.long v19), (.ref b24), (.ref b24)])) _
    refine st25.trans ?_
    show Steps p.tables e below (T25.setTop (mkF m 114 #[.val (.long x0_0), .second, .val (.long x0_1), .second, .val (.long x0_2), .second, .val (.long x0_3), .second, .val (.long x0_4), .second, .val (.long x0_5), .second, .val (.int v7), .val (.long v13), .second, .val (.long v19), .second, .val (.long v27), .second, .val (.long v38), .second, .val (.long v56), .second, .val (.long v76), .second, .val (.long v99), .second, .unset, .unset, .unset, .unset, .unset, .unset, .unset, .unset] [(.ref b24)])) _
    refine XS.astore X25.here hx rfl (hb hby at_114) rfl rfl (l' := #[.val (.long x0_0), .second, .val (.long x0_1), .second, .val (.long x0_2), .second, .val (.long x0_3), .second, .val (.long x0_4), .second, .val (.long x0_5), .second, .val (.int v7), .val (.long v13), .second, .val (.long v19), .second, .val (.long v27), .second, .val (.long v38), .second, .val (.long v56), .second, .val (.long v76), .second, .val (.long v99), .second, .val (.ref b24), .unset, .unset, .unset, .unset, .unset, .unset, .unset]) rfl ?_
    show Steps p.tables e below (T25.setTop (mkF m 116 #[.val (.long x0_0), .second, .val (.long x0_1), .second, .val (.long x0_2), .second, .val (.long x0_3), .second, .val (.long x0_4), .second, .val (.long x0_5), .second, .val (.int v7), .val (.long v13), .second, .val (.long v19), .second, .val (.long v27), .second, .val (.long v38), .second, .val (.long v56), .second, .val (.long v76), .second, .val (.long v99), .second, .val (.ref b24), .unset, .unset, .unset, .unset, .unset, .unset, .unset] [])) _
    refine st27 _ ?_
    show Steps p.tables e below (T27.setTop (mkF m 119 #[.val (.long x0_0), .second, .val (.long x0_1), .second, .val (.long x0_2), .second, .val (.long x0_3), .second, .val (.long x0_4), .second, .val (.long x0_5), .second, .val (.int v7), .val (.long v13), .second, .val (.long v19), .second, .val (.long v27), .second, .val (.long v38), .second, .val (.long v56), .second, .val (.long v76), .second, .val (.long v99), .second, .val (.ref b24), .unset, .unset, .unset, .unset, .unset, .unset, .unset] [(.ref b27)])) _
    refine XS.dup X27.here hx rfl (hb hby at_119) rfl rfl ?_
    show Steps p.tables e below (T27.setTop (mkF m 120 #[.val (.long x0_0), .second, .val (.long x0_1), .second, .val (.long x0_2), .second, .val (.long x0_3), .second, .val (.long x0_4), .second, .val (.long x0_5), .second, .val (.int v7), .val (.long v13), .second, .val (.long v19), .second, .val (.long v27), .second, .val (.long v38), .second, .val (.long v56), .second, .val (.long v76), .second, .val (.long v99), .second, .val (.ref b24), .unset, .unset, .unset, .unset, .unset, .unset, .unset] [(.ref b27), (.ref b27)])) _
    refine XS.lload X27.here hx rfl (hb hby at_120) rfl ?_
    show Steps p.tables e below (T27.setTop (mkF m 122 #[.val (.long x0_0), .second, .val (.long x0_1), .second, .val (.long x0_2), .second, .val (.long x0_3), .second, .val (.long x0_4), .second, .val (.long x0_5), .second, .val (.int v7), .val (.long v13), .second, .val (.long v19), .second, .val (.long v27), .second, .val (.long v38), .second, .val (.long v56), .second, .val (.long v76), .second, .val (.long v99), .second, .val (.ref b24), .unset, .unset, .unset, .unset, .unset, .unset, .unset] [(.long v56), (.ref b27), (.ref b27)])) _
    refine XS.lload X27.here hx rfl (hb hby at_122) rfl ?_
    show Steps p.tables e below (T27.setTop (mkF m 124 #[.val (.long x0_0), .second, .val (.long x0_1), .second, .val (.long x0_2), .second, .val (.long x0_3), .second, .val (.long x0_4), .second, .val (.long x0_5), .second, .val (.int v7), .val (.long v13), .second, .val (.long v19), .second, .val (.long v27), .second, .val (.long v38), .second, .val (.long v56), .second, .val (.long v76), .second, .val (.long v99), .second, .val (.ref b24), .unset, .unset, .unset, .unset, .unset, .unset, .unset] [(.long v76), (.long v56), (.ref b27), (.ref b27)])) _
    refine XS.lload X27.here hx rfl (hb hby at_124) rfl ?_
    exact kt
  obtain ⟨rv28, _, ⟨T28, L28, k28, n28⟩, -, X28, ⟨Lc28, hQ28, l28, y28, z28⟩, st28⟩ := X27.specialBack hx (y := (⟨"com/example/libdmutex/libdmutex/core/Range", "<init>", "(JJJ)V"⟩ : MethodName)) rfl hown (mvT hZ (hw _ (List.mem_of_getElem? (i := 16) rfl))) (mvT hZ (hw _ (List.mem_of_getElem? (i := 17) rfl))) (mvT hZ (hw _ (List.mem_of_getElem? (i := 18) rfl))) (by decide) (backOf (W := 1) (rm4 l Z a0 hw [] b27 v56 v76 v99 h27 n0 Zs27 A27 g_b27 F_size_b27 F_from_b27 F_to_b27 (own_c _ _ _ hs2 hf2 ht2).1 (own_c _ _ _ hs2 hf2 ht2).2.1 (own_c _ _ _ hs2 hf2 ht2).2.2.1 (own_c _ _ _ hs2 hf2 ht2).2.2.2.1 (own_c _ _ _ hs2 hf2 ht2).2.2.2.2) hZ (hw _ (List.mem_of_getElem? (i := 18) rfl)) (hw _ (List.mem_of_getElem? (i := 15) rfl)) (by decide) (by decide)) (g := (mkF m 126 #[.val (.long x0_0), .second, .val (.long x0_1), .second, .val (.long x0_2), .second, .val (.long x0_3), .second, .val (.long x0_4), .second, .val (.long x0_5), .second, .val (.int v7), .val (.long v13), .second, .val (.long v19), .second, .val (.long v27), .second, .val (.long v38), .second, .val (.long v56), .second, .val (.long v76), .second, .val (.long v99), .second, .val (.ref b24), .unset, .unset, .unset, .unset, .unset, .unset, .unset] [(.long v99), (.long v76), (.long v56), (.ref b27), (.ref b27)])) rfl (by rw [hml]; rfl) (Steps.refl _) (a := b27) (argsL := [(.long v56), (.long v76), (.long v99)]) (rest := [(.ref b27)]) (lenOf pd_5 rfl) rfl (by show 2 * 0 + _ ≤ _; exact Nat.le_of_eq rfl) (hb hby at_126) (fun _ _ => ⟨rfl, e27, (by decide : 2 + 0 ≤ _), (by decide : 6 + 0 ≤ _)⟩)
  dsimp only [Pt.U, Pt.locs, Pt.cells, Pt.slots] at X28 l28 y28 z28 st28 hQ28
  subst l28 y28 z28
  obtain ⟨rfl, N28q, K28, Ex28, Fq28_size, Fq28_from, Fq28_to⟩ := hQ28
  have N28 := Fr.app N25 N28q
  have Zs28 : n0 ≤ T28.heap.size := Nat.le_trans Zs27 K28.1
  have Ol28 : Old Z n0 T28.heap := (Ol27).keep K28 (allS g_b27 all0)
  have sg30 : ∀ t, Steps p.tables e below (T28.setTop (mkF m 136 #[.val (.long x0_0), .second, .val (.long x0_1), .second, .val (.long x0_2), .second, .val (.long x0_3), .second, .val (.long x0_4), .second, .val (.long x0_5), .second, .val (.int v7), .val (.long v13), .second, .val (.long v19), .second, .val (.long v27), .second, .val (.long v38), .second, .val (.long v56), .second, .val (.long v76), .second, .val (.long v99), .second, .val (.ref b24), .val (.ref b27), .unset, .unset, .unset, .unset, .unset, .unset] [(.int (lcmpW v19 v56))])) t → Steps p.tables e below (T27.setTop (mkF m 126 #[.val (.long x0_0), .second, .val (.long x0_1), .second, .val (.long x0_2), .second, .val (.long x0_3), .second, .val (.long x0_4), .second, .val (.long x0_5), .second, .val (.int v7), .val (.long v13), .second, .val (.long v19), .second, .val (.long v27), .second, .val (.long v38), .second, .val (.long v56), .second, .val (.long v76), .second, .val (.long v99), .second, .val (.ref b24), .unset, .unset, .unset, .unset, .unset, .unset, .unset] [(.long v99), (.long v76), (.long v56), (.ref b27), (.ref b27)])) t := fun t kt => by
    show Steps p.tables e below (T27.setTop (mkF m 126 #[.val (.long x0_0), .second, .val (.long x0_1), .second, .val (.long x0_2), .second, .val (.long x0_3), .second, .val (.long x0_4), .second, .val (.long x0_5), .second, .val (.int v7), .val (.long v13), .second, .val (.long v19), .second, .val (.long v27), .second, .val (.long v38), .second, .val (.long v56), .second, .val (.long v76), .second, .val (.long v99), .second, .val (.ref b24), .unset, .unset, .unset, .unset, .unset, .unset, .unset] [(.long v99), (.long v76), (.long v56), (.ref b27), (.ref b27)])) _
    refine st28.trans ?_
    show Steps p.tables e below (T28.setTop (mkF m 129 #[.val (.long x0_0), .second, .val (.long x0_1), .second, .val (.long x0_2), .second, .val (.long x0_3), .second, .val (.long x0_4), .second, .val (.long x0_5), .second, .val (.int v7), .val (.long v13), .second, .val (.long v19), .second, .val (.long v27), .second, .val (.long v38), .second, .val (.long v56), .second, .val (.long v76), .second, .val (.long v99), .second, .val (.ref b24), .unset, .unset, .unset, .unset, .unset, .unset, .unset] [(.ref b27)])) _
    refine XS.astore X28.here hx rfl (hb hby at_129) rfl rfl (l' := #[.val (.long x0_0), .second, .val (.long x0_1), .second, .val (.long x0_2), .second, .val (.long x0_3), .second, .val (.long x0_4), .second, .val (.long x0_5), .second, .val (.int v7), .val (.long v13), .second, .val (.long v19), .second, .val (.long v27), .second, .val (.long v38), .second, .val (.long v56), .second, .val (.long v76), .second, .val (.long v99), .second, .val (.ref b24), .val (.ref b27), .unset, .unset, .unset, .unset, .unset, .unset]) rfl ?_
    show Steps p.tables e below (T28.setTop (mkF m 131 #[.val (.long x0_0), .second, .val (.long x0_1), .second, .val (.long x0_2), .second, .val (.long x0_3), .second, .val (.long x0_4), .second, .val (.long x0_5), .second, .val (.int v7), .val (.long v13), .second, .val (.long v19), .second, .val (.long v27), .second, .val (.long v38), .second, .val (.long v56), .second, .val (.long v76), .second, .val (.long v99), .second, .val (.ref b24), .val (.ref b27), .unset, .unset, .unset, .unset, .unset, .unset] [])) _
    refine XS.lload X28.here hx rfl (hb hby at_131) rfl ?_
    show Steps p.tables e below (T28.setTop (mkF m 133 #[.val (.long x0_0), .second, .val (.long x0_1), .second, .val (.long x0_2), .second, .val (.long x0_3), .second, .val (.long x0_4), .second, .val (.long x0_5), .second, .val (.int v7), .val (.long v13), .second, .val (.long v19), .second, .val (.long v27), .second, .val (.long v38), .second, .val (.long v56), .second, .val (.long v76), .second, .val (.long v99), .second, .val (.ref b24), .val (.ref b27), .unset, .unset, .unset, .unset, .unset, .unset] [(.long v19)])) _
    refine XS.lload X28.here hx rfl (hb hby at_133) rfl ?_
    show Steps p.tables e below (T28.setTop (mkF m 135 #[.val (.long x0_0), .second, .val (.long x0_1), .second, .val (.long x0_2), .second, .val (.long x0_3), .second, .val (.long x0_4), .second, .val (.long x0_5), .second, .val (.int v7), .val (.long v13), .second, .val (.long v19), .second, .val (.long v27), .second, .val (.long v38), .second, .val (.long v56), .second, .val (.long v76), .second, .val (.long v99), .second, .val (.ref b24), .val (.ref b27), .unset, .unset, .unset, .unset, .unset, .unset] [(.long v56), (.long v19)])) _
    refine XS.lcmp X28.here hx rfl (hb hby at_135) rfl ?_
    exact kt
  by_cases hc136_31 : v19 = v56
  · have sg32 : ∀ t, Steps p.tables e below (T28.setTop (mkF m 144 #[.val (.long x0_0), .second, .val (.long x0_1), .second, .val (.long x0_2), .second, .val (.long x0_3), .second, .val (.long x0_4), .second, .val (.long x0_5), .second, .val (.int v7), .val (.long v13), .second, .val (.long v19), .second, .val (.long v27), .second, .val (.long v38), .second, .val (.long v56), .second, .val (.long v76), .second, .val (.long v99), .second, .val (.ref b24), .val (.ref b27), .unset, .unset, .unset, .unset, .unset, .unset] [(.int (lcmpW v27 v76))])) t → Steps p.tables e below (T28.setTop (mkF m 136 #[.val (.long x0_0), .second, .val (.long x0_1), .second, .val (.long x0_2), .second, .val (.long x0_3), .second, .val (.long x0_4), .second, .val (.long x0_5), .second, .val (.int v7), .val (.long v13), .second, .val (.long v19), .second, .val (.long v27), .second, .val (.long v38), .second, .val (.long v56), .second, .val (.long v76), .second, .val (.long v99), .second, .val (.ref b24), .val (.ref b27), .unset, .unset, .unset, .unset, .unset, .unset] [(.int (lcmpW v19 v56))])) t := fun t kt => by
      show Steps p.tables e below (T28.setTop (mkF m 136 #[.val (.long x0_0), .second, .val (.long x0_1), .second, .val (.long x0_2), .second, .val (.long x0_3), .second, .val (.long x0_4), .second, .val (.long x0_5), .second, .val (.int v7), .val (.long v13), .second, .val (.long v19), .second, .val (.long v27), .second, .val (.long v38), .second, .val (.long v56), .second, .val (.long v76), .second, .val (.long v99), .second, .val (.ref b24), .val (.ref b27), .unset, .unset, .unset, .unset, .unset, .unset] [(.int (lcmpW v19 v56))])) _
      refine XS.ifNo X28.here hx rfl (hb hby at_136) rfl ((if0 _ _).trans (teq ((lw_eq _ _).mpr hc136_31)).2) ?_
      show Steps p.tables e below (T28.setTop (mkF m 139 #[.val (.long x0_0), .second, .val (.long x0_1), .second, .val (.long x0_2), .second, .val (.long x0_3), .second, .val (.long x0_4), .second, .val (.long x0_5), .second, .val (.int v7), .val (.long v13), .second, .val (.long v19), .second, .val (.long v27), .second, .val (.long v38), .second, .val (.long v56), .second, .val (.long v76), .second, .val (.long v99), .second, .val (.ref b24), .val (.ref b27), .unset, .unset, .unset, .unset, .unset, .unset] [])) _
      refine XS.lload X28.here hx rfl (hb hby at_139) rfl ?_
      show Steps p.tables e below (T28.setTop (mkF m 141 #[.val (.long x0_0), .second, .val (.long x0_1), .second, .val (.long x0_2), .second, .val (.long x0_3), .second, .val (.long x0_4), .second, .val (.long x0_5), .second, .val (.int v7), .val (.long v13), .second, .val (.long v19), .second, .val (.long v27), .second, .val (.long v38), .second, .val (.long v56), .second, .val (.long v76), .second, .val (.long v99), .second, .val (.ref b24), .val (.ref b27), .unset, .unset, .unset, .unset, .unset, .unset] [(.long v27)])) _
      refine XS.lload X28.here hx rfl (hb hby at_141) rfl ?_
      show Steps p.tables e below (T28.setTop (mkF m 143 #[.val (.long x0_0), .second, .val (.long x0_1), .second, .val (.long x0_2), .second, .val (.long x0_3), .second, .val (.long x0_4), .second, .val (.long x0_5), .second, .val (.int v7), .val (.long v13), .second, .val (.long v19), .second, .val (.long v27), .second, .val (.long v38), .second, .val (.long v56), .second, .val (.long v76), .second, .val (.long v99), .second, .val (.ref b24), .val (.ref b27), .unset, .unset, .unset, .unset, .unset, .unset] [(.long v76), (.long v27)])) _
      refine XS.lcmp X28.here hx rfl (hb hby at_143) rfl ?_
      exact kt
    by_cases hc144_33 : v27 = v76
    · have sg34 : ∀ t, Steps p.tables e below (T28.setTop (mkF m 152 #[.val (.long x0_0), .second, .val (.long x0_1), .second, .val (.long x0_2), .second, .val (.long x0_3), .second, .val (.long x0_4), .second, .val (.long x0_5), .second, .val (.int v7), .val (.long v13), .second, .val (.long v19), .second, .val (.long v27), .second, .val (.long v38), .second, .val (.long v56), .second, .val (.long v76), .second, .val (.long v99), .second, .val (.ref b24), .val (.ref b27), .unset, .unset, .unset, .unset, .unset, .unset] [(.int (lcmpW v38 v99))])) t → Steps p.tables e below (T28.setTop (mkF m 144 #[.val (.long x0_0), .second, .val (.long x0_1), .second, .val (.long x0_2), .second, .val (.long x0_3), .second, .val (.long x0_4), .second, .val (.long x0_5), .second, .val (.int v7), .val (.long v13), .second, .val (.long v19), .second, .val (.long v27), .second, .val (.long v38), .second, .val (.long v56), .second, .val (.long v76), .second, .val (.long v99), .second, .val (.ref b24), .val (.ref b27), .unset, .unset, .unset, .unset, .unset, .unset] [(.int (lcmpW v27 v76))])) t := fun t kt => by
        show Steps p.tables e below (T28.setTop (mkF m 144 #[.val (.long x0_0), .second, .val (.long x0_1), .second, .val (.long x0_2), .second, .val (.long x0_3), .second, .val (.long x0_4), .second, .val (.long x0_5), .second, .val (.int v7), .val (.long v13), .second, .val (.long v19), .second, .val (.long v27), .second, .val (.long v38), .second, .val (.long v56), .second, .val (.long v76), .second, .val (.long v99), .second, .val (.ref b24), .val (.ref b27), .unset, .unset, .unset, .unset, .unset, .unset] [(.int (lcmpW v27 v76))])) _
        refine XS.ifNo X28.here hx rfl (hb hby at_144) rfl ((if0 _ _).trans (teq ((lw_eq _ _).mpr hc144_33)).2) ?_
        show Steps p.tables e below (T28.setTop (mkF m 147 #[.val (.long x0_0), .second, .val (.long x0_1), .second, .val (.long x0_2), .second, .val (.long x0_3), .second, .val (.long x0_4), .second, .val (.long x0_5), .second, .val (.int v7), .val (.long v13), .second, .val (.long v19), .second, .val (.long v27), .second, .val (.long v38), .second, .val (.long v56), .second, .val (.long v76), .second, .val (.long v99), .second, .val (.ref b24), .val (.ref b27), .unset, .unset, .unset, .unset, .unset, .unset] [])) _
        refine XS.lload X28.here hx rfl (hb hby at_147) rfl ?_
        show Steps p.tables e below (T28.setTop (mkF m 149 #[.val (.long x0_0), .second, .val (.long x0_1), .second, .val (.long x0_2), .second, .val (.long x0_3), .second, .val (.long x0_4), .second, .val (.long x0_5), .second, .val (.int v7), .val (.long v13), .second, .val (.long v19), .second, .val (.long v27), .second, .val (.long v38), .second, .val (.long v56), .second, .val (.long v76), .second, .val (.long v99), .second, .val (.ref b24), .val (.ref b27), .unset, .unset, .unset, .unset, .unset, .unset] [(.long v38)])) _
        refine XS.lload X28.here hx rfl (hb hby at_149) rfl ?_
        show Steps p.tables e below (T28.setTop (mkF m 151 #[.val (.long x0_0), .second, .val (.long x0_1), .second, .val (.long x0_2), .second, .val (.long x0_3), .second, .val (.long x0_4), .second, .val (.long x0_5), .second, .val (.int v7), .val (.long v13), .second, .val (.long v19), .second, .val (.long v27), .second, .val (.long v38), .second, .val (.long v56), .second, .val (.long v76), .second, .val (.long v99), .second, .val (.ref b24), .val (.ref b27), .unset, .unset, .unset, .unset, .unset, .unset] [(.long v99), (.long v38)])) _
        refine XS.lcmp X28.here hx rfl (hb hby at_151) rfl ?_
        exact kt
      by_cases hc152_35 : v38 = v99
      · have c36 := (Exa.keep (Exa.ext E27 Ex25) K28)
        have c37 := (Fld.keep (Fld.ext E27 Fq25_size) K28 (ninS ne_b24_b27 nin0))
        have c38 := (Fld.keep (Fld.ext E27 Fq25_from) K28 (ninS ne_b24_b27 nin0))
        have c39 := (Fld.keep (Fld.ext E27 Fq25_to) K28 (ninS ne_b24_b27 nin0))
        have sg41 : ∀ t, Steps p.tables e below (T28.setTop (mkF m 166 #[.val (.long x0_0), .second, .val (.long x0_1), .second, .val (.long x0_2), .second, .val (.long x0_3), .second, .val (.long x0_4), .second, .val (.long x0_5), .second, .val (.int v7), .val (.long v13), .second, .val (.long v19), .second, .val (.long v27), .second, .val (.long v38), .second, .val (.long v56), .second, .val (.long v76), .second, .val (.long v99), .second, .val (.ref b24), .val (.ref b27), .val (.int (1 : Int32)), .unset, .unset, .unset, .unset, .unset] [(.ref b27), (.ref b24)])) t → Steps p.tables e below (T28.setTop (mkF m 152 #[.val (.long x0_0), .second, .val (.long x0_1), .second, .val (.long x0_2), .second, .val (.long x0_3), .second, .val (.long x0_4), .second, .val (.long x0_5), .second, .val (.int v7), .val (.long v13), .second, .val (.long v19), .second, .val (.long v27), .second, .val (.long v38), .second, .val (.long v56), .second, .val (.long v76), .second, .val (.long v99), .second, .val (.ref b24), .val (.ref b27), .unset, .unset, .unset, .unset, .unset, .unset] [(.int (lcmpW v38 v99))])) t := fun t kt => by
          show Steps p.tables e below (T28.setTop (mkF m 152 #[.val (.long x0_0), .second, .val (.long x0_1), .second, .val (.long x0_2), .second, .val (.long x0_3), .second, .val (.long x0_4), .second, .val (.long x0_5), .second, .val (.int v7), .val (.long v13), .second, .val (.long v19), .second, .val (.long v27), .second, .val (.long v38), .second, .val (.long v56), .second, .val (.long v76), .second, .val (.long v99), .second, .val (.ref b24), .val (.ref b27), .unset, .unset, .unset, .unset, .unset, .unset] [(.int (lcmpW v38 v99))])) _
          refine XS.ifNo X28.here hx rfl (hb hby at_152) rfl ((if0 _ _).trans (teq ((lw_eq _ _).mpr hc152_35)).2) ?_
          show Steps p.tables e below (T28.setTop (mkF m 155 #[.val (.long x0_0), .second, .val (.long x0_1), .second, .val (.long x0_2), .second, .val (.long x0_3), .second, .val (.long x0_4), .second, .val (.long x0_5), .second, .val (.int v7), .val (.long v13), .second, .val (.long v19), .second, .val (.long v27), .second, .val (.long v38), .second, .val (.long v56), .second, .val (.long v76), .second, .val (.long v99), .second, .val (.ref b24), .val (.ref b27), .unset, .unset, .unset, .unset, .unset, .unset] [])) _
          refine XS.iconst X28.here hx rfl (hb hby at_155) ?_
          show Steps p.tables e below (T28.setTop (mkF m 156 #[.val (.long x0_0), .second, .val (.long x0_1), .second, .val (.long x0_2), .second, .val (.long x0_3), .second, .val (.long x0_4), .second, .val (.long x0_5), .second, .val (.int v7), .val (.long v13), .second, .val (.long v19), .second, .val (.long v27), .second, .val (.long v38), .second, .val (.long v56), .second, .val (.long v76), .second, .val (.long v99), .second, .val (.ref b24), .val (.ref b27), .unset, .unset, .unset, .unset, .unset, .unset] [(.int (1 : Int32))])) _
          refine XS.goto X28.here hx rfl (pc0 := 156) (pc' := 160) rfl (hb hby at_156) (by decide) (by decide) ?_
          show Steps p.tables e below (T28.setTop (mkF m 160 #[.val (.long x0_0), .second, .val (.long x0_1), .second, .val (.long x0_2), .second, .val (.long x0_3), .second, .val (.long x0_4), .second, .val (.long x0_5), .second, .val (.int v7), .val (.long v13), .second, .val (.long v19), .second, .val (.long v27), .second, .val (.long v38), .second, .val (.long v56), .second, .val (.long v76), .second, .val (.long v99), .second, .val (.ref b24), .val (.ref b27), .unset, .unset, .unset, .unset, .unset, .unset] [(.int (1 : Int32))])) _
          refine XS.istore X28.here hx rfl (hb hby at_160) rfl (l' := #[.val (.long x0_0), .second, .val (.long x0_1), .second, .val (.long x0_2), .second, .val (.long x0_3), .second, .val (.long x0_4), .second, .val (.long x0_5), .second, .val (.int v7), .val (.long v13), .second, .val (.long v19), .second, .val (.long v27), .second, .val (.long v38), .second, .val (.long v56), .second, .val (.long v76), .second, .val (.long v99), .second, .val (.ref b24), .val (.ref b27), .val (.int (1 : Int32)), .unset, .unset, .unset, .unset, .unset]) rfl ?_
          show Steps p.tables e below (T28.setTop (mkF m 162 #[.val (.long x0_0), .second, .val (.long x0_1), .second, .val (.long x0_2), .second, .val (.long x0_3), .second, .val (.long x0_4), .second, .val (.long x0_5), .second, .val (.int v7), .val (.long v13), .second, .val (.long v19), .second, .val (.long v27), .second, .val (.long v38), .second, .val (.long v56), .second, .val (.long v76), .second, .val (.long v99), .second, .val (.ref b24), .val (.ref b27), .val (.int (1 : Int32)), .unset, .unset, .unset, .unset, .unset] [])) _
          refine XS.aload X28.here hx rfl (hb hby at_162) rfl rfl ?_
          show Steps p.tables e below (T28.setTop (mkF m 164 #[.val (.long x0_0), .second, .val (.long x0_1), .second, .val (.long x0_2), .second, .val (.long x0_3), .second, .val (.long x0_4), .second, .val (.long x0_5), .second, .val (.int v7), .val (.long v13), .second, .val (.long v19), .second, .val (.long v27), .second, .val (.long v38), .second, .val (.long v56), .second, .val (.long v76), .second, .val (.long v99), .second, .val (.ref b24), .val (.ref b27), .val (.int (1 : Int32)), .unset, .unset, .unset, .unset, .unset] [(.ref b24)])) _
          refine XS.aload X28.here hx rfl (hb hby at_164) rfl rfl ?_
          exact kt
        obtain ⟨cq40, kq40, q40a, q40b, q40c⟩ := isOf hZ rfl c36
        obtain ⟨rv40, _, ⟨T40, L40, k40, n40⟩, -, X40, ⟨Lc40, hQ40, l40, y40, z40⟩, st40⟩ := X28.virtualBack hx (y := (⟨"com/example/libdmutex/libdmutex/core/Range", "equals", "(Ljava/lang/Object;)Z"⟩ : MethodName)) (z := (⟨"com/example/libdmutex/libdmutex/core/Range", "equals", "(Ljava/lang/Object;)Z"⟩ : MethodName)) hown (mvT hZ (hw _ (List.mem_of_getElem? (i := 29) rfl))) (mvT hZ (hw _ (List.mem_of_getElem? (i := 30) rfl))) (notFace_of_selects (args := #[]) (mvT hZ (hw _ (List.mem_of_getElem? (i := 32) rfl)))) (mvT hZ (hw _ (List.mem_of_getElem? (i := 32) rfl))) (mvT hZ (hw _ (List.mem_of_getElem? (i := 31) rfl))) (by decide) (backOf (W := 0) (rm6o l Z a0 hw [] b24 b27 (v19.toInt32) (v27.toInt32) (v38.toInt32) (v56.toInt32) (v76.toInt32) (v99.toInt32) T28.heap n0 Zs28 c36 Ex28 c37 c38 c39 Fq28_size Fq28_from Fq28_to) hZ (hw _ (List.mem_of_getElem? (i := 33) rfl)) (hw _ (List.mem_of_getElem? (i := 15) rfl)) (by decide) (by decide)) q40a q40c (g := (mkF m 166 #[.val (.long x0_0), .second, .val (.long x0_1), .second, .val (.long x0_2), .second, .val (.long x0_3), .second, .val (.long x0_4), .second, .val (.long x0_5), .second, .val (.int v7), .val (.long v13), .second, .val (.long v19), .second, .val (.long v27), .second, .val (.long v38), .second, .val (.long v56), .second, .val (.long v76), .second, .val (.long v99), .second, .val (.ref b24), .val (.ref b27), .val (.int (1 : Int32)), .unset, .unset, .unset, .unset, .unset] [(.ref b27), (.ref b24)])) rfl (by rw [hml]; rfl) (Steps.refl _) (argsL := [(.ref b27)]) (rest := []) (lenOf pd_6 rfl) rfl (by show 2 * 0 + _ ≤ _; exact Nat.le_of_eq rfl) (hb hby at_166) (fun _ _ => ⟨rfl, rfl, (by decide : 2 + 0 ≤ _), (by decide : 6 + 0 ≤ _)⟩)
        dsimp only [Pt.U, Pt.locs, Pt.cells, Pt.slots] at X40 l40 y40 z40 st40 hQ40
        subst l40 y40 z40
        obtain ⟨hv40, N40q, e40⟩ := hQ40
        have N40 := Fr.app N28 N40q
        have hf40 : f6o b24 b27 (v19.toInt32) (v27.toInt32) (v38.toInt32) (v56.toInt32) (v76.toInt32) (v99.toInt32) = (1 : Int32) := by unfold f6o; rw [if_pos (congrArg Int64.toInt32 hc136_31), if_pos (congrArg Int64.toInt32 hc144_33), if_pos (congrArg Int64.toInt32 hc152_35)]
        rw [hf40] at hv40
        subst hv40
        have sg43 : ∀ t, Steps p.tables e below (T40.setTop (mkF m 175 #[.val (.long x0_0), .second, .val (.long x0_1), .second, .val (.long x0_2), .second, .val (.long x0_3), .second, .val (.long x0_4), .second, .val (.long x0_5), .second, .val (.int v7), .val (.long v13), .second, .val (.long v19), .second, .val (.long v27), .second, .val (.long v38), .second, .val (.long v56), .second, .val (.long v76), .second, .val (.long v99), .second, .val (.ref b24), .val (.ref b27), .val (.int (1 : Int32)), .val (.int (1 : Int32)), .unset, .unset, .unset, .unset] [(.ref b24), (.ref b27)])) t → Steps p.tables e below (T28.setTop (mkF m 166 #[.val (.long x0_0), .second, .val (.long x0_1), .second, .val (.long x0_2), .second, .val (.long x0_3), .second, .val (.long x0_4), .second, .val (.long x0_5), .second, .val (.int v7), .val (.long v13), .second, .val (.long v19), .second, .val (.long v27), .second, .val (.long v38), .second, .val (.long v56), .second, .val (.long v76), .second, .val (.long v99), .second, .val (.ref b24), .val (.ref b27), .val (.int (1 : Int32)), .unset, .unset, .unset, .unset, .unset] [(.ref b27), (.ref b24)])) t := fun t kt => by
          show Steps p.tables e below (T28.setTop (mkF m 166 #[.val (.long x0_0), .second, .val (.long x0_1), .second, .val (.long x0_2), .second, .val (.long x0_3), .second, .val (.long x0_4), .second, .val (.long x0_5), .second, .val (.int v7), .val (.long v13), .second, .val (.long v19), .second, .val (.long v27), .second, .val (.long v38), .second, .val (.long v56), .second, .val (.long v76), .second, .val (.long v99), .second, .val (.ref b24), .val (.ref b27), .val (.int (1 : Int32)), .unset, .unset, .unset, .unset, .unset] [(.ref b27), (.ref b24)])) _
          refine st40.trans ?_
          show Steps p.tables e below (T40.setTop (mkF m 169 #[.val (.long x0_0), .second, .val (.long x0_1), .second, .val (.long x0_2), .second, .val (.long x0_3), .second, .val (.long x0_4), .second, .val (.long x0_5), .second, .val (.int v7), .val (.long v13), .second, .val (.long v19), .second, .val (.long v27), .second, .val (.long v38), .second, .val (.long v56), .second, .val (.long v76), .second, .val (.long v99), .second, .val (.ref b24), .val (.ref b27), .val (.int (1 : Int32)), .unset, .unset, .unset, .unset, .unset] [(.int (1 : Int32))])) _
          refine XS.istore X40.here hx rfl (hb hby at_169) rfl (l' := #[.val (.long x0_0), .second, .val (.long x0_1), .second, .val (.long x0_2), .second, .val (.long x0_3), .second, .val (.long x0_4), .second, .val (.long x0_5), .second, .val (.int v7), .val (.long v13), .second, .val (.long v19), .second, .val (.long v27), .second, .val (.long v38), .second, .val (.long v56), .second, .val (.long v76), .second, .val (.long v99), .second, .val (.ref b24), .val (.ref b27), .val (.int (1 : Int32)), .val (.int (1 : Int32)), .unset, .unset, .unset, .unset]) rfl ?_
          show Steps p.tables e below (T40.setTop (mkF m 171 #[.val (.long x0_0), .second, .val (.long x0_1), .second, .val (.long x0_2), .second, .val (.long x0_3), .second, .val (.long x0_4), .second, .val (.long x0_5), .second, .val (.int v7), .val (.long v13), .second, .val (.long v19), .second, .val (.long v27), .second, .val (.long v38), .second, .val (.long v56), .second, .val (.long v76), .second, .val (.long v99), .second, .val (.ref b24), .val (.ref b27), .val (.int (1 : Int32)), .val (.int (1 : Int32)), .unset, .unset, .unset, .unset] [])) _
          refine XS.aload X40.here hx rfl (hb hby at_171) rfl rfl ?_
          show Steps p.tables e below (T40.setTop (mkF m 173 #[.val (.long x0_0), .second, .val (.long x0_1), .second, .val (.long x0_2), .second, .val (.long x0_3), .second, .val (.long x0_4), .second, .val (.long x0_5), .second, .val (.int v7), .val (.long v13), .second, .val (.long v19), .second, .val (.long v27), .second, .val (.long v38), .second, .val (.long v56), .second, .val (.long v76), .second, .val (.long v99), .second, .val (.ref b24), .val (.ref b27), .val (.int (1 : Int32)), .val (.int (1 : Int32)), .unset, .unset, .unset, .unset] [(.ref b27)])) _
          refine XS.aload X40.here hx rfl (hb hby at_173) rfl rfl ?_
          exact kt
        obtain ⟨cq42, kq42, q42a, q42b, q42c⟩ := isOf hZ e40 Ex28
        obtain ⟨rv42, _, ⟨T42, L42, k42, n42⟩, -, X42, ⟨Lc42, hQ42, l42, y42, z42⟩, st42⟩ := X40.virtualBack hx (y := (⟨"com/example/libdmutex/libdmutex/core/Range", "equals", "(Ljava/lang/Object;)Z"⟩ : MethodName)) (z := (⟨"com/example/libdmutex/libdmutex/core/Range", "equals", "(Ljava/lang/Object;)Z"⟩ : MethodName)) hown (mvT hZ (hw _ (List.mem_of_getElem? (i := 29) rfl))) (mvT hZ (hw _ (List.mem_of_getElem? (i := 30) rfl))) (notFace_of_selects (args := #[]) (mvT hZ (hw _ (List.mem_of_getElem? (i := 32) rfl)))) (mvT hZ (hw _ (List.mem_of_getElem? (i := 32) rfl))) (mvT hZ (hw _ (List.mem_of_getElem? (i := 31) rfl))) (by decide) (backOf (W := 0) (rm6o l Z a0 hw [] b27 b24 (v56.toInt32) (v76.toInt32) (v99.toInt32) (v19.toInt32) (v27.toInt32) (v38.toInt32) T28.heap n0 Zs28 Ex28 c36 Fq28_size Fq28_from Fq28_to c37 c38 c39) hZ (hw _ (List.mem_of_getElem? (i := 33) rfl)) (hw _ (List.mem_of_getElem? (i := 15) rfl)) (by decide) (by decide)) q42a q42c (g := (mkF m 175 #[.val (.long x0_0), .second, .val (.long x0_1), .second, .val (.long x0_2), .second, .val (.long x0_3), .second, .val (.long x0_4), .second, .val (.long x0_5), .second, .val (.int v7), .val (.long v13), .second, .val (.long v19), .second, .val (.long v27), .second, .val (.long v38), .second, .val (.long v56), .second, .val (.long v76), .second, .val (.long v99), .second, .val (.ref b24), .val (.ref b27), .val (.int (1 : Int32)), .val (.int (1 : Int32)), .unset, .unset, .unset, .unset] [(.ref b24), (.ref b27)])) rfl (by rw [hml]; rfl) (Steps.refl _) (argsL := [(.ref b24)]) (rest := []) (lenOf pd_6 rfl) rfl (by show 2 * 0 + _ ≤ _; exact Nat.le_of_eq rfl) (hb hby at_175) (fun _ _ => ⟨rfl, e40, (by decide : 2 + 0 ≤ _), (by decide : 6 + 0 ≤ _)⟩)
        dsimp only [Pt.U, Pt.locs, Pt.cells, Pt.slots] at X42 l42 y42 z42 st42 hQ42
        subst l42 y42 z42
        obtain ⟨hv42, N42q, e42⟩ := hQ42
        have N42 := Fr.app N40 N42q
        have hf42 : f6o b27 b24 (v56.toInt32) (v76.toInt32) (v99.toInt32) (v19.toInt32) (v27.toInt32) (v38.toInt32) = (1 : Int32) := by unfold f6o; rw [if_pos (congrArg Int64.toInt32 (Eq.symm hc136_31)), if_pos (congrArg Int64.toInt32 (Eq.symm hc144_33)), if_pos (congrArg Int64.toInt32 (Eq.symm hc152_35))]
        rw [hf42] at hv42
        subst hv42
        have sg45 : ∀ t, Steps p.tables e below (T42.setTop (mkF m 184 #[.val (.long x0_0), .second, .val (.long x0_1), .second, .val (.long x0_2), .second, .val (.long x0_3), .second, .val (.long x0_4), .second, .val (.long x0_5), .second, .val (.int v7), .val (.long v13), .second, .val (.long v19), .second, .val (.long v27), .second, .val (.long v38), .second, .val (.long v56), .second, .val (.long v76), .second, .val (.long v99), .second, .val (.ref b24), .val (.ref b27), .val (.int (1 : Int32)), .val (.int (1 : Int32)), .val (.int (1 : Int32)), .unset, .unset, .unset] [(.ref b24), (.ref b24)])) t → Steps p.tables e below (T40.setTop (mkF m 175 #[.val (.long x0_0), .second, .val (.long x0_1), .second, .val (.long x0_2), .second, .val (.long x0_3), .second, .val (.long x0_4), .second, .val (.long x0_5), .second, .val (.int v7), .val (.long v13), .second, .val (.long v19), .second, .val (.long v27), .second, .val (.long v38), .second, .val (.long v56), .second, .val (.long v76), .second, .val (.long v99), .second, .val (.ref b24), .val (.ref b27), .val (.int (1 : Int32)), .val (.int (1 : Int32)), .unset, .unset, .unset, .unset] [(.ref b24), (.ref b27)])) t := fun t kt => by
          show Steps p.tables e below (T40.setTop (mkF m 175 #[.val (.long x0_0), .second, .val (.long x0_1), .second, .val (.long x0_2), .second, .val (.long x0_3), .second, .val (.long x0_4), .second, .val (.long x0_5), .second, .val (.int v7), .val (.long v13), .second, .val (.long v19), .second, .val (.long v27), .second, .val (.long v38), .second, .val (.long v56), .second, .val (.long v76), .second, .val (.long v99), .second, .val (.ref b24), .val (.ref b27), .val (.int (1 : Int32)), .val (.int (1 : Int32)), .unset, .unset, .unset, .unset] [(.ref b24), (.ref b27)])) _
          refine st42.trans ?_
          show Steps p.tables e below (T42.setTop (mkF m 178 #[.val (.long x0_0), .second, .val (.long x0_1), .second, .val (.long x0_2), .second, .val (.long x0_3), .second, .val (.long x0_4), .second, .val (.long x0_5), .second, .val (.int v7), .val (.long v13), .second, .val (.long v19), .second, .val (.long v27), .second, .val (.long v38), .second, .val (.long v56), .second, .val (.long v76), .second, .val (.long v99), .second, .val (.ref b24), .val (.ref b27), .val (.int (1 : Int32)), .val (.int (1 : Int32)), .unset, .unset, .unset, .unset] [(.int (1 : Int32))])) _
          refine XS.istore X42.here hx rfl (hb hby at_178) rfl (l' := #[.val (.long x0_0), .second, .val (.long x0_1), .second, .val (.long x0_2), .second, .val (.long x0_3), .second, .val (.long x0_4), .second, .val (.long x0_5), .second, .val (.int v7), .val (.long v13), .second, .val (.long v19), .second, .val (.long v27), .second, .val (.long v38), .second, .val (.long v56), .second, .val (.long v76), .second, .val (.long v99), .second, .val (.ref b24), .val (.ref b27), .val (.int (1 : Int32)), .val (.int (1 : Int32)), .val (.int (1 : Int32)), .unset, .unset, .unset]) rfl ?_
          show Steps p.tables e below (T42.setTop (mkF m 180 #[.val (.long x0_0), .second, .val (.long x0_1), .second, .val (.long x0_2), .second, .val (.long x0_3), .second, .val (.long x0_4), .second, .val (.long x0_5), .second, .val (.int v7), .val (.long v13), .second, .val (.long v19), .second, .val (.long v27), .second, .val (.long v38), .second, .val (.long v56), .second, .val (.long v76), .second, .val (.long v99), .second, .val (.ref b24), .val (.ref b27), .val (.int (1 : Int32)), .val (.int (1 : Int32)), .val (.int (1 : Int32)), .unset, .unset, .unset] [])) _
          refine XS.aload X42.here hx rfl (hb hby at_180) rfl rfl ?_
          show Steps p.tables e below (T42.setTop (mkF m 182 #[.val (.long x0_0), .second, .val (.long x0_1), .second, .val (.long x0_2), .second, .val (.long x0_3), .second, .val (.long x0_4), .second, .val (.long x0_5), .second, .val (.int v7), .val (.long v13), .second, .val (.long v19), .second, .val (.long v27), .second, .val (.long v38), .second, .val (.long v56), .second, .val (.long v76), .second, .val (.long v99), .second, .val (.ref b24), .val (.ref b27), .val (.int (1 : Int32)), .val (.int (1 : Int32)), .val (.int (1 : Int32)), .unset, .unset, .unset] [(.ref b24)])) _
          refine XS.aload X42.here hx rfl (hb hby at_182) rfl rfl ?_
          exact kt
        obtain ⟨cq44, kq44, q44a, q44b, q44c⟩ := isOf hZ e42 c36
        obtain ⟨rv44, _, ⟨T44, L44, k44, n44⟩, -, X44, ⟨Lc44, hQ44, l44, y44, z44⟩, st44⟩ := X42.virtualBack hx (y := (⟨"com/example/libdmutex/libdmutex/core/Range", "equals", "(Ljava/lang/Object;)Z"⟩ : MethodName)) (z := (⟨"com/example/libdmutex/libdmutex/core/Range", "equals", "(Ljava/lang/Object;)Z"⟩ : MethodName)) hown (mvT hZ (hw _ (List.mem_of_getElem? (i := 29) rfl))) (mvT hZ (hw _ (List.mem_of_getElem? (i := 30) rfl))) (notFace_of_selects (args := #[]) (mvT hZ (hw _ (List.mem_of_getElem? (i := 32) rfl)))) (mvT hZ (hw _ (List.mem_of_getElem? (i := 32) rfl))) (mvT hZ (hw _ (List.mem_of_getElem? (i := 31) rfl))) (by decide) (backOf (W := 0) (rm6o l Z a0 hw [] b24 b24 (v19.toInt32) (v27.toInt32) (v38.toInt32) (v19.toInt32) (v27.toInt32) (v38.toInt32) T28.heap n0 Zs28 c36 c36 c37 c38 c39 c37 c38 c39) hZ (hw _ (List.mem_of_getElem? (i := 33) rfl)) (hw _ (List.mem_of_getElem? (i := 15) rfl)) (by decide) (by decide)) q44a q44c (g := (mkF m 184 #[.val (.long x0_0), .second, .val (.long x0_1), .second, .val (.long x0_2), .second, .val (.long x0_3), .second, .val (.long x0_4), .second, .val (.long x0_5), .second, .val (.int v7), .val (.long v13), .second, .val (.long v19), .second, .val (.long v27), .second, .val (.long v38), .second, .val (.long v56), .second, .val (.long v76), .second, .val (.long v99), .second, .val (.ref b24), .val (.ref b27), .val (.int (1 : Int32)), .val (.int (1 : Int32)), .val (.int (1 : Int32)), .unset, .unset, .unset] [(.ref b24), (.ref b24)])) rfl (by rw [hml]; rfl) (Steps.refl _) (argsL := [(.ref b24)]) (rest := []) (lenOf pd_6 rfl) rfl (by show 2 * 0 + _ ≤ _; exact Nat.le_of_eq rfl) (hb hby at_184) (fun _ _ => ⟨rfl, e42, (by decide : 2 + 0 ≤ _), (by decide : 6 + 0 ≤ _)⟩)
        dsimp only [Pt.U, Pt.locs, Pt.cells, Pt.slots] at X44 l44 y44 z44 st44 hQ44
        subst l44 y44 z44
        obtain ⟨hv44, N44q, e44⟩ := hQ44
        have N44 := Fr.app N42 N44q
        have hf44 : f6o b24 b24 (v19.toInt32) (v27.toInt32) (v38.toInt32) (v19.toInt32) (v27.toInt32) (v38.toInt32) = (1 : Int32) := by unfold f6o; rw [if_pos (rfl : (v19.toInt32) = (v19.toInt32)), if_pos (rfl : (v27.toInt32) = (v27.toInt32)), if_pos (rfl : (v38.toInt32) = (v38.toInt32))]
        rw [hf44] at hv44
        subst hv44
        have sg47 : ∀ t, Steps p.tables e below (T44.setTop (mkF m 192 #[.val (.long x0_0), .second, .val (.long x0_1), .second, .val (.long x0_2), .second, .val (.long x0_3), .second, .val (.long x0_4), .second, .val (.long x0_5), .second, .val (.int v7), .val (.long v13), .second, .val (.long v19), .second, .val (.long v27), .second, .val (.long v38), .second, .val (.long v56), .second, .val (.long v76), .second, .val (.long v99), .second, .val (.ref b24), .val (.ref b27), .val (.int (1 : Int32)), .val (.int (1 : Int32)), .val (.int (1 : Int32)), .val (.int (1 : Int32)), .unset, .unset] [.null, (.ref b24)])) t → Steps p.tables e below (T42.setTop (mkF m 184 #[.val (.long x0_0), .second, .val (.long x0_1), .second, .val (.long x0_2), .second, .val (.long x0_3), .second, .val (.long x0_4), .second, .val (.long x0_5), .second, .val (.int v7), .val (.long v13), .second, .val (.long v19), .second, .val (.long v27), .second, .val (.long v38), .second, .val (.long v56), .second, .val (.long v76), .second, .val (.long v99), .second, .val (.ref b24), .val (.ref b27), .val (.int (1 : Int32)), .val (.int (1 : Int32)), .val (.int (1 : Int32)), .unset, .unset, .unset] [(.ref b24), (.ref b24)])) t := fun t kt => by
          show Steps p.tables e below (T42.setTop (mkF m 184 #[.val (.long x0_0), .second, .val (.long x0_1), .second, .val (.long x0_2), .second, .val (.long x0_3), .second, .val (.long x0_4), .second, .val (.long x0_5), .second, .val (.int v7), .val (.long v13), .second, .val (.long v19), .second, .val (.long v27), .second, .val (.long v38), .second, .val (.long v56), .second, .val (.long v76), .second, .val (.long v99), .second, .val (.ref b24), .val (.ref b27), .val (.int (1 : Int32)), .val (.int (1 : Int32)), .val (.int (1 : Int32)), .unset, .unset, .unset] [(.ref b24), (.ref b24)])) _
          refine st44.trans ?_
          show Steps p.tables e below (T44.setTop (mkF m 187 #[.val (.long x0_0), .second, .val (.long x0_1), .second, .val (.long x0_2), .second, .val (.long x0_3), .second, .val (.long x0_4), .second, .val (.long x0_5), .second, .val (.int v7), .val (.long v13), .second, .val (.long v19), .second, .val (.long v27), .second, .val (.long v38), .second, .val (.long v56), .second, .val (.long v76), .second, .val (.long v99), .second, .val (.ref b24), .val (.ref b27), .val (.int (1 : Int32)), .val (.int (1 : Int32)), .val (.int (1 : Int32)), .unset, .unset, .unset] [(.int (1 : Int32))])) _
          refine XS.istore X44.here hx rfl (hb hby at_187) rfl (l' := #[.val (.long x0_0), .second, .val (.long x0_1), .second, .val (.long x0_2), .second, .val (.long x0_3), .second, .val (.long x0_4), .second, .val (.long x0_5), .second, .val (.int v7), .val (.long v13), .second, .val (.long v19), .second, .val (.long v27), .second, .val (.long v38), .second, .val (.long v56), .second, .val (.long v76), .second, .val (.long v99), .second, .val (.ref b24), .val (.ref b27), .val (.int (1 : Int32)), .val (.int (1 : Int32)), .val (.int (1 : Int32)), .val (.int (1 : Int32)), .unset, .unset]) rfl ?_
          show Steps p.tables e below (T44.setTop (mkF m 189 #[.val (.long x0_0), .second, .val (.long x0_1), .second, .val (.long x0_2), .second, .val (.long x0_3), .second, .val (.long x0_4), .second, .val (.long x0_5), .second, .val (.int v7), .val (.long v13), .second, .val (.long v19), .second, .val (.long v27), .second, .val (.long v38), .second, .val (.long v56), .second, .val (.long v76), .second, .val (.long v99), .second, .val (.ref b24), .val (.ref b27), .val (.int (1 : Int32)), .val (.int (1 : Int32)), .val (.int (1 : Int32)), .val (.int (1 : Int32)), .unset, .unset] [])) _
          refine XS.aload X44.here hx rfl (hb hby at_189) rfl rfl ?_
          show Steps p.tables e below (T44.setTop (mkF m 191 #[.val (.long x0_0), .second, .val (.long x0_1), .second, .val (.long x0_2), .second, .val (.long x0_3), .second, .val (.long x0_4), .second, .val (.long x0_5), .second, .val (.int v7), .val (.long v13), .second, .val (.long v19), .second, .val (.long v27), .second, .val (.long v38), .second, .val (.long v56), .second, .val (.long v76), .second, .val (.long v99), .second, .val (.ref b24), .val (.ref b27), .val (.int (1 : Int32)), .val (.int (1 : Int32)), .val (.int (1 : Int32)), .val (.int (1 : Int32)), .unset, .unset] [(.ref b24)])) _
          refine XS.aconstNull X44.here hx rfl (hb hby at_191) ?_
          exact kt
        obtain ⟨cq46, kq46, q46a, q46b, q46c⟩ := isOf hZ e44 c36
        obtain ⟨rv46, _, ⟨T46, L46, k46, n46⟩, -, X46, ⟨Lc46, hQ46, l46, y46, z46⟩, st46⟩ := X44.virtualBack hx (y := (⟨"com/example/libdmutex/libdmutex/core/Range", "equals", "(Ljava/lang/Object;)Z"⟩ : MethodName)) (z := (⟨"com/example/libdmutex/libdmutex/core/Range", "equals", "(Ljava/lang/Object;)Z"⟩ : MethodName)) hown (mvT hZ (hw _ (List.mem_of_getElem? (i := 29) rfl))) (mvT hZ (hw _ (List.mem_of_getElem? (i := 30) rfl))) (notFace_of_selects (args := #[]) (mvT hZ (hw _ (List.mem_of_getElem? (i := 32) rfl)))) (mvT hZ (hw _ (List.mem_of_getElem? (i := 32) rfl))) (mvT hZ (hw _ (List.mem_of_getElem? (i := 31) rfl))) (by decide) (backOf (W := 0) (rm6n l Z a0 hw [] b24 T28.heap n0 Zs28 c36) hZ (hw _ (List.mem_of_getElem? (i := 33) rfl)) (hw _ (List.mem_of_getElem? (i := 15) rfl)) (by decide) (by decide)) q46a q46c (g := (mkF m 192 #[.val (.long x0_0), .second, .val (.long x0_1), .second, .val (.long x0_2), .second, .val (.long x0_3), .second, .val (.long x0_4), .second, .val (.long x0_5), .second, .val (.int v7), .val (.long v13), .second, .val (.long v19), .second, .val (.long v27), .second, .val (.long v38), .second, .val (.long v56), .second, .val (.long v76), .second, .val (.long v99), .second, .val (.ref b24), .val (.ref b27), .val (.int (1 : Int32)), .val (.int (1 : Int32)), .val (.int (1 : Int32)), .val (.int (1 : Int32)), .unset, .unset] [.null, (.ref b24)])) rfl (by rw [hml]; rfl) (Steps.refl _) (argsL := [.null]) (rest := []) (lenOf pd_6 rfl) rfl (by show 2 * 0 + _ ≤ _; exact Nat.le_of_eq rfl) (hb hby at_192) (fun _ _ => ⟨rfl, e44, (by decide : 2 + 0 ≤ _), (by decide : 6 + 0 ≤ _)⟩)
        dsimp only [Pt.U, Pt.locs, Pt.cells, Pt.slots] at X46 l46 y46 z46 st46 hQ46
        subst l46 y46 z46
        obtain ⟨hv46, N46q, e46⟩ := hQ46
        have N46 := Fr.app N44 N46q
        have hf46 : f6n b24 = (0 : Int32) := rfl
        rw [hf46] at hv46
        subst hv46
        have sg49 : ∀ t, Steps p.tables e below (T46.setTop (mkF m 200 #[.val (.long x0_0), .second, .val (.long x0_1), .second, .val (.long x0_2), .second, .val (.long x0_3), .second, .val (.long x0_4), .second, .val (.long x0_5), .second, .val (.int v7), .val (.long v13), .second, .val (.long v19), .second, .val (.long v27), .second, .val (.long v38), .second, .val (.long v56), .second, .val (.long v76), .second, .val (.long v99), .second, .val (.ref b24), .val (.ref b27), .val (.int (1 : Int32)), .val (.int (1 : Int32)), .val (.int (1 : Int32)), .val (.int (1 : Int32)), .val (.int (0 : Int32)), .unset] [(.long x0_0), (.ref b24)])) t → Steps p.tables e below (T44.setTop (mkF m 192 #[.val (.long x0_0), .second, .val (.long x0_1), .second, .val (.long x0_2), .second, .val (.long x0_3), .second, .val (.long x0_4), .second, .val (.long x0_5), .second, .val (.int v7), .val (.long v13), .second, .val (.long v19), .second, .val (.long v27), .second, .val (.long v38), .second, .val (.long v56), .second, .val (.long v76), .second, .val (.long v99), .second, .val (.ref b24), .val (.ref b27), .val (.int (1 : Int32)), .val (.int (1 : Int32)), .val (.int (1 : Int32)), .val (.int (1 : Int32)), .unset, .unset] [.null, (.ref b24)])) t := fun t kt => by
          show Steps p.tables e below (T44.setTop (mkF m 192 #[.val (.long x0_0), .second, .val (.long x0_1), .second, .val (.long x0_2), .second, .val (.long x0_3), .second, .val (.long x0_4), .second, .val (.long x0_5), .second, .val (.int v7), .val (.long v13), .second, .val (.long v19), .second, .val (.long v27), .second, .val (.long v38), .second, .val (.long v56), .second, .val (.long v76), .second, .val (.long v99), .second, .val (.ref b24), .val (.ref b27), .val (.int (1 : Int32)), .val (.int (1 : Int32)), .val (.int (1 : Int32)), .val (.int (1 : Int32)), .unset, .unset] [.null, (.ref b24)])) _
          refine st46.trans ?_
          show Steps p.tables e below (T46.setTop (mkF m 195 #[.val (.long x0_0), .second, .val (.long x0_1), .second, .val (.long x0_2), .second, .val (.long x0_3), .second, .val (.long x0_4), .second, .val (.long x0_5), .second, .val (.int v7), .val (.long v13), .second, .val (.long v19), .second, .val (.long v27), .second, .val (.long v38), .second, .val (.long v56), .second, .val (.long v76), .second, .val (.long v99), .second, .val (.ref b24), .val (.ref b27), .val (.int (1 : Int32)), .val (.int (1 : Int32)), .val (.int (1 : Int32)), .val (.int (1 : Int32)), .unset, .unset] [(.int (0 : Int32))])) _
          refine XS.istore X46.here hx rfl (hb hby at_195) rfl (l' := #[.val (.long x0_0), .second, .val (.long x0_1), .second, .val (.long x0_2), .second, .val (.long x0_3), .second, .val (.long x0_4), .second, .val (.long x0_5), .second, .val (.int v7), .val (.long v13), .second, .val (.long v19), .second, .val (.long v27), .second, .val (.long v38), .second, .val (.long v56), .second, .val (.long v76), .second, .val (.long v99), .second, .val (.ref b24), .val (.ref b27), .val (.int (1 : Int32)), .val (.int (1 : Int32)), .val (.int (1 : Int32)), .val (.int (1 : Int32)), .val (.int (0 : Int32)), .unset]) rfl ?_
          show Steps p.tables e below (T46.setTop (mkF m 197 #[.val (.long x0_0), .second, .val (.long x0_1), .second, .val (.long x0_2), .second, .val (.long x0_3), .second, .val (.long x0_4), .second, .val (.long x0_5), .second, .val (.int v7), .val (.long v13), .second, .val (.long v19), .second, .val (.long v27), .second, .val (.long v38), .second, .val (.long v56), .second, .val (.long v76), .second, .val (.long v99), .second, .val (.ref b24), .val (.ref b27), .val (.int (1 : Int32)), .val (.int (1 : Int32)), .val (.int (1 : Int32)), .val (.int (1 : Int32)), .val (.int (0 : Int32)), .unset] [])) _
          refine XS.aload X46.here hx rfl (hb hby at_197) rfl rfl ?_
          show Steps p.tables e below (T46.setTop (mkF m 199 #[.val (.long x0_0), .second, .val (.long x0_1), .second, .val (.long x0_2), .second, .val (.long x0_3), .second, .val (.long x0_4), .second, .val (.long x0_5), .second, .val (.int v7), .val (.long v13), .second, .val (.long v19), .second, .val (.long v27), .second, .val (.long v38), .second, .val (.long v56), .second, .val (.long v76), .second, .val (.long v99), .second, .val (.ref b24), .val (.ref b27), .val (.int (1 : Int32)), .val (.int (1 : Int32)), .val (.int (1 : Int32)), .val (.int (1 : Int32)), .val (.int (0 : Int32)), .unset] [(.ref b24)])) _
          refine XS.lloadN X46.here hx rfl (hb hby at_199) rfl ?_
          exact kt
        obtain ⟨rv48, _, ⟨T48, L48, k48, n48⟩, -, X48, ⟨Lc48, hQ48, l48, y48, z48⟩, st48⟩ := Jvm.LawKit.callS X46 hx (y := (⟨"java/lang/Long", "valueOf", "(J)Ljava/lang/Long;"⟩ : MethodName)) hown (mvT hZ (hw _ (List.mem_of_getElem? (i := 36) rfl))) (mvT hZ (hw _ (List.mem_of_getElem? (i := 37) rfl))) (mvT hZ (hw _ (List.mem_of_getElem? (i := 38) rfl))) (mvT hZ (hw _ (List.mem_of_getElem? (i := 39) rfl))) (by decide) (backOf (W := 1) (rm7 l Z a0 hw [] x0_0 cA cl T28.heap n0 Zs28 Ol28 JC SC) hZ (hw _ (List.mem_of_getElem? (i := 39) rfl)) (hw _ (List.mem_of_getElem? (i := 38) rfl)) (by decide) (by decide)) (g := (mkF m 200 #[.val (.long x0_0), .second, .val (.long x0_1), .second, .val (.long x0_2), .second, .val (.long x0_3), .second, .val (.long x0_4), .second, .val (.long x0_5), .second, .val (.int v7), .val (.long v13), .second, .val (.long v19), .second, .val (.long v27), .second, .val (.long v38), .second, .val (.long v56), .second, .val (.long v76), .second, .val (.long v99), .second, .val (.ref b24), .val (.ref b27), .val (.int (1 : Int32)), .val (.int (1 : Int32)), .val (.int (1 : Int32)), .val (.int (1 : Int32)), .val (.int (0 : Int32)), .unset] [(.long x0_0), (.ref b24)])) rfl (by rw [hml]; rfl) (argsL := [(.long x0_0)]) (rest := [(.ref b24)]) (lenOf pd_7 rfl) rfl (by show 2 * 0 + _ ≤ _; exact Nat.le_of_eq rfl) (hb hby at_200) (fun _ _ => ⟨rfl, e46, (by decide : 2 + 1 ≤ _), (by decide : 6 + 1 ≤ _)⟩)
        dsimp only [Pt.U, Pt.locs, Pt.cells, Pt.slots] at X48 l48 y48 z48 st48 hQ48
        subst l48 y48 z48
        obtain ⟨r48, rfl, N48q, K48, Ex48⟩ := hQ48
        have N48 := Fr.app N46 N48q
        have Zs48 : n0 ≤ T48.heap.size := Nat.le_trans Zs28 K48.1
        have Ol48 : Old Z n0 T48.heap := (Ol28).keep K48 all0
        have c50 := (Exa.keep c36 K48)
        have sg52 : ∀ t, Steps p.tables e below (T48.setTop (mkF m 203 #[.val (.long x0_0), .second, .val (.long x0_1), .second, .val (.long x0_2), .second, .val (.long x0_3), .second, .val (.long x0_4), .second, .val (.long x0_5), .second, .val (.int v7), .val (.long v13), .second, .val (.long v19), .second, .val (.long v27), .second, .val (.long v38), .second, .val (.long v56), .second, .val (.long v76), .second, .val (.long v99), .second, .val (.ref b24), .val (.ref b27), .val (.int (1 : Int32)), .val (.int (1 : Int32)), .val (.int (1 : Int32)), .val (.int (1 : Int32)), .val (.int (0 : Int32)), .unset] [(.ref r48), (.ref b24)])) t → Steps p.tables e below (T46.setTop (mkF m 200 #[.val (.long x0_0), .second, .val (.long x0_1), .second, .val (.long x0_2), .second, .val (.long x0_3), .second, .val (.long x0_4), .second, .val (.long x0_5), .second, .val (.int v7), .val (.long v13), .second, .val (.long v19), .second, .val (.long v27), .second, .val (.long v38), .second, .val (.long v56), .second, .val (.long v76), .second, .val (.long v99), .second, .val (.ref b24), .val (.ref b27), .val (.int (1 : Int32)), .val (.int (1 : Int32)), .val (.int (1 : Int32)), .val (.int (1 : Int32)), .val (.int (0 : Int32)), .unset] [(.long x0_0), (.ref b24)])) t := fun t kt => by
          show Steps p.tables e below (T46.setTop (mkF m 200 #[.val (.long x0_0), .second, .val (.long x0_1), .second, .val (.long x0_2), .second, .val (.long x0_3), .second, .val (.long x0_4), .second, .val (.long x0_5), .second, .val (.int v7), .val (.long v13), .second, .val (.long v19), .second, .val (.long v27), .second, .val (.long v38), .second, .val (.long v56), .second, .val (.long v76), .second, .val (.long v99), .second, .val (.ref b24), .val (.ref b27), .val (.int (1 : Int32)), .val (.int (1 : Int32)), .val (.int (1 : Int32)), .val (.int (1 : Int32)), .val (.int (0 : Int32)), .unset] [(.long x0_0), (.ref b24)])) _
          refine st48 _ ?_
          exact kt
        obtain ⟨cq51, kq51, q51a, q51b, q51c⟩ := isOf hZ rfl c50
        obtain ⟨rv51, _, ⟨T51, L51, k51, n51⟩, -, X51, ⟨Lc51, hQ51, l51, y51, z51⟩, st51⟩ := X48.virtualBack hx (y := (⟨"com/example/libdmutex/libdmutex/core/Range", "equals", "(Ljava/lang/Object;)Z"⟩ : MethodName)) (z := (⟨"com/example/libdmutex/libdmutex/core/Range", "equals", "(Ljava/lang/Object;)Z"⟩ : MethodName)) hown (mvT hZ (hw _ (List.mem_of_getElem? (i := 29) rfl))) (mvT hZ (hw _ (List.mem_of_getElem? (i := 30) rfl))) (notFace_of_selects (args := #[]) (mvT hZ (hw _ (List.mem_of_getElem? (i := 32) rfl)))) (mvT hZ (hw _ (List.mem_of_getElem? (i := 32) rfl))) (mvT hZ (hw _ (List.mem_of_getElem? (i := 31) rfl))) (by decide) (backOf (W := 0) (rm6i l Z a0 hw [] b24 r48 T48.heap n0 Zs48 Ex48) hZ (hw _ (List.mem_of_getElem? (i := 33) rfl)) (hw _ (List.mem_of_getElem? (i := 15) rfl)) (by decide) (by decide)) q51a q51c (g := (mkF m 203 #[.val (.long x0_0), .second, .val (.long x0_1), .second, .val (.long x0_2), .second, .val (.long x0_3), .second, .val (.long x0_4), .second, .val (.long x0_5), .second, .val (.int v7), .val (.long v13), .second, .val (.long v19), .second, .val (.long v27), .second, .val (.long v38), .second, .val (.long v56), .second, .val (.long v76), .second, .val (.long v99), .second, .val (.ref b24), .val (.ref b27), .val (.int (1 : Int32)), .val (.int (1 : Int32)), .val (.int (1 : Int32)), .val (.int (1 : Int32)), .val (.int (0 : Int32)), .unset] [(.ref r48), (.ref b24)])) rfl (by rw [hml]; rfl) (Steps.refl _) (argsL := [(.ref r48)]) (rest := []) (lenOf pd_6 rfl) rfl (by show 2 * 0 + _ ≤ _; exact Nat.le_of_eq rfl) (hb hby at_203) (fun _ _ => ⟨rfl, rfl, (by decide : 3 + 0 ≤ _), (by decide : 7 + 0 ≤ _)⟩)
        dsimp only [Pt.U, Pt.locs, Pt.cells, Pt.slots] at X51 l51 y51 z51 st51 hQ51
        subst l51 y51 z51
        obtain ⟨hv51, N51q, e51⟩ := hQ51
        have N51 := Fr.app N48 N51q
        have hf51 : f6i b24 r48 = (0 : Int32) := rfl
        rw [hf51] at hv51
        subst hv51
        obtain ⟨fs, hr, hrun, hended, hW, hsame⟩ := X51.leave (v := some (.int (1 : Int32))) (fun h => by rw [Bd.returns] at h; cases h)
        refine ⟨_, _, pre0 _ (sg1 _ (sg2 _ (sg4 _ (sg5 _ (sg7 _ (sg8 _ (sg10 _ (sg11 _ (sg12 _ (sg13 _ (sg15 _ (sg16 _ (sg17 _ (sg19 _ (sg20 _ (sg21 _ (sg23 _ (sg26 _ (sg29 _ (sg30 _ (sg32 _ (sg34 _ (sg41 _ (sg43 _ (sg45 _ (sg47 _ (sg49 _ (sg52 _ ?_)))))))))))))))))))))))))))), hrun, hended, _, _, rfl, ?_, ⟨_, rfl⟩, hW, hsame.mono (by decide) (by decide)⟩
        · show Steps p.tables e below (T48.setTop (mkF m 203 #[.val (.long x0_0), .second, .val (.long x0_1), .second, .val (.long x0_2), .second, .val (.long x0_3), .second, .val (.long x0_4), .second, .val (.long x0_5), .second, .val (.int v7), .val (.long v13), .second, .val (.long v19), .second, .val (.long v27), .second, .val (.long v38), .second, .val (.long v56), .second, .val (.long v76), .second, .val (.long v99), .second, .val (.ref b24), .val (.ref b27), .val (.int (1 : Int32)), .val (.int (1 : Int32)), .val (.int (1 : Int32)), .val (.int (1 : Int32)), .val (.int (0 : Int32)), .unset] [(.ref r48), (.ref b24)])) _
          refine st51.trans ?_
          show Steps p.tables e below (T51.setTop (mkF m 206 #[.val (.long x0_0), .second, .val (.long x0_1), .second, .val (.long x0_2), .second, .val (.long x0_3), .second, .val (.long x0_4), .second, .val (.long x0_5), .second, .val (.int v7), .val (.long v13), .second, .val (.long v19), .second, .val (.long v27), .second, .val (.long v38), .second, .val (.long v56), .second, .val (.long v76), .second, .val (.long v99), .second, .val (.ref b24), .val (.ref b27), .val (.int (1 : Int32)), .val (.int (1 : Int32)), .val (.int (1 : Int32)), .val (.int (1 : Int32)), .val (.int (0 : Int32)), .unset] [(.int (0 : Int32))])) _
          refine XS.istore X51.here hx rfl (hb hby at_206) rfl (l' := #[.val (.long x0_0), .second, .val (.long x0_1), .second, .val (.long x0_2), .second, .val (.long x0_3), .second, .val (.long x0_4), .second, .val (.long x0_5), .second, .val (.int v7), .val (.long v13), .second, .val (.long v19), .second, .val (.long v27), .second, .val (.long v38), .second, .val (.long v56), .second, .val (.long v76), .second, .val (.long v99), .second, .val (.ref b24), .val (.ref b27), .val (.int (1 : Int32)), .val (.int (1 : Int32)), .val (.int (1 : Int32)), .val (.int (1 : Int32)), .val (.int (0 : Int32)), .val (.int (0 : Int32))]) rfl ?_
          show Steps p.tables e below (T51.setTop (mkF m 208 #[.val (.long x0_0), .second, .val (.long x0_1), .second, .val (.long x0_2), .second, .val (.long x0_3), .second, .val (.long x0_4), .second, .val (.long x0_5), .second, .val (.int v7), .val (.long v13), .second, .val (.long v19), .second, .val (.long v27), .second, .val (.long v38), .second, .val (.long v56), .second, .val (.long v76), .second, .val (.long v99), .second, .val (.ref b24), .val (.ref b27), .val (.int (1 : Int32)), .val (.int (1 : Int32)), .val (.int (1 : Int32)), .val (.int (1 : Int32)), .val (.int (0 : Int32)), .val (.int (0 : Int32))] [])) _
          refine XS.iload X51.here hx rfl (hb hby at_208) rfl ?_
          show Steps p.tables e below (T51.setTop (mkF m 210 #[.val (.long x0_0), .second, .val (.long x0_1), .second, .val (.long x0_2), .second, .val (.long x0_3), .second, .val (.long x0_4), .second, .val (.long x0_5), .second, .val (.int v7), .val (.long v13), .second, .val (.long v19), .second, .val (.long v27), .second, .val (.long v38), .second, .val (.long v56), .second, .val (.long v76), .second, .val (.long v99), .second, .val (.ref b24), .val (.ref b27), .val (.int (1 : Int32)), .val (.int (1 : Int32)), .val (.int (1 : Int32)), .val (.int (1 : Int32)), .val (.int (0 : Int32)), .val (.int (0 : Int32))] [(.int (1 : Int32))])) _
          refine XS.iload X51.here hx rfl (hb hby at_210) rfl ?_
          show Steps p.tables e below (T51.setTop (mkF m 212 #[.val (.long x0_0), .second, .val (.long x0_1), .second, .val (.long x0_2), .second, .val (.long x0_3), .second, .val (.long x0_4), .second, .val (.long x0_5), .second, .val (.int v7), .val (.long v13), .second, .val (.long v19), .second, .val (.long v27), .second, .val (.long v38), .second, .val (.long v56), .second, .val (.long v76), .second, .val (.long v99), .second, .val (.ref b24), .val (.ref b27), .val (.int (1 : Int32)), .val (.int (1 : Int32)), .val (.int (1 : Int32)), .val (.int (1 : Int32)), .val (.int (0 : Int32)), .val (.int (0 : Int32))] [(.int (1 : Int32)), (.int (1 : Int32))])) _
          refine XS.icmpNo X51.here hx rfl (hb hby at_212) rfl (teq (by decide : ((1 : Int32) = (1 : Int32)))).2 ?_
          show Steps p.tables e below (T51.setTop (mkF m 215 #[.val (.long x0_0), .second, .val (.long x0_1), .second, .val (.long x0_2), .second, .val (.long x0_3), .second, .val (.long x0_4), .second, .val (.long x0_5), .second, .val (.int v7), .val (.long v13), .second, .val (.long v19), .second, .val (.long v27), .second, .val (.long v38), .second, .val (.long v56), .second, .val (.long v76), .second, .val (.long v99), .second, .val (.ref b24), .val (.ref b27), .val (.int (1 : Int32)), .val (.int (1 : Int32)), .val (.int (1 : Int32)), .val (.int (1 : Int32)), .val (.int (0 : Int32)), .val (.int (0 : Int32))] [])) _
          refine XS.iload X51.here hx rfl (hb hby at_215) rfl ?_
          show Steps p.tables e below (T51.setTop (mkF m 217 #[.val (.long x0_0), .second, .val (.long x0_1), .second, .val (.long x0_2), .second, .val (.long x0_3), .second, .val (.long x0_4), .second, .val (.long x0_5), .second, .val (.int v7), .val (.long v13), .second, .val (.long v19), .second, .val (.long v27), .second, .val (.long v38), .second, .val (.long v56), .second, .val (.long v76), .second, .val (.long v99), .second, .val (.ref b24), .val (.ref b27), .val (.int (1 : Int32)), .val (.int (1 : Int32)), .val (.int (1 : Int32)), .val (.int (1 : Int32)), .val (.int (0 : Int32)), .val (.int (0 : Int32))] [(.int (1 : Int32))])) _
          refine XS.iload X51.here hx rfl (hb hby at_217) rfl ?_
          show Steps p.tables e below (T51.setTop (mkF m 219 #[.val (.long x0_0), .second, .val (.long x0_1), .second, .val (.long x0_2), .second, .val (.long x0_3), .second, .val (.long x0_4), .second, .val (.long x0_5), .second, .val (.int v7), .val (.long v13), .second, .val (.long v19), .second, .val (.long v27), .second, .val (.long v38), .second, .val (.long v56), .second, .val (.long v76), .second, .val (.long v99), .second, .val (.ref b24), .val (.ref b27), .val (.int (1 : Int32)), .val (.int (1 : Int32)), .val (.int (1 : Int32)), .val (.int (1 : Int32)), .val (.int (0 : Int32)), .val (.int (0 : Int32))] [(.int (1 : Int32)), (.int (1 : Int32))])) _
          refine XS.icmpNo X51.here hx rfl (hb hby at_219) rfl (teq (by decide : ((1 : Int32) = (1 : Int32)))).2 ?_
          show Steps p.tables e below (T51.setTop (mkF m 222 #[.val (.long x0_0), .second, .val (.long x0_1), .second, .val (.long x0_2), .second, .val (.long x0_3), .second, .val (.long x0_4), .second, .val (.long x0_5), .second, .val (.int v7), .val (.long v13), .second, .val (.long v19), .second, .val (.long v27), .second, .val (.long v38), .second, .val (.long v56), .second, .val (.long v76), .second, .val (.long v99), .second, .val (.ref b24), .val (.ref b27), .val (.int (1 : Int32)), .val (.int (1 : Int32)), .val (.int (1 : Int32)), .val (.int (1 : Int32)), .val (.int (0 : Int32)), .val (.int (0 : Int32))] [])) _
          refine XS.iload X51.here hx rfl (hb hby at_222) rfl ?_
          show Steps p.tables e below (T51.setTop (mkF m 224 #[.val (.long x0_0), .second, .val (.long x0_1), .second, .val (.long x0_2), .second, .val (.long x0_3), .second, .val (.long x0_4), .second, .val (.long x0_5), .second, .val (.int v7), .val (.long v13), .second, .val (.long v19), .second, .val (.long v27), .second, .val (.long v38), .second, .val (.long v56), .second, .val (.long v76), .second, .val (.long v99), .second, .val (.ref b24), .val (.ref b27), .val (.int (1 : Int32)), .val (.int (1 : Int32)), .val (.int (1 : Int32)), .val (.int (1 : Int32)), .val (.int (0 : Int32)), .val (.int (0 : Int32))] [(.int (1 : Int32))])) _
          refine XS.ifNo X51.here hx rfl (hb hby at_224) rfl ((if0 _ _).trans (feq (by decide : ¬ ((1 : Int32) = (0 : Int32)))).1) ?_
          show Steps p.tables e below (T51.setTop (mkF m 227 #[.val (.long x0_0), .second, .val (.long x0_1), .second, .val (.long x0_2), .second, .val (.long x0_3), .second, .val (.long x0_4), .second, .val (.long x0_5), .second, .val (.int v7), .val (.long v13), .second, .val (.long v19), .second, .val (.long v27), .second, .val (.long v38), .second, .val (.long v56), .second, .val (.long v76), .second, .val (.long v99), .second, .val (.ref b24), .val (.ref b27), .val (.int (1 : Int32)), .val (.int (1 : Int32)), .val (.int (1 : Int32)), .val (.int (1 : Int32)), .val (.int (0 : Int32)), .val (.int (0 : Int32))] [])) _
          refine XS.iload X51.here hx rfl (hb hby at_227) rfl ?_
          show Steps p.tables e below (T51.setTop (mkF m 229 #[.val (.long x0_0), .second, .val (.long x0_1), .second, .val (.long x0_2), .second, .val (.long x0_3), .second, .val (.long x0_4), .second, .val (.long x0_5), .second, .val (.int v7), .val (.long v13), .second, .val (.long v19), .second, .val (.long v27), .second, .val (.long v38), .second, .val (.long v56), .second, .val (.long v76), .second, .val (.long v99), .second, .val (.ref b24), .val (.ref b27), .val (.int (1 : Int32)), .val (.int (1 : Int32)), .val (.int (1 : Int32)), .val (.int (1 : Int32)), .val (.int (0 : Int32)), .val (.int (0 : Int32))] [(.int (0 : Int32))])) _
          refine XS.ifNo X51.here hx rfl (hb hby at_229) rfl ((if0 _ _).trans (teq (by decide : ((0 : Int32) = (0 : Int32)))).2) ?_
          show Steps p.tables e below (T51.setTop (mkF m 232 #[.val (.long x0_0), .second, .val (.long x0_1), .second, .val (.long x0_2), .second, .val (.long x0_3), .second, .val (.long x0_4), .second, .val (.long x0_5), .second, .val (.int v7), .val (.long v13), .second, .val (.long v19), .second, .val (.long v27), .second, .val (.long v38), .second, .val (.long v56), .second, .val (.long v76), .second, .val (.long v99), .second, .val (.ref b24), .val (.ref b27), .val (.int (1 : Int32)), .val (.int (1 : Int32)), .val (.int (1 : Int32)), .val (.int (1 : Int32)), .val (.int (0 : Int32)), .val (.int (0 : Int32))] [])) _
          refine XS.iload X51.here hx rfl (hb hby at_232) rfl ?_
          show Steps p.tables e below (T51.setTop (mkF m 234 #[.val (.long x0_0), .second, .val (.long x0_1), .second, .val (.long x0_2), .second, .val (.long x0_3), .second, .val (.long x0_4), .second, .val (.long x0_5), .second, .val (.int v7), .val (.long v13), .second, .val (.long v19), .second, .val (.long v27), .second, .val (.long v38), .second, .val (.long v56), .second, .val (.long v76), .second, .val (.long v99), .second, .val (.ref b24), .val (.ref b27), .val (.int (1 : Int32)), .val (.int (1 : Int32)), .val (.int (1 : Int32)), .val (.int (1 : Int32)), .val (.int (0 : Int32)), .val (.int (0 : Int32))] [(.int (0 : Int32))])) _
          refine XS.ifNo X51.here hx rfl (hb hby at_234) rfl ((if0 _ _).trans (teq (by decide : ((0 : Int32) = (0 : Int32)))).2) ?_
          show Steps p.tables e below (T51.setTop (mkF m 237 #[.val (.long x0_0), .second, .val (.long x0_1), .second, .val (.long x0_2), .second, .val (.long x0_3), .second, .val (.long x0_4), .second, .val (.long x0_5), .second, .val (.int v7), .val (.long v13), .second, .val (.long v19), .second, .val (.long v27), .second, .val (.long v38), .second, .val (.long v56), .second, .val (.long v76), .second, .val (.long v99), .second, .val (.ref b24), .val (.ref b27), .val (.int (1 : Int32)), .val (.int (1 : Int32)), .val (.int (1 : Int32)), .val (.int (1 : Int32)), .val (.int (0 : Int32)), .val (.int (0 : Int32))] [])) _
          refine XS.iconst X51.here hx rfl (hb hby at_237) ?_
          show Steps p.tables e below (T51.setTop (mkF m 238 #[.val (.long x0_0), .second, .val (.long x0_1), .second, .val (.long x0_2), .second, .val (.long x0_3), .second, .val (.long x0_4), .second, .val (.long x0_5), .second, .val (.int v7), .val (.long v13), .second, .val (.long v19), .second, .val (.long v27), .second, .val (.long v38), .second, .val (.long v56), .second, .val (.long v76), .second, .val (.long v99), .second, .val (.ref b24), .val (.ref b27), .val (.int (1 : Int32)), .val (.int (1 : Int32)), .val (.int (1 : Int32)), .val (.int (1 : Int32)), .val (.int (0 : Int32)), .val (.int (0 : Int32))] [(.int (1 : Int32))])) _
          refine XS.goto X51.here hx rfl (pc0 := 238) (pc' := 242) rfl (hb hby at_238) (by decide) (by decide) ?_
          show Steps p.tables e below (T51.setTop (mkF m 242 #[.val (.long x0_0), .second, .val (.long x0_1), .second, .val (.long x0_2), .second, .val (.long x0_3), .second, .val (.long x0_4), .second, .val (.long x0_5), .second, .val (.int v7), .val (.long v13), .second, .val (.long v19), .second, .val (.long v27), .second, .val (.long v38), .second, .val (.long v56), .second, .val (.long v76), .second, .val (.long v99), .second, .val (.ref b24), .val (.ref b27), .val (.int (1 : Int32)), .val (.int (1 : Int32)), .val (.int (1 : Int32)), .val (.int (1 : Int32)), .val (.int (0 : Int32)), .val (.int (0 : Int32))] [(.int (1 : Int32))])) _
          exact retN X51 hx (t := .boolean) Bd.returns (by simp) (hb hby at_242) hr
        · show Q0 Z x0_0 x0_1 x0_2 x0_3 x0_4 x0_5 cA cl h0 n0 _ T51.heap _
          rw [e51]
          exact ⟨rfl, N51⟩
      · have c53 := (Exa.keep (Exa.ext E27 Ex25) K28)
        have c54 := (Fld.keep (Fld.ext E27 Fq25_size) K28 (ninS ne_b24_b27 nin0))
        have c55 := (Fld.keep (Fld.ext E27 Fq25_from) K28 (ninS ne_b24_b27 nin0))
        have c56 := (Fld.keep (Fld.ext E27 Fq25_to) K28 (ninS ne_b24_b27 nin0))
        have sg58 : ∀ t, Steps p.tables e below (T28.setTop (mkF m 166 #[.val (.long x0_0), .second, .val (.long x0_1), .second, .val (.long x0_2), .second, .val (.long x0_3), .second, .val (.long x0_4), .second, .val (.long x0_5), .second, .val (.int v7), .val (.long v13), .second, .val (.long v19), .second, .val (.long v27), .second, .val (.long v38), .second, .val (.long v56), .second, .val (.long v76), .second, .val (.long v99), .second, .val (.ref b24), .val (.ref b27), .val (.int (0 : Int32)), .unset, .unset, .unset, .unset, .unset] [(.ref b27), (.ref b24)])) t → Steps p.tables e below (T28.setTop (mkF m 152 #[.val (.long x0_0), .second, .val (.long x0_1), .second, .val (.long x0_2), .second, .val (.long x0_3), .second, .val (.long x0_4), .second, .val (.long x0_5), .second, .val (.int v7), .val (.long v13), .second, .val (.long v19), .second, .val (.long v27), .second, .val (.long v38), .second, .val (.long v56), .second, .val (.long v76), .second, .val (.long v99), .second, .val (.ref b24), .val (.ref b27), .unset, .unset, .unset, .unset, .unset, .unset] [(.int (lcmpW v38 v99))])) t := fun t kt => by
          show Steps p.tables e below (T28.setTop (mkF m 152 #[.val (.long x0_0), .second, .val (.long x0_1), .second, .val (.long x0_2), .second, .val (.long x0_3), .second, .val (.long x0_4), .second, .val (.long x0_5), .second, .val (.int v7), .val (.long v13), .second, .val (.long v19), .second, .val (.long v27), .second, .val (.long v38), .second, .val (.long v56), .second, .val (.long v76), .second, .val (.long v99), .second, .val (.ref b24), .val (.ref b27), .unset, .unset, .unset, .unset, .unset, .unset] [(.int (lcmpW v38 v99))])) _
          refine XS.ifYes X28.here hx rfl (pc0 := 152) (pc' := 159) rfl (hb hby at_152) rfl ((if0 _ _).trans (feq (mt (lw_eq _ _).mp hc152_35)).2) (by decide) (by decide) ?_
          show Steps p.tables e below (T28.setTop (mkF m 159 #[.val (.long x0_0), .second, .val (.long x0_1), .second, .val (.long x0_2), .second, .val (.long x0_3), .second, .val (.long x0_4), .second, .val (.long x0_5), .second, .val (.int v7), .val (.long v13), .second, .val (.long v19), .second, .val (.long v27), .second, .val (.long v38), .second, .val (.long v56), .second, .val (.long v76), .second, .val (.long v99), .second, .val (.ref b24), .val (.ref b27), .unset, .unset, .unset, .unset, .unset, .unset] [])) _
          refine XS.iconst X28.here hx rfl (hb hby at_159) ?_
          show Steps p.tables e below (T28.setTop (mkF m 160 #[.val (.long x0_0), .second, .val (.long x0_1), .second, .val (.long x0_2), .second, .val (.long x0_3), .second, .val (.long x0_4), .second, .val (.long x0_5), .second, .val (.int v7), .val (.long v13), .second, .val (.long v19), .second, .val (.long v27), .second, .val (.long v38), .second, .val (.long v56), .second, .val (.long v76), .second, .val (.long v99), .second, .val (.ref b24), .val (.ref b27), .unset, .unset, .unset, .unset, .unset, .unset] [(.int (0 : Int32))])) _
          refine XS.istore X28.here hx rfl (hb hby at_160) rfl (l' := #[.val (.long x0_0), .second, .val (.long x0_1), .second, .val (.long x0_2), .second, .val (.long x0_3), .second, .val (.long x0_4), .second, .val (.long x0_5), .second, .val (.int v7), .val (.long v13), .second, .val (.long v19), .second, .val (.long v27), .second, .val (.long v38), .second, .val (.long v56), .second, .val (.long v76), .second, .val (.long v99), .second, .val (.ref b24), .val (.ref b27), .val (.int (0 : Int32)), .unset, .unset, .unset, .unset, .unset]) rfl ?_
          show Steps p.tables e below (T28.setTop (mkF m 162 #[.val (.long x0_0), .second, .val (.long x0_1), .second, .val (.long x0_2), .second, .val (.long x0_3), .second, .val (.long x0_4), .second, .val (.long x0_5), .second, .val (.int v7), .val (.long v13), .second, .val (.long v19), .second, .val (.long v27), .second, .val (.long v38), .second, .val (.long v56), .second, .val (.long v76), .second, .val (.long v99), .second, .val (.ref b24), .val (.ref b27), .val (.int (0 : Int32)), .unset, .unset, .unset, .unset, .unset] [])) _
          refine XS.aload X28.here hx rfl (hb hby at_162) rfl rfl ?_
          show Steps p.tables e below (T28.setTop (mkF m 164 #[.val (.long x0_0), .second, .val (.long x0_1), .second, .val (.long x0_2), .second, .val (.long x0_3), .second, .val (.long x0_4), .second, .val (.long x0_5), .second, .val (.int v7), .val (.long v13), .second, .val (.long v19), .second, .val (.long v27), .second, .val (.long v38), .second, .val (.long v56), .second, .val (.long v76), .second, .val (.long v99), .second, .val (.ref b24), .val (.ref b27), .val (.int (0 : Int32)), .unset, .unset, .unset, .unset, .unset] [(.ref b24)])) _
          refine XS.aload X28.here hx rfl (hb hby at_164) rfl rfl ?_
          exact kt
        obtain ⟨cq57, kq57, q57a, q57b, q57c⟩ := isOf hZ rfl c53
        obtain ⟨rv57, _, ⟨T57, L57, k57, n57⟩, -, X57, ⟨Lc57, hQ57, l57, y57, z57⟩, st57⟩ := X28.virtualBack hx (y := (⟨"com/example/libdmutex/libdmutex/core/Range", "equals", "(Ljava/lang/Object;)Z"⟩ : MethodName)) (z := (⟨"com/example/libdmutex/libdmutex/core/Range", "equals", "(Ljava/lang/Object;)Z"⟩ : MethodName)) hown (mvT hZ (hw _ (List.mem_of_getElem? (i := 29) rfl))) (mvT hZ (hw _ (List.mem_of_getElem? (i := 30) rfl))) (notFace_of_selects (args := #[]) (mvT hZ (hw _ (List.mem_of_getElem? (i := 32) rfl)))) (mvT hZ (hw _ (List.mem_of_getElem? (i := 32) rfl))) (mvT hZ (hw _ (List.mem_of_getElem? (i := 31) rfl))) (by decide) (backOf (W := 0) (rm6o l Z a0 hw [] b24 b27 (v19.toInt32) (v27.toInt32) (v38.toInt32) (v56.toInt32) (v76.toInt32) (v99.toInt32) T28.heap n0 Zs28 c53 Ex28 c54 c55 c56 Fq28_size Fq28_from Fq28_to) hZ (hw _ (List.mem_of_getElem? (i := 33) rfl)) (hw _ (List.mem_of_getElem? (i := 15) rfl)) (by decide) (by decide)) q57a q57c (g := (mkF m 166 #[.val (.long x0_0), .second, .val (.long x0_1), .second, .val (.long x0_2), .second, .val (.long x0_3), .second, .val (.long x0_4), .second, .val (.long x0_5), .second, .val (.int v7), .val (.long v13), .second, .val (.long v19), .second, .val (.long v27), .second, .val (.long v38), .second, .val (.long v56), .second, .val (.long v76), .second, .val (.long v99), .second, .val (.ref b24), .val (.ref b27), .val (.int (0 : Int32)), .unset, .unset, .unset, .unset, .unset] [(.ref b27), (.ref b24)])) rfl (by rw [hml]; rfl) (Steps.refl _) (argsL := [(.ref b27)]) (rest := []) (lenOf pd_6 rfl) rfl (by show 2 * 0 + _ ≤ _; exact Nat.le_of_eq rfl) (hb hby at_166) (fun _ _ => ⟨rfl, rfl, (by decide : 2 + 0 ≤ _), (by decide : 6 + 0 ≤ _)⟩)
        dsimp only [Pt.U, Pt.locs, Pt.cells, Pt.slots] at X57 l57 y57 z57 st57 hQ57
        subst l57 y57 z57
        obtain ⟨hv57, N57q, e57⟩ := hQ57
        have N57 := Fr.app N28 N57q
        have hf57 : f6o b24 b27 (v19.toInt32) (v27.toInt32) (v38.toInt32) (v56.toInt32) (v76.toInt32) (v99.toInt32) = (0 : Int32) := by unfold f6o; rw [if_pos (congrArg Int64.toInt32 hc136_31), if_pos (congrArg Int64.toInt32 hc144_33), if_neg (own_inj v38 v99 ⟨Int.le_of_lt (Int.lt_of_le_of_lt hf1.1 ht1.1), Int.le_trans ht1.2 hs1.2⟩ ⟨Int.le_of_lt (Int.lt_of_le_of_lt hf2.1 ht2.1), Int.le_trans ht2.2 hs2.2⟩ hc152_35)]
        rw [hf57] at hv57
        subst hv57
        have sg60 : ∀ t, Steps p.tables e below (T57.setTop (mkF m 175 #[.val (.long x0_0), .second, .val (.long x0_1), .second, .val (.long x0_2), .second, .val (.long x0_3), .second, .val (.long x0_4), .second, .val (.long x0_5), .second, .val (.int v7), .val (.long v13), .second, .val (.long v19), .second, .val (.long v27), .second, .val (.long v38), .second, .val (.long v56), .second, .val (.long v76), .second, .val (.long v99), .second, .val (.ref b24), .val (.ref b27), .val (.int (0 : Int32)), .val (.int (0 : Int32)), .unset, .unset, .unset, .unset] [(.ref b24), (.ref b27)])) t → Steps p.tables e below (T28.setTop (mkF m 166 #[.val (.long x0_0), .second, .val (.long x0_1), .second, .val (.long x0_2), .second, .val (.long x0_3), .second, .val (.long x0_4), .second, .val (.long x0_5), .second, .val (.int v7), .val (.long v13), .second, .val (.long v19), .second, .val (.long v27), .second, .val (.long v38), .second, .val (.long v56), .second, .val (.long v76), .second, .val (.long v99), .second, .val (.ref b24), .val (.ref b27), .val (.int (0 : Int32)), .unset, .unset, .unset, .unset, .unset] [(.ref b27), (.ref b24)])) t := fun t kt => by
          show Steps p.tables e below (T28.setTop (mkF m 166 #[.val (.long x0_0), .second, .val (.long x0_1), .second, .val (.long x0_2), .second, .val (.long x0_3), .second, .val (.long x0_4), .second, .val (.long x0_5), .second, .val (.int v7), .val (.long v13), .second, .val (.long v19), .second, .val (.long v27), .second, .val (.long v38), .second, .val (.long v56), .second, .val (.long v76), .second, .val (.long v99), .second, .val (.ref b24), .val (.ref b27), .val (.int (0 : Int32)), .unset, .unset, .unset, .unset, .unset] [(.ref b27), (.ref b24)])) _
          refine st57.trans ?_
          show Steps p.tables e below (T57.setTop (mkF m 169 #[.val (.long x0_0), .second, .val (.long x0_1), .second, .val (.long x0_2), .second, .val (.long x0_3), .second, .val (.long x0_4), .second, .val (.long x0_5), .second, .val (.int v7), .val (.long v13), .second, .val (.long v19), .second, .val (.long v27), .second, .val (.long v38), .second, .val (.long v56), .second, .val (.long v76), .second, .val (.long v99), .second, .val (.ref b24), .val (.ref b27), .val (.int (0 : Int32)), .unset, .unset, .unset, .unset, .unset] [(.int (0 : Int32))])) _
          refine XS.istore X57.here hx rfl (hb hby at_169) rfl (l' := #[.val (.long x0_0), .second, .val (.long x0_1), .second, .val (.long x0_2), .second, .val (.long x0_3), .second, .val (.long x0_4), .second, .val (.long x0_5), .second, .val (.int v7), .val (.long v13), .second, .val (.long v19), .second, .val (.long v27), .second, .val (.long v38), .second, .val (.long v56), .second, .val (.long v76), .second, .val (.long v99), .second, .val (.ref b24), .val (.ref b27), .val (.int (0 : Int32)), .val (.int (0 : Int32)), .unset, .unset, .unset, .unset]) rfl ?_
          show Steps p.tables e below (T57.setTop (mkF m 171 #[.val (.long x0_0), .second, .val (.long x0_1), .second, .val (.long x0_2), .second, .val (.long x0_3), .second, .val (.long x0_4), .second, .val (.long x0_5), .second, .val (.int v7), .val (.long v13), .second, .val (.long v19), .second, .val (.long v27), .second, .val (.long v38), .second, .val (.long v56), .second, .val (.long v76), .second, .val (.long v99), .second, .val (.ref b24), .val (.ref b27), .val (.int (0 : Int32)), .val (.int (0 : Int32)), .unset, .unset, .unset, .unset] [])) _
          refine XS.aload X57.here hx rfl (hb hby at_171) rfl rfl ?_
          show Steps p.tables e below (T57.setTop (mkF m 173 #[.val (.long x0_0), .second, .val (.long x0_1), .second, .val (.long x0_2), .second, .val (.long x0_3), .second, .val (.long x0_4), .second, .val (.long x0_5), .second, .val (.int v7), .val (.long v13), .second, .val (.long v19), .second, .val (.long v27), .second, .val (.long v38), .second, .val (.long v56), .second, .val (.long v76), .second, .val (.long v99), .second, .val (.ref b24), .val (.ref b27), .val (.int (0 : Int32)), .val (.int (0 : Int32)), .unset, .unset, .unset, .unset] [(.ref b27)])) _
          refine XS.aload X57.here hx rfl (hb hby at_173) rfl rfl ?_
          exact kt
        obtain ⟨cq59, kq59, q59a, q59b, q59c⟩ := isOf hZ e57 Ex28
        obtain ⟨rv59, _, ⟨T59, L59, k59, n59⟩, -, X59, ⟨Lc59, hQ59, l59, y59, z59⟩, st59⟩ := X57.virtualBack hx (y := (⟨"com/example/libdmutex/libdmutex/core/Range", "equals", "(Ljava/lang/Object;)Z"⟩ : MethodName)) (z := (⟨"com/example/libdmutex/libdmutex/core/Range", "equals", "(Ljava/lang/Object;)Z"⟩ : MethodName)) hown (mvT hZ (hw _ (List.mem_of_getElem? (i := 29) rfl))) (mvT hZ (hw _ (List.mem_of_getElem? (i := 30) rfl))) (notFace_of_selects (args := #[]) (mvT hZ (hw _ (List.mem_of_getElem? (i := 32) rfl)))) (mvT hZ (hw _ (List.mem_of_getElem? (i := 32) rfl))) (mvT hZ (hw _ (List.mem_of_getElem? (i := 31) rfl))) (by decide) (backOf (W := 0) (rm6o l Z a0 hw [] b27 b24 (v56.toInt32) (v76.toInt32) (v99.toInt32) (v19.toInt32) (v27.toInt32) (v38.toInt32) T28.heap n0 Zs28 Ex28 c53 Fq28_size Fq28_from Fq28_to c54 c55 c56) hZ (hw _ (List.mem_of_getElem? (i := 33) rfl)) (hw _ (List.mem_of_getElem? (i := 15) rfl)) (by decide) (by decide)) q59a q59c (g := (mkF m 175 #[.val (.long x0_0), .second, .val (.long x0_1), .second, .val (.long x0_2), .second, .val (.long x0_3), .second, .val (.long x0_4), .second, .val (.long x0_5), .second, .val (.int v7), .val (.long v13), .second, .val (.long v19), .second, .val (.long v27), .second, .val (.long v38), .second, .val (.long v56), .second, .val (.long v76), .second, .val (.long v99), .second, .val (.ref b24), .val (.ref b27), .val (.int (0 : Int32)), .val (.int (0 : Int32)), .unset, .unset, .unset, .unset] [(.ref b24), (.ref b27)])) rfl (by rw [hml]; rfl) (Steps.refl _) (argsL := [(.ref b24)]) (rest := []) (lenOf pd_6 rfl) rfl (by show 2 * 0 + _ ≤ _; exact Nat.le_of_eq rfl) (hb hby at_175) (fun _ _ => ⟨rfl, e57, (by decide : 2 + 0 ≤ _), (by decide : 6 + 0 ≤ _)⟩)
        dsimp only [Pt.U, Pt.locs, Pt.cells, Pt.slots] at X59 l59 y59 z59 st59 hQ59
        subst l59 y59 z59
        obtain ⟨hv59, N59q, e59⟩ := hQ59
        have N59 := Fr.app N57 N59q
        have hf59 : f6o b27 b24 (v56.toInt32) (v76.toInt32) (v99.toInt32) (v19.toInt32) (v27.toInt32) (v38.toInt32) = (0 : Int32) := by unfold f6o; rw [if_pos (congrArg Int64.toInt32 (Eq.symm hc136_31)), if_pos (congrArg Int64.toInt32 (Eq.symm hc144_33)), if_neg (own_inj v99 v38 ⟨Int.le_of_lt (Int.lt_of_le_of_lt hf2.1 ht2.1), Int.le_trans ht2.2 hs2.2⟩ ⟨Int.le_of_lt (Int.lt_of_le_of_lt hf1.1 ht1.1), Int.le_trans ht1.2 hs1.2⟩ (Ne.symm hc152_35))]
        rw [hf59] at hv59
        subst hv59
        have sg62 : ∀ t, Steps p.tables e below (T59.setTop (mkF m 184 #[.val (.long x0_0), .second, .val (.long x0_1), .second, .val (.long x0_2), .second, .val (.long x0_3), .second, .val (.long x0_4), .second, .val (.long x0_5), .second, .val (.int v7), .val (.long v13), .second, .val (.long v19), .second, .val (.long v27), .second, .val (.long v38), .second, .val (.long v56), .second, .val (.long v76), .second, .val (.long v99), .second, .val (.ref b24), .val (.ref b27), .val (.int (0 : Int32)), .val (.int (0 : Int32)), .val (.int (0 : Int32)), .unset, .unset, .unset] [(.ref b24), (.ref b24)])) t → Steps p.tables e below (T57.setTop (mkF m 175 #[.val (.long x0_0), .second, .val (.long x0_1), .second, .val (.long x0_2), .second, .val (.long x0_3), .second, .val (.long x0_4), .second, .val (.long x0_5), .second, .val (.int v7), .val (.long v13), .second, .val (.long v19), .second, .val (.long v27), .second, .val (.long v38), .second, .val (.long v56), .second, .val (.long v76), .second, .val (.long v99), .second, .val (.ref b24), .val (.ref b27), .val (.int (0 : Int32)), .val (.int (0 : Int32)), .unset, .unset, .unset, .unset] [(.ref b24), (.ref b27)])) t := fun t kt => by
          show Steps p.tables e below (T57.setTop (mkF m 175 #[.val (.long x0_0), .second, .val (.long x0_1), .second, .val (.long x0_2), .second, .val (.long x0_3), .second, .val (.long x0_4), .second, .val (.long x0_5), .second, .val (.int v7), .val (.long v13), .second, .val (.long v19), .second, .val (.long v27), .second, .val (.long v38), .second, .val (.long v56), .second, .val (.long v76), .second, .val (.long v99), .second, .val (.ref b24), .val (.ref b27), .val (.int (0 : Int32)), .val (.int (0 : Int32)), .unset, .unset, .unset, .unset] [(.ref b24), (.ref b27)])) _
          refine st59.trans ?_
          show Steps p.tables e below (T59.setTop (mkF m 178 #[.val (.long x0_0), .second, .val (.long x0_1), .second, .val (.long x0_2), .second, .val (.long x0_3), .second, .val (.long x0_4), .second, .val (.long x0_5), .second, .val (.int v7), .val (.long v13), .second, .val (.long v19), .second, .val (.long v27), .second, .val (.long v38), .second, .val (.long v56), .second, .val (.long v76), .second, .val (.long v99), .second, .val (.ref b24), .val (.ref b27), .val (.int (0 : Int32)), .val (.int (0 : Int32)), .unset, .unset, .unset, .unset] [(.int (0 : Int32))])) _
          refine XS.istore X59.here hx rfl (hb hby at_178) rfl (l' := #[.val (.long x0_0), .second, .val (.long x0_1), .second, .val (.long x0_2), .second, .val (.long x0_3), .second, .val (.long x0_4), .second, .val (.long x0_5), .second, .val (.int v7), .val (.long v13), .second, .val (.long v19), .second, .val (.long v27), .second, .val (.long v38), .second, .val (.long v56), .second, .val (.long v76), .second, .val (.long v99), .second, .val (.ref b24), .val (.ref b27), .val (.int (0 : Int32)), .val (.int (0 : Int32)), .val (.int (0 : Int32)), .unset, .unset, .unset]) rfl ?_
          show Steps p.tables e below (T59.setTop (mkF m 180 #[.val (.long x0_0), .second, .val (.long x0_1), .second, .val (.long x0_2), .second, .val (.long x0_3), .second, .val (.long x0_4), .second, .val (.long x0_5), .second, .val (.int v7), .val (.long v13), .second, .val (.long v19), .second, .val (.long v27), .second, .val (.long v38), .second, .val (.long v56), .second, .val (.long v76), .second, .val (.long v99), .second, .val (.ref b24), .val (.ref b27), .val (.int (0 : Int32)), .val (.int (0 : Int32)), .val (.int (0 : Int32)), .unset, .unset, .unset] [])) _
          refine XS.aload X59.here hx rfl (hb hby at_180) rfl rfl ?_
          show Steps p.tables e below (T59.setTop (mkF m 182 #[.val (.long x0_0), .second, .val (.long x0_1), .second, .val (.long x0_2), .second, .val (.long x0_3), .second, .val (.long x0_4), .second, .val (.long x0_5), .second, .val (.int v7), .val (.long v13), .second, .val (.long v19), .second, .val (.long v27), .second, .val (.long v38), .second, .val (.long v56), .second, .val (.long v76), .second, .val (.long v99), .second, .val (.ref b24), .val (.ref b27), .val (.int (0 : Int32)), .val (.int (0 : Int32)), .val (.int (0 : Int32)), .unset, .unset, .unset] [(.ref b24)])) _
          refine XS.aload X59.here hx rfl (hb hby at_182) rfl rfl ?_
          exact kt
        obtain ⟨cq61, kq61, q61a, q61b, q61c⟩ := isOf hZ e59 c53
        obtain ⟨rv61, _, ⟨T61, L61, k61, n61⟩, -, X61, ⟨Lc61, hQ61, l61, y61, z61⟩, st61⟩ := X59.virtualBack hx (y := (⟨"com/example/libdmutex/libdmutex/core/Range", "equals", "(Ljava/lang/Object;)Z"⟩ : MethodName)) (z := (⟨"com/example/libdmutex/libdmutex/core/Range", "equals", "(Ljava/lang/Object;)Z"⟩ : MethodName)) hown (mvT hZ (hw _ (List.mem_of_getElem? (i := 29) rfl))) (mvT hZ (hw _ (List.mem_of_getElem? (i := 30) rfl))) (notFace_of_selects (args := #[]) (mvT hZ (hw _ (List.mem_of_getElem? (i := 32) rfl)))) (mvT hZ (hw _ (List.mem_of_getElem? (i := 32) rfl))) (mvT hZ (hw _ (List.mem_of_getElem? (i := 31) rfl))) (by decide) (backOf (W := 0) (rm6o l Z a0 hw [] b24 b24 (v19.toInt32) (v27.toInt32) (v38.toInt32) (v19.toInt32) (v27.toInt32) (v38.toInt32) T28.heap n0 Zs28 c53 c53 c54 c55 c56 c54 c55 c56) hZ (hw _ (List.mem_of_getElem? (i := 33) rfl)) (hw _ (List.mem_of_getElem? (i := 15) rfl)) (by decide) (by decide)) q61a q61c (g := (mkF m 184 #[.val (.long x0_0), .second, .val (.long x0_1), .second, .val (.long x0_2), .second, .val (.long x0_3), .second, .val (.long x0_4), .second, .val (.long x0_5), .second, .val (.int v7), .val (.long v13), .second, .val (.long v19), .second, .val (.long v27), .second, .val (.long v38), .second, .val (.long v56), .second, .val (.long v76), .second, .val (.long v99), .second, .val (.ref b24), .val (.ref b27), .val (.int (0 : Int32)), .val (.int (0 : Int32)), .val (.int (0 : Int32)), .unset, .unset, .unset] [(.ref b24), (.ref b24)])) rfl (by rw [hml]; rfl) (Steps.refl _) (argsL := [(.ref b24)]) (rest := []) (lenOf pd_6 rfl) rfl (by show 2 * 0 + _ ≤ _; exact Nat.le_of_eq rfl) (hb hby at_184) (fun _ _ => ⟨rfl, e59, (by decide : 2 + 0 ≤ _), (by decide : 6 + 0 ≤ _)⟩)
        dsimp only [Pt.U, Pt.locs, Pt.cells, Pt.slots] at X61 l61 y61 z61 st61 hQ61
        subst l61 y61 z61
        obtain ⟨hv61, N61q, e61⟩ := hQ61
        have N61 := Fr.app N59 N61q
        have hf61 : f6o b24 b24 (v19.toInt32) (v27.toInt32) (v38.toInt32) (v19.toInt32) (v27.toInt32) (v38.toInt32) = (1 : Int32) := by unfold f6o; rw [if_pos (rfl : (v19.toInt32) = (v19.toInt32)), if_pos (rfl : (v27.toInt32) = (v27.toInt32)), if_pos (rfl : (v38.toInt32) = (v38.toInt32))]
        rw [hf61] at hv61
        subst hv61
        have sg64 : ∀ t, Steps p.tables e below (T61.setTop (mkF m 192 #[.val (.long x0_0), .second, .val (.long x0_1), .second, .val (.long x0_2), .second, .val (.long x0_3), .second, .val (.long x0_4), .second, .val (.long x0_5), .second, .val (.int v7), .val (.long v13), .second, .val (.long v19), .second, .val (.long v27), .second, .val (.long v38), .second, .val (.long v56), .second, .val (.long v76), .second, .val (.long v99), .second, .val (.ref b24), .val (.ref b27), .val (.int (0 : Int32)), .val (.int (0 : Int32)), .val (.int (0 : Int32)), .val (.int (1 : Int32)), .unset, .unset] [.null, (.ref b24)])) t → Steps p.tables e below (T59.setTop (mkF m 184 #[.val (.long x0_0), .second, .val (.long x0_1), .second, .val (.long x0_2), .second, .val (.long x0_3), .second, .val (.long x0_4), .second, .val (.long x0_5), .second, .val (.int v7), .val (.long v13), .second, .val (.long v19), .second, .val (.long v27), .second, .val (.long v38), .second, .val (.long v56), .second, .val (.long v76), .second, .val (.long v99), .second, .val (.ref b24), .val (.ref b27), .val (.int (0 : Int32)), .val (.int (0 : Int32)), .val (.int (0 : Int32)), .unset, .unset, .unset] [(.ref b24), (.ref b24)])) t := fun t kt => by
          show Steps p.tables e below (T59.setTop (mkF m 184 #[.val (.long x0_0), .second, .val (.long x0_1), .second, .val (.long x0_2), .second, .val (.long x0_3), .second, .val (.long x0_4), .second, .val (.long x0_5), .second, .val (.int v7), .val (.long v13), .second, .val (.long v19), .second, .val (.long v27), .second, .val (.long v38), .second, .val (.long v56), .second, .val (.long v76), .second, .val (.long v99), .second, .val (.ref b24), .val (.ref b27), .val (.int (0 : Int32)), .val (.int (0 : Int32)), .val (.int (0 : Int32)), .unset, .unset, .unset] [(.ref b24), (.ref b24)])) _
          refine st61.trans ?_
          show Steps p.tables e below (T61.setTop (mkF m 187 #[.val (.long x0_0), .second, .val (.long x0_1), .second, .val (.long x0_2), .second, .val (.long x0_3), .second, .val (.long x0_4), .second, .val (.long x0_5), .second, .val (.int v7), .val (.long v13), .second, .val (.long v19), .second, .val (.long v27), .second, .val (.long v38), .second, .val (.long v56), .second, .val (.long v76), .second, .val (.long v99), .second, .val (.ref b24), .val (.ref b27), .val (.int (0 : Int32)), .val (.int (0 : Int32)), .val (.int (0 : Int32)), .unset, .unset, .unset] [(.int (1 : Int32))])) _
          refine XS.istore X61.here hx rfl (hb hby at_187) rfl (l' := #[.val (.long x0_0), .second, .val (.long x0_1), .second, .val (.long x0_2), .second, .val (.long x0_3), .second, .val (.long x0_4), .second, .val (.long x0_5), .second, .val (.int v7), .val (.long v13), .second, .val (.long v19), .second, .val (.long v27), .second, .val (.long v38), .second, .val (.long v56), .second, .val (.long v76), .second, .val (.long v99), .second, .val (.ref b24), .val (.ref b27), .val (.int (0 : Int32)), .val (.int (0 : Int32)), .val (.int (0 : Int32)), .val (.int (1 : Int32)), .unset, .unset]) rfl ?_
          show Steps p.tables e below (T61.setTop (mkF m 189 #[.val (.long x0_0), .second, .val (.long x0_1), .second, .val (.long x0_2), .second, .val (.long x0_3), .second, .val (.long x0_4), .second, .val (.long x0_5), .second, .val (.int v7), .val (.long v13), .second, .val (.long v19), .second, .val (.long v27), .second, .val (.long v38), .second, .val (.long v56), .second, .val (.long v76), .second, .val (.long v99), .second, .val (.ref b24), .val (.ref b27), .val (.int (0 : Int32)), .val (.int (0 : Int32)), .val (.int (0 : Int32)), .val (.int (1 : Int32)), .unset, .unset] [])) _
          refine XS.aload X61.here hx rfl (hb hby at_189) rfl rfl ?_
          show Steps p.tables e below (T61.setTop (mkF m 191 #[.val (.long x0_0), .second, .val (.long x0_1), .second, .val (.long x0_2), .second, .val (.long x0_3), .second, .val (.long x0_4), .second, .val (.long x0_5), .second, .val (.int v7), .val (.long v13), .second, .val (.long v19), .second, .val (.long v27), .second, .val (.long v38), .second, .val (.long v56), .second, .val (.long v76), .second, .val (.long v99), .second, .val (.ref b24), .val (.ref b27), .val (.int (0 : Int32)), .val (.int (0 : Int32)), .val (.int (0 : Int32)), .val (.int (1 : Int32)), .unset, .unset] [(.ref b24)])) _
          refine XS.aconstNull X61.here hx rfl (hb hby at_191) ?_
          exact kt
        obtain ⟨cq63, kq63, q63a, q63b, q63c⟩ := isOf hZ e61 c53
        obtain ⟨rv63, _, ⟨T63, L63, k63, n63⟩, -, X63, ⟨Lc63, hQ63, l63, y63, z63⟩, st63⟩ := X61.virtualBack hx (y := (⟨"com/example/libdmutex/libdmutex/core/Range", "equals", "(Ljava/lang/Object;)Z"⟩ : MethodName)) (z := (⟨"com/example/libdmutex/libdmutex/core/Range", "equals", "(Ljava/lang/Object;)Z"⟩ : MethodName)) hown (mvT hZ (hw _ (List.mem_of_getElem? (i := 29) rfl))) (mvT hZ (hw _ (List.mem_of_getElem? (i := 30) rfl))) (notFace_of_selects (args := #[]) (mvT hZ (hw _ (List.mem_of_getElem? (i := 32) rfl)))) (mvT hZ (hw _ (List.mem_of_getElem? (i := 32) rfl))) (mvT hZ (hw _ (List.mem_of_getElem? (i := 31) rfl))) (by decide) (backOf (W := 0) (rm6n l Z a0 hw [] b24 T28.heap n0 Zs28 c53) hZ (hw _ (List.mem_of_getElem? (i := 33) rfl)) (hw _ (List.mem_of_getElem? (i := 15) rfl)) (by decide) (by decide)) q63a q63c (g := (mkF m 192 #[.val (.long x0_0), .second, .val (.long x0_1), .second, .val (.long x0_2), .second, .val (.long x0_3), .second, .val (.long x0_4), .second, .val (.long x0_5), .second, .val (.int v7), .val (.long v13), .second, .val (.long v19), .second, .val (.long v27), .second, .val (.long v38), .second, .val (.long v56), .second, .val (.long v76), .second, .val (.long v99), .second, .val (.ref b24), .val (.ref b27), .val (.int (0 : Int32)), .val (.int (0 : Int32)), .val (.int (0 : Int32)), .val (.int (1 : Int32)), .unset, .unset] [.null, (.ref b24)])) rfl (by rw [hml]; rfl) (Steps.refl _) (argsL := [.null]) (rest := []) (lenOf pd_6 rfl) rfl (by show 2 * 0 + _ ≤ _; exact Nat.le_of_eq rfl) (hb hby at_192) (fun _ _ => ⟨rfl, e61, (by decide : 2 + 0 ≤ _), (by decide : 6 + 0 ≤ _)⟩)
        dsimp only [Pt.U, Pt.locs, Pt.cells, Pt.slots] at X63 l63 y63 z63 st63 hQ63
        subst l63 y63 z63
        obtain ⟨hv63, N63q, e63⟩ := hQ63
        have N63 := Fr.app N61 N63q
        have hf63 : f6n b24 = (0 : Int32) := rfl
        rw [hf63] at hv63
        subst hv63
        have sg66 : ∀ t, Steps p.tables e below (T63.setTop (mkF m 200 #[.val (.long x0_0), .second, .val (.long x0_1), .second, .val (.long x0_2), .second, .val (.long x0_3), .second, .val (.long x0_4), .second, .val (.long x0_5), .second, .val (.int v7), .val (.long v13), .second, .val (.long v19), .second, .val (.long v27), .second, .val (.long v38), .second, .val (.long v56), .second, .val (.long v76), .second, .val (.long v99), .second, .val (.ref b24), .val (.ref b27), .val (.int (0 : Int32)), .val (.int (0 : Int32)), .val (.int (0 : Int32)), .val (.int (1 : Int32)), .val (.int (0 : Int32)), .unset] [(.long x0_0), (.ref b24)])) t → Steps p.tables e below (T61.setTop (mkF m 192 #[.val (.long x0_0), .second, .val (.long x0_1), .second, .val (.long x0_2), .second, .val (.long x0_3), .second, .val (.long x0_4), .second, .val (.long x0_5), .second, .val (.int v7), .val (.long v13), .second, .val (.long v19), .second, .val (.long v27), .second, .val (.long v38), .second, .val (.long v56), .second, .val (.long v76), .second, .val (.long v99), .second, .val (.ref b24), .val (.ref b27), .val (.int (0 : Int32)), .val (.int (0 : Int32)), .val (.int (0 : Int32)), .val (.int (1 : Int32)), .unset, .unset] [.null, (.ref b24)])) t := fun t kt => by
          show Steps p.tables e below (T61.setTop (mkF m 192 #[.val (.long x0_0), .second, .val (.long x0_1), .second, .val (.long x0_2), .second, .val (.long x0_3), .second, .val (.long x0_4), .second, .val (.long x0_5), .second, .val (.int v7), .val (.long v13), .second, .val (.long v19), .second, .val (.long v27), .second, .val (.long v38), .second, .val (.long v56), .second, .val (.long v76), .second, .val (.long v99), .second, .val (.ref b24), .val (.ref b27), .val (.int (0 : Int32)), .val (.int (0 : Int32)), .val (.int (0 : Int32)), .val (.int (1 : Int32)), .unset, .unset] [.null, (.ref b24)])) _
          refine st63.trans ?_
          show Steps p.tables e below (T63.setTop (mkF m 195 #[.val (.long x0_0), .second, .val (.long x0_1), .second, .val (.long x0_2), .second, .val (.long x0_3), .second, .val (.long x0_4), .second, .val (.long x0_5), .second, .val (.int v7), .val (.long v13), .second, .val (.long v19), .second, .val (.long v27), .second, .val (.long v38), .second, .val (.long v56), .second, .val (.long v76), .second, .val (.long v99), .second, .val (.ref b24), .val (.ref b27), .val (.int (0 : Int32)), .val (.int (0 : Int32)), .val (.int (0 : Int32)), .val (.int (1 : Int32)), .unset, .unset] [(.int (0 : Int32))])) _
          refine XS.istore X63.here hx rfl (hb hby at_195) rfl (l' := #[.val (.long x0_0), .second, .val (.long x0_1), .second, .val (.long x0_2), .second, .val (.long x0_3), .second, .val (.long x0_4), .second, .val (.long x0_5), .second, .val (.int v7), .val (.long v13), .second, .val (.long v19), .second, .val (.long v27), .second, .val (.long v38), .second, .val (.long v56), .second, .val (.long v76), .second, .val (.long v99), .second, .val (.ref b24), .val (.ref b27), .val (.int (0 : Int32)), .val (.int (0 : Int32)), .val (.int (0 : Int32)), .val (.int (1 : Int32)), .val (.int (0 : Int32)), .unset]) rfl ?_
          show Steps p.tables e below (T63.setTop (mkF m 197 #[.val (.long x0_0), .second, .val (.long x0_1), .second, .val (.long x0_2), .second, .val (.long x0_3), .second, .val (.long x0_4), .second, .val (.long x0_5), .second, .val (.int v7), .val (.long v13), .second, .val (.long v19), .second, .val (.long v27), .second, .val (.long v38), .second, .val (.long v56), .second, .val (.long v76), .second, .val (.long v99), .second, .val (.ref b24), .val (.ref b27), .val (.int (0 : Int32)), .val (.int (0 : Int32)), .val (.int (0 : Int32)), .val (.int (1 : Int32)), .val (.int (0 : Int32)), .unset] [])) _
          refine XS.aload X63.here hx rfl (hb hby at_197) rfl rfl ?_
          show Steps p.tables e below (T63.setTop (mkF m 199 #[.val (.long x0_0), .second, .val (.long x0_1), .second, .val (.long x0_2), .second, .val (.long x0_3), .second, .val (.long x0_4), .second, .val (.long x0_5), .second, .val (.int v7), .val (.long v13), .second, .val (.long v19), .second, .val (.long v27), .second, .val (.long v38), .second, .val (.long v56), .second, .val (.long v76), .second, .val (.long v99), .second, .val (.ref b24), .val (.ref b27), .val (.int (0 : Int32)), .val (.int (0 : Int32)), .val (.int (0 : Int32)), .val (.int (1 : Int32)), .val (.int (0 : Int32)), .unset] [(.ref b24)])) _
          refine XS.lloadN X63.here hx rfl (hb hby at_199) rfl ?_
          exact kt
        obtain ⟨rv65, _, ⟨T65, L65, k65, n65⟩, -, X65, ⟨Lc65, hQ65, l65, y65, z65⟩, st65⟩ := Jvm.LawKit.callS X63 hx (y := (⟨"java/lang/Long", "valueOf", "(J)Ljava/lang/Long;"⟩ : MethodName)) hown (mvT hZ (hw _ (List.mem_of_getElem? (i := 36) rfl))) (mvT hZ (hw _ (List.mem_of_getElem? (i := 37) rfl))) (mvT hZ (hw _ (List.mem_of_getElem? (i := 38) rfl))) (mvT hZ (hw _ (List.mem_of_getElem? (i := 39) rfl))) (by decide) (backOf (W := 1) (rm7 l Z a0 hw [] x0_0 cA cl T28.heap n0 Zs28 Ol28 JC SC) hZ (hw _ (List.mem_of_getElem? (i := 39) rfl)) (hw _ (List.mem_of_getElem? (i := 38) rfl)) (by decide) (by decide)) (g := (mkF m 200 #[.val (.long x0_0), .second, .val (.long x0_1), .second, .val (.long x0_2), .second, .val (.long x0_3), .second, .val (.long x0_4), .second, .val (.long x0_5), .second, .val (.int v7), .val (.long v13), .second, .val (.long v19), .second, .val (.long v27), .second, .val (.long v38), .second, .val (.long v56), .second, .val (.long v76), .second, .val (.long v99), .second, .val (.ref b24), .val (.ref b27), .val (.int (0 : Int32)), .val (.int (0 : Int32)), .val (.int (0 : Int32)), .val (.int (1 : Int32)), .val (.int (0 : Int32)), .unset] [(.long x0_0), (.ref b24)])) rfl (by rw [hml]; rfl) (argsL := [(.long x0_0)]) (rest := [(.ref b24)]) (lenOf pd_7 rfl) rfl (by show 2 * 0 + _ ≤ _; exact Nat.le_of_eq rfl) (hb hby at_200) (fun _ _ => ⟨rfl, e63, (by decide : 2 + 1 ≤ _), (by decide : 6 + 1 ≤ _)⟩)
        dsimp only [Pt.U, Pt.locs, Pt.cells, Pt.slots] at X65 l65 y65 z65 st65 hQ65
        subst l65 y65 z65
        obtain ⟨r65, rfl, N65q, K65, Ex65⟩ := hQ65
        have N65 := Fr.app N63 N65q
        have Zs65 : n0 ≤ T65.heap.size := Nat.le_trans Zs28 K65.1
        have Ol65 : Old Z n0 T65.heap := (Ol28).keep K65 all0
        have c67 := (Exa.keep c53 K65)
        have sg69 : ∀ t, Steps p.tables e below (T65.setTop (mkF m 203 #[.val (.long x0_0), .second, .val (.long x0_1), .second, .val (.long x0_2), .second, .val (.long x0_3), .second, .val (.long x0_4), .second, .val (.long x0_5), .second, .val (.int v7), .val (.long v13), .second, .val (.long v19), .second, .val (.long v27), .second, .val (.long v38), .second, .val (.long v56), .second, .val (.long v76), .second, .val (.long v99), .second, .val (.ref b24), .val (.ref b27), .val (.int (0 : Int32)), .val (.int (0 : Int32)), .val (.int (0 : Int32)), .val (.int (1 : Int32)), .val (.int (0 : Int32)), .unset] [(.ref r65), (.ref b24)])) t → Steps p.tables e below (T63.setTop (mkF m 200 #[.val (.long x0_0), .second, .val (.long x0_1), .second, .val (.long x0_2), .second, .val (.long x0_3), .second, .val (.long x0_4), .second, .val (.long x0_5), .second, .val (.int v7), .val (.long v13), .second, .val (.long v19), .second, .val (.long v27), .second, .val (.long v38), .second, .val (.long v56), .second, .val (.long v76), .second, .val (.long v99), .second, .val (.ref b24), .val (.ref b27), .val (.int (0 : Int32)), .val (.int (0 : Int32)), .val (.int (0 : Int32)), .val (.int (1 : Int32)), .val (.int (0 : Int32)), .unset] [(.long x0_0), (.ref b24)])) t := fun t kt => by
          show Steps p.tables e below (T63.setTop (mkF m 200 #[.val (.long x0_0), .second, .val (.long x0_1), .second, .val (.long x0_2), .second, .val (.long x0_3), .second, .val (.long x0_4), .second, .val (.long x0_5), .second, .val (.int v7), .val (.long v13), .second, .val (.long v19), .second, .val (.long v27), .second, .val (.long v38), .second, .val (.long v56), .second, .val (.long v76), .second, .val (.long v99), .second, .val (.ref b24), .val (.ref b27), .val (.int (0 : Int32)), .val (.int (0 : Int32)), .val (.int (0 : Int32)), .val (.int (1 : Int32)), .val (.int (0 : Int32)), .unset] [(.long x0_0), (.ref b24)])) _
          refine st65 _ ?_
          exact kt
        obtain ⟨cq68, kq68, q68a, q68b, q68c⟩ := isOf hZ rfl c67
        obtain ⟨rv68, _, ⟨T68, L68, k68, n68⟩, -, X68, ⟨Lc68, hQ68, l68, y68, z68⟩, st68⟩ := X65.virtualBack hx (y := (⟨"com/example/libdmutex/libdmutex/core/Range", "equals", "(Ljava/lang/Object;)Z"⟩ : MethodName)) (z := (⟨"com/example/libdmutex/libdmutex/core/Range", "equals", "(Ljava/lang/Object;)Z"⟩ : MethodName)) hown (mvT hZ (hw _ (List.mem_of_getElem? (i := 29) rfl))) (mvT hZ (hw _ (List.mem_of_getElem? (i := 30) rfl))) (notFace_of_selects (args := #[]) (mvT hZ (hw _ (List.mem_of_getElem? (i := 32) rfl)))) (mvT hZ (hw _ (List.mem_of_getElem? (i := 32) rfl))) (mvT hZ (hw _ (List.mem_of_getElem? (i := 31) rfl))) (by decide) (backOf (W := 0) (rm6i l Z a0 hw [] b24 r65 T65.heap n0 Zs65 Ex65) hZ (hw _ (List.mem_of_getElem? (i := 33) rfl)) (hw _ (List.mem_of_getElem? (i := 15) rfl)) (by decide) (by decide)) q68a q68c (g := (mkF m 203 #[.val (.long x0_0), .second, .val (.long x0_1), .second, .val (.long x0_2), .second, .val (.long x0_3), .second, .val (.long x0_4), .second, .val (.long x0_5), .second, .val (.int v7), .val (.long v13), .second, .val (.long v19), .second, .val (.long v27), .second, .val (.long v38), .second, .val (.long v56), .second, .val (.long v76), .second, .val (.long v99), .second, .val (.ref b24), .val (.ref b27), .val (.int (0 : Int32)), .val (.int (0 : Int32)), .val (.int (0 : Int32)), .val (.int (1 : Int32)), .val (.int (0 : Int32)), .unset] [(.ref r65), (.ref b24)])) rfl (by rw [hml]; rfl) (Steps.refl _) (argsL := [(.ref r65)]) (rest := []) (lenOf pd_6 rfl) rfl (by show 2 * 0 + _ ≤ _; exact Nat.le_of_eq rfl) (hb hby at_203) (fun _ _ => ⟨rfl, rfl, (by decide : 3 + 0 ≤ _), (by decide : 7 + 0 ≤ _)⟩)
        dsimp only [Pt.U, Pt.locs, Pt.cells, Pt.slots] at X68 l68 y68 z68 st68 hQ68
        subst l68 y68 z68
        obtain ⟨hv68, N68q, e68⟩ := hQ68
        have N68 := Fr.app N65 N68q
        have hf68 : f6i b24 r65 = (0 : Int32) := rfl
        rw [hf68] at hv68
        subst hv68
        obtain ⟨fs, hr, hrun, hended, hW, hsame⟩ := X68.leave (v := some (.int (1 : Int32))) (fun h => by rw [Bd.returns] at h; cases h)
        refine ⟨_, _, pre0 _ (sg1 _ (sg2 _ (sg4 _ (sg5 _ (sg7 _ (sg8 _ (sg10 _ (sg11 _ (sg12 _ (sg13 _ (sg15 _ (sg16 _ (sg17 _ (sg19 _ (sg20 _ (sg21 _ (sg23 _ (sg26 _ (sg29 _ (sg30 _ (sg32 _ (sg34 _ (sg58 _ (sg60 _ (sg62 _ (sg64 _ (sg66 _ (sg69 _ ?_)))))))))))))))))))))))))))), hrun, hended, _, _, rfl, ?_, ⟨_, rfl⟩, hW, hsame.mono (by decide) (by decide)⟩
        · show Steps p.tables e below (T65.setTop (mkF m 203 #[.val (.long x0_0), .second, .val (.long x0_1), .second, .val (.long x0_2), .second, .val (.long x0_3), .second, .val (.long x0_4), .second, .val (.long x0_5), .second, .val (.int v7), .val (.long v13), .second, .val (.long v19), .second, .val (.long v27), .second, .val (.long v38), .second, .val (.long v56), .second, .val (.long v76), .second, .val (.long v99), .second, .val (.ref b24), .val (.ref b27), .val (.int (0 : Int32)), .val (.int (0 : Int32)), .val (.int (0 : Int32)), .val (.int (1 : Int32)), .val (.int (0 : Int32)), .unset] [(.ref r65), (.ref b24)])) _
          refine st68.trans ?_
          show Steps p.tables e below (T68.setTop (mkF m 206 #[.val (.long x0_0), .second, .val (.long x0_1), .second, .val (.long x0_2), .second, .val (.long x0_3), .second, .val (.long x0_4), .second, .val (.long x0_5), .second, .val (.int v7), .val (.long v13), .second, .val (.long v19), .second, .val (.long v27), .second, .val (.long v38), .second, .val (.long v56), .second, .val (.long v76), .second, .val (.long v99), .second, .val (.ref b24), .val (.ref b27), .val (.int (0 : Int32)), .val (.int (0 : Int32)), .val (.int (0 : Int32)), .val (.int (1 : Int32)), .val (.int (0 : Int32)), .unset] [(.int (0 : Int32))])) _
          refine XS.istore X68.here hx rfl (hb hby at_206) rfl (l' := #[.val (.long x0_0), .second, .val (.long x0_1), .second, .val (.long x0_2), .second, .val (.long x0_3), .second, .val (.long x0_4), .second, .val (.long x0_5), .second, .val (.int v7), .val (.long v13), .second, .val (.long v19), .second, .val (.long v27), .second, .val (.long v38), .second, .val (.long v56), .second, .val (.long v76), .second, .val (.long v99), .second, .val (.ref b24), .val (.ref b27), .val (.int (0 : Int32)), .val (.int (0 : Int32)), .val (.int (0 : Int32)), .val (.int (1 : Int32)), .val (.int (0 : Int32)), .val (.int (0 : Int32))]) rfl ?_
          show Steps p.tables e below (T68.setTop (mkF m 208 #[.val (.long x0_0), .second, .val (.long x0_1), .second, .val (.long x0_2), .second, .val (.long x0_3), .second, .val (.long x0_4), .second, .val (.long x0_5), .second, .val (.int v7), .val (.long v13), .second, .val (.long v19), .second, .val (.long v27), .second, .val (.long v38), .second, .val (.long v56), .second, .val (.long v76), .second, .val (.long v99), .second, .val (.ref b24), .val (.ref b27), .val (.int (0 : Int32)), .val (.int (0 : Int32)), .val (.int (0 : Int32)), .val (.int (1 : Int32)), .val (.int (0 : Int32)), .val (.int (0 : Int32))] [])) _
          refine XS.iload X68.here hx rfl (hb hby at_208) rfl ?_
          show Steps p.tables e below (T68.setTop (mkF m 210 #[.val (.long x0_0), .second, .val (.long x0_1), .second, .val (.long x0_2), .second, .val (.long x0_3), .second, .val (.long x0_4), .second, .val (.long x0_5), .second, .val (.int v7), .val (.long v13), .second, .val (.long v19), .second, .val (.long v27), .second, .val (.long v38), .second, .val (.long v56), .second, .val (.long v76), .second, .val (.long v99), .second, .val (.ref b24), .val (.ref b27), .val (.int (0 : Int32)), .val (.int (0 : Int32)), .val (.int (0 : Int32)), .val (.int (1 : Int32)), .val (.int (0 : Int32)), .val (.int (0 : Int32))] [(.int (0 : Int32))])) _
          refine XS.iload X68.here hx rfl (hb hby at_210) rfl ?_
          show Steps p.tables e below (T68.setTop (mkF m 212 #[.val (.long x0_0), .second, .val (.long x0_1), .second, .val (.long x0_2), .second, .val (.long x0_3), .second, .val (.long x0_4), .second, .val (.long x0_5), .second, .val (.int v7), .val (.long v13), .second, .val (.long v19), .second, .val (.long v27), .second, .val (.long v38), .second, .val (.long v56), .second, .val (.long v76), .second, .val (.long v99), .second, .val (.ref b24), .val (.ref b27), .val (.int (0 : Int32)), .val (.int (0 : Int32)), .val (.int (0 : Int32)), .val (.int (1 : Int32)), .val (.int (0 : Int32)), .val (.int (0 : Int32))] [(.int (0 : Int32)), (.int (0 : Int32))])) _
          refine XS.icmpNo X68.here hx rfl (hb hby at_212) rfl (teq (by decide : ((0 : Int32) = (0 : Int32)))).2 ?_
          show Steps p.tables e below (T68.setTop (mkF m 215 #[.val (.long x0_0), .second, .val (.long x0_1), .second, .val (.long x0_2), .second, .val (.long x0_3), .second, .val (.long x0_4), .second, .val (.long x0_5), .second, .val (.int v7), .val (.long v13), .second, .val (.long v19), .second, .val (.long v27), .second, .val (.long v38), .second, .val (.long v56), .second, .val (.long v76), .second, .val (.long v99), .second, .val (.ref b24), .val (.ref b27), .val (.int (0 : Int32)), .val (.int (0 : Int32)), .val (.int (0 : Int32)), .val (.int (1 : Int32)), .val (.int (0 : Int32)), .val (.int (0 : Int32))] [])) _
          refine XS.iload X68.here hx rfl (hb hby at_215) rfl ?_
          show Steps p.tables e below (T68.setTop (mkF m 217 #[.val (.long x0_0), .second, .val (.long x0_1), .second, .val (.long x0_2), .second, .val (.long x0_3), .second, .val (.long x0_4), .second, .val (.long x0_5), .second, .val (.int v7), .val (.long v13), .second, .val (.long v19), .second, .val (.long v27), .second, .val (.long v38), .second, .val (.long v56), .second, .val (.long v76), .second, .val (.long v99), .second, .val (.ref b24), .val (.ref b27), .val (.int (0 : Int32)), .val (.int (0 : Int32)), .val (.int (0 : Int32)), .val (.int (1 : Int32)), .val (.int (0 : Int32)), .val (.int (0 : Int32))] [(.int (0 : Int32))])) _
          refine XS.iload X68.here hx rfl (hb hby at_217) rfl ?_
          show Steps p.tables e below (T68.setTop (mkF m 219 #[.val (.long x0_0), .second, .val (.long x0_1), .second, .val (.long x0_2), .second, .val (.long x0_3), .second, .val (.long x0_4), .second, .val (.long x0_5), .second, .val (.int v7), .val (.long v13), .second, .val (.long v19), .second, .val (.long v27), .second, .val (.long v38), .second, .val (.long v56), .second, .val (.long v76), .second, .val (.long v99), .second, .val (.ref b24), .val (.ref b27), .val (.int (0 : Int32)), .val (.int (0 : Int32)), .val (.int (0 : Int32)), .val (.int (1 : Int32)), .val (.int (0 : Int32)), .val (.int (0 : Int32))] [(.int (0 : Int32)), (.int (0 : Int32))])) _
          refine XS.icmpNo X68.here hx rfl (hb hby at_219) rfl (teq (by decide : ((0 : Int32) = (0 : Int32)))).2 ?_
          show Steps p.tables e below (T68.setTop (mkF m 222 #[.val (.long x0_0), .second, .val (.long x0_1), .second, .val (.long x0_2), .second, .val (.long x0_3), .second, .val (.long x0_4), .second, .val (.long x0_5), .second, .val (.int v7), .val (.long v13), .second, .val (.long v19), .second, .val (.long v27), .second, .val (.long v38), .second, .val (.long v56), .second, .val (.long v76), .second, .val (.long v99), .second, .val (.ref b24), .val (.ref b27), .val (.int (0 : Int32)), .val (.int (0 : Int32)), .val (.int (0 : Int32)), .val (.int (1 : Int32)), .val (.int (0 : Int32)), .val (.int (0 : Int32))] [])) _
          refine XS.iload X68.here hx rfl (hb hby at_222) rfl ?_
          show Steps p.tables e below (T68.setTop (mkF m 224 #[.val (.long x0_0), .second, .val (.long x0_1), .second, .val (.long x0_2), .second, .val (.long x0_3), .second, .val (.long x0_4), .second, .val (.long x0_5), .second, .val (.int v7), .val (.long v13), .second, .val (.long v19), .second, .val (.long v27), .second, .val (.long v38), .second, .val (.long v56), .second, .val (.long v76), .second, .val (.long v99), .second, .val (.ref b24), .val (.ref b27), .val (.int (0 : Int32)), .val (.int (0 : Int32)), .val (.int (0 : Int32)), .val (.int (1 : Int32)), .val (.int (0 : Int32)), .val (.int (0 : Int32))] [(.int (1 : Int32))])) _
          refine XS.ifNo X68.here hx rfl (hb hby at_224) rfl ((if0 _ _).trans (feq (by decide : ¬ ((1 : Int32) = (0 : Int32)))).1) ?_
          show Steps p.tables e below (T68.setTop (mkF m 227 #[.val (.long x0_0), .second, .val (.long x0_1), .second, .val (.long x0_2), .second, .val (.long x0_3), .second, .val (.long x0_4), .second, .val (.long x0_5), .second, .val (.int v7), .val (.long v13), .second, .val (.long v19), .second, .val (.long v27), .second, .val (.long v38), .second, .val (.long v56), .second, .val (.long v76), .second, .val (.long v99), .second, .val (.ref b24), .val (.ref b27), .val (.int (0 : Int32)), .val (.int (0 : Int32)), .val (.int (0 : Int32)), .val (.int (1 : Int32)), .val (.int (0 : Int32)), .val (.int (0 : Int32))] [])) _
          refine XS.iload X68.here hx rfl (hb hby at_227) rfl ?_
          show Steps p.tables e below (T68.setTop (mkF m 229 #[.val (.long x0_0), .second, .val (.long x0_1), .second, .val (.long x0_2), .second, .val (.long x0_3), .second, .val (.long x0_4), .second, .val (.long x0_5), .second, .val (.int v7), .val (.long v13), .second, .val (.long v19), .second, .val (.long v27), .second, .val (.long v38), .second, .val (.long v56), .second, .val (.long v76), .second, .val (.long v99), .second, .val (.ref b24), .val (.ref b27), .val (.int (0 : Int32)), .val (.int (0 : Int32)), .val (.int (0 : Int32)), .val (.int (1 : Int32)), .val (.int (0 : Int32)), .val (.int (0 : Int32))] [(.int (0 : Int32))])) _
          refine XS.ifNo X68.here hx rfl (hb hby at_229) rfl ((if0 _ _).trans (teq (by decide : ((0 : Int32) = (0 : Int32)))).2) ?_
          show Steps p.tables e below (T68.setTop (mkF m 232 #[.val (.long x0_0), .second, .val (.long x0_1), .second, .val (.long x0_2), .second, .val (.long x0_3), .second, .val (.long x0_4), .second, .val (.long x0_5), .second, .val (.int v7), .val (.long v13), .second, .val (.long v19), .second, .val (.long v27), .second, .val (.long v38), .second, .val (.long v56), .second, .val (.long v76), .second, .val (.long v99), .second, .val (.ref b24), .val (.ref b27), .val (.int (0 : Int32)), .val (.int (0 : Int32)), .val (.int (0 : Int32)), .val (.int (1 : Int32)), .val (.int (0 : Int32)), .val (.int (0 : Int32))] [])) _
          refine XS.iload X68.here hx rfl (hb hby at_232) rfl ?_
          show Steps p.tables e below (T68.setTop (mkF m 234 #[.val (.long x0_0), .second, .val (.long x0_1), .second, .val (.long x0_2), .second, .val (.long x0_3), .second, .val (.long x0_4), .second, .val (.long x0_5), .second, .val (.int v7), .val (.long v13), .second, .val (.long v19), .second, .val (.long v27), .second, .val (.long v38), .second, .val (.long v56), .second, .val (.long v76), .second, .val (.long v99), .second, .val (.ref b24), .val (.ref b27), .val (.int (0 : Int32)), .val (.int (0 : Int32)), .val (.int (0 : Int32)), .val (.int (1 : Int32)), .val (.int (0 : Int32)), .val (.int (0 : Int32))] [(.int (0 : Int32))])) _
          refine XS.ifNo X68.here hx rfl (hb hby at_234) rfl ((if0 _ _).trans (teq (by decide : ((0 : Int32) = (0 : Int32)))).2) ?_
          show Steps p.tables e below (T68.setTop (mkF m 237 #[.val (.long x0_0), .second, .val (.long x0_1), .second, .val (.long x0_2), .second, .val (.long x0_3), .second, .val (.long x0_4), .second, .val (.long x0_5), .second, .val (.int v7), .val (.long v13), .second, .val (.long v19), .second, .val (.long v27), .second, .val (.long v38), .second, .val (.long v56), .second, .val (.long v76), .second, .val (.long v99), .second, .val (.ref b24), .val (.ref b27), .val (.int (0 : Int32)), .val (.int (0 : Int32)), .val (.int (0 : Int32)), .val (.int (1 : Int32)), .val (.int (0 : Int32)), .val (.int (0 : Int32))] [])) _
          refine XS.iconst X68.here hx rfl (hb hby at_237) ?_
          show Steps p.tables e below (T68.setTop (mkF m 238 #[.val (.long x0_0), .second, .val (.long x0_1), .second, .val (.long x0_2), .second, .val (.long x0_3), .second, .val (.long x0_4), .second, .val (.long x0_5), .second, .val (.int v7), .val (.long v13), .second, .val (.long v19), .second, .val (.long v27), .second, .val (.long v38), .second, .val (.long v56), .second, .val (.long v76), .second, .val (.long v99), .second, .val (.ref b24), .val (.ref b27), .val (.int (0 : Int32)), .val (.int (0 : Int32)), .val (.int (0 : Int32)), .val (.int (1 : Int32)), .val (.int (0 : Int32)), .val (.int (0 : Int32))] [(.int (1 : Int32))])) _
          refine XS.goto X68.here hx rfl (pc0 := 238) (pc' := 242) rfl (hb hby at_238) (by decide) (by decide) ?_
          show Steps p.tables e below (T68.setTop (mkF m 242 #[.val (.long x0_0), .second, .val (.long x0_1), .second, .val (.long x0_2), .second, .val (.long x0_3), .second, .val (.long x0_4), .second, .val (.long x0_5), .second, .val (.int v7), .val (.long v13), .second, .val (.long v19), .second, .val (.long v27), .second, .val (.long v38), .second, .val (.long v56), .second, .val (.long v76), .second, .val (.long v99), .second, .val (.ref b24), .val (.ref b27), .val (.int (0 : Int32)), .val (.int (0 : Int32)), .val (.int (0 : Int32)), .val (.int (1 : Int32)), .val (.int (0 : Int32)), .val (.int (0 : Int32))] [(.int (1 : Int32))])) _
          exact retN X68 hx (t := .boolean) Bd.returns (by simp) (hb hby at_242) hr
        · show Q0 Z x0_0 x0_1 x0_2 x0_3 x0_4 x0_5 cA cl h0 n0 _ T68.heap _
          rw [e68]
          exact ⟨rfl, N68⟩
    · have c70 := (Exa.keep (Exa.ext E27 Ex25) K28)
      have c71 := (Fld.keep (Fld.ext E27 Fq25_size) K28 (ninS ne_b24_b27 nin0))
      have c72 := (Fld.keep (Fld.ext E27 Fq25_from) K28 (ninS ne_b24_b27 nin0))
      have c73 := (Fld.keep (Fld.ext E27 Fq25_to) K28 (ninS ne_b24_b27 nin0))
      have sg75 : ∀ t, Steps p.tables e below (T28.setTop (mkF m 166 #[.val (.long x0_0), .second, .val (.long x0_1), .second, .val (.long x0_2), .second, .val (.long x0_3), .second, .val (.long x0_4), .second, .val (.long x0_5), .second, .val (.int v7), .val (.long v13), .second, .val (.long v19), .second, .val (.long v27), .second, .val (.long v38), .second, .val (.long v56), .second, .val (.long v76), .second, .val (.long v99), .second, .val (.ref b24), .val (.ref b27), .val (.int (0 : Int32)), .unset, .unset, .unset, .unset, .unset] [(.ref b27), (.ref b24)])) t → Steps p.tables e below (T28.setTop (mkF m 144 #[.val (.long x0_0), .second, .val (.long x0_1), .second, .val (.long x0_2), .second, .val (.long x0_3), .second, .val (.long x0_4), .second, .val (.long x0_5), .second, .val (.int v7), .val (.long v13), .second, .val (.long v19), .second, .val (.long v27), .second, .val (.long v38), .second, .val (.long v56), .second, .val (.long v76), .second, .val (.long v99), .second, .val (.ref b24), .val (.ref b27), .unset, .unset, .unset, .unset, .unset, .unset] [(.int (lcmpW v27 v76))])) t := fun t kt => by
        show Steps p.tables e below (T28.setTop (mkF m 144 #[.val (.long x0_0), .second, .val (.long x0_1), .second, .val (.long x0_2), .second, .val (.long x0_3), .second, .val (.long x0_4), .second, .val (.long x0_5), .second, .val (.int v7), .val (.long v13), .second, .val (.long v19), .second, .val (.long v27), .second, .val (.long v38), .second, .val (.long v56), .second, .val (.long v76), .second, .val (.long v99), .second, .val (.ref b24), .val (.ref b27), .unset, .unset, .unset, .unset, .unset, .unset] [(.int (lcmpW v27 v76))])) _
        refine XS.ifYes X28.here hx rfl (pc0 := 144) (pc' := 159) rfl (hb hby at_144) rfl ((if0 _ _).trans (feq (mt (lw_eq _ _).mp hc144_33)).2) (by decide) (by decide) ?_
        show Steps p.tables e below (T28.setTop (mkF m 159 #[.val (.long x0_0), .second, .val (.long x0_1), .second, .val (.long x0_2), .second, .val (.long x0_3), .second, .val (.long x0_4), .second, .val (.long x0_5), .second, .val (.int v7), .val (.long v13), .second, .val (.long v19), .second, .val (.long v27), .second, .val (.long v38), .second, .val (.long v56), .second, .val (.long v76), .second, .val (.long v99), .second, .val (.ref b24), .val (.ref b27), .unset, .unset, .unset, .unset, .unset, .unset] [])) _
        refine XS.iconst X28.here hx rfl (hb hby at_159) ?_
        show Steps p.tables e below (T28.setTop (mkF m 160 #[.val (.long x0_0), .second, .val (.long x0_1), .second, .val (.long x0_2), .second, .val (.long x0_3), .second, .val (.long x0_4), .second, .val (.long x0_5), .second, .val (.int v7), .val (.long v13), .second, .val (.long v19), .second, .val (.long v27), .second, .val (.long v38), .second, .val (.long v56), .second, .val (.long v76), .second, .val (.long v99), .second, .val (.ref b24), .val (.ref b27), .unset, .unset, .unset, .unset, .unset, .unset] [(.int (0 : Int32))])) _
        refine XS.istore X28.here hx rfl (hb hby at_160) rfl (l' := #[.val (.long x0_0), .second, .val (.long x0_1), .second, .val (.long x0_2), .second, .val (.long x0_3), .second, .val (.long x0_4), .second, .val (.long x0_5), .second, .val (.int v7), .val (.long v13), .second, .val (.long v19), .second, .val (.long v27), .second, .val (.long v38), .second, .val (.long v56), .second, .val (.long v76), .second, .val (.long v99), .second, .val (.ref b24), .val (.ref b27), .val (.int (0 : Int32)), .unset, .unset, .unset, .unset, .unset]) rfl ?_
        show Steps p.tables e below (T28.setTop (mkF m 162 #[.val (.long x0_0), .second, .val (.long x0_1), .second, .val (.long x0_2), .second, .val (.long x0_3), .second, .val (.long x0_4), .second, .val (.long x0_5), .second, .val (.int v7), .val (.long v13), .second, .val (.long v19), .second, .val (.long v27), .second, .val (.long v38), .second, .val (.long v56), .second, .val (.long v76), .second, .val (.long v99), .second, .val (.ref b24), .val (.ref b27), .val (.int (0 : Int32)), .unset, .unset, .unset, .unset, .unset] [])) _
        refine XS.aload X28.here hx rfl (hb hby at_162) rfl rfl ?_
        show Steps p.tables e below (T28.setTop (mkF m 164 #[.val (.long x0_0), .second, .val (.long x0_1), .second, .val (.long x0_2), .second, .val (.long x0_3), .second, .val (.long x0_4), .second, .val (.long x0_5), .second, .val (.int v7), .val (.long v13), .second, .val (.long v19), .second, .val (.long v27), .second, .val (.long v38), .second, .val (.long v56), .second, .val (.long v76), .second, .val (.long v99), .second, .val (.ref b24), .val (.ref b27), .val (.int (0 : Int32)), .unset, .unset, .unset, .unset, .unset] [(.ref b24)])) _
        refine XS.aload X28.here hx rfl (hb hby at_164) rfl rfl ?_
        exact kt
      obtain ⟨cq74, kq74, q74a, q74b, q74c⟩ := isOf hZ rfl c70
      obtain ⟨rv74, _, ⟨T74, L74, k74, n74⟩, -, X74, ⟨Lc74, hQ74, l74, y74, z74⟩, st74⟩ := X28.virtualBack hx (y := (⟨"com/example/libdmutex/libdmutex/core/Range", "equals", "(Ljava/lang/Object;)Z"⟩ : MethodName)) (z := (⟨"com/example/libdmutex/libdmutex/core/Range", "equals", "(Ljava/lang/Object;)Z"⟩ : MethodName)) hown (mvT hZ (hw _ (List.mem_of_getElem? (i := 29) rfl))) (mvT hZ (hw _ (List.mem_of_getElem? (i := 30) rfl))) (notFace_of_selects (args := #[]) (mvT hZ (hw _ (List.mem_of_getElem? (i := 32) rfl)))) (mvT hZ (hw _ (List.mem_of_getElem? (i := 32) rfl))) (mvT hZ (hw _ (List.mem_of_getElem? (i := 31) rfl))) (by decide) (backOf (W := 0) (rm6o l Z a0 hw [] b24 b27 (v19.toInt32) (v27.toInt32) (v38.toInt32) (v56.toInt32) (v76.toInt32) (v99.toInt32) T28.heap n0 Zs28 c70 Ex28 c71 c72 c73 Fq28_size Fq28_from Fq28_to) hZ (hw _ (List.mem_of_getElem? (i := 33) rfl)) (hw _ (List.mem_of_getElem? (i := 15) rfl)) (by decide) (by decide)) q74a q74c (g := (mkF m 166 #[.val (.long x0_0), .second, .val (.long x0_1), .second, .val (.long x0_2), .second, .val (.long x0_3), .second, .val (.long x0_4), .second, .val (.long x0_5), .second, .val (.int v7), .val (.long v13), .second, .val (.long v19), .second, .val (.long v27), .second, .val (.long v38), .second, .val (.long v56), .second, .val (.long v76), .second, .val (.long v99), .second, .val (.ref b24), .val (.ref b27), .val (.int (0 : Int32)), .unset, .unset, .unset, .unset, .unset] [(.ref b27), (.ref b24)])) rfl (by rw [hml]; rfl) (Steps.refl _) (argsL := [(.ref b27)]) (rest := []) (lenOf pd_6 rfl) rfl (by show 2 * 0 + _ ≤ _; exact Nat.le_of_eq rfl) (hb hby at_166) (fun _ _ => ⟨rfl, rfl, (by decide : 2 + 0 ≤ _), (by decide : 6 + 0 ≤ _)⟩)
      dsimp only [Pt.U, Pt.locs, Pt.cells, Pt.slots] at X74 l74 y74 z74 st74 hQ74
      subst l74 y74 z74
      obtain ⟨hv74, N74q, e74⟩ := hQ74
      have N74 := Fr.app N28 N74q
      have hf74 : f6o b24 b27 (v19.toInt32) (v27.toInt32) (v38.toInt32) (v56.toInt32) (v76.toInt32) (v99.toInt32) = (0 : Int32) := by unfold f6o; rw [if_pos (congrArg Int64.toInt32 hc136_31), if_neg (own_inj v27 v76 ⟨hf1.1, Int.le_of_lt (Int.lt_of_lt_of_le hf1.2 hs1.2)⟩ ⟨hf2.1, Int.le_of_lt (Int.lt_of_lt_of_le hf2.2 hs2.2)⟩ hc144_33)]
      rw [hf74] at hv74
      subst hv74
      have sg77 : ∀ t, Steps p.tables e below (T74.setTop (mkF m 175 #[.val (.long x0_0), .second, .val (.long x0_1), .second, .val (.long x0_2), .second, .val (.long x0_3), .second, .val (.long x0_4), .second, .val (.long x0_5), .second, .val (.int v7), .val (.long v13), .second, .val (.long v19), .second, .val (.long v27), .second, .val (.long v38), .second, .val (.long v56), .second, .val (.long v76), .second, .val (.long v99), .second, .val (.ref b24), .val (.ref b27), .val (.int (0 : Int32)), .val (.int (0 : Int32)), .unset, .unset, .unset, .unset] [(.ref b24), (.ref b27)])) t → Steps p.tables e below (T28.setTop (mkF m 166 #[.val (.long x0_0), .second, .val (.long x0_1), .second, .val (.long x0_2), .second, .val (.long x0_3), .second, .val (.long x0_4), .second, .val (.long x0_5), .second, .val (.int v7), .val (.long v13), .second, .val (.long v19), .second, .val (.long v27), .second, .val (.long v38), .second, .val (.long v56), .second, .val (.long v76), .second, .val (.long v99), .second, .val (.ref b24), .val (.ref b27), .val (.int (0 : Int32)), .unset, .unset, .unset, .unset, .unset] [(.ref b27), (.ref b24)])) t := fun t kt => by
        show Steps p.tables e below (T28.setTop (mkF m 166 #[.val (.long x0_0), .second, .val (.long x0_1), .second, .val (.long x0_2), .second, .val (.long x0_3), .second, .val (.long x0_4), .second, .val (.long x0_5), .second, .val (.int v7), .val (.long v13), .second, .val (.long v19), .second, .val (.long v27), .second, .val (.long v38), .second, .val (.long v56), .second, .val (.long v76), .second, .val (.long v99), .second, .val (.ref b24), .val (.ref b27), .val (.int (0 : Int32)), .unset, .unset, .unset, .unset, .unset] [(.ref b27), (.ref b24)])) _
        refine st74.trans ?_
        show Steps p.tables e below (T74.setTop (mkF m 169 #[.val (.long x0_0), .second, .val (.long x0_1), .second, .val (.long x0_2), .second, .val (.long x0_3), .second, .val (.long x0_4), .second, .val (.long x0_5), .second, .val (.int v7), .val (.long v13), .second, .val (.long v19), .second, .val (.long v27), .second, .val (.long v38), .second, .val (.long v56), .second, .val (.long v76), .second, .val (.long v99), .second, .val (.ref b24), .val (.ref b27), .val (.int (0 : Int32)), .unset, .unset, .unset, .unset, .unset] [(.int (0 : Int32))])) _
        refine XS.istore X74.here hx rfl (hb hby at_169) rfl (l' := #[.val (.long x0_0), .second, .val (.long x0_1), .second, .val (.long x0_2), .second, .val (.long x0_3), .second, .val (.long x0_4), .second, .val (.long x0_5), .second, .val (.int v7), .val (.long v13), .second, .val (.long v19), .second, .val (.long v27), .second, .val (.long v38), .second, .val (.long v56), .second, .val (.long v76), .second, .val (.long v99), .second, .val (.ref b24), .val (.ref b27), .val (.int (0 : Int32)), .val (.int (0 : Int32)), .unset, .unset, .unset, .unset]) rfl ?_
        show Steps p.tables e below (T74.setTop (mkF m 171 #[.val (.long x0_0), .second, .val (.long x0_1), .second, .val (.long x0_2), .second, .val (.long x0_3), .second, .val (.long x0_4), .second, .val (.long x0_5), .second, .val (.int v7), .val (.long v13), .second, .val (.long v19), .second, .val (.long v27), .second, .val (.long v38), .second, .val (.long v56), .second, .val (.long v76), .second, .val (.long v99), .second, .val (.ref b24), .val (.ref b27), .val (.int (0 : Int32)), .val (.int (0 : Int32)), .unset, .unset, .unset, .unset] [])) _
        refine XS.aload X74.here hx rfl (hb hby at_171) rfl rfl ?_
        show Steps p.tables e below (T74.setTop (mkF m 173 #[.val (.long x0_0), .second, .val (.long x0_1), .second, .val (.long x0_2), .second, .val (.long x0_3), .second, .val (.long x0_4), .second, .val (.long x0_5), .second, .val (.int v7), .val (.long v13), .second, .val (.long v19), .second, .val (.long v27), .second, .val (.long v38), .second, .val (.long v56), .second, .val (.long v76), .second, .val (.long v99), .second, .val (.ref b24), .val (.ref b27), .val (.int (0 : Int32)), .val (.int (0 : Int32)), .unset, .unset, .unset, .unset] [(.ref b27)])) _
        refine XS.aload X74.here hx rfl (hb hby at_173) rfl rfl ?_
        exact kt
      obtain ⟨cq76, kq76, q76a, q76b, q76c⟩ := isOf hZ e74 Ex28
      obtain ⟨rv76, _, ⟨T76, L76, k76, n76⟩, -, X76, ⟨Lc76, hQ76, l76, y76, z76⟩, st76⟩ := X74.virtualBack hx (y := (⟨"com/example/libdmutex/libdmutex/core/Range", "equals", "(Ljava/lang/Object;)Z"⟩ : MethodName)) (z := (⟨"com/example/libdmutex/libdmutex/core/Range", "equals", "(Ljava/lang/Object;)Z"⟩ : MethodName)) hown (mvT hZ (hw _ (List.mem_of_getElem? (i := 29) rfl))) (mvT hZ (hw _ (List.mem_of_getElem? (i := 30) rfl))) (notFace_of_selects (args := #[]) (mvT hZ (hw _ (List.mem_of_getElem? (i := 32) rfl)))) (mvT hZ (hw _ (List.mem_of_getElem? (i := 32) rfl))) (mvT hZ (hw _ (List.mem_of_getElem? (i := 31) rfl))) (by decide) (backOf (W := 0) (rm6o l Z a0 hw [] b27 b24 (v56.toInt32) (v76.toInt32) (v99.toInt32) (v19.toInt32) (v27.toInt32) (v38.toInt32) T28.heap n0 Zs28 Ex28 c70 Fq28_size Fq28_from Fq28_to c71 c72 c73) hZ (hw _ (List.mem_of_getElem? (i := 33) rfl)) (hw _ (List.mem_of_getElem? (i := 15) rfl)) (by decide) (by decide)) q76a q76c (g := (mkF m 175 #[.val (.long x0_0), .second, .val (.long x0_1), .second, .val (.long x0_2), .second, .val (.long x0_3), .second, .val (.long x0_4), .second, .val (.long x0_5), .second, .val (.int v7), .val (.long v13), .second, .val (.long v19), .second, .val (.long v27), .second, .val (.long v38), .second, .val (.long v56), .second, .val (.long v76), .second, .val (.long v99), .second, .val (.ref b24), .val (.ref b27), .val (.int (0 : Int32)), .val (.int (0 : Int32)), .unset, .unset, .unset, .unset] [(.ref b24), (.ref b27)])) rfl (by rw [hml]; rfl) (Steps.refl _) (argsL := [(.ref b24)]) (rest := []) (lenOf pd_6 rfl) rfl (by show 2 * 0 + _ ≤ _; exact Nat.le_of_eq rfl) (hb hby at_175) (fun _ _ => ⟨rfl, e74, (by decide : 2 + 0 ≤ _), (by decide : 6 + 0 ≤ _)⟩)
      dsimp only [Pt.U, Pt.locs, Pt.cells, Pt.slots] at X76 l76 y76 z76 st76 hQ76
      subst l76 y76 z76
      obtain ⟨hv76, N76q, e76⟩ := hQ76
      have N76 := Fr.app N74 N76q
      have hf76 : f6o b27 b24 (v56.toInt32) (v76.toInt32) (v99.toInt32) (v19.toInt32) (v27.toInt32) (v38.toInt32) = (0 : Int32) := by unfold f6o; rw [if_pos (congrArg Int64.toInt32 (Eq.symm hc136_31)), if_neg (own_inj v76 v27 ⟨hf2.1, Int.le_of_lt (Int.lt_of_lt_of_le hf2.2 hs2.2)⟩ ⟨hf1.1, Int.le_of_lt (Int.lt_of_lt_of_le hf1.2 hs1.2)⟩ (Ne.symm hc144_33))]
      rw [hf76] at hv76
      subst hv76
      have sg79 : ∀ t, Steps p.tables e below (T76.setTop (mkF m 184 #[.val (.long x0_0), .second, .val (.long x0_1), .second, .val (.long x0_2), .second, .val (.long x0_3), .second, .val (.long x0_4), .second, .val (.long x0_5), .second, .val (.int v7), .val (.long v13), .second, .val (.long v19), .second, .val (.long v27), .second, .val (.long v38), .second, .val (.long v56), .second, .val (.long v76), .second, .val (.long v99), .second, .val (.ref b24), .val (.ref b27), .val (.int (0 : Int32)), .val (.int (0 : Int32)), .val (.int (0 : Int32)), .unset, .unset, .unset] [(.ref b24), (.ref b24)])) t → Steps p.tables e below (T74.setTop (mkF m 175 #[.val (.long x0_0), .second, .val (.long x0_1), .second, .val (.long x0_2), .second, .val (.long x0_3), .second, .val (.long x0_4), .second, .val (.long x0_5), .second, .val (.int v7), .val (.long v13), .second, .val (.long v19), .second, .val (.long v27), .second, .val (.long v38), .second, .val (.long v56), .second, .val (.long v76), .second, .val (.long v99), .second, .val (.ref b24), .val (.ref b27), .val (.int (0 : Int32)), .val (.int (0 : Int32)), .unset, .unset, .unset, .unset] [(.ref b24), (.ref b27)])) t := fun t kt => by
        show Steps p.tables e below (T74.setTop (mkF m 175 #[.val (.long x0_0), .second, .val (.long x0_1), .second, .val (.long x0_2), .second, .val (.long x0_3), .second, .val (.long x0_4), .second, .val (.long x0_5), .second, .val (.int v7), .val (.long v13), .second, .val (.long v19), .second, .val (.long v27), .second, .val (.long v38), .second, .val (.long v56), .second, .val (.long v76), .second, .val (.long v99), .second, .val (.ref b24), .val (.ref b27), .val (.int (0 : Int32)), .val (.int (0 : Int32)), .unset, .unset, .unset, .unset] [(.ref b24), (.ref b27)])) _
        refine st76.trans ?_
        show Steps p.tables e below (T76.setTop (mkF m 178 #[.val (.long x0_0), .second, .val (.long x0_1), .second, .val (.long x0_2), .second, .val (.long x0_3), .second, .val (.long x0_4), .second, .val (.long x0_5), .second, .val (.int v7), .val (.long v13), .second, .val (.long v19), .second, .val (.long v27), .second, .val (.long v38), .second, .val (.long v56), .second, .val (.long v76), .second, .val (.long v99), .second, .val (.ref b24), .val (.ref b27), .val (.int (0 : Int32)), .val (.int (0 : Int32)), .unset, .unset, .unset, .unset] [(.int (0 : Int32))])) _
        refine XS.istore X76.here hx rfl (hb hby at_178) rfl (l' := #[.val (.long x0_0), .second, .val (.long x0_1), .second, .val (.long x0_2), .second, .val (.long x0_3), .second, .val (.long x0_4), .second, .val (.long x0_5), .second, .val (.int v7), .val (.long v13), .second, .val (.long v19), .second, .val (.long v27), .second, .val (.long v38), .second, .val (.long v56), .second, .val (.long v76), .second, .val (.long v99), .second, .val (.ref b24), .val (.ref b27), .val (.int (0 : Int32)), .val (.int (0 : Int32)), .val (.int (0 : Int32)), .unset, .unset, .unset]) rfl ?_
        show Steps p.tables e below (T76.setTop (mkF m 180 #[.val (.long x0_0), .second, .val (.long x0_1), .second, .val (.long x0_2), .second, .val (.long x0_3), .second, .val (.long x0_4), .second, .val (.long x0_5), .second, .val (.int v7), .val (.long v13), .second, .val (.long v19), .second, .val (.long v27), .second, .val (.long v38), .second, .val (.long v56), .second, .val (.long v76), .second, .val (.long v99), .second, .val (.ref b24), .val (.ref b27), .val (.int (0 : Int32)), .val (.int (0 : Int32)), .val (.int (0 : Int32)), .unset, .unset, .unset] [])) _
        refine XS.aload X76.here hx rfl (hb hby at_180) rfl rfl ?_
        show Steps p.tables e below (T76.setTop (mkF m 182 #[.val (.long x0_0), .second, .val (.long x0_1), .second, .val (.long x0_2), .second, .val (.long x0_3), .second, .val (.long x0_4), .second, .val (.long x0_5), .second, .val (.int v7), .val (.long v13), .second, .val (.long v19), .second, .val (.long v27), .second, .val (.long v38), .second, .val (.long v56), .second, .val (.long v76), .second, .val (.long v99), .second, .val (.ref b24), .val (.ref b27), .val (.int (0 : Int32)), .val (.int (0 : Int32)), .val (.int (0 : Int32)), .unset, .unset, .unset] [(.ref b24)])) _
        refine XS.aload X76.here hx rfl (hb hby at_182) rfl rfl ?_
        exact kt
      obtain ⟨cq78, kq78, q78a, q78b, q78c⟩ := isOf hZ e76 c70
      obtain ⟨rv78, _, ⟨T78, L78, k78, n78⟩, -, X78, ⟨Lc78, hQ78, l78, y78, z78⟩, st78⟩ := X76.virtualBack hx (y := (⟨"com/example/libdmutex/libdmutex/core/Range", "equals", "(Ljava/lang/Object;)Z"⟩ : MethodName)) (z := (⟨"com/example/libdmutex/libdmutex/core/Range", "equals", "(Ljava/lang/Object;)Z"⟩ : MethodName)) hown (mvT hZ (hw _ (List.mem_of_getElem? (i := 29) rfl))) (mvT hZ (hw _ (List.mem_of_getElem? (i := 30) rfl))) (notFace_of_selects (args := #[]) (mvT hZ (hw _ (List.mem_of_getElem? (i := 32) rfl)))) (mvT hZ (hw _ (List.mem_of_getElem? (i := 32) rfl))) (mvT hZ (hw _ (List.mem_of_getElem? (i := 31) rfl))) (by decide) (backOf (W := 0) (rm6o l Z a0 hw [] b24 b24 (v19.toInt32) (v27.toInt32) (v38.toInt32) (v19.toInt32) (v27.toInt32) (v38.toInt32) T28.heap n0 Zs28 c70 c70 c71 c72 c73 c71 c72 c73) hZ (hw _ (List.mem_of_getElem? (i := 33) rfl)) (hw _ (List.mem_of_getElem? (i := 15) rfl)) (by decide) (by decide)) q78a q78c (g := (mkF m 184 #[.val (.long x0_0), .second, .val (.long x0_1), .second, .val (.long x0_2), .second, .val (.long x0_3), .second, .val (.long x0_4), .second, .val (.long x0_5), .second, .val (.int v7), .val (.long v13), .second, .val (.long v19), .second, .val (.long v27), .second, .val (.long v38), .second, .val (.long v56), .second, .val (.long v76), .second, .val (.long v99), .second, .val (.ref b24), .val (.ref b27), .val (.int (0 : Int32)), .val (.int (0 : Int32)), .val (.int (0 : Int32)), .unset, .unset, .unset] [(.ref b24), (.ref b24)])) rfl (by rw [hml]; rfl) (Steps.refl _) (argsL := [(.ref b24)]) (rest := []) (lenOf pd_6 rfl) rfl (by show 2 * 0 + _ ≤ _; exact Nat.le_of_eq rfl) (hb hby at_184) (fun _ _ => ⟨rfl, e76, (by decide : 2 + 0 ≤ _), (by decide : 6 + 0 ≤ _)⟩)
      dsimp only [Pt.U, Pt.locs, Pt.cells, Pt.slots] at X78 l78 y78 z78 st78 hQ78
      subst l78 y78 z78
      obtain ⟨hv78, N78q, e78⟩ := hQ78
      have N78 := Fr.app N76 N78q
      have hf78 : f6o b24 b24 (v19.toInt32) (v27.toInt32) (v38.toInt32) (v19.toInt32) (v27.toInt32) (v38.toInt32) = (1 : Int32) := by unfold f6o; rw [if_pos (rfl : (v19.toInt32) = (v19.toInt32)), if_pos (rfl : (v27.toInt32) = (v27.toInt32)), if_pos (rfl : (v38.toInt32) = (v38.toInt32))]
      rw [hf78] at hv78
      subst hv78
      have sg81 : ∀ t, Steps p.tables e below (T78.setTop (mkF m 192 #[.val (.long x0_0), .second, .val (.long x0_1), .second, .val (.long x0_2), .second, .val (.long x0_3), .second, .val (.long x0_4), .second, .val (.long x0_5), .second, .val (.int v7), .val (.long v13), .second, .val (.long v19), .second, .val (.long v27), .second, .val (.long v38), .second, .val (.long v56), .second, .val (.long v76), .second, .val (.long v99), .second, .val (.ref b24), .val (.ref b27), .val (.int (0 : Int32)), .val (.int (0 : Int32)), .val (.int (0 : Int32)), .val (.int (1 : Int32)), .unset, .unset] [.null, (.ref b24)])) t → Steps p.tables e below (T76.setTop (mkF m 184 #[.val (.long x0_0), .second, .val (.long x0_1), .second, .val (.long x0_2), .second, .val (.long x0_3), .second, .val (.long x0_4), .second, .val (.long x0_5), .second, .val (.int v7), .val (.long v13), .second, .val (.long v19), .second, .val (.long v27), .second, .val (.long v38), .second, .val (.long v56), .second, .val (.long v76), .second, .val (.long v99), .second, .val (.ref b24), .val (.ref b27), .val (.int (0 : Int32)), .val (.int (0 : Int32)), .val (.int (0 : Int32)), .unset, .unset, .unset] [(.ref b24), (.ref b24)])) t := fun t kt => by
        show Steps p.tables e below (T76.setTop (mkF m 184 #[.val (.long x0_0), .second, .val (.long x0_1), .second, .val (.long x0_2), .second, .val (.long x0_3), .second, .val (.long x0_4), .second, .val (.long x0_5), .second, .val (.int v7), .val (.long v13), .second, .val (.long v19), .second, .val (.long v27), .second, .val (.long v38), .second, .val (.long v56), .second, .val (.long v76), .second, .val (.long v99), .second, .val (.ref b24), .val (.ref b27), .val (.int (0 : Int32)), .val (.int (0 : Int32)), .val (.int (0 : Int32)), .unset, .unset, .unset] [(.ref b24), (.ref b24)])) _
        refine st78.trans ?_
        show Steps p.tables e below (T78.setTop (mkF m 187 #[.val (.long x0_0), .second, .val (.long x0_1), .second, .val (.long x0_2), .second, .val (.long x0_3), .second, .val (.long x0_4), .second, .val (.long x0_5), .second, .val (.int v7), .val (.long v13), .second, .val (.long v19), .second, .val (.long v27), .second, .val (.long v38), .second, .val (.long v56), .second, .val (.long v76), .second, .val (.long v99), .second, .val (.ref b24), .val (.ref b27), .val (.int (0 : Int32)), .val (.int (0 : Int32)), .val (.int (0 : Int32)), .unset, .unset, .unset] [(.int (1 : Int32))])) _
        refine XS.istore X78.here hx rfl (hb hby at_187) rfl (l' := #[.val (.long x0_0), .second, .val (.long x0_1), .second, .val (.long x0_2), .second, .val (.long x0_3), .second, .val (.long x0_4), .second, .val (.long x0_5), .second, .val (.int v7), .val (.long v13), .second, .val (.long v19), .second, .val (.long v27), .second, .val (.long v38), .second, .val (.long v56), .second, .val (.long v76), .second, .val (.long v99), .second, .val (.ref b24), .val (.ref b27), .val (.int (0 : Int32)), .val (.int (0 : Int32)), .val (.int (0 : Int32)), .val (.int (1 : Int32)), .unset, .unset]) rfl ?_
        show Steps p.tables e below (T78.setTop (mkF m 189 #[.val (.long x0_0), .second, .val (.long x0_1), .second, .val (.long x0_2), .second, .val (.long x0_3), .second, .val (.long x0_4), .second, .val (.long x0_5), .second, .val (.int v7), .val (.long v13), .second, .val (.long v19), .second, .val (.long v27), .second, .val (.long v38), .second, .val (.long v56), .second, .val (.long v76), .second, .val (.long v99), .second, .val (.ref b24), .val (.ref b27), .val (.int (0 : Int32)), .val (.int (0 : Int32)), .val (.int (0 : Int32)), .val (.int (1 : Int32)), .unset, .unset] [])) _
        refine XS.aload X78.here hx rfl (hb hby at_189) rfl rfl ?_
        show Steps p.tables e below (T78.setTop (mkF m 191 #[.val (.long x0_0), .second, .val (.long x0_1), .second, .val (.long x0_2), .second, .val (.long x0_3), .second, .val (.long x0_4), .second, .val (.long x0_5), .second, .val (.int v7), .val (.long v13), .second, .val (.long v19), .second, .val (.long v27), .second, .val (.long v38), .second, .val (.long v56), .second, .val (.long v76), .second, .val (.long v99), .second, .val (.ref b24), .val (.ref b27), .val (.int (0 : Int32)), .val (.int (0 : Int32)), .val (.int (0 : Int32)), .val (.int (1 : Int32)), .unset, .unset] [(.ref b24)])) _
        refine XS.aconstNull X78.here hx rfl (hb hby at_191) ?_
        exact kt
      obtain ⟨cq80, kq80, q80a, q80b, q80c⟩ := isOf hZ e78 c70
      obtain ⟨rv80, _, ⟨T80, L80, k80, n80⟩, -, X80, ⟨Lc80, hQ80, l80, y80, z80⟩, st80⟩ := X78.virtualBack hx (y := (⟨"com/example/libdmutex/libdmutex/core/Range", "equals", "(Ljava/lang/Object;)Z"⟩ : MethodName)) (z := (⟨"com/example/libdmutex/libdmutex/core/Range", "equals", "(Ljava/lang/Object;)Z"⟩ : MethodName)) hown (mvT hZ (hw _ (List.mem_of_getElem? (i := 29) rfl))) (mvT hZ (hw _ (List.mem_of_getElem? (i := 30) rfl))) (notFace_of_selects (args := #[]) (mvT hZ (hw _ (List.mem_of_getElem? (i := 32) rfl)))) (mvT hZ (hw _ (List.mem_of_getElem? (i := 32) rfl))) (mvT hZ (hw _ (List.mem_of_getElem? (i := 31) rfl))) (by decide) (backOf (W := 0) (rm6n l Z a0 hw [] b24 T28.heap n0 Zs28 c70) hZ (hw _ (List.mem_of_getElem? (i := 33) rfl)) (hw _ (List.mem_of_getElem? (i := 15) rfl)) (by decide) (by decide)) q80a q80c (g := (mkF m 192 #[.val (.long x0_0), .second, .val (.long x0_1), .second, .val (.long x0_2), .second, .val (.long x0_3), .second, .val (.long x0_4), .second, .val (.long x0_5), .second, .val (.int v7), .val (.long v13), .second, .val (.long v19), .second, .val (.long v27), .second, .val (.long v38), .second, .val (.long v56), .second, .val (.long v76), .second, .val (.long v99), .second, .val (.ref b24), .val (.ref b27), .val (.int (0 : Int32)), .val (.int (0 : Int32)), .val (.int (0 : Int32)), .val (.int (1 : Int32)), .unset, .unset] [.null, (.ref b24)])) rfl (by rw [hml]; rfl) (Steps.refl _) (argsL := [.null]) (rest := []) (lenOf pd_6 rfl) rfl (by show 2 * 0 + _ ≤ _; exact Nat.le_of_eq rfl) (hb hby at_192) (fun _ _ => ⟨rfl, e78, (by decide : 2 + 0 ≤ _), (by decide : 6 + 0 ≤ _)⟩)
      dsimp only [Pt.U, Pt.locs, Pt.cells, Pt.slots] at X80 l80 y80 z80 st80 hQ80
      subst l80 y80 z80
      obtain ⟨hv80, N80q, e80⟩ := hQ80
      have N80 := Fr.app N78 N80q
      have hf80 : f6n b24 = (0 : Int32) := rfl
      rw [hf80] at hv80
      subst hv80
      have sg83 : ∀ t, Steps p.tables e below (T80.setTop (mkF m 200 #[.val (.long x0_0), .second, .val (.long x0_1), .second, .val (.long x0_2), .second, .val (.long x0_3), .second, .val (.long x0_4), .second, .val (.long x0_5), .second, .val (.int v7), .val (.long v13), .second, .val (.long v19), .second, .val (.long v27), .second, .val (.long v38), .second, .val (.long v56), .second, .val (.long v76), .second, .val (.long v99), .second, .val (.ref b24), .val (.ref b27), .val (.int (0 : Int32)), .val (.int (0 : Int32)), .val (.int (0 : Int32)), .val (.int (1 : Int32)), .val (.int (0 : Int32)), .unset] [(.long x0_0), (.ref b24)])) t → Steps p.tables e below (T78.setTop (mkF m 192 #[.val (.long x0_0), .second, .val (.long x0_1), .second, .val (.long x0_2), .second, .val (.long x0_3), .second, .val (.long x0_4), .second, .val (.long x0_5), .second, .val (.int v7), .val (.long v13), .second, .val (.long v19), .second, .val (.long v27), .second, .val (.long v38), .second, .val (.long v56), .second, .val (.long v76), .second, .val (.long v99), .second, .val (.ref b24), .val (.ref b27), .val (.int (0 : Int32)), .val (.int (0 : Int32)), .val (.int (0 : Int32)), .val (.int (1 : Int32)), .unset, .unset] [.null, (.ref b24)])) t := fun t kt => by
        show Steps p.tables e below (T78.setTop (mkF m 192 #[.val (.long x0_0), .second, .val (.long x0_1), .second, .val (.long x0_2), .second, .val (.long x0_3), .second, .val (.long x0_4), .second, .val (.long x0_5), .second, .val (.int v7), .val (.long v13), .second, .val (.long v19), .second, .val (.long v27), .second, .val (.long v38), .second, .val (.long v56), .second, .val (.long v76), .second, .val (.long v99), .second, .val (.ref b24), .val (.ref b27), .val (.int (0 : Int32)), .val (.int (0 : Int32)), .val (.int (0 : Int32)), .val (.int (1 : Int32)), .unset, .unset] [.null, (.ref b24)])) _
        refine st80.trans ?_
        show Steps p.tables e below (T80.setTop (mkF m 195 #[.val (.long x0_0), .second, .val (.long x0_1), .second, .val (.long x0_2), .second, .val (.long x0_3), .second, .val (.long x0_4), .second, .val (.long x0_5), .second, .val (.int v7), .val (.long v13), .second, .val (.long v19), .second, .val (.long v27), .second, .val (.long v38), .second, .val (.long v56), .second, .val (.long v76), .second, .val (.long v99), .second, .val (.ref b24), .val (.ref b27), .val (.int (0 : Int32)), .val (.int (0 : Int32)), .val (.int (0 : Int32)), .val (.int (1 : Int32)), .unset, .unset] [(.int (0 : Int32))])) _
        refine XS.istore X80.here hx rfl (hb hby at_195) rfl (l' := #[.val (.long x0_0), .second, .val (.long x0_1), .second, .val (.long x0_2), .second, .val (.long x0_3), .second, .val (.long x0_4), .second, .val (.long x0_5), .second, .val (.int v7), .val (.long v13), .second, .val (.long v19), .second, .val (.long v27), .second, .val (.long v38), .second, .val (.long v56), .second, .val (.long v76), .second, .val (.long v99), .second, .val (.ref b24), .val (.ref b27), .val (.int (0 : Int32)), .val (.int (0 : Int32)), .val (.int (0 : Int32)), .val (.int (1 : Int32)), .val (.int (0 : Int32)), .unset]) rfl ?_
        show Steps p.tables e below (T80.setTop (mkF m 197 #[.val (.long x0_0), .second, .val (.long x0_1), .second, .val (.long x0_2), .second, .val (.long x0_3), .second, .val (.long x0_4), .second, .val (.long x0_5), .second, .val (.int v7), .val (.long v13), .second, .val (.long v19), .second, .val (.long v27), .second, .val (.long v38), .second, .val (.long v56), .second, .val (.long v76), .second, .val (.long v99), .second, .val (.ref b24), .val (.ref b27), .val (.int (0 : Int32)), .val (.int (0 : Int32)), .val (.int (0 : Int32)), .val (.int (1 : Int32)), .val (.int (0 : Int32)), .unset] [])) _
        refine XS.aload X80.here hx rfl (hb hby at_197) rfl rfl ?_
        show Steps p.tables e below (T80.setTop (mkF m 199 #[.val (.long x0_0), .second, .val (.long x0_1), .second, .val (.long x0_2), .second, .val (.long x0_3), .second, .val (.long x0_4), .second, .val (.long x0_5), .second, .val (.int v7), .val (.long v13), .second, .val (.long v19), .second, .val (.long v27), .second, .val (.long v38), .second, .val (.long v56), .second, .val (.long v76), .second, .val (.long v99), .second, .val (.ref b24), .val (.ref b27), .val (.int (0 : Int32)), .val (.int (0 : Int32)), .val (.int (0 : Int32)), .val (.int (1 : Int32)), .val (.int (0 : Int32)), .unset] [(.ref b24)])) _
        refine XS.lloadN X80.here hx rfl (hb hby at_199) rfl ?_
        exact kt
      obtain ⟨rv82, _, ⟨T82, L82, k82, n82⟩, -, X82, ⟨Lc82, hQ82, l82, y82, z82⟩, st82⟩ := Jvm.LawKit.callS X80 hx (y := (⟨"java/lang/Long", "valueOf", "(J)Ljava/lang/Long;"⟩ : MethodName)) hown (mvT hZ (hw _ (List.mem_of_getElem? (i := 36) rfl))) (mvT hZ (hw _ (List.mem_of_getElem? (i := 37) rfl))) (mvT hZ (hw _ (List.mem_of_getElem? (i := 38) rfl))) (mvT hZ (hw _ (List.mem_of_getElem? (i := 39) rfl))) (by decide) (backOf (W := 1) (rm7 l Z a0 hw [] x0_0 cA cl T28.heap n0 Zs28 Ol28 JC SC) hZ (hw _ (List.mem_of_getElem? (i := 39) rfl)) (hw _ (List.mem_of_getElem? (i := 38) rfl)) (by decide) (by decide)) (g := (mkF m 200 #[.val (.long x0_0), .second, .val (.long x0_1), .second, .val (.long x0_2), .second, .val (.long x0_3), .second, .val (.long x0_4), .second, .val (.long x0_5), .second, .val (.int v7), .val (.long v13), .second, .val (.long v19), .second, .val (.long v27), .second, .val (.long v38), .second, .val (.long v56), .second, .val (.long v76), .second, .val (.long v99), .second, .val (.ref b24), .val (.ref b27), .val (.int (0 : Int32)), .val (.int (0 : Int32)), .val (.int (0 : Int32)), .val (.int (1 : Int32)), .val (.int (0 : Int32)), .unset] [(.long x0_0), (.ref b24)])) rfl (by rw [hml]; rfl) (argsL := [(.long x0_0)]) (rest := [(.ref b24)]) (lenOf pd_7 rfl) rfl (by show 2 * 0 + _ ≤ _; exact Nat.le_of_eq rfl) (hb hby at_200) (fun _ _ => ⟨rfl, e80, (by decide : 2 + 1 ≤ _), (by decide : 6 + 1 ≤ _)⟩)
      dsimp only [Pt.U, Pt.locs, Pt.cells, Pt.slots] at X82 l82 y82 z82 st82 hQ82
      subst l82 y82 z82
      obtain ⟨r82, rfl, N82q, K82, Ex82⟩ := hQ82
      have N82 := Fr.app N80 N82q
      have Zs82 : n0 ≤ T82.heap.size := Nat.le_trans Zs28 K82.1
      have Ol82 : Old Z n0 T82.heap := (Ol28).keep K82 all0
      have c84 := (Exa.keep c70 K82)
      have sg86 : ∀ t, Steps p.tables e below (T82.setTop (mkF m 203 #[.val (.long x0_0), .second, .val (.long x0_1), .second, .val (.long x0_2), .second, .val (.long x0_3), .second, .val (.long x0_4), .second, .val (.long x0_5), .second, .val (.int v7), .val (.long v13), .second, .val (.long v19), .second, .val (.long v27), .second, .val (.long v38), .second, .val (.long v56), .second, .val (.long v76), .second, .val (.long v99), .second, .val (.ref b24), .val (.ref b27), .val (.int (0 : Int32)), .val (.int (0 : Int32)), .val (.int (0 : Int32)), .val (.int (1 : Int32)), .val (.int (0 : Int32)), .unset] [(.ref r82), (.ref b24)])) t → Steps p.tables e below (T80.setTop (mkF m 200 #[.val (.long x0_0), .second, .val (.long x0_1), .second, .val (.long x0_2), .second, .val (.long x0_3), .second, .val (.long x0_4), .second, .val (.long x0_5), .second, .val (.int v7), .val (.long v13), .second, .val (.long v19), .second, .val (.long v27), .second, .val (.long v38), .second, .val (.long v56), .second, .val (.long v76), .second, .val (.long v99), .second, .val (.ref b24), .val (.ref b27), .val (.int (0 : Int32)), .val (.int (0 : Int32)), .val (.int (0 : Int32)), .val (.int (1 : Int32)), .val (.int (0 : Int32)), .unset] [(.long x0_0), (.ref b24)])) t := fun t kt => by
        show Steps p.tables e below (T80.setTop (mkF m 200 #[.val (.long x0_0), .second, .val (.long x0_1), .second, .val (.long x0_2), .second, .val (.long x0_3), .second, .val (.long x0_4), .second, .val (.long x0_5), .second, .val (.int v7), .val (.long v13), .second, .val (.long v19), .second, .val (.long v27), .second, .val (.long v38), .second, .val (.long v56), .second, .val (.long v76), .second, .val (.long v99), .second, .val (.ref b24), .val (.ref b27), .val (.int (0 : Int32)), .val (.int (0 : Int32)), .val (.int (0 : Int32)), .val (.int (1 : Int32)), .val (.int (0 : Int32)), .unset] [(.long x0_0), (.ref b24)])) _
        refine st82 _ ?_
        exact kt
      obtain ⟨cq85, kq85, q85a, q85b, q85c⟩ := isOf hZ rfl c84
      obtain ⟨rv85, _, ⟨T85, L85, k85, n85⟩, -, X85, ⟨Lc85, hQ85, l85, y85, z85⟩, st85⟩ := X82.virtualBack hx (y := (⟨"com/example/libdmutex/libdmutex/core/Range", "equals", "(Ljava/lang/Object;)Z"⟩ : MethodName)) (z := (⟨"com/example/libdmutex/libdmutex/core/Range", "equals", "(Ljava/lang/Object;)Z"⟩ : MethodName)) hown (mvT hZ (hw _ (List.mem_of_getElem? (i := 29) rfl))) (mvT hZ (hw _ (List.mem_of_getElem? (i := 30) rfl))) (notFace_of_selects (args := #[]) (mvT hZ (hw _ (List.mem_of_getElem? (i := 32) rfl)))) (mvT hZ (hw _ (List.mem_of_getElem? (i := 32) rfl))) (mvT hZ (hw _ (List.mem_of_getElem? (i := 31) rfl))) (by decide) (backOf (W := 0) (rm6i l Z a0 hw [] b24 r82 T82.heap n0 Zs82 Ex82) hZ (hw _ (List.mem_of_getElem? (i := 33) rfl)) (hw _ (List.mem_of_getElem? (i := 15) rfl)) (by decide) (by decide)) q85a q85c (g := (mkF m 203 #[.val (.long x0_0), .second, .val (.long x0_1), .second, .val (.long x0_2), .second, .val (.long x0_3), .second, .val (.long x0_4), .second, .val (.long x0_5), .second, .val (.int v7), .val (.long v13), .second, .val (.long v19), .second, .val (.long v27), .second, .val (.long v38), .second, .val (.long v56), .second, .val (.long v76), .second, .val (.long v99), .second, .val (.ref b24), .val (.ref b27), .val (.int (0 : Int32)), .val (.int (0 : Int32)), .val (.int (0 : Int32)), .val (.int (1 : Int32)), .val (.int (0 : Int32)), .unset] [(.ref r82), (.ref b24)])) rfl (by rw [hml]; rfl) (Steps.refl _) (argsL := [(.ref r82)]) (rest := []) (lenOf pd_6 rfl) rfl (by show 2 * 0 + _ ≤ _; exact Nat.le_of_eq rfl) (hb hby at_203) (fun _ _ => ⟨rfl, rfl, (by decide : 3 + 0 ≤ _), (by decide : 7 + 0 ≤ _)⟩)
      dsimp only [Pt.U, Pt.locs, Pt.cells, Pt.slots] at X85 l85 y85 z85 st85 hQ85
      subst l85 y85 z85
      obtain ⟨hv85, N85q, e85⟩ := hQ85
      have N85 := Fr.app N82 N85q
      have hf85 : f6i b24 r82 = (0 : Int32) := rfl
      rw [hf85] at hv85
      subst hv85
      obtain ⟨fs, hr, hrun, hended, hW, hsame⟩ := X85.leave (v := some (.int (1 : Int32))) (fun h => by rw [Bd.returns] at h; cases h)
      refine ⟨_, _, pre0 _ (sg1 _ (sg2 _ (sg4 _ (sg5 _ (sg7 _ (sg8 _ (sg10 _ (sg11 _ (sg12 _ (sg13 _ (sg15 _ (sg16 _ (sg17 _ (sg19 _ (sg20 _ (sg21 _ (sg23 _ (sg26 _ (sg29 _ (sg30 _ (sg32 _ (sg75 _ (sg77 _ (sg79 _ (sg81 _ (sg83 _ (sg86 _ ?_))))))))))))))))))))))))))), hrun, hended, _, _, rfl, ?_, ⟨_, rfl⟩, hW, hsame.mono (by decide) (by decide)⟩
      · show Steps p.tables e below (T82.setTop (mkF m 203 #[.val (.long x0_0), .second, .val (.long x0_1), .second, .val (.long x0_2), .second, .val (.long x0_3), .second, .val (.long x0_4), .second, .val (.long x0_5), .second, .val (.int v7), .val (.long v13), .second, .val (.long v19), .second, .val (.long v27), .second, .val (.long v38), .second, .val (.long v56), .second, .val (.long v76), .second, .val (.long v99), .second, .val (.ref b24), .val (.ref b27), .val (.int (0 : Int32)), .val (.int (0 : Int32)), .val (.int (0 : Int32)), .val (.int (1 : Int32)), .val (.int (0 : Int32)), .unset] [(.ref r82), (.ref b24)])) _
        refine st85.trans ?_
        show Steps p.tables e below (T85.setTop (mkF m 206 #[.val (.long x0_0), .second, .val (.long x0_1), .second, .val (.long x0_2), .second, .val (.long x0_3), .second, .val (.long x0_4), .second, .val (.long x0_5), .second, .val (.int v7), .val (.long v13), .second, .val (.long v19), .second, .val (.long v27), .second, .val (.long v38), .second, .val (.long v56), .second, .val (.long v76), .second, .val (.long v99), .second, .val (.ref b24), .val (.ref b27), .val (.int (0 : Int32)), .val (.int (0 : Int32)), .val (.int (0 : Int32)), .val (.int (1 : Int32)), .val (.int (0 : Int32)), .unset] [(.int (0 : Int32))])) _
        refine XS.istore X85.here hx rfl (hb hby at_206) rfl (l' := #[.val (.long x0_0), .second, .val (.long x0_1), .second, .val (.long x0_2), .second, .val (.long x0_3), .second, .val (.long x0_4), .second, .val (.long x0_5), .second, .val (.int v7), .val (.long v13), .second, .val (.long v19), .second, .val (.long v27), .second, .val (.long v38), .second, .val (.long v56), .second, .val (.long v76), .second, .val (.long v99), .second, .val (.ref b24), .val (.ref b27), .val (.int (0 : Int32)), .val (.int (0 : Int32)), .val (.int (0 : Int32)), .val (.int (1 : Int32)), .val (.int (0 : Int32)), .val (.int (0 : Int32))]) rfl ?_
        show Steps p.tables e below (T85.setTop (mkF m 208 #[.val (.long x0_0), .second, .val (.long x0_1), .second, .val (.long x0_2), .second, .val (.long x0_3), .second, .val (.long x0_4), .second, .val (.long x0_5), .second, .val (.int v7), .val (.long v13), .second, .val (.long v19), .second, .val (.long v27), .second, .val (.long v38), .second, .val (.long v56), .second, .val (.long v76), .second, .val (.long v99), .second, .val (.ref b24), .val (.ref b27), .val (.int (0 : Int32)), .val (.int (0 : Int32)), .val (.int (0 : Int32)), .val (.int (1 : Int32)), .val (.int (0 : Int32)), .val (.int (0 : Int32))] [])) _
        refine XS.iload X85.here hx rfl (hb hby at_208) rfl ?_
        show Steps p.tables e below (T85.setTop (mkF m 210 #[.val (.long x0_0), .second, .val (.long x0_1), .second, .val (.long x0_2), .second, .val (.long x0_3), .second, .val (.long x0_4), .second, .val (.long x0_5), .second, .val (.int v7), .val (.long v13), .second, .val (.long v19), .second, .val (.long v27), .second, .val (.long v38), .second, .val (.long v56), .second, .val (.long v76), .second, .val (.long v99), .second, .val (.ref b24), .val (.ref b27), .val (.int (0 : Int32)), .val (.int (0 : Int32)), .val (.int (0 : Int32)), .val (.int (1 : Int32)), .val (.int (0 : Int32)), .val (.int (0 : Int32))] [(.int (0 : Int32))])) _
        refine XS.iload X85.here hx rfl (hb hby at_210) rfl ?_
        show Steps p.tables e below (T85.setTop (mkF m 212 #[.val (.long x0_0), .second, .val (.long x0_1), .second, .val (.long x0_2), .second, .val (.long x0_3), .second, .val (.long x0_4), .second, .val (.long x0_5), .second, .val (.int v7), .val (.long v13), .second, .val (.long v19), .second, .val (.long v27), .second, .val (.long v38), .second, .val (.long v56), .second, .val (.long v76), .second, .val (.long v99), .second, .val (.ref b24), .val (.ref b27), .val (.int (0 : Int32)), .val (.int (0 : Int32)), .val (.int (0 : Int32)), .val (.int (1 : Int32)), .val (.int (0 : Int32)), .val (.int (0 : Int32))] [(.int (0 : Int32)), (.int (0 : Int32))])) _
        refine XS.icmpNo X85.here hx rfl (hb hby at_212) rfl (teq (by decide : ((0 : Int32) = (0 : Int32)))).2 ?_
        show Steps p.tables e below (T85.setTop (mkF m 215 #[.val (.long x0_0), .second, .val (.long x0_1), .second, .val (.long x0_2), .second, .val (.long x0_3), .second, .val (.long x0_4), .second, .val (.long x0_5), .second, .val (.int v7), .val (.long v13), .second, .val (.long v19), .second, .val (.long v27), .second, .val (.long v38), .second, .val (.long v56), .second, .val (.long v76), .second, .val (.long v99), .second, .val (.ref b24), .val (.ref b27), .val (.int (0 : Int32)), .val (.int (0 : Int32)), .val (.int (0 : Int32)), .val (.int (1 : Int32)), .val (.int (0 : Int32)), .val (.int (0 : Int32))] [])) _
        refine XS.iload X85.here hx rfl (hb hby at_215) rfl ?_
        show Steps p.tables e below (T85.setTop (mkF m 217 #[.val (.long x0_0), .second, .val (.long x0_1), .second, .val (.long x0_2), .second, .val (.long x0_3), .second, .val (.long x0_4), .second, .val (.long x0_5), .second, .val (.int v7), .val (.long v13), .second, .val (.long v19), .second, .val (.long v27), .second, .val (.long v38), .second, .val (.long v56), .second, .val (.long v76), .second, .val (.long v99), .second, .val (.ref b24), .val (.ref b27), .val (.int (0 : Int32)), .val (.int (0 : Int32)), .val (.int (0 : Int32)), .val (.int (1 : Int32)), .val (.int (0 : Int32)), .val (.int (0 : Int32))] [(.int (0 : Int32))])) _
        refine XS.iload X85.here hx rfl (hb hby at_217) rfl ?_
        show Steps p.tables e below (T85.setTop (mkF m 219 #[.val (.long x0_0), .second, .val (.long x0_1), .second, .val (.long x0_2), .second, .val (.long x0_3), .second, .val (.long x0_4), .second, .val (.long x0_5), .second, .val (.int v7), .val (.long v13), .second, .val (.long v19), .second, .val (.long v27), .second, .val (.long v38), .second, .val (.long v56), .second, .val (.long v76), .second, .val (.long v99), .second, .val (.ref b24), .val (.ref b27), .val (.int (0 : Int32)), .val (.int (0 : Int32)), .val (.int (0 : Int32)), .val (.int (1 : Int32)), .val (.int (0 : Int32)), .val (.int (0 : Int32))] [(.int (0 : Int32)), (.int (0 : Int32))])) _
        refine XS.icmpNo X85.here hx rfl (hb hby at_219) rfl (teq (by decide : ((0 : Int32) = (0 : Int32)))).2 ?_
        show Steps p.tables e below (T85.setTop (mkF m 222 #[.val (.long x0_0), .second, .val (.long x0_1), .second, .val (.long x0_2), .second, .val (.long x0_3), .second, .val (.long x0_4), .second, .val (.long x0_5), .second, .val (.int v7), .val (.long v13), .second, .val (.long v19), .second, .val (.long v27), .second, .val (.long v38), .second, .val (.long v56), .second, .val (.long v76), .second, .val (.long v99), .second, .val (.ref b24), .val (.ref b27), .val (.int (0 : Int32)), .val (.int (0 : Int32)), .val (.int (0 : Int32)), .val (.int (1 : Int32)), .val (.int (0 : Int32)), .val (.int (0 : Int32))] [])) _
        refine XS.iload X85.here hx rfl (hb hby at_222) rfl ?_
        show Steps p.tables e below (T85.setTop (mkF m 224 #[.val (.long x0_0), .second, .val (.long x0_1), .second, .val (.long x0_2), .second, .val (.long x0_3), .second, .val (.long x0_4), .second, .val (.long x0_5), .second, .val (.int v7), .val (.long v13), .second, .val (.long v19), .second, .val (.long v27), .second, .val (.long v38), .second, .val (.long v56), .second, .val (.long v76), .second, .val (.long v99), .second, .val (.ref b24), .val (.ref b27), .val (.int (0 : Int32)), .val (.int (0 : Int32)), .val (.int (0 : Int32)), .val (.int (1 : Int32)), .val (.int (0 : Int32)), .val (.int (0 : Int32))] [(.int (1 : Int32))])) _
        refine XS.ifNo X85.here hx rfl (hb hby at_224) rfl ((if0 _ _).trans (feq (by decide : ¬ ((1 : Int32) = (0 : Int32)))).1) ?_
        show Steps p.tables e below (T85.setTop (mkF m 227 #[.val (.long x0_0), .second, .val (.long x0_1), .second, .val (.long x0_2), .second, .val (.long x0_3), .second, .val (.long x0_4), .second, .val (.long x0_5), .second, .val (.int v7), .val (.long v13), .second, .val (.long v19), .second, .val (.long v27), .second, .val (.long v38), .second, .val (.long v56), .second, .val (.long v76), .second, .val (.long v99), .second, .val (.ref b24), .val (.ref b27), .val (.int (0 : Int32)), .val (.int (0 : Int32)), .val (.int (0 : Int32)), .val (.int (1 : Int32)), .val (.int (0 : Int32)), .val (.int (0 : Int32))] [])) _
        refine XS.iload X85.here hx rfl (hb hby at_227) rfl ?_
        show Steps p.tables e below (T85.setTop (mkF m 229 #[.val (.long x0_0), .second, .val (.long x0_1), .second, .val (.long x0_2), .second, .val (.long x0_3), .second, .val (.long x0_4), .second, .val (.long x0_5), .second, .val (.int v7), .val (.long v13), .second, .val (.long v19), .second, .val (.long v27), .second, .val (.long v38), .second, .val (.long v56), .second, .val (.long v76), .second, .val (.long v99), .second, .val (.ref b24), .val (.ref b27), .val (.int (0 : Int32)), .val (.int (0 : Int32)), .val (.int (0 : Int32)), .val (.int (1 : Int32)), .val (.int (0 : Int32)), .val (.int (0 : Int32))] [(.int (0 : Int32))])) _
        refine XS.ifNo X85.here hx rfl (hb hby at_229) rfl ((if0 _ _).trans (teq (by decide : ((0 : Int32) = (0 : Int32)))).2) ?_
        show Steps p.tables e below (T85.setTop (mkF m 232 #[.val (.long x0_0), .second, .val (.long x0_1), .second, .val (.long x0_2), .second, .val (.long x0_3), .second, .val (.long x0_4), .second, .val (.long x0_5), .second, .val (.int v7), .val (.long v13), .second, .val (.long v19), .second, .val (.long v27), .second, .val (.long v38), .second, .val (.long v56), .second, .val (.long v76), .second, .val (.long v99), .second, .val (.ref b24), .val (.ref b27), .val (.int (0 : Int32)), .val (.int (0 : Int32)), .val (.int (0 : Int32)), .val (.int (1 : Int32)), .val (.int (0 : Int32)), .val (.int (0 : Int32))] [])) _
        refine XS.iload X85.here hx rfl (hb hby at_232) rfl ?_
        show Steps p.tables e below (T85.setTop (mkF m 234 #[.val (.long x0_0), .second, .val (.long x0_1), .second, .val (.long x0_2), .second, .val (.long x0_3), .second, .val (.long x0_4), .second, .val (.long x0_5), .second, .val (.int v7), .val (.long v13), .second, .val (.long v19), .second, .val (.long v27), .second, .val (.long v38), .second, .val (.long v56), .second, .val (.long v76), .second, .val (.long v99), .second, .val (.ref b24), .val (.ref b27), .val (.int (0 : Int32)), .val (.int (0 : Int32)), .val (.int (0 : Int32)), .val (.int (1 : Int32)), .val (.int (0 : Int32)), .val (.int (0 : Int32))] [(.int (0 : Int32))])) _
        refine XS.ifNo X85.here hx rfl (hb hby at_234) rfl ((if0 _ _).trans (teq (by decide : ((0 : Int32) = (0 : Int32)))).2) ?_
        show Steps p.tables e below (T85.setTop (mkF m 237 #[.val (.long x0_0), .second, .val (.long x0_1), .second, .val (.long x0_2), .second, .val (.long x0_3), .second, .val (.long x0_4), .second, .val (.long x0_5), .second, .val (.int v7), .val (.long v13), .second, .val (.long v19), .second, .val (.long v27), .second, .val (.long v38), .second, .val (.long v56), .second, .val (.long v76), .second, .val (.long v99), .second, .val (.ref b24), .val (.ref b27), .val (.int (0 : Int32)), .val (.int (0 : Int32)), .val (.int (0 : Int32)), .val (.int (1 : Int32)), .val (.int (0 : Int32)), .val (.int (0 : Int32))] [])) _
        refine XS.iconst X85.here hx rfl (hb hby at_237) ?_
        show Steps p.tables e below (T85.setTop (mkF m 238 #[.val (.long x0_0), .second, .val (.long x0_1), .second, .val (.long x0_2), .second, .val (.long x0_3), .second, .val (.long x0_4), .second, .val (.long x0_5), .second, .val (.int v7), .val (.long v13), .second, .val (.long v19), .second, .val (.long v27), .second, .val (.long v38), .second, .val (.long v56), .second, .val (.long v76), .second, .val (.long v99), .second, .val (.ref b24), .val (.ref b27), .val (.int (0 : Int32)), .val (.int (0 : Int32)), .val (.int (0 : Int32)), .val (.int (1 : Int32)), .val (.int (0 : Int32)), .val (.int (0 : Int32))] [(.int (1 : Int32))])) _
        refine XS.goto X85.here hx rfl (pc0 := 238) (pc' := 242) rfl (hb hby at_238) (by decide) (by decide) ?_
        show Steps p.tables e below (T85.setTop (mkF m 242 #[.val (.long x0_0), .second, .val (.long x0_1), .second, .val (.long x0_2), .second, .val (.long x0_3), .second, .val (.long x0_4), .second, .val (.long x0_5), .second, .val (.int v7), .val (.long v13), .second, .val (.long v19), .second, .val (.long v27), .second, .val (.long v38), .second, .val (.long v56), .second, .val (.long v76), .second, .val (.long v99), .second, .val (.ref b24), .val (.ref b27), .val (.int (0 : Int32)), .val (.int (0 : Int32)), .val (.int (0 : Int32)), .val (.int (1 : Int32)), .val (.int (0 : Int32)), .val (.int (0 : Int32))] [(.int (1 : Int32))])) _
        exact retN X85 hx (t := .boolean) Bd.returns (by simp) (hb hby at_242) hr
      · show Q0 Z x0_0 x0_1 x0_2 x0_3 x0_4 x0_5 cA cl h0 n0 _ T85.heap _
        rw [e85]
        exact ⟨rfl, N85⟩
  · have c87 := (Exa.keep (Exa.ext E27 Ex25) K28)
    have c88 := (Fld.keep (Fld.ext E27 Fq25_size) K28 (ninS ne_b24_b27 nin0))
    have c89 := (Fld.keep (Fld.ext E27 Fq25_from) K28 (ninS ne_b24_b27 nin0))
    have c90 := (Fld.keep (Fld.ext E27 Fq25_to) K28 (ninS ne_b24_b27 nin0))
    have sg92 : ∀ t, Steps p.tables e below (T28.setTop (mkF m 166 #[.val (.long x0_0), .second, .val (.long x0_1), .second, .val (.long x0_2), .second, .val (.long x0_3), .second, .val (.long x0_4), .second, .val (.long x0_5), .second, .val (.int v7), .val (.long v13), .second, .val (.long v19), .second, .val (.long v27), .second, .val (.long v38), .second, .val (.long v56), .second, .val (.long v76), .second, .val (.long v99), .second, .val (.ref b24), .val (.ref b27), .val (.int (0 : Int32)), .unset, .unset, .unset, .unset, .unset] [(.ref b27), (.ref b24)])) t → Steps p.tables e below (T28.setTop (mkF m 136 #[.val (.long x0_0), .second, .val (.long x0_1), .second, .val (.long x0_2), .second, .val (.long x0_3), .second, .val (.long x0_4), .second, .val (.long x0_5), .second, .val (.int v7), .val (.long v13), .second, .val (.long v19), .second, .val (.long v27), .second, .val (.long v38), .second, .val (.long v56), .second, .val (.long v76), .second, .val (.long v99), .second, .val (.ref b24), .val (.ref b27), .unset, .unset, .unset, .unset, .unset, .unset] [(.int (lcmpW v19 v56))])) t := fun t kt => by
      show Steps p.tables e below (T28.setTop (mkF m 136 #[.val (.long x0_0), .second, .val (.long x0_1), .second, .val (.long x0_2), .second, .val (.long x0_3), .second, .val (.long x0_4), .second, .val (.long x0_5), .second, .val (.int v7), .val (.long v13), .second, .val (.long v19), .second, .val (.long v27), .second, .val (.long v38), .second, .val (.long v56), .second, .val (.long v76), .second, .val (.long v99), .second, .val (.ref b24), .val (.ref b27), .unset, .unset, .unset, .unset, .unset, .unset] [(.int (lcmpW v19 v56))])) _
      refine XS.ifYes X28.here hx rfl (pc0 := 136) (pc' := 159) rfl (hb hby at_136) rfl ((if0 _ _).trans (feq (mt (lw_eq _ _).mp hc136_31)).2) (by decide) (by decide) ?_
      show Steps p.tables e below (T28.setTop (mkF m 159 #[.val (.long x0_0), .second, .val (.long x0_1), .second, .val (.long x0_2), .second, .val (.long x0_3), .second, .val (.long x0_4), .second, .val (.long x0_5), .second, .val (.int v7), .val (.long v13), .second, .val (.long v19), .second, .val (.long v27), .second, .val (.long v38), .second, .val (.long v56), .second, .val (.long v76), .second, .val (.long v99), .second, .val (.ref b24), .val (.ref b27), .unset, .unset, .unset, .unset, .unset, .unset] [])) _
      refine XS.iconst X28.here hx rfl (hb hby at_159) ?_
      show Steps p.tables e below (T28.setTop (mkF m 160 #[.val (.long x0_0), .second, .val (.long x0_1), .second, .val (.long x0_2), .second, .val (.long x0_3), .second, .val (.long x0_4), .second, .val (.long x0_5), .second, .val (.int v7), .val (.long v13), .second, .val (.long v19), .second, .val (.long v27), .second, .val (.long v38), .second, .val (.long v56), .second, .val (.long v76), .second, .val (.long v99), .second, .val (.ref b24), .val (.ref b27), .unset, .unset, .unset, .unset, .unset, .unset] [(.int (0 : Int32))])) _
      refine XS.istore X28.here hx rfl (hb hby at_160) rfl (l' := #[.val (.long x0_0), .second, .val (.long x0_1), .second, .val (.long x0_2), .second, .val (.long x0_3), .second, .val (.long x0_4), .second, .val (.long x0_5), .second, .val (.int v7), .val (.long v13), .second, .val (.long v19), .second, .val (.long v27), .second, .val (.long v38), .second, .val (.long v56), .second, .val (.long v76), .second, .val (.long v99), .second, .val (.ref b24), .val (.ref b27), .val (.int (0 : Int32)), .unset, .unset, .unset, .unset, .unset]) rfl ?_
      show Steps p.tables e below (T28.setTop (mkF m 162 #[.val (.long x0_0), .second, .val (.long x0_1), .second, .val (.long x0_2), .second, .val (.long x0_3), .second, .val (.long x0_4), .second, .val (.long x0_5), .second, .val (.int v7), .val (.long v13), .second, .val (.long v19), .second, .val (.long v27), .second, .val (.long v38), .second, .val (.long v56), .second, .val (.long v76), .second, .val (.long v99), .second, .val (.ref b24), .val (.ref b27), .val (.int (0 : Int32)), .unset, .unset, .unset, .unset, .unset] [])) _
      refine XS.aload X28.here hx rfl (hb hby at_162) rfl rfl ?_
      show Steps p.tables e below (T28.setTop (mkF m 164 #[.val (.long x0_0), .second, .val (.long x0_1), .second, .val (.long x0_2), .second, .val (.long x0_3), .second, .val (.long x0_4), .second, .val (.long x0_5), .second, .val (.int v7), .val (.long v13), .second, .val (.long v19), .second, .val (.long v27), .second, .val (.long v38), .second, .val (.long v56), .second, .val (.long v76), .second, .val (.long v99), .second, .val (.ref b24), .val (.ref b27), .val (.int (0 : Int32)), .unset, .unset, .unset, .unset, .unset] [(.ref b24)])) _
      refine XS.aload X28.here hx rfl (hb hby at_164) rfl rfl ?_
      exact kt
    obtain ⟨cq91, kq91, q91a, q91b, q91c⟩ := isOf hZ rfl c87
    obtain ⟨rv91, _, ⟨T91, L91, k91, n91⟩, -, X91, ⟨Lc91, hQ91, l91, y91, z91⟩, st91⟩ := X28.virtualBack hx (y := (⟨"com/example/libdmutex/libdmutex/core/Range", "equals", "(Ljava/lang/Object;)Z"⟩ : MethodName)) (z := (⟨"com/example/libdmutex/libdmutex/core/Range", "equals", "(Ljava/lang/Object;)Z"⟩ : MethodName)) hown (mvT hZ (hw _ (List.mem_of_getElem? (i := 29) rfl))) (mvT hZ (hw _ (List.mem_of_getElem? (i := 30) rfl))) (notFace_of_selects (args := #[]) (mvT hZ (hw _ (List.mem_of_getElem? (i := 32) rfl)))) (mvT hZ (hw _ (List.mem_of_getElem? (i := 32) rfl))) (mvT hZ (hw _ (List.mem_of_getElem? (i := 31) rfl))) (by decide) (backOf (W := 0) (rm6o l Z a0 hw [] b24 b27 (v19.toInt32) (v27.toInt32) (v38.toInt32) (v56.toInt32) (v76.toInt32) (v99.toInt32) T28.heap n0 Zs28 c87 Ex28 c88 c89 c90 Fq28_size Fq28_from Fq28_to) hZ (hw _ (List.mem_of_getElem? (i := 33) rfl)) (hw _ (List.mem_of_getElem? (i := 15) rfl)) (by decide) (by decide)) q91a q91c (g := (mkF m 166 #[.val (.long x0_0), .second, .val (.long x0_1), .second, .val (.long x0_2), .second, .val (.long x0_3), .second, .val (.long x0_4), .second, .val (.long x0_5), .second, .val (.int v7), .val (.long v13), .second, .val (.long v19), .second, .val (.long v27), .second, .val (.long v38), .second, .val (.long v56), .second, .val (.long v76), .second, .val (.long v99), .second, .val (.ref b24), .val (.ref b27), .val (.int (0 : Int32)), .unset, .unset, .unset, .unset, .unset] [(.ref b27), (.ref b24)])) rfl (by rw [hml]; rfl) (Steps.refl _) (argsL := [(.ref b27)]) (rest := []) (lenOf pd_6 rfl) rfl (by show 2 * 0 + _ ≤ _; exact Nat.le_of_eq rfl) (hb hby at_166) (fun _ _ => ⟨rfl, rfl, (by decide : 2 + 0 ≤ _), (by decide : 6 + 0 ≤ _)⟩)
    dsimp only [Pt.U, Pt.locs, Pt.cells, Pt.slots] at X91 l91 y91 z91 st91 hQ91
    subst l91 y91 z91
    obtain ⟨hv91, N91q, e91⟩ := hQ91
    have N91 := Fr.app N28 N91q
    have hf91 : f6o b24 b27 (v19.toInt32) (v27.toInt32) (v38.toInt32) (v56.toInt32) (v76.toInt32) (v99.toInt32) = (0 : Int32) := by unfold f6o; rw [if_neg (own_inj v19 v56 ⟨Int.le_trans (by decide) hs1.1, hs1.2⟩ ⟨Int.le_trans (by decide) hs2.1, hs2.2⟩ hc136_31)]
    rw [hf91] at hv91
    subst hv91
    have sg94 : ∀ t, Steps p.tables e below (T91.setTop (mkF m 175 #[.val (.long x0_0), .second, .val (.long x0_1), .second, .val (.long x0_2), .second, .val (.long x0_3), .second, .val (.long x0_4), .second, .val (.long x0_5), .second, .val (.int v7), .val (.long v13), .second, .val (.long v19), .second, .val (.long v27), .second, .val (.long v38), .second, .val (.long v56), .second, .val (.long v76), .second, .val (.long v99), .second, .val (.ref b24), .val (.ref b27), .val (.int (0 : Int32)), .val (.int (0 : Int32)), .unset, .unset, .unset, .unset] [(.ref b24), (.ref b27)])) t → Steps p.tables e below (T28.setTop (mkF m 166 #[.val (.long x0_0), .second, .val (.long x0_1), .second, .val (.long x0_2), .second, .val (.long x0_3), .second, .val (.long x0_4), .second, .val (.long x0_5), .second, .val (.int v7), .val (.long v13), .second, .val (.long v19), .second, .val (.long v27), .second, .val (.long v38), .second, .val (.long v56), .second, .val (.long v76), .second, .val (.long v99), .second, .val (.ref b24), .val (.ref b27), .val (.int (0 : Int32)), .unset, .unset, .unset, .unset, .unset] [(.ref b27), (.ref b24)])) t := fun t kt => by
      show Steps p.tables e below (T28.setTop (mkF m 166 #[.val (.long x0_0), .second, .val (.long x0_1), .second, .val (.long x0_2), .second, .val (.long x0_3), .second, .val (.long x0_4), .second, .val (.long x0_5), .second, .val (.int v7), .val (.long v13), .second, .val (.long v19), .second, .val (.long v27), .second, .val (.long v38), .second, .val (.long v56), .second, .val (.long v76), .second, .val (.long v99), .second, .val (.ref b24), .val (.ref b27), .val (.int (0 : Int32)), .unset, .unset, .unset, .unset, .unset] [(.ref b27), (.ref b24)])) _
      refine st91.trans ?_
      show Steps p.tables e below (T91.setTop (mkF m 169 #[.val (.long x0_0), .second, .val (.long x0_1), .second, .val (.long x0_2), .second, .val (.long x0_3), .second, .val (.long x0_4), .second, .val (.long x0_5), .second, .val (.int v7), .val (.long v13), .second, .val (.long v19), .second, .val (.long v27), .second, .val (.long v38), .second, .val (.long v56), .second, .val (.long v76), .second, .val (.long v99), .second, .val (.ref b24), .val (.ref b27), .val (.int (0 : Int32)), .unset, .unset, .unset, .unset, .unset] [(.int (0 : Int32))])) _
      refine XS.istore X91.here hx rfl (hb hby at_169) rfl (l' := #[.val (.long x0_0), .second, .val (.long x0_1), .second, .val (.long x0_2), .second, .val (.long x0_3), .second, .val (.long x0_4), .second, .val (.long x0_5), .second, .val (.int v7), .val (.long v13), .second, .val (.long v19), .second, .val (.long v27), .second, .val (.long v38), .second, .val (.long v56), .second, .val (.long v76), .second, .val (.long v99), .second, .val (.ref b24), .val (.ref b27), .val (.int (0 : Int32)), .val (.int (0 : Int32)), .unset, .unset, .unset, .unset]) rfl ?_
      show Steps p.tables e below (T91.setTop (mkF m 171 #[.val (.long x0_0), .second, .val (.long x0_1), .second, .val (.long x0_2), .second, .val (.long x0_3), .second, .val (.long x0_4), .second, .val (.long x0_5), .second, .val (.int v7), .val (.long v13), .second, .val (.long v19), .second, .val (.long v27), .second, .val (.long v38), .second, .val (.long v56), .second, .val (.long v76), .second, .val (.long v99), .second, .val (.ref b24), .val (.ref b27), .val (.int (0 : Int32)), .val (.int (0 : Int32)), .unset, .unset, .unset, .unset] [])) _
      refine XS.aload X91.here hx rfl (hb hby at_171) rfl rfl ?_
      show Steps p.tables e below (T91.setTop (mkF m 173 #[.val (.long x0_0), .second, .val (.long x0_1), .second, .val (.long x0_2), .second, .val (.long x0_3), .second, .val (.long x0_4), .second, .val (.long x0_5), .second, .val (.int v7), .val (.long v13), .second, .val (.long v19), .second, .val (.long v27), .second, .val (.long v38), .second, .val (.long v56), .second, .val (.long v76), .second, .val (.long v99), .second, .val (.ref b24), .val (.ref b27), .val (.int (0 : Int32)), .val (.int (0 : Int32)), .unset, .unset, .unset, .unset] [(.ref b27)])) _
      refine XS.aload X91.here hx rfl (hb hby at_173) rfl rfl ?_
      exact kt
    obtain ⟨cq93, kq93, q93a, q93b, q93c⟩ := isOf hZ e91 Ex28
    obtain ⟨rv93, _, ⟨T93, L93, k93, n93⟩, -, X93, ⟨Lc93, hQ93, l93, y93, z93⟩, st93⟩ := X91.virtualBack hx (y := (⟨"com/example/libdmutex/libdmutex/core/Range", "equals", "(Ljava/lang/Object;)Z"⟩ : MethodName)) (z := (⟨"com/example/libdmutex/libdmutex/core/Range", "equals", "(Ljava/lang/Object;)Z"⟩ : MethodName)) hown (mvT hZ (hw _ (List.mem_of_getElem? (i := 29) rfl))) (mvT hZ (hw _ (List.mem_of_getElem? (i := 30) rfl))) (notFace_of_selects (args := #[]) (mvT hZ (hw _ (List.mem_of_getElem? (i := 32) rfl)))) (mvT hZ (hw _ (List.mem_of_getElem? (i := 32) rfl))) (mvT hZ (hw _ (List.mem_of_getElem? (i := 31) rfl))) (by decide) (backOf (W := 0) (rm6o l Z a0 hw [] b27 b24 (v56.toInt32) (v76.toInt32) (v99.toInt32) (v19.toInt32) (v27.toInt32) (v38.toInt32) T28.heap n0 Zs28 Ex28 c87 Fq28_size Fq28_from Fq28_to c88 c89 c90) hZ (hw _ (List.mem_of_getElem? (i := 33) rfl)) (hw _ (List.mem_of_getElem? (i := 15) rfl)) (by decide) (by decide)) q93a q93c (g := (mkF m 175 #[.val (.long x0_0), .second, .val (.long x0_1), .second, .val (.long x0_2), .second, .val (.long x0_3), .second, .val (.long x0_4), .second, .val (.long x0_5), .second, .val (.int v7), .val (.long v13), .second, .val (.long v19), .second, .val (.long v27), .second, .val (.long v38), .second, .val (.long v56), .second, .val (.long v76), .second, .val (.long v99), .second, .val (.ref b24), .val (.ref b27), .val (.int (0 : Int32)), .val (.int (0 : Int32)), .unset, .unset, .unset, .unset] [(.ref b24), (.ref b27)])) rfl (by rw [hml]; rfl) (Steps.refl _) (argsL := [(.ref b24)]) (rest := []) (lenOf pd_6 rfl) rfl (by show 2 * 0 + _ ≤ _; exact Nat.le_of_eq rfl) (hb hby at_175) (fun _ _ => ⟨rfl, e91, (by decide : 2 + 0 ≤ _), (by decide : 6 + 0 ≤ _)⟩)
    dsimp only [Pt.U, Pt.locs, Pt.cells, Pt.slots] at X93 l93 y93 z93 st93 hQ93
    subst l93 y93 z93
    obtain ⟨hv93, N93q, e93⟩ := hQ93
    have N93 := Fr.app N91 N93q
    have hf93 : f6o b27 b24 (v56.toInt32) (v76.toInt32) (v99.toInt32) (v19.toInt32) (v27.toInt32) (v38.toInt32) = (0 : Int32) := by unfold f6o; rw [if_neg (own_inj v56 v19 ⟨Int.le_trans (by decide) hs2.1, hs2.2⟩ ⟨Int.le_trans (by decide) hs1.1, hs1.2⟩ (Ne.symm hc136_31))]
    rw [hf93] at hv93
    subst hv93
    have sg96 : ∀ t, Steps p.tables e below (T93.setTop (mkF m 184 #[.val (.long x0_0), .second, .val (.long x0_1), .second, .val (.long x0_2), .second, .val (.long x0_3), .second, .val (.long x0_4), .second, .val (.long x0_5), .second, .val (.int v7), .val (.long v13), .second, .val (.long v19), .second, .val (.long v27), .second, .val (.long v38), .second, .val (.long v56), .second, .val (.long v76), .second, .val (.long v99), .second, .val (.ref b24), .val (.ref b27), .val (.int (0 : Int32)), .val (.int (0 : Int32)), .val (.int (0 : Int32)), .unset, .unset, .unset] [(.ref b24), (.ref b24)])) t → Steps p.tables e below (T91.setTop (mkF m 175 #[.val (.long x0_0), .second, .val (.long x0_1), .second, .val (.long x0_2), .second, .val (.long x0_3), .second, .val (.long x0_4), .second, .val (.long x0_5), .second, .val (.int v7), .val (.long v13), .second, .val (.long v19), .second, .val (.long v27), .second, .val (.long v38), .second, .val (.long v56), .second, .val (.long v76), .second, .val (.long v99), .second, .val (.ref b24), .val (.ref b27), .val (.int (0 : Int32)), .val (.int (0 : Int32)), .unset, .unset, .unset, .unset] [(.ref b24), (.ref b27)])) t := fun t kt => by
      show Steps p.tables e below (T91.setTop (mkF m 175 #[.val (.long x0_0), .second, .val (.long x0_1), .second, .val (.long x0_2), .second, .val (.long x0_3), .second, .val (.long x0_4), .second, .val (.long x0_5), .second, .val (.int v7), .val (.long v13), .second, .val (.long v19), .second, .val (.long v27), .second, .val (.long v38), .second, .val (.long v56), .second, .val (.long v76), .second, .val (.long v99), .second, .val (.ref b24), .val (.ref b27), .val (.int (0 : Int32)), .val (.int (0 : Int32)), .unset, .unset, .unset, .unset] [(.ref b24), (.ref b27)])) _
      refine st93.trans ?_
      show Steps p.tables e below (T93.setTop (mkF m 178 #[.val (.long x0_0), .second, .val (.long x0_1), .second, .val (.long x0_2), .second, .val (.long x0_3), .second, .val (.long x0_4), .second, .val (.long x0_5), .second, .val (.int v7), .val (.long v13), .second, .val (.long v19), .second, .val (.long v27), .second, .val (.long v38), .second, .val (.long v56), .second, .val (.long v76), .second, .val (.long v99), .second, .val (.ref b24), .val (.ref b27), .val (.int (0 : Int32)), .val (.int (0 : Int32)), .unset, .unset, .unset, .unset] [(.int (0 : Int32))])) _
      refine XS.istore X93.here hx rfl (hb hby at_178) rfl (l' := #[.val (.long x0_0), .second, .val (.long x0_1), .second, .val (.long x0_2), .second, .val (.long x0_3), .second, .val (.long x0_4), .second, .val (.long x0_5), .second, .val (.int v7), .val (.long v13), .second, .val (.long v19), .second, .val (.long v27), .second, .val (.long v38), .second, .val (.long v56), .second, .val (.long v76), .second, .val (.long v99), .second, .val (.ref b24), .val (.ref b27), .val (.int (0 : Int32)), .val (.int (0 : Int32)), .val (.int (0 : Int32)), .unset, .unset, .unset]) rfl ?_
      show Steps p.tables e below (T93.setTop (mkF m 180 #[.val (.long x0_0), .second, .val (.long x0_1), .second, .val (.long x0_2), .second, .val (.long x0_3), .second, .val (.long x0_4), .second, .val (.long x0_5), .second, .val (.int v7), .val (.long v13), .second, .val (.long v19), .second, .val (.long v27), .second, .val (.long v38), .second, .val (.long v56), .second, .val (.long v76), .second, .val (.long v99), .second, .val (.ref b24), .val (.ref b27), .val (.int (0 : Int32)), .val (.int (0 : Int32)), .val (.int (0 : Int32)), .unset, .unset, .unset] [])) _
      refine XS.aload X93.here hx rfl (hb hby at_180) rfl rfl ?_
      show Steps p.tables e below (T93.setTop (mkF m 182 #[.val (.long x0_0), .second, .val (.long x0_1), .second, .val (.long x0_2), .second, .val (.long x0_3), .second, .val (.long x0_4), .second, .val (.long x0_5), .second, .val (.int v7), .val (.long v13), .second, .val (.long v19), .second, .val (.long v27), .second, .val (.long v38), .second, .val (.long v56), .second, .val (.long v76), .second, .val (.long v99), .second, .val (.ref b24), .val (.ref b27), .val (.int (0 : Int32)), .val (.int (0 : Int32)), .val (.int (0 : Int32)), .unset, .unset, .unset] [(.ref b24)])) _
      refine XS.aload X93.here hx rfl (hb hby at_182) rfl rfl ?_
      exact kt
    obtain ⟨cq95, kq95, q95a, q95b, q95c⟩ := isOf hZ e93 c87
    obtain ⟨rv95, _, ⟨T95, L95, k95, n95⟩, -, X95, ⟨Lc95, hQ95, l95, y95, z95⟩, st95⟩ := X93.virtualBack hx (y := (⟨"com/example/libdmutex/libdmutex/core/Range", "equals", "(Ljava/lang/Object;)Z"⟩ : MethodName)) (z := (⟨"com/example/libdmutex/libdmutex/core/Range", "equals", "(Ljava/lang/Object;)Z"⟩ : MethodName)) hown (mvT hZ (hw _ (List.mem_of_getElem? (i := 29) rfl))) (mvT hZ (hw _ (List.mem_of_getElem? (i := 30) rfl))) (notFace_of_selects (args := #[]) (mvT hZ (hw _ (List.mem_of_getElem? (i := 32) rfl)))) (mvT hZ (hw _ (List.mem_of_getElem? (i := 32) rfl))) (mvT hZ (hw _ (List.mem_of_getElem? (i := 31) rfl))) (by decide) (backOf (W := 0) (rm6o l Z a0 hw [] b24 b24 (v19.toInt32) (v27.toInt32) (v38.toInt32) (v19.toInt32) (v27.toInt32) (v38.toInt32) T28.heap n0 Zs28 c87 c87 c88 c89 c90 c88 c89 c90) hZ (hw _ (List.mem_of_getElem? (i := 33) rfl)) (hw _ (List.mem_of_getElem? (i := 15) rfl)) (by decide) (by decide)) q95a q95c (g := (mkF m 184 #[.val (.long x0_0), .second, .val (.long x0_1), .second, .val (.long x0_2), .second, .val (.long x0_3), .second, .val (.long x0_4), .second, .val (.long x0_5), .second, .val (.int v7), .val (.long v13), .second, .val (.long v19), .second, .val (.long v27), .second, .val (.long v38), .second, .val (.long v56), .second, .val (.long v76), .second, .val (.long v99), .second, .val (.ref b24), .val (.ref b27), .val (.int (0 : Int32)), .val (.int (0 : Int32)), .val (.int (0 : Int32)), .unset, .unset, .unset] [(.ref b24), (.ref b24)])) rfl (by rw [hml]; rfl) (Steps.refl _) (argsL := [(.ref b24)]) (rest := []) (lenOf pd_6 rfl) rfl (by show 2 * 0 + _ ≤ _; exact Nat.le_of_eq rfl) (hb hby at_184) (fun _ _ => ⟨rfl, e93, (by decide : 2 + 0 ≤ _), (by decide : 6 + 0 ≤ _)⟩)
    dsimp only [Pt.U, Pt.locs, Pt.cells, Pt.slots] at X95 l95 y95 z95 st95 hQ95
    subst l95 y95 z95
    obtain ⟨hv95, N95q, e95⟩ := hQ95
    have N95 := Fr.app N93 N95q
    have hf95 : f6o b24 b24 (v19.toInt32) (v27.toInt32) (v38.toInt32) (v19.toInt32) (v27.toInt32) (v38.toInt32) = (1 : Int32) := by unfold f6o; rw [if_pos (rfl : (v19.toInt32) = (v19.toInt32)), if_pos (rfl : (v27.toInt32) = (v27.toInt32)), if_pos (rfl : (v38.toInt32) = (v38.toInt32))]
    rw [hf95] at hv95
    subst hv95
    have sg98 : ∀ t, Steps p.tables e below (T95.setTop (mkF m 192 #[.val (.long x0_0), .second, .val (.long x0_1), .second, .val (.long x0_2), .second, .val (.long x0_3), .second, .val (.long x0_4), .second, .val (.long x0_5), .second, .val (.int v7), .val (.long v13), .second, .val (.long v19), .second, .val (.long v27), .second, .val (.long v38), .second, .val (.long v56), .second, .val (.long v76), .second, .val (.long v99), .second, .val (.ref b24), .val (.ref b27), .val (.int (0 : Int32)), .val (.int (0 : Int32)), .val (.int (0 : Int32)), .val (.int (1 : Int32)), .unset, .unset] [.null, (.ref b24)])) t → Steps p.tables e below (T93.setTop (mkF m 184 #[.val (.long x0_0), .second, .val (.long x0_1), .second, .val (.long x0_2), .second, .val (.long x0_3), .second, .val (.long x0_4), .second, .val (.long x0_5), .second, .val (.int v7), .val (.long v13), .second, .val (.long v19), .second, .val (.long v27), .second, .val (.long v38), .second, .val (.long v56), .second, .val (.long v76), .second, .val (.long v99), .second, .val (.ref b24), .val (.ref b27), .val (.int (0 : Int32)), .val (.int (0 : Int32)), .val (.int (0 : Int32)), .unset, .unset, .unset] [(.ref b24), (.ref b24)])) t := fun t kt => by
      show Steps p.tables e below (T93.setTop (mkF m 184 #[.val (.long x0_0), .second, .val (.long x0_1), .second, .val (.long x0_2), .second, .val (.long x0_3), .second, .val (.long x0_4), .second, .val (.long x0_5), .second, .val (.int v7), .val (.long v13), .second, .val (.long v19), .second, .val (.long v27), .second, .val (.long v38), .second, .val (.long v56), .second, .val (.long v76), .second, .val (.long v99), .second, .val (.ref b24), .val (.ref b27), .val (.int (0 : Int32)), .val (.int (0 : Int32)), .val (.int (0 : Int32)), .unset, .unset, .unset] [(.ref b24), (.ref b24)])) _
      refine st95.trans ?_
      show Steps p.tables e below (T95.setTop (mkF m 187 #[.val (.long x0_0), .second, .val (.long x0_1), .second, .val (.long x0_2), .second, .val (.long x0_3), .second, .val (.long x0_4), .second, .val (.long x0_5), .second, .val (.int v7), .val (.long v13), .second, .val (.long v19), .second, .val (.long v27), .second, .val (.long v38), .second, .val (.long v56), .second, .val (.long v76), .second, .val (.long v99), .second, .val (.ref b24), .val (.ref b27), .val (.int (0 : Int32)), .val (.int (0 : Int32)), .val (.int (0 : Int32)), .unset, .unset, .unset] [(.int (1 : Int32))])) _
      refine XS.istore X95.here hx rfl (hb hby at_187) rfl (l' := #[.val (.long x0_0), .second, .val (.long x0_1), .second, .val (.long x0_2), .second, .val (.long x0_3), .second, .val (.long x0_4), .second, .val (.long x0_5), .second, .val (.int v7), .val (.long v13), .second, .val (.long v19), .second, .val (.long v27), .second, .val (.long v38), .second, .val (.long v56), .second, .val (.long v76), .second, .val (.long v99), .second, .val (.ref b24), .val (.ref b27), .val (.int (0 : Int32)), .val (.int (0 : Int32)), .val (.int (0 : Int32)), .val (.int (1 : Int32)), .unset, .unset]) rfl ?_
      show Steps p.tables e below (T95.setTop (mkF m 189 #[.val (.long x0_0), .second, .val (.long x0_1), .second, .val (.long x0_2), .second, .val (.long x0_3), .second, .val (.long x0_4), .second, .val (.long x0_5), .second, .val (.int v7), .val (.long v13), .second, .val (.long v19), .second, .val (.long v27), .second, .val (.long v38), .second, .val (.long v56), .second, .val (.long v76), .second, .val (.long v99), .second, .val (.ref b24), .val (.ref b27), .val (.int (0 : Int32)), .val (.int (0 : Int32)), .val (.int (0 : Int32)), .val (.int (1 : Int32)), .unset, .unset] [])) _
      refine XS.aload X95.here hx rfl (hb hby at_189) rfl rfl ?_
      show Steps p.tables e below (T95.setTop (mkF m 191 #[.val (.long x0_0), .second, .val (.long x0_1), .second, .val (.long x0_2), .second, .val (.long x0_3), .second, .val (.long x0_4), .second, .val (.long x0_5), .second, .val (.int v7), .val (.long v13), .second, .val (.long v19), .second, .val (.long v27), .second, .val (.long v38), .second, .val (.long v56), .second, .val (.long v76), .second, .val (.long v99), .second, .val (.ref b24), .val (.ref b27), .val (.int (0 : Int32)), .val (.int (0 : Int32)), .val (.int (0 : Int32)), .val (.int (1 : Int32)), .unset, .unset] [(.ref b24)])) _
      refine XS.aconstNull X95.here hx rfl (hb hby at_191) ?_
      exact kt
    obtain ⟨cq97, kq97, q97a, q97b, q97c⟩ := isOf hZ e95 c87
    obtain ⟨rv97, _, ⟨T97, L97, k97, n97⟩, -, X97, ⟨Lc97, hQ97, l97, y97, z97⟩, st97⟩ := X95.virtualBack hx (y := (⟨"com/example/libdmutex/libdmutex/core/Range", "equals", "(Ljava/lang/Object;)Z"⟩ : MethodName)) (z := (⟨"com/example/libdmutex/libdmutex/core/Range", "equals", "(Ljava/lang/Object;)Z"⟩ : MethodName)) hown (mvT hZ (hw _ (List.mem_of_getElem? (i := 29) rfl))) (mvT hZ (hw _ (List.mem_of_getElem? (i := 30) rfl))) (notFace_of_selects (args := #[]) (mvT hZ (hw _ (List.mem_of_getElem? (i := 32) rfl)))) (mvT hZ (hw _ (List.mem_of_getElem? (i := 32) rfl))) (mvT hZ (hw _ (List.mem_of_getElem? (i := 31) rfl))) (by decide) (backOf (W := 0) (rm6n l Z a0 hw [] b24 T28.heap n0 Zs28 c87) hZ (hw _ (List.mem_of_getElem? (i := 33) rfl)) (hw _ (List.mem_of_getElem? (i := 15) rfl)) (by decide) (by decide)) q97a q97c (g := (mkF m 192 #[.val (.long x0_0), .second, .val (.long x0_1), .second, .val (.long x0_2), .second, .val (.long x0_3), .second, .val (.long x0_4), .second, .val (.long x0_5), .second, .val (.int v7), .val (.long v13), .second, .val (.long v19), .second, .val (.long v27), .second, .val (.long v38), .second, .val (.long v56), .second, .val (.long v76), .second, .val (.long v99), .second, .val (.ref b24), .val (.ref b27), .val (.int (0 : Int32)), .val (.int (0 : Int32)), .val (.int (0 : Int32)), .val (.int (1 : Int32)), .unset, .unset] [.null, (.ref b24)])) rfl (by rw [hml]; rfl) (Steps.refl _) (argsL := [.null]) (rest := []) (lenOf pd_6 rfl) rfl (by show 2 * 0 + _ ≤ _; exact Nat.le_of_eq rfl) (hb hby at_192) (fun _ _ => ⟨rfl, e95, (by decide : 2 + 0 ≤ _), (by decide : 6 + 0 ≤ _)⟩)
    dsimp only [Pt.U, Pt.locs, Pt.cells, Pt.slots] at X97 l97 y97 z97 st97 hQ97
    subst l97 y97 z97
    obtain ⟨hv97, N97q, e97⟩ := hQ97
    have N97 := Fr.app N95 N97q
    have hf97 : f6n b24 = (0 : Int32) := rfl
    rw [hf97] at hv97
    subst hv97
    have sg100 : ∀ t, Steps p.tables e below (T97.setTop (mkF m 200 #[.val (.long x0_0), .second, .val (.long x0_1), .second, .val (.long x0_2), .second, .val (.long x0_3), .second, .val (.long x0_4), .second, .val (.long x0_5), .second, .val (.int v7), .val (.long v13), .second, .val (.long v19), .second, .val (.long v27), .second, .val (.long v38), .second, .val (.long v56), .second, .val (.long v76), .second, .val (.long v99), .second, .val (.ref b24), .val (.ref b27), .val (.int (0 : Int32)), .val (.int (0 : Int32)), .val (.int (0 : Int32)), .val (.int (1 : Int32)), .val (.int (0 : Int32)), .unset] [(.long x0_0), (.ref b24)])) t → Steps p.tables e below (T95.setTop (mkF m 192 #[.val (.long x0_0), .second, .val (.long x0_1), .second, .val (.long x0_2), .second, .val (.long x0_3), .second, .val (.long x0_4), .second, .val (.long x0_5), .second, .val (.int v7), .val (.long v13), .second, .val (.long v19), .second, .val (.long v27), .second, .val (.long v38), .second, .val (.long v56), .second, .val (.long v76), .second, .val (.long v99), .second, .val (.ref b24), .val (.ref b27), .val (.int (0 : Int32)), .val (.int (0 : Int32)), .val (.int (0 : Int32)), .val (.int (1 : Int32)), .unset, .unset] [.null, (.ref b24)])) t := fun t kt => by
      show Steps p.tables e below (T95.setTop (mkF m 192 #[.val (.long x0_0), .second, .val (.long x0_1), .second, .val (.long x0_2), .second, .val (.long x0_3), .second, .val (.long x0_4), .second, .val (.long x0_5), .second, .val (.int v7), .val (.long v13), .second, .val (.long v19), .second, .val (.long v27), .second, .val (.long v38), .second, .val (.long v56), .second, .val (.long v76), .second, .val (.long v99), .second, .val (.ref b24), .val (.ref b27), .val (.int (0 : Int32)), .val (.int (0 : Int32)), .val (.int (0 : Int32)), .val (.int (1 : Int32)), .unset, .unset] [.null, (.ref b24)])) _
      refine st97.trans ?_
      show Steps p.tables e below (T97.setTop (mkF m 195 #[.val (.long x0_0), .second, .val (.long x0_1), .second, .val (.long x0_2), .second, .val (.long x0_3), .second, .val (.long x0_4), .second, .val (.long x0_5), .second, .val (.int v7), .val (.long v13), .second, .val (.long v19), .second, .val (.long v27), .second, .val (.long v38), .second, .val (.long v56), .second, .val (.long v76), .second, .val (.long v99), .second, .val (.ref b24), .val (.ref b27), .val (.int (0 : Int32)), .val (.int (0 : Int32)), .val (.int (0 : Int32)), .val (.int (1 : Int32)), .unset, .unset] [(.int (0 : Int32))])) _
      refine XS.istore X97.here hx rfl (hb hby at_195) rfl (l' := #[.val (.long x0_0), .second, .val (.long x0_1), .second, .val (.long x0_2), .second, .val (.long x0_3), .second, .val (.long x0_4), .second, .val (.long x0_5), .second, .val (.int v7), .val (.long v13), .second, .val (.long v19), .second, .val (.long v27), .second, .val (.long v38), .second, .val (.long v56), .second, .val (.long v76), .second, .val (.long v99), .second, .val (.ref b24), .val (.ref b27), .val (.int (0 : Int32)), .val (.int (0 : Int32)), .val (.int (0 : Int32)), .val (.int (1 : Int32)), .val (.int (0 : Int32)), .unset]) rfl ?_
      show Steps p.tables e below (T97.setTop (mkF m 197 #[.val (.long x0_0), .second, .val (.long x0_1), .second, .val (.long x0_2), .second, .val (.long x0_3), .second, .val (.long x0_4), .second, .val (.long x0_5), .second, .val (.int v7), .val (.long v13), .second, .val (.long v19), .second, .val (.long v27), .second, .val (.long v38), .second, .val (.long v56), .second, .val (.long v76), .second, .val (.long v99), .second, .val (.ref b24), .val (.ref b27), .val (.int (0 : Int32)), .val (.int (0 : Int32)), .val (.int (0 : Int32)), .val (.int (1 : Int32)), .val (.int (0 : Int32)), .unset] [])) _
      refine XS.aload X97.here hx rfl (hb hby at_197) rfl rfl ?_
      show Steps p.tables e below (T97.setTop (mkF m 199 #[.val (.long x0_0), .second, .val (.long x0_1), .second, .val (.long x0_2), .second, .val (.long x0_3), .second, .val (.long x0_4), .second, .val (.long x0_5), .second, .val (.int v7), .val (.long v13), .second, .val (.long v19), .second, .val (.long v27), .second, .val (.long v38), .second, .val (.long v56), .second, .val (.long v76), .second, .val (.long v99), .second, .val (.ref b24), .val (.ref b27), .val (.int (0 : Int32)), .val (.int (0 : Int32)), .val (.int (0 : Int32)), .val (.int (1 : Int32)), .val (.int (0 : Int32)), .unset] [(.ref b24)])) _
      refine XS.lloadN X97.here hx rfl (hb hby at_199) rfl ?_
      exact kt
    obtain ⟨rv99, _, ⟨T99, L99, k99, n99⟩, -, X99, ⟨Lc99, hQ99, l99, y99, z99⟩, st99⟩ := Jvm.LawKit.callS X97 hx (y := (⟨"java/lang/Long", "valueOf", "(J)Ljava/lang/Long;"⟩ : MethodName)) hown (mvT hZ (hw _ (List.mem_of_getElem? (i := 36) rfl))) (mvT hZ (hw _ (List.mem_of_getElem? (i := 37) rfl))) (mvT hZ (hw _ (List.mem_of_getElem? (i := 38) rfl))) (mvT hZ (hw _ (List.mem_of_getElem? (i := 39) rfl))) (by decide) (backOf (W := 1) (rm7 l Z a0 hw [] x0_0 cA cl T28.heap n0 Zs28 Ol28 JC SC) hZ (hw _ (List.mem_of_getElem? (i := 39) rfl)) (hw _ (List.mem_of_getElem? (i := 38) rfl)) (by decide) (by decide)) (g := (mkF m 200 #[.val (.long x0_0), .second, .val (.long x0_1), .second, .val (.long x0_2), .second, .val (.long x0_3), .second, .val (.long x0_4), .second, .val (.long x0_5), .second, .val (.int v7), .val (.long v13), .second, .val (.long v19), .second, .val (.long v27), .second, .val (.long v38), .second, .val (.long v56), .second, .val (.long v76), .second, .val (.long v99), .second, .val (.ref b24), .val (.ref b27), .val (.int (0 : Int32)), .val (.int (0 : Int32)), .val (.int (0 : Int32)), .val (.int (1 : Int32)), .val (.int (0 : Int32)), .unset] [(.long x0_0), (.ref b24)])) rfl (by rw [hml]; rfl) (argsL := [(.long x0_0)]) (rest := [(.ref b24)]) (lenOf pd_7 rfl) rfl (by show 2 * 0 + _ ≤ _; exact Nat.le_of_eq rfl) (hb hby at_200) (fun _ _ => ⟨rfl, e97, (by decide : 2 + 1 ≤ _), (by decide : 6 + 1 ≤ _)⟩)
    dsimp only [Pt.U, Pt.locs, Pt.cells, Pt.slots] at X99 l99 y99 z99 st99 hQ99
    subst l99 y99 z99
    obtain ⟨r99, rfl, N99q, K99, Ex99⟩ := hQ99
    have N99 := Fr.app N97 N99q
    have Zs99 : n0 ≤ T99.heap.size := Nat.le_trans Zs28 K99.1
    have Ol99 : Old Z n0 T99.heap := (Ol28).keep K99 all0
    have c101 := (Exa.keep c87 K99)
    have sg103 : ∀ t, Steps p.tables e below (T99.setTop (mkF m 203 #[.val (.long x0_0), .second, .val (.long x0_1), .second, .val (.long x0_2), .second, .val (.long x0_3), .second, .val (.long x0_4), .second, .val (.long x0_5), .second, .val (.int v7), .val (.long v13), .second, .val (.long v19), .second, .val (.long v27), .second, .val (.long v38), .second, .val (.long v56), .second, .val (.long v76), .second, .val (.long v99), .second, .val (.ref b24), .val (.ref b27), .val (.int (0 : Int32)), .val (.int (0 : Int32)), .val (.int (0 : Int32)), .val (.int (1 : Int32)), .val (.int (0 : Int32)), .unset] [(.ref r99), (.ref b24)])) t → Steps p.tables e below (T97.setTop (mkF m 200 #[.val (.long x0_0), .second, .val (.long x0_1), .second, .val (.long x0_2), .second, .val (.long x0_3), .second, .val (.long x0_4), .second, .val (.long x0_5), .second, .val (.int v7), .val (.long v13), .second, .val (.long v19), .second, .val (.long v27), .second, .val (.long v38), .second, .val (.long v56), .second, .val (.long v76), .second, .val (.long v99), .second, .val (.ref b24), .val (.ref b27), .val (.int (0 : Int32)), .val (.int (0 : Int32)), .val (.int (0 : Int32)), .val (.int (1 : Int32)), .val (.int (0 : Int32)), .unset] [(.long x0_0), (.ref b24)])) t := fun t kt => by
      show Steps p.tables e below (T97.setTop (mkF m 200 #[.val (.long x0_0), .second, .val (.long x0_1), .second, .val (.long x0_2), .second, .val (.long x0_3), .second, .val (.long x0_4), .second, .val (.long x0_5), .second, .val (.int v7), .val (.long v13), .second, .val (.long v19), .second, .val (.long v27), .second, .val (.long v38), .second, .val (.long v56), .second, .val (.long v76), .second, .val (.long v99), .second, .val (.ref b24), .val (.ref b27), .val (.int (0 : Int32)), .val (.int (0 : Int32)), .val (.int (0 : Int32)), .val (.int (1 : Int32)), .val (.int (0 : Int32)), .unset] [(.long x0_0), (.ref b24)])) _
      refine st99 _ ?_
      exact kt
    obtain ⟨cq102, kq102, q102a, q102b, q102c⟩ := isOf hZ rfl c101
    obtain ⟨rv102, _, ⟨T102, L102, k102, n102⟩, -, X102, ⟨Lc102, hQ102, l102, y102, z102⟩, st102⟩ := X99.virtualBack hx (y := (⟨"com/example/libdmutex/libdmutex/core/Range", "equals", "(Ljava/lang/Object;)Z"⟩ : MethodName)) (z := (⟨"com/example/libdmutex/libdmutex/core/Range", "equals", "(Ljava/lang/Object;)Z"⟩ : MethodName)) hown (mvT hZ (hw _ (List.mem_of_getElem? (i := 29) rfl))) (mvT hZ (hw _ (List.mem_of_getElem? (i := 30) rfl))) (notFace_of_selects (args := #[]) (mvT hZ (hw _ (List.mem_of_getElem? (i := 32) rfl)))) (mvT hZ (hw _ (List.mem_of_getElem? (i := 32) rfl))) (mvT hZ (hw _ (List.mem_of_getElem? (i := 31) rfl))) (by decide) (backOf (W := 0) (rm6i l Z a0 hw [] b24 r99 T99.heap n0 Zs99 Ex99) hZ (hw _ (List.mem_of_getElem? (i := 33) rfl)) (hw _ (List.mem_of_getElem? (i := 15) rfl)) (by decide) (by decide)) q102a q102c (g := (mkF m 203 #[.val (.long x0_0), .second, .val (.long x0_1), .second, .val (.long x0_2), .second, .val (.long x0_3), .second, .val (.long x0_4), .second, .val (.long x0_5), .second, .val (.int v7), .val (.long v13), .second, .val (.long v19), .second, .val (.long v27), .second, .val (.long v38), .second, .val (.long v56), .second, .val (.long v76), .second, .val (.long v99), .second, .val (.ref b24), .val (.ref b27), .val (.int (0 : Int32)), .val (.int (0 : Int32)), .val (.int (0 : Int32)), .val (.int (1 : Int32)), .val (.int (0 : Int32)), .unset] [(.ref r99), (.ref b24)])) rfl (by rw [hml]; rfl) (Steps.refl _) (argsL := [(.ref r99)]) (rest := []) (lenOf pd_6 rfl) rfl (by show 2 * 0 + _ ≤ _; exact Nat.le_of_eq rfl) (hb hby at_203) (fun _ _ => ⟨rfl, rfl, (by decide : 3 + 0 ≤ _), (by decide : 7 + 0 ≤ _)⟩)
    dsimp only [Pt.U, Pt.locs, Pt.cells, Pt.slots] at X102 l102 y102 z102 st102 hQ102
    subst l102 y102 z102
    obtain ⟨hv102, N102q, e102⟩ := hQ102
    have N102 := Fr.app N99 N102q
    have hf102 : f6i b24 r99 = (0 : Int32) := rfl
    rw [hf102] at hv102
    subst hv102
    obtain ⟨fs, hr, hrun, hended, hW, hsame⟩ := X102.leave (v := some (.int (1 : Int32))) (fun h => by rw [Bd.returns] at h; cases h)
    refine ⟨_, _, pre0 _ (sg1 _ (sg2 _ (sg4 _ (sg5 _ (sg7 _ (sg8 _ (sg10 _ (sg11 _ (sg12 _ (sg13 _ (sg15 _ (sg16 _ (sg17 _ (sg19 _ (sg20 _ (sg21 _ (sg23 _ (sg26 _ (sg29 _ (sg30 _ (sg92 _ (sg94 _ (sg96 _ (sg98 _ (sg100 _ (sg103 _ ?_)))))))))))))))))))))))))), hrun, hended, _, _, rfl, ?_, ⟨_, rfl⟩, hW, hsame.mono (by decide) (by decide)⟩
    · show Steps p.tables e below (T99.setTop (mkF m 203 #[.val (.long x0_0), .second, .val (.long x0_1), .second, .val (.long x0_2), .second, .val (.long x0_3), .second, .val (.long x0_4), .second, .val (.long x0_5), .second, .val (.int v7), .val (.long v13), .second, .val (.long v19), .second, .val (.long v27), .second, .val (.long v38), .second, .val (.long v56), .second, .val (.long v76), .second, .val (.long v99), .second, .val (.ref b24), .val (.ref b27), .val (.int (0 : Int32)), .val (.int (0 : Int32)), .val (.int (0 : Int32)), .val (.int (1 : Int32)), .val (.int (0 : Int32)), .unset] [(.ref r99), (.ref b24)])) _
      refine st102.trans ?_
      show Steps p.tables e below (T102.setTop (mkF m 206 #[.val (.long x0_0), .second, .val (.long x0_1), .second, .val (.long x0_2), .second, .val (.long x0_3), .second, .val (.long x0_4), .second, .val (.long x0_5), .second, .val (.int v7), .val (.long v13), .second, .val (.long v19), .second, .val (.long v27), .second, .val (.long v38), .second, .val (.long v56), .second, .val (.long v76), .second, .val (.long v99), .second, .val (.ref b24), .val (.ref b27), .val (.int (0 : Int32)), .val (.int (0 : Int32)), .val (.int (0 : Int32)), .val (.int (1 : Int32)), .val (.int (0 : Int32)), .unset] [(.int (0 : Int32))])) _
      refine XS.istore X102.here hx rfl (hb hby at_206) rfl (l' := #[.val (.long x0_0), .second, .val (.long x0_1), .second, .val (.long x0_2), .second, .val (.long x0_3), .second, .val (.long x0_4), .second, .val (.long x0_5), .second, .val (.int v7), .val (.long v13), .second, .val (.long v19), .second, .val (.long v27), .second, .val (.long v38), .second, .val (.long v56), .second, .val (.long v76), .second, .val (.long v99), .second, .val (.ref b24), .val (.ref b27), .val (.int (0 : Int32)), .val (.int (0 : Int32)), .val (.int (0 : Int32)), .val (.int (1 : Int32)), .val (.int (0 : Int32)), .val (.int (0 : Int32))]) rfl ?_
      show Steps p.tables e below (T102.setTop (mkF m 208 #[.val (.long x0_0), .second, .val (.long x0_1), .second, .val (.long x0_2), .second, .val (.long x0_3), .second, .val (.long x0_4), .second, .val (.long x0_5), .second, .val (.int v7), .val (.long v13), .second, .val (.long v19), .second, .val (.long v27), .second, .val (.long v38), .second, .val (.long v56), .second, .val (.long v76), .second, .val (.long v99), .second, .val (.ref b24), .val (.ref b27), .val (.int (0 : Int32)), .val (.int (0 : Int32)), .val (.int (0 : Int32)), .val (.int (1 : Int32)), .val (.int (0 : Int32)), .val (.int (0 : Int32))] [])) _
      refine XS.iload X102.here hx rfl (hb hby at_208) rfl ?_
      show Steps p.tables e below (T102.setTop (mkF m 210 #[.val (.long x0_0), .second, .val (.long x0_1), .second, .val (.long x0_2), .second, .val (.long x0_3), .second, .val (.long x0_4), .second, .val (.long x0_5), .second, .val (.int v7), .val (.long v13), .second, .val (.long v19), .second, .val (.long v27), .second, .val (.long v38), .second, .val (.long v56), .second, .val (.long v76), .second, .val (.long v99), .second, .val (.ref b24), .val (.ref b27), .val (.int (0 : Int32)), .val (.int (0 : Int32)), .val (.int (0 : Int32)), .val (.int (1 : Int32)), .val (.int (0 : Int32)), .val (.int (0 : Int32))] [(.int (0 : Int32))])) _
      refine XS.iload X102.here hx rfl (hb hby at_210) rfl ?_
      show Steps p.tables e below (T102.setTop (mkF m 212 #[.val (.long x0_0), .second, .val (.long x0_1), .second, .val (.long x0_2), .second, .val (.long x0_3), .second, .val (.long x0_4), .second, .val (.long x0_5), .second, .val (.int v7), .val (.long v13), .second, .val (.long v19), .second, .val (.long v27), .second, .val (.long v38), .second, .val (.long v56), .second, .val (.long v76), .second, .val (.long v99), .second, .val (.ref b24), .val (.ref b27), .val (.int (0 : Int32)), .val (.int (0 : Int32)), .val (.int (0 : Int32)), .val (.int (1 : Int32)), .val (.int (0 : Int32)), .val (.int (0 : Int32))] [(.int (0 : Int32)), (.int (0 : Int32))])) _
      refine XS.icmpNo X102.here hx rfl (hb hby at_212) rfl (teq (by decide : ((0 : Int32) = (0 : Int32)))).2 ?_
      show Steps p.tables e below (T102.setTop (mkF m 215 #[.val (.long x0_0), .second, .val (.long x0_1), .second, .val (.long x0_2), .second, .val (.long x0_3), .second, .val (.long x0_4), .second, .val (.long x0_5), .second, .val (.int v7), .val (.long v13), .second, .val (.long v19), .second, .val (.long v27), .second, .val (.long v38), .second, .val (.long v56), .second, .val (.long v76), .second, .val (.long v99), .second, .val (.ref b24), .val (.ref b27), .val (.int (0 : Int32)), .val (.int (0 : Int32)), .val (.int (0 : Int32)), .val (.int (1 : Int32)), .val (.int (0 : Int32)), .val (.int (0 : Int32))] [])) _
      refine XS.iload X102.here hx rfl (hb hby at_215) rfl ?_
      show Steps p.tables e below (T102.setTop (mkF m 217 #[.val (.long x0_0), .second, .val (.long x0_1), .second, .val (.long x0_2), .second, .val (.long x0_3), .second, .val (.long x0_4), .second, .val (.long x0_5), .second, .val (.int v7), .val (.long v13), .second, .val (.long v19), .second, .val (.long v27), .second, .val (.long v38), .second, .val (.long v56), .second, .val (.long v76), .second, .val (.long v99), .second, .val (.ref b24), .val (.ref b27), .val (.int (0 : Int32)), .val (.int (0 : Int32)), .val (.int (0 : Int32)), .val (.int (1 : Int32)), .val (.int (0 : Int32)), .val (.int (0 : Int32))] [(.int (0 : Int32))])) _
      refine XS.iload X102.here hx rfl (hb hby at_217) rfl ?_
      show Steps p.tables e below (T102.setTop (mkF m 219 #[.val (.long x0_0), .second, .val (.long x0_1), .second, .val (.long x0_2), .second, .val (.long x0_3), .second, .val (.long x0_4), .second, .val (.long x0_5), .second, .val (.int v7), .val (.long v13), .second, .val (.long v19), .second, .val (.long v27), .second, .val (.long v38), .second, .val (.long v56), .second, .val (.long v76), .second, .val (.long v99), .second, .val (.ref b24), .val (.ref b27), .val (.int (0 : Int32)), .val (.int (0 : Int32)), .val (.int (0 : Int32)), .val (.int (1 : Int32)), .val (.int (0 : Int32)), .val (.int (0 : Int32))] [(.int (0 : Int32)), (.int (0 : Int32))])) _
      refine XS.icmpNo X102.here hx rfl (hb hby at_219) rfl (teq (by decide : ((0 : Int32) = (0 : Int32)))).2 ?_
      show Steps p.tables e below (T102.setTop (mkF m 222 #[.val (.long x0_0), .second, .val (.long x0_1), .second, .val (.long x0_2), .second, .val (.long x0_3), .second, .val (.long x0_4), .second, .val (.long x0_5), .second, .val (.int v7), .val (.long v13), .second, .val (.long v19), .second, .val (.long v27), .second, .val (.long v38), .second, .val (.long v56), .second, .val (.long v76), .second, .val (.long v99), .second, .val (.ref b24), .val (.ref b27), .val (.int (0 : Int32)), .val (.int (0 : Int32)), .val (.int (0 : Int32)), .val (.int (1 : Int32)), .val (.int (0 : Int32)), .val (.int (0 : Int32))] [])) _
      refine XS.iload X102.here hx rfl (hb hby at_222) rfl ?_
      show Steps p.tables e below (T102.setTop (mkF m 224 #[.val (.long x0_0), .second, .val (.long x0_1), .second, .val (.long x0_2), .second, .val (.long x0_3), .second, .val (.long x0_4), .second, .val (.long x0_5), .second, .val (.int v7), .val (.long v13), .second, .val (.long v19), .second, .val (.long v27), .second, .val (.long v38), .second, .val (.long v56), .second, .val (.long v76), .second, .val (.long v99), .second, .val (.ref b24), .val (.ref b27), .val (.int (0 : Int32)), .val (.int (0 : Int32)), .val (.int (0 : Int32)), .val (.int (1 : Int32)), .val (.int (0 : Int32)), .val (.int (0 : Int32))] [(.int (1 : Int32))])) _
      refine XS.ifNo X102.here hx rfl (hb hby at_224) rfl ((if0 _ _).trans (feq (by decide : ¬ ((1 : Int32) = (0 : Int32)))).1) ?_
      show Steps p.tables e below (T102.setTop (mkF m 227 #[.val (.long x0_0), .second, .val (.long x0_1), .second, .val (.long x0_2), .second, .val (.long x0_3), .second, .val (.long x0_4), .second, .val (.long x0_5), .second, .val (.int v7), .val (.long v13), .second, .val (.long v19), .second, .val (.long v27), .second, .val (.long v38), .second, .val (.long v56), .second, .val (.long v76), .second, .val (.long v99), .second, .val (.ref b24), .val (.ref b27), .val (.int (0 : Int32)), .val (.int (0 : Int32)), .val (.int (0 : Int32)), .val (.int (1 : Int32)), .val (.int (0 : Int32)), .val (.int (0 : Int32))] [])) _
      refine XS.iload X102.here hx rfl (hb hby at_227) rfl ?_
      show Steps p.tables e below (T102.setTop (mkF m 229 #[.val (.long x0_0), .second, .val (.long x0_1), .second, .val (.long x0_2), .second, .val (.long x0_3), .second, .val (.long x0_4), .second, .val (.long x0_5), .second, .val (.int v7), .val (.long v13), .second, .val (.long v19), .second, .val (.long v27), .second, .val (.long v38), .second, .val (.long v56), .second, .val (.long v76), .second, .val (.long v99), .second, .val (.ref b24), .val (.ref b27), .val (.int (0 : Int32)), .val (.int (0 : Int32)), .val (.int (0 : Int32)), .val (.int (1 : Int32)), .val (.int (0 : Int32)), .val (.int (0 : Int32))] [(.int (0 : Int32))])) _
      refine XS.ifNo X102.here hx rfl (hb hby at_229) rfl ((if0 _ _).trans (teq (by decide : ((0 : Int32) = (0 : Int32)))).2) ?_
      show Steps p.tables e below (T102.setTop (mkF m 232 #[.val (.long x0_0), .second, .val (.long x0_1), .second, .val (.long x0_2), .second, .val (.long x0_3), .second, .val (.long x0_4), .second, .val (.long x0_5), .second, .val (.int v7), .val (.long v13), .second, .val (.long v19), .second, .val (.long v27), .second, .val (.long v38), .second, .val (.long v56), .second, .val (.long v76), .second, .val (.long v99), .second, .val (.ref b24), .val (.ref b27), .val (.int (0 : Int32)), .val (.int (0 : Int32)), .val (.int (0 : Int32)), .val (.int (1 : Int32)), .val (.int (0 : Int32)), .val (.int (0 : Int32))] [])) _
      refine XS.iload X102.here hx rfl (hb hby at_232) rfl ?_
      show Steps p.tables e below (T102.setTop (mkF m 234 #[.val (.long x0_0), .second, .val (.long x0_1), .second, .val (.long x0_2), .second, .val (.long x0_3), .second, .val (.long x0_4), .second, .val (.long x0_5), .second, .val (.int v7), .val (.long v13), .second, .val (.long v19), .second, .val (.long v27), .second, .val (.long v38), .second, .val (.long v56), .second, .val (.long v76), .second, .val (.long v99), .second, .val (.ref b24), .val (.ref b27), .val (.int (0 : Int32)), .val (.int (0 : Int32)), .val (.int (0 : Int32)), .val (.int (1 : Int32)), .val (.int (0 : Int32)), .val (.int (0 : Int32))] [(.int (0 : Int32))])) _
      refine XS.ifNo X102.here hx rfl (hb hby at_234) rfl ((if0 _ _).trans (teq (by decide : ((0 : Int32) = (0 : Int32)))).2) ?_
      show Steps p.tables e below (T102.setTop (mkF m 237 #[.val (.long x0_0), .second, .val (.long x0_1), .second, .val (.long x0_2), .second, .val (.long x0_3), .second, .val (.long x0_4), .second, .val (.long x0_5), .second, .val (.int v7), .val (.long v13), .second, .val (.long v19), .second, .val (.long v27), .second, .val (.long v38), .second, .val (.long v56), .second, .val (.long v76), .second, .val (.long v99), .second, .val (.ref b24), .val (.ref b27), .val (.int (0 : Int32)), .val (.int (0 : Int32)), .val (.int (0 : Int32)), .val (.int (1 : Int32)), .val (.int (0 : Int32)), .val (.int (0 : Int32))] [])) _
      refine XS.iconst X102.here hx rfl (hb hby at_237) ?_
      show Steps p.tables e below (T102.setTop (mkF m 238 #[.val (.long x0_0), .second, .val (.long x0_1), .second, .val (.long x0_2), .second, .val (.long x0_3), .second, .val (.long x0_4), .second, .val (.long x0_5), .second, .val (.int v7), .val (.long v13), .second, .val (.long v19), .second, .val (.long v27), .second, .val (.long v38), .second, .val (.long v56), .second, .val (.long v76), .second, .val (.long v99), .second, .val (.ref b24), .val (.ref b27), .val (.int (0 : Int32)), .val (.int (0 : Int32)), .val (.int (0 : Int32)), .val (.int (1 : Int32)), .val (.int (0 : Int32)), .val (.int (0 : Int32))] [(.int (1 : Int32))])) _
      refine XS.goto X102.here hx rfl (pc0 := 238) (pc' := 242) rfl (hb hby at_238) (by decide) (by decide) ?_
      show Steps p.tables e below (T102.setTop (mkF m 242 #[.val (.long x0_0), .second, .val (.long x0_1), .second, .val (.long x0_2), .second, .val (.long x0_3), .second, .val (.long x0_4), .second, .val (.long x0_5), .second, .val (.int v7), .val (.long v13), .second, .val (.long v19), .second, .val (.long v27), .second, .val (.long v38), .second, .val (.long v56), .second, .val (.long v76), .second, .val (.long v99), .second, .val (.ref b24), .val (.ref b27), .val (.int (0 : Int32)), .val (.int (0 : Int32)), .val (.int (0 : Int32)), .val (.int (1 : Int32)), .val (.int (0 : Int32)), .val (.int (0 : Int32))] [(.int (1 : Int32))])) _
      exact retN X102 hx (t := .boolean) Bd.returns (by simp) (hb hby at_242) hr
    · show Q0 Z x0_0 x0_1 x0_2 x0_3 x0_4 x0_5 cA cl h0 n0 _ T102.heap _
      rw [e102]
      exact ⟨rfl, N102⟩
set_option maxRecDepth 65536 in
set_option maxHeartbeats 40000000 in
theorem comes_1 {Post : Tables → Env → Array Value → State → Outcome → State → Prop} (hpost : ∀ tb e args s v u, (limb_1_1.after args s (.returned v) u = true ∧ limb_1_2.after args s (.returned v) u = true ∧ True) → FrameEnd s (.returned v) u (Jvm.fieldLocs frame_1_writes args s ++ Jvm.arrayLocs frame_1_arrays args s ++ Jvm.staticLocs frame_1_statics s) 16 128 → Post tb e args s (.returned v) u) :
    ArmFor flags0 classFile x code maxLocals ret World_1 tables_1 room_1 Calls_1 rest_1 Pre_1 Post := by
  intro l hfl _ _ p e ha hc hk s m args below hf hA hF happ hP
  obtain ⟨hcalls, hrest, hpre⟩ := hP
  obtain ⟨-, -, -, hnamed, -, -, -, hat⟩ := (Spec.applies_iff hf).mp happ
  obtain ⟨hg, hn⟩ := and_e (Cond.before_iff.mp (show (Jvm.Cond.and given_1 narrow_1).before args s = true from hpre))
  obtain ⟨g1, g2⟩ := and_e hg
  obtain ⟨g3, g4⟩ := and_e g2
  obtain ⟨g5, g6⟩ := and_e g4
  obtain ⟨g7, g8⟩ := and_e g6
  obtain ⟨g9, g10⟩ := and_e g8
  obtain ⟨g11, g12⟩ := and_e g10
  obtain ⟨w0, w1, w2, w3, w4, w5, rfl⟩ : ∃ w0 w1 w2 w3 w4 w5 : Value, args = #[w0, w1, w2, w3, w4, w5] := by
    have hs : args.size = 6 := by simpa [Cond.value, given_1] using g1
    obtain ⟨L⟩ := args
    match L, hs with
    | [w0, w1, w2, w3, w4, w5], _ => exact ⟨w0, w1, w2, w3, w4, w5, rfl⟩
  have hw := fun d (hd : d ∈ tables_1) => atoms_spec (ws := Jvm.Cond.code x code maxLocals ret :: tables_1) hat d (List.mem_cons_of_mem _ hd)
  have hfit : Fit s := fun {y c} hc i hi => by
    obtain ⟨ha, rfl⟩ := Array.getElem?_eq_some_iff.mp hc
    have q := List.all_eq_true.mp ((Array.all_eq_true_iff_forall_mem.mp hF) _ (Array.getElem_mem ha)) i (List.mem_range.mpr hi)
    simpa [Array.getElem?_eq_getElem hi] using q
  obtain ⟨hsets, hown0⟩ := atoms_of _ (rest_1_c_eq ▸ (show rest_1_c.before _ s = true from hrest))
  obtain ⟨i0, ei0⟩ := isL_v g3
  obtain rfl : w0 = (.long i0) := Option.some.inj ei0
  obtain ⟨i1, ei1⟩ := isL_v g5
  obtain rfl : w1 = (.long i1) := Option.some.inj ei1
  obtain ⟨i2, ei2⟩ := isL_v g7
  obtain rfl : w2 = (.long i2) := Option.some.inj ei2
  obtain ⟨i3, ei3⟩ := isL_v g9
  obtain rfl : w3 = (.long i3) := Option.some.inj ei3
  obtain ⟨i4, ei4⟩ := isL_v g11
  obtain rfl : w4 = (.long i4) := Option.some.inj ei4
  obtain ⟨i5, ei5⟩ := isL_v g12
  obtain rfl : w5 = (.long i5) := Option.some.inj ei5
  have ha4 := Cond.before_iff.mp (hsets _ (List.mem_of_getElem? (i := 2) rfl))
  obtain ⟨cA, evc⟩ := arr_v ha4
  obtain ⟨cl, AR⟩ := Arr.start evc ha4
  have hlen := own_eqI (Cond.before_iff.mp (hsets _ (List.mem_of_getElem? (i := 4) rfl)))
  obtain ⟨hl1, hl2⟩ := own_len evc AR hlen
  have SC : Sta s s.heap "java/lang/Long$LongCache" "cache" "[Ljava/lang/Long;" (.ref cA) := Sta.start evc (Or.inr ⟨(hw _ (List.mem_of_getElem? (i := 43) rfl)), (hsets _ (List.mem_of_getElem? (i := 0) rfl))⟩)
  have JC : Bxs s cA cl "java/lang/Long" "J" 256 (fun j => .long (j - 128).toInt64) := Bxs.start (fun _ => evc) AR hl1 hl2 (by decide) (Cond.before_iff.mp (hsets _ (List.mem_of_getElem? (i := 5) rfl))) (fun X j hj h => eqv_l (i2l_at (own_sub hj)) h)
  obtain ⟨n, o, h1, h2, h3, _, L, rfl, ⟨rfl, N⟩, hq⟩ := rm0 l s _ hw tables_1 i0 i1 i2 i3 i4 i5 cA cl s.heap s.heap.size (Nat.le_refl _) (Old.start s) JC SC p e ha hc hk s m _ below hf ((Spec.applies_iff_loose hf).mp happ).1 ⟨rfl, State.Warmed39.refl s, rfl⟩ trivial
  refine ⟨n, _, h1, h2, h3, hpost _ _ _ _ _ _ ⟨Cond.after_iff.mpr rfl, Cond.after_iff.mpr (eq_i res_at (Term.int_eval (1)) rfl), trivial⟩ ⟨hq.1, hq.2.1, (hq.2.2.sift fun y hy => Or.inr (N y hy)).mono (by decide) (by decide)⟩⟩
theorem main_1_1 : Claimed_1_1 := comes_1 fun _ _ _ _ _ _ h hF => ⟨h.1, hF⟩
theorem main_1_2 : Claimed_1_2 := comes_1 fun _ _ _ _ _ _ h hF => ⟨h.2.1, hF⟩
end Jvm.Pilot.@@N@@
namespace Jvm.Pilot.@@N@@
open Jvm Jvm.ClassFile Sem Op Lib Jvm.Free Jvm.Stand Jvm.Pilot.@@N@@.Jvm.D
/-! MADE BY PROGRAM (witnessworld.py) out of the Statement's table words and the real class files: 16 classes; the members and pool entries that the words name. The judged class is class 1, her method 4. -/
namespace start1
open Jvm.ClassFile
def u (s : String) : CpInfo := .utf8 (stringToUtf16 s)
/-- a pool by its gaps: so many unusable entries, then the entry; so many at the end -/
def gap : Nat → List CpInfo → List CpInfo
  | 0, r => r
  | n + 1, r => .unusable :: gap n r
def poolList (es : List (Nat × CpInfo)) (last : Nat) : List CpInfo := es.foldr (fun e r => gap e.1 (e.2 :: r)) (gap last [])
def pool (es : List (Nat × CpInfo)) (last : Nat) : Array CpInfo := ⟨poolList es last⟩
def fileOf (pool : Array CpInfo) (this : Nat) (attrs : Array Attribute := #[]) (ms : Array MethodInfo := #[]) (fl : Nat := 33) (sup : Nat := 0) (ifs : Array Nat := #[]) (fds : Array FieldInfo := #[]) : ClassFile where
  minorVersion := 0
  majorVersion := 65
  constantPool := pool
  accessFlags := fl
  thisClass := this
  superClass := sup
  interfaces := ifs
  fields := fds
  methods := ms
  attributes := attrs
def plain (name : String) (sup : Option ClassId) : Class where
  name := name
  kind := .ordinary
  loader := none
  accessFlags := 33
  super := sup
  interfaces := #[]
  cf := none
  fields := #[]
  methods := #[]
  instanceTypes := #[]
  staticTypes := #[]
  resolved := #[]
  callSites := []
  init := .initialized
  statics := none
  mirror := none

def pool0 : Array CpInfo := pool [(5, u "<init>"), (0, u "()V"), (1, .class_ 10), (1, u "java/lang/Object")] 113

def k0c0 : Code := { maxStack := 0, maxLocals := 1, code := object_method_1_code, exceptionTable := #[], attributes := #[] }
def k0m0 : Method := { name := "<init>", desc := "()V", sig := { parameters := [], returnType := none }, accessFlags := 1, code := some k0c0 }
/-- java/lang/Object -/
def k0 : Class := { plain "java/lang/Object" none with
  accessFlags := 33
  interfaces := #[]
  cf := some (fileOf pool0 8 #[] #[{ accessFlags := 1, nameIndex := 5, descriptorIndex := 6, attributes := #[] }] 33 0 #[] #[])
  fields := #[]
  methods := #[k0m0]
  instanceTypes := #[]
  staticTypes := #[]
  resolved := Array.replicate 124 none
  statics := none }

def pool1 : Array CpInfo := pool [(2, .class_ 4), (1, u "java/lang/Object"), (0, u "<init>"), (0, u "()V"), (0, .class_ 8), (0, u "com/example/libdmutex/libdmutex/core/Range"), (0, .long 1073741823), (1, .class_ 12), (0, u "java/lang/Long"), (0, .long 9223372036854775807), (1, .long 7), (1, .methodref 18 19), (0, .class_ 20), (0, .nameAndType 21 22), (0, u "com/example/libdmutex/libdmutex/core/RangeEqualsPinLaw"), (0, u "sizeOf"), (0, u "(J)J"), (0, .methodref 18 24), (0, .nameAndType 25 26), (0, u "fromOf"), (0, u "(JJ)J"), (0, .methodref 18 28), (0, .nameAndType 29 30), (0, u "toOf"), (0, u "(JJJ)J"), (0, .methodref 7 32), (0, .nameAndType 5 33), (0, u "(JJJ)V"), (0, .methodref 7 35), (0, .nameAndType 36 37), (0, u "equals"), (0, u "(Ljava/lang/Object;)Z"), (0, .methodref 11 39), (0, .nameAndType 40 41), (0, u "valueOf"), (0, u "(J)Ljava/lang/Long;"), (2, u "law"), (0, u "(JJJJJJ)Z")] 3

def k1m0 : Method := { name := "<init>", desc := "()V", sig := { parameters := [], returnType := none }, accessFlags := 1, code := none }
def k1c1 : Code := { maxStack := 4, maxLocals := 2, code := method_2_code, exceptionTable := #[], attributes := #[] }
def k1m1 : Method := { name := "sizeOf", desc := "(J)J", sig := { parameters := [.long], returnType := some .long }, accessFlags := 10, code := some k1c1 }
def k1c2 : Code := { maxStack := 4, maxLocals := 4, code := method_3_code, exceptionTable := #[], attributes := #[] }
def k1m2 : Method := { name := "fromOf", desc := "(JJ)J", sig := { parameters := [.long, .long], returnType := some .long }, accessFlags := 10, code := some k1c2 }
def k1c3 : Code := { maxStack := 8, maxLocals := 6, code := method_4_code, exceptionTable := #[], attributes := #[] }
def k1m3 : Method := { name := "toOf", desc := "(JJJ)J", sig := { parameters := [.long, .long, .long], returnType := some .long }, accessFlags := 10, code := some k1c3 }
def k1c4 : Code := { maxStack := 8, maxLocals := 35, code := code, exceptionTable := #[], attributes := #[] }
def k1m4 : Method := { name := "law", desc := "(JJJJJJ)Z", sig := { parameters := [.long, .long, .long, .long, .long, .long], returnType := some .boolean }, accessFlags := 9, code := some k1c4 }
/-- com/example/libdmutex/libdmutex/core/RangeEqualsPinLaw -/
def k1 : Class := { plain "com/example/libdmutex/libdmutex/core/RangeEqualsPinLaw" (some 0) with
  accessFlags := 49
  interfaces := #[]
  cf := some (fileOf pool1 18 #[] #[{ accessFlags := 1, nameIndex := 5, descriptorIndex := 6, attributes := #[] }, { accessFlags := 10, nameIndex := 21, descriptorIndex := 22, attributes := #[] }, { accessFlags := 10, nameIndex := 25, descriptorIndex := 26, attributes := #[] }, { accessFlags := 10, nameIndex := 29, descriptorIndex := 30, attributes := #[] }, { accessFlags := 9, nameIndex := 44, descriptorIndex := 45, attributes := #[] }] 49 2 #[] #[])
  fields := #[]
  methods := #[k1m0, k1m1, k1m2, k1m3, k1m4]
  instanceTypes := #[]
  staticTypes := #[]
  resolved := Array.replicate 49 none
  statics := none }

def pool2 : Array CpInfo := pool [(1, .methodref 2 3), (0, .class_ 4), (0, .nameAndType 5 6), (0, u "java/lang/Object"), (0, u "<init>"), (0, u "()V"), (0, .class_ 8), (0, u "com/example/libdmutex/libdmutex/core/Range"), (0, .long 1073741824), (13, .fieldref 7 24), (0, .nameAndType 25 26), (0, u "size"), (0, u "I"), (0, .fieldref 7 28), (0, .nameAndType 29 26), (0, u "from"), (0, .fieldref 7 31), (0, .nameAndType 32 26), (0, u "to"), (3, u "MAX_SIZE"), (2, u "(JJJ)V"), (5, u "equals"), (0, u "(Ljava/lang/Object;)Z")] 24

def k2c0 : Code := { maxStack := 10, maxLocals := 7, code := prog_39_method_1_code, exceptionTable := #[], attributes := #[] }
def k2m0 : Method := { name := "<init>", desc := "(JJJ)V", sig := { parameters := [.long, .long, .long], returnType := none }, accessFlags := 1, code := some k2c0 }
def k2c1 : Code := { maxStack := 2, maxLocals := 3, code := prog_39_method_6_code, exceptionTable := #[], attributes := #[] }
def k2m1 : Method := { name := "equals", desc := "(Ljava/lang/Object;)Z", sig := { parameters := [(.object "java/lang/Object")], returnType := some .boolean }, accessFlags := 1, code := some k2c1 }
/-- com/example/libdmutex/libdmutex/core/Range -/
def k2 : Class := { plain "com/example/libdmutex/libdmutex/core/Range" (some 0) with
  accessFlags := 49
  interfaces := #[]
  cf := some (fileOf pool2 7 #[] #[{ accessFlags := 1, nameIndex := 5, descriptorIndex := 39, attributes := #[] }, { accessFlags := 1, nameIndex := 45, descriptorIndex := 46, attributes := #[] }] 49 2 #[] #[{ accessFlags := 25, nameIndex := 36, descriptorIndex := 26, attributes := #[] }, { accessFlags := 18, nameIndex := 25, descriptorIndex := 26, attributes := #[] }, { accessFlags := 18, nameIndex := 29, descriptorIndex := 26, attributes := #[] }, { accessFlags := 18, nameIndex := 32, descriptorIndex := 26, attributes := #[] }])
  fields := #[{ name := "MAX_SIZE", type := .int, accessFlags := 25, slot := 0, constantValue := 0 }, { name := "size", type := .int, accessFlags := 18, slot := 0, constantValue := 0 }, { name := "from", type := .int, accessFlags := 18, slot := 1, constantValue := 0 }, { name := "to", type := .int, accessFlags := 18, slot := 2, constantValue := 0 }]
  methods := #[k2m0, k2m1]
  instanceTypes := #[.int, .int, .int]
  staticTypes := #[.int]
  resolved := Array.replicate 71 none
  statics := none }

def pool3 : Array CpInfo := pool [(1, .class_ 2), (0, u "java/io/Serializable"), (0, .class_ 4), (0, u "java/lang/Object")] 2

/-- java/io/Serializable -/
def k3 : Class := { plain "java/io/Serializable" (some 0) with
  accessFlags := 1537
  interfaces := #[]
  cf := some (fileOf pool3 1 #[] #[] 1537 3 #[] #[])
  fields := #[]
  methods := #[]
  instanceTypes := #[]
  staticTypes := #[]
  resolved := Array.replicate 7 none
  statics := none }

def pool4 : Array CpInfo := pool [(1, .methodref 2 3), (0, .class_ 4), (0, .nameAndType 5 6), (0, u "java/lang/Object"), (0, u "<init>"), (0, u "()V"), (1, .class_ 10), (1, u "java/lang/Number"), (2, .class_ 14), (0, u "java/io/Serializable"), (0, u "serialVersionUID"), (0, u "J")] 20

def k4c0 : Code := { maxStack := 1, maxLocals := 1, code := jdk_18_method_1_code, exceptionTable := #[], attributes := #[] }
def k4m0 : Method := { name := "<init>", desc := "()V", sig := { parameters := [], returnType := none }, accessFlags := 1, code := some k4c0 }
/-- java/lang/Number -/
def k4 : Class := { plain "java/lang/Number" (some 0) with
  accessFlags := 1057
  interfaces := #[3]
  cf := some (fileOf pool4 8 #[] #[{ accessFlags := 1, nameIndex := 5, descriptorIndex := 6, attributes := #[] }] 1057 2 #[13] #[{ accessFlags := 26, nameIndex := 15, descriptorIndex := 16, attributes := #[] }])
  fields := #[{ name := "serialVersionUID", type := .long, accessFlags := 26, slot := 0, constantValue := 0 }]
  methods := #[k4m0]
  instanceTypes := #[]
  staticTypes := #[.long]
  resolved := Array.replicate 37 none
  statics := none }

def pool5 : Array CpInfo := pool [(1, .class_ 2), (0, u "java/lang/Comparable"), (0, .class_ 4), (0, u "java/lang/Object")] 7

/-- java/lang/Comparable -/
def k5 : Class := { plain "java/lang/Comparable" (some 0) with
  accessFlags := 1537
  interfaces := #[]
  cf := some (fileOf pool5 1 #[] #[] 1537 3 #[] #[])
  fields := #[]
  methods := #[]
  instanceTypes := #[]
  staticTypes := #[]
  resolved := Array.replicate 12 none
  statics := none }

def pool6 : Array CpInfo := pool [(1, .class_ 2), (0, u "java/lang/constant/Constable"), (0, .class_ 4), (0, u "java/lang/Object")] 6

/-- java/lang/constant/Constable -/
def k6 : Class := { plain "java/lang/constant/Constable" (some 0) with
  accessFlags := 1537
  interfaces := #[]
  cf := some (fileOf pool6 1 #[] #[] 1537 3 #[] #[])
  fields := #[]
  methods := #[]
  instanceTypes := #[]
  staticTypes := #[]
  resolved := Array.replicate 11 none
  statics := none }

def pool7 : Array CpInfo := pool [(1, .class_ 2), (0, u "java/lang/constant/ConstantDesc"), (0, .class_ 4), (0, u "java/lang/Object")] 32

/-- java/lang/constant/ConstantDesc -/
def k7 : Class := { plain "java/lang/constant/ConstantDesc" (some 0) with
  accessFlags := 1537
  interfaces := #[]
  cf := some (fileOf pool7 1 #[] #[] 1537 3 #[] #[])
  fields := #[]
  methods := #[]
  instanceTypes := #[]
  staticTypes := #[]
  resolved := Array.replicate 37 none
  statics := none }

def pool8 : Array CpInfo := pool [(1, .class_ 2), (0, u "java/lang/Long"), (55, .nameAndType 59 60), (0, u "<init>"), (0, u "()V"), (24, u "valueOf"), (143, u "(J)Ljava/lang/Long;"), (0, .long 18446744073709551488), (1, .long 127), (1, .fieldref 235 236), (0, .class_ 237), (0, .nameAndType 238 239), (0, u "java/lang/Long$LongCache"), (0, u "cache"), (0, u "[Ljava/lang/Long;"), (0, .methodref 1 241), (0, .nameAndType 59 242), (0, u "(J)V"), (27, .methodref 271 58), (0, .class_ 272), (0, u "java/lang/Number"), (0, .fieldref 1 274), (0, .nameAndType 275 276), (0, u "value"), (0, u "J"), (84, u "TYPE"), (0, u "Ljava/lang/Class;"), (0, .class_ 364), (0, u "java/lang/Comparable"), (0, .class_ 366), (0, u "java/lang/constant/Constable"), (0, .class_ 368), (0, u "java/lang/constant/ConstantDesc"), (0, u "MIN_VALUE"), (1, u "MAX_VALUE"), (4, u "SIZE"), (0, u "I"), (1, u "BYTES"), (1, u "serialVersionUID")] 142

def k8c0 : Code := { maxStack := 4, maxLocals := 3, code := jdk_35_method_24_code, exceptionTable := #[], attributes := #[] }
def k8m0 : Method := { name := "valueOf", desc := "(J)Ljava/lang/Long;", sig := { parameters := [.long], returnType := some (.object "java/lang/Long") }, accessFlags := 9, code := some k8c0 }
def k8c1 : Code := { maxStack := 3, maxLocals := 3, code := jdk_35_method_26_code, exceptionTable := #[], attributes := #[] }
def k8m1 : Method := { name := "<init>", desc := "(J)V", sig := { parameters := [.long], returnType := none }, accessFlags := 1, code := some k8c1 }
/-- java/lang/Long -/
def k8 : Class := { plain "java/lang/Long" (some 4) with
  accessFlags := 49
  interfaces := #[5, 6, 7]
  cf := some (fileOf pool8 1 #[.nestMembers #[235]] #[{ accessFlags := 9, nameIndex := 85, descriptorIndex := 229, attributes := #[] }, { accessFlags := 1, nameIndex := 59, descriptorIndex := 242, attributes := #[] }] 49 271 #[363, 365, 367] #[{ accessFlags := 25, nameIndex := 369, descriptorIndex := 276, attributes := #[] }, { accessFlags := 25, nameIndex := 371, descriptorIndex := 276, attributes := #[] }, { accessFlags := 25, nameIndex := 361, descriptorIndex := 362, attributes := #[] }, { accessFlags := 18, nameIndex := 275, descriptorIndex := 276, attributes := #[] }, { accessFlags := 25, nameIndex := 376, descriptorIndex := 377, attributes := #[] }, { accessFlags := 25, nameIndex := 379, descriptorIndex := 377, attributes := #[] }, { accessFlags := 26, nameIndex := 381, descriptorIndex := 276, attributes := #[] }])
  fields := #[{ name := "MIN_VALUE", type := .long, accessFlags := 25, slot := 0, constantValue := 0 }, { name := "MAX_VALUE", type := .long, accessFlags := 25, slot := 1, constantValue := 0 }, { name := "TYPE", type := (.object "java/lang/Class"), accessFlags := 25, slot := 2, constantValue := 0 }, { name := "value", type := .long, accessFlags := 18, slot := 0, constantValue := 0 }, { name := "SIZE", type := .int, accessFlags := 25, slot := 3, constantValue := 0 }, { name := "BYTES", type := .int, accessFlags := 25, slot := 4, constantValue := 0 }, { name := "serialVersionUID", type := .long, accessFlags := 26, slot := 5, constantValue := 0 }]
  methods := #[k8m0, k8m1]
  instanceTypes := #[.long]
  staticTypes := #[.long, .long, (.object "java/lang/Class"), .int, .int, .long]
  resolved := Array.replicate 524 none
  statics := none }

def pool9 : Array CpInfo := pool [(2, .class_ 4), (1, u "java/lang/Object"), (0, u "<init>"), (0, u "()V"), (0, .class_ 8), (0, u "java/lang/Long"), (7, .class_ 18), (1, u "java/lang/Long$LongCache"), (0, u "$assertionsDisabled"), (0, u "Z"), (8, u "archivedCache"), (0, u "[Ljava/lang/Long;"), (7, u "cache")] 24

def k9m0 : Method := { name := "<init>", desc := "()V", sig := { parameters := [], returnType := none }, accessFlags := 2, code := none }
/-- java/lang/Long$LongCache -/
def k9 : Class := { plain "java/lang/Long$LongCache" (some 0) with
  accessFlags := 48
  interfaces := #[]
  cf := some (fileOf pool9 16 #[.nestHost 7] #[{ accessFlags := 2, nameIndex := 5, descriptorIndex := 6, attributes := #[] }] 48 2 #[] #[{ accessFlags := 24, nameIndex := 38, descriptorIndex := 30, attributes := #[] }, { accessFlags := 8, nameIndex := 29, descriptorIndex := 30, attributes := #[] }, { accessFlags := 4120, nameIndex := 19, descriptorIndex := 20, attributes := #[] }])
  fields := #[{ name := "cache", type := (.array (.object "java/lang/Long")), accessFlags := 24, slot := 0, constantValue := 0 }, { name := "archivedCache", type := (.array (.object "java/lang/Long")), accessFlags := 8, slot := 1, constantValue := 0 }, { name := "$assertionsDisabled", type := .boolean, accessFlags := 4120, slot := 2, constantValue := 0 }]
  methods := #[k9m0]
  instanceTypes := #[]
  staticTypes := #[(.array (.object "java/lang/Long")), (.array (.object "java/lang/Long")), .boolean]
  resolved := Array.replicate 63 none
  statics := some 0 }

def pool10 : Array CpInfo := pool [(1, u "java/lang/Cloneable"), (0, .class_ 1), (0, u "java/lang/Object"), (0, .class_ 3)] 3

/-- java/lang/Cloneable -/
def k10 : Class := { plain "java/lang/Cloneable" (some 0) with
  accessFlags := 1537
  interfaces := #[]
  cf := some (fileOf pool10 2 #[] #[] 1537 4 #[] #[])
  fields := #[]
  methods := #[]
  instanceTypes := #[]
  staticTypes := #[]
  resolved := Array.replicate 8 none
  statics := none }

/-- the primitive byte -/
def k11 : Class := { plain "byte" none with kind := .primitive 'B', accessFlags := 0x411 }
/-- [B -/
def k12 : Class := { plain "[B" (some 0) with kind := .array 11 .byte, interfaces := #[10, 3], accessFlags := 1041 }

/-- the primitive int -/
def k13 : Class := { plain "int" none with kind := .primitive 'I', accessFlags := 0x411 }
/-- [I -/
def k14 : Class := { plain "[I" (some 0) with kind := .array 13 .int, interfaces := #[10, 3], accessFlags := 1041 }

/-- [Ljava/lang/Long; -/
def k15 : Class := { plain "[Ljava/lang/Long;" (some 0) with kind := .array 8 (.object "java/lang/Long"), interfaces := #[10, 3], accessFlags := 1041 }

def heap : Heap := #[{ cls := 9, slots := #[.ref 1, .null, .int 0], vm := .statics 9 },
  { cls := 15, slots := #[.ref 2, .ref 3, .ref 4, .ref 5, .ref 6, .ref 7, .ref 8, .ref 9, .ref 10, .ref 11, .ref 12, .ref 13, .ref 14, .ref 15, .ref 16, .ref 17, .ref 18, .ref 19, .ref 20, .ref 21, .ref 22, .ref 23, .ref 24, .ref 25, .ref 26, .ref 27, .ref 28, .ref 29, .ref 30, .ref 31, .ref 32, .ref 33, .ref 34, .ref 35, .ref 36, .ref 37, .ref 38, .ref 39, .ref 40, .ref 41, .ref 42, .ref 43, .ref 44, .ref 45, .ref 46, .ref 47, .ref 48, .ref 49, .ref 50, .ref 51, .ref 52, .ref 53, .ref 54, .ref 55, .ref 56, .ref 57, .ref 58, .ref 59, .ref 60, .ref 61, .ref 62, .ref 63, .ref 64, .ref 65, .ref 66, .ref 67, .ref 68, .ref 69, .ref 70, .ref 71, .ref 72, .ref 73, .ref 74, .ref 75, .ref 76, .ref 77, .ref 78, .ref 79, .ref 80, .ref 81, .ref 82, .ref 83, .ref 84, .ref 85, .ref 86, .ref 87, .ref 88, .ref 89, .ref 90, .ref 91, .ref 92, .ref 93, .ref 94, .ref 95, .ref 96, .ref 97, .ref 98, .ref 99, .ref 100, .ref 101, .ref 102, .ref 103, .ref 104, .ref 105, .ref 106, .ref 107, .ref 108, .ref 109, .ref 110, .ref 111, .ref 112, .ref 113, .ref 114, .ref 115, .ref 116, .ref 117, .ref 118, .ref 119, .ref 120, .ref 121, .ref 122, .ref 123, .ref 124, .ref 125, .ref 126, .ref 127, .ref 128, .ref 129, .ref 130, .ref 131, .ref 132, .ref 133, .ref 134, .ref 135, .ref 136, .ref 137, .ref 138, .ref 139, .ref 140, .ref 141, .ref 142, .ref 143, .ref 144, .ref 145, .ref 146, .ref 147, .ref 148, .ref 149, .ref 150, .ref 151, .ref 152, .ref 153, .ref 154, .ref 155, .ref 156, .ref 157, .ref 158, .ref 159, .ref 160, .ref 161, .ref 162, .ref 163, .ref 164, .ref 165, .ref 166, .ref 167, .ref 168, .ref 169, .ref 170, .ref 171, .ref 172, .ref 173, .ref 174, .ref 175, .ref 176, .ref 177, .ref 178, .ref 179, .ref 180, .ref 181, .ref 182, .ref 183, .ref 184, .ref 185, .ref 186, .ref 187, .ref 188, .ref 189, .ref 190, .ref 191, .ref 192, .ref 193, .ref 194, .ref 195, .ref 196, .ref 197, .ref 198, .ref 199, .ref 200, .ref 201, .ref 202, .ref 203, .ref 204, .ref 205, .ref 206, .ref 207, .ref 208, .ref 209, .ref 210, .ref 211, .ref 212, .ref 213, .ref 214, .ref 215, .ref 216, .ref 217, .ref 218, .ref 219, .ref 220, .ref 221, .ref 222, .ref 223, .ref 224, .ref 225, .ref 226, .ref 227, .ref 228, .ref 229, .ref 230, .ref 231, .ref 232, .ref 233, .ref 234, .ref 235, .ref 236, .ref 237, .ref 238, .ref 239, .ref 240, .ref 241, .ref 242, .ref 243, .ref 244, .ref 245, .ref 246, .ref 247, .ref 248, .ref 249, .ref 250, .ref 251, .ref 252, .ref 253, .ref 254, .ref 255, .ref 256, .ref 257], vm := .none },
  { cls := 8, slots := #[.long (-128)], vm := .none },
  { cls := 8, slots := #[.long (-127)], vm := .none },
  { cls := 8, slots := #[.long (-126)], vm := .none },
  { cls := 8, slots := #[.long (-125)], vm := .none },
  { cls := 8, slots := #[.long (-124)], vm := .none },
  { cls := 8, slots := #[.long (-123)], vm := .none },
  { cls := 8, slots := #[.long (-122)], vm := .none },
  { cls := 8, slots := #[.long (-121)], vm := .none },
  { cls := 8, slots := #[.long (-120)], vm := .none },
  { cls := 8, slots := #[.long (-119)], vm := .none },
  { cls := 8, slots := #[.long (-118)], vm := .none },
  { cls := 8, slots := #[.long (-117)], vm := .none },
  { cls := 8, slots := #[.long (-116)], vm := .none },
  { cls := 8, slots := #[.long (-115)], vm := .none },
  { cls := 8, slots := #[.long (-114)], vm := .none },
  { cls := 8, slots := #[.long (-113)], vm := .none },
  { cls := 8, slots := #[.long (-112)], vm := .none },
  { cls := 8, slots := #[.long (-111)], vm := .none },
  { cls := 8, slots := #[.long (-110)], vm := .none },
  { cls := 8, slots := #[.long (-109)], vm := .none },
  { cls := 8, slots := #[.long (-108)], vm := .none },
  { cls := 8, slots := #[.long (-107)], vm := .none },
  { cls := 8, slots := #[.long (-106)], vm := .none },
  { cls := 8, slots := #[.long (-105)], vm := .none },
  { cls := 8, slots := #[.long (-104)], vm := .none },
  { cls := 8, slots := #[.long (-103)], vm := .none },
  { cls := 8, slots := #[.long (-102)], vm := .none },
  { cls := 8, slots := #[.long (-101)], vm := .none },
  { cls := 8, slots := #[.long (-100)], vm := .none },
  { cls := 8, slots := #[.long (-99)], vm := .none },
  { cls := 8, slots := #[.long (-98)], vm := .none },
  { cls := 8, slots := #[.long (-97)], vm := .none },
  { cls := 8, slots := #[.long (-96)], vm := .none },
  { cls := 8, slots := #[.long (-95)], vm := .none },
  { cls := 8, slots := #[.long (-94)], vm := .none },
  { cls := 8, slots := #[.long (-93)], vm := .none },
  { cls := 8, slots := #[.long (-92)], vm := .none },
  { cls := 8, slots := #[.long (-91)], vm := .none },
  { cls := 8, slots := #[.long (-90)], vm := .none },
  { cls := 8, slots := #[.long (-89)], vm := .none },
  { cls := 8, slots := #[.long (-88)], vm := .none },
  { cls := 8, slots := #[.long (-87)], vm := .none },
  { cls := 8, slots := #[.long (-86)], vm := .none },
  { cls := 8, slots := #[.long (-85)], vm := .none },
  { cls := 8, slots := #[.long (-84)], vm := .none },
  { cls := 8, slots := #[.long (-83)], vm := .none },
  { cls := 8, slots := #[.long (-82)], vm := .none },
  { cls := 8, slots := #[.long (-81)], vm := .none },
  { cls := 8, slots := #[.long (-80)], vm := .none },
  { cls := 8, slots := #[.long (-79)], vm := .none },
  { cls := 8, slots := #[.long (-78)], vm := .none },
  { cls := 8, slots := #[.long (-77)], vm := .none },
  { cls := 8, slots := #[.long (-76)], vm := .none },
  { cls := 8, slots := #[.long (-75)], vm := .none },
  { cls := 8, slots := #[.long (-74)], vm := .none },
  { cls := 8, slots := #[.long (-73)], vm := .none },
  { cls := 8, slots := #[.long (-72)], vm := .none },
  { cls := 8, slots := #[.long (-71)], vm := .none },
  { cls := 8, slots := #[.long (-70)], vm := .none },
  { cls := 8, slots := #[.long (-69)], vm := .none },
  { cls := 8, slots := #[.long (-68)], vm := .none },
  { cls := 8, slots := #[.long (-67)], vm := .none },
  { cls := 8, slots := #[.long (-66)], vm := .none },
  { cls := 8, slots := #[.long (-65)], vm := .none },
  { cls := 8, slots := #[.long (-64)], vm := .none },
  { cls := 8, slots := #[.long (-63)], vm := .none },
  { cls := 8, slots := #[.long (-62)], vm := .none },
  { cls := 8, slots := #[.long (-61)], vm := .none },
  { cls := 8, slots := #[.long (-60)], vm := .none },
  { cls := 8, slots := #[.long (-59)], vm := .none },
  { cls := 8, slots := #[.long (-58)], vm := .none },
  { cls := 8, slots := #[.long (-57)], vm := .none },
  { cls := 8, slots := #[.long (-56)], vm := .none },
  { cls := 8, slots := #[.long (-55)], vm := .none },
  { cls := 8, slots := #[.long (-54)], vm := .none },
  { cls := 8, slots := #[.long (-53)], vm := .none },
  { cls := 8, slots := #[.long (-52)], vm := .none },
  { cls := 8, slots := #[.long (-51)], vm := .none },
  { cls := 8, slots := #[.long (-50)], vm := .none },
  { cls := 8, slots := #[.long (-49)], vm := .none },
  { cls := 8, slots := #[.long (-48)], vm := .none },
  { cls := 8, slots := #[.long (-47)], vm := .none },
  { cls := 8, slots := #[.long (-46)], vm := .none },
  { cls := 8, slots := #[.long (-45)], vm := .none },
  { cls := 8, slots := #[.long (-44)], vm := .none },
  { cls := 8, slots := #[.long (-43)], vm := .none },
  { cls := 8, slots := #[.long (-42)], vm := .none },
  { cls := 8, slots := #[.long (-41)], vm := .none },
  { cls := 8, slots := #[.long (-40)], vm := .none },
  { cls := 8, slots := #[.long (-39)], vm := .none },
  { cls := 8, slots := #[.long (-38)], vm := .none },
  { cls := 8, slots := #[.long (-37)], vm := .none },
  { cls := 8, slots := #[.long (-36)], vm := .none },
  { cls := 8, slots := #[.long (-35)], vm := .none },
  { cls := 8, slots := #[.long (-34)], vm := .none },
  { cls := 8, slots := #[.long (-33)], vm := .none },
  { cls := 8, slots := #[.long (-32)], vm := .none },
  { cls := 8, slots := #[.long (-31)], vm := .none },
  { cls := 8, slots := #[.long (-30)], vm := .none },
  { cls := 8, slots := #[.long (-29)], vm := .none },
  { cls := 8, slots := #[.long (-28)], vm := .none },
  { cls := 8, slots := #[.long (-27)], vm := .none },
  { cls := 8, slots := #[.long (-26)], vm := .none },
  { cls := 8, slots := #[.long (-25)], vm := .none },
  { cls := 8, slots := #[.long (-24)], vm := .none },
  { cls := 8, slots := #[.long (-23)], vm := .none },
  { cls := 8, slots := #[.long (-22)], vm := .none },
  { cls := 8, slots := #[.long (-21)], vm := .none },
  { cls := 8, slots := #[.long (-20)], vm := .none },
  { cls := 8, slots := #[.long (-19)], vm := .none },
  { cls := 8, slots := #[.long (-18)], vm := .none },
  { cls := 8, slots := #[.long (-17)], vm := .none },
  { cls := 8, slots := #[.long (-16)], vm := .none },
  { cls := 8, slots := #[.long (-15)], vm := .none },
  { cls := 8, slots := #[.long (-14)], vm := .none },
  { cls := 8, slots := #[.long (-13)], vm := .none },
  { cls := 8, slots := #[.long (-12)], vm := .none },
  { cls := 8, slots := #[.long (-11)], vm := .none },
  { cls := 8, slots := #[.long (-10)], vm := .none },
  { cls := 8, slots := #[.long (-9)], vm := .none },
  { cls := 8, slots := #[.long (-8)], vm := .none },
  { cls := 8, slots := #[.long (-7)], vm := .none },
  { cls := 8, slots := #[.long (-6)], vm := .none },
  { cls := 8, slots := #[.long (-5)], vm := .none },
  { cls := 8, slots := #[.long (-4)], vm := .none },
  { cls := 8, slots := #[.long (-3)], vm := .none },
  { cls := 8, slots := #[.long (-2)], vm := .none },
  { cls := 8, slots := #[.long (-1)], vm := .none },
  { cls := 8, slots := #[.long (0)], vm := .none },
  { cls := 8, slots := #[.long (1)], vm := .none },
  { cls := 8, slots := #[.long (2)], vm := .none },
  { cls := 8, slots := #[.long (3)], vm := .none },
  { cls := 8, slots := #[.long (4)], vm := .none },
  { cls := 8, slots := #[.long (5)], vm := .none },
  { cls := 8, slots := #[.long (6)], vm := .none },
  { cls := 8, slots := #[.long (7)], vm := .none },
  { cls := 8, slots := #[.long (8)], vm := .none },
  { cls := 8, slots := #[.long (9)], vm := .none },
  { cls := 8, slots := #[.long (10)], vm := .none },
  { cls := 8, slots := #[.long (11)], vm := .none },
  { cls := 8, slots := #[.long (12)], vm := .none },
  { cls := 8, slots := #[.long (13)], vm := .none },
  { cls := 8, slots := #[.long (14)], vm := .none },
  { cls := 8, slots := #[.long (15)], vm := .none },
  { cls := 8, slots := #[.long (16)], vm := .none },
  { cls := 8, slots := #[.long (17)], vm := .none },
  { cls := 8, slots := #[.long (18)], vm := .none },
  { cls := 8, slots := #[.long (19)], vm := .none },
  { cls := 8, slots := #[.long (20)], vm := .none },
  { cls := 8, slots := #[.long (21)], vm := .none },
  { cls := 8, slots := #[.long (22)], vm := .none },
  { cls := 8, slots := #[.long (23)], vm := .none },
  { cls := 8, slots := #[.long (24)], vm := .none },
  { cls := 8, slots := #[.long (25)], vm := .none },
  { cls := 8, slots := #[.long (26)], vm := .none },
  { cls := 8, slots := #[.long (27)], vm := .none },
  { cls := 8, slots := #[.long (28)], vm := .none },
  { cls := 8, slots := #[.long (29)], vm := .none },
  { cls := 8, slots := #[.long (30)], vm := .none },
  { cls := 8, slots := #[.long (31)], vm := .none },
  { cls := 8, slots := #[.long (32)], vm := .none },
  { cls := 8, slots := #[.long (33)], vm := .none },
  { cls := 8, slots := #[.long (34)], vm := .none },
  { cls := 8, slots := #[.long (35)], vm := .none },
  { cls := 8, slots := #[.long (36)], vm := .none },
  { cls := 8, slots := #[.long (37)], vm := .none },
  { cls := 8, slots := #[.long (38)], vm := .none },
  { cls := 8, slots := #[.long (39)], vm := .none },
  { cls := 8, slots := #[.long (40)], vm := .none },
  { cls := 8, slots := #[.long (41)], vm := .none },
  { cls := 8, slots := #[.long (42)], vm := .none },
  { cls := 8, slots := #[.long (43)], vm := .none },
  { cls := 8, slots := #[.long (44)], vm := .none },
  { cls := 8, slots := #[.long (45)], vm := .none },
  { cls := 8, slots := #[.long (46)], vm := .none },
  { cls := 8, slots := #[.long (47)], vm := .none },
  { cls := 8, slots := #[.long (48)], vm := .none },
  { cls := 8, slots := #[.long (49)], vm := .none },
  { cls := 8, slots := #[.long (50)], vm := .none },
  { cls := 8, slots := #[.long (51)], vm := .none },
  { cls := 8, slots := #[.long (52)], vm := .none },
  { cls := 8, slots := #[.long (53)], vm := .none },
  { cls := 8, slots := #[.long (54)], vm := .none },
  { cls := 8, slots := #[.long (55)], vm := .none },
  { cls := 8, slots := #[.long (56)], vm := .none },
  { cls := 8, slots := #[.long (57)], vm := .none },
  { cls := 8, slots := #[.long (58)], vm := .none },
  { cls := 8, slots := #[.long (59)], vm := .none },
  { cls := 8, slots := #[.long (60)], vm := .none },
  { cls := 8, slots := #[.long (61)], vm := .none },
  { cls := 8, slots := #[.long (62)], vm := .none },
  { cls := 8, slots := #[.long (63)], vm := .none },
  { cls := 8, slots := #[.long (64)], vm := .none },
  { cls := 8, slots := #[.long (65)], vm := .none },
  { cls := 8, slots := #[.long (66)], vm := .none },
  { cls := 8, slots := #[.long (67)], vm := .none },
  { cls := 8, slots := #[.long (68)], vm := .none },
  { cls := 8, slots := #[.long (69)], vm := .none },
  { cls := 8, slots := #[.long (70)], vm := .none },
  { cls := 8, slots := #[.long (71)], vm := .none },
  { cls := 8, slots := #[.long (72)], vm := .none },
  { cls := 8, slots := #[.long (73)], vm := .none },
  { cls := 8, slots := #[.long (74)], vm := .none },
  { cls := 8, slots := #[.long (75)], vm := .none },
  { cls := 8, slots := #[.long (76)], vm := .none },
  { cls := 8, slots := #[.long (77)], vm := .none },
  { cls := 8, slots := #[.long (78)], vm := .none },
  { cls := 8, slots := #[.long (79)], vm := .none },
  { cls := 8, slots := #[.long (80)], vm := .none },
  { cls := 8, slots := #[.long (81)], vm := .none },
  { cls := 8, slots := #[.long (82)], vm := .none },
  { cls := 8, slots := #[.long (83)], vm := .none },
  { cls := 8, slots := #[.long (84)], vm := .none },
  { cls := 8, slots := #[.long (85)], vm := .none },
  { cls := 8, slots := #[.long (86)], vm := .none },
  { cls := 8, slots := #[.long (87)], vm := .none },
  { cls := 8, slots := #[.long (88)], vm := .none },
  { cls := 8, slots := #[.long (89)], vm := .none },
  { cls := 8, slots := #[.long (90)], vm := .none },
  { cls := 8, slots := #[.long (91)], vm := .none },
  { cls := 8, slots := #[.long (92)], vm := .none },
  { cls := 8, slots := #[.long (93)], vm := .none },
  { cls := 8, slots := #[.long (94)], vm := .none },
  { cls := 8, slots := #[.long (95)], vm := .none },
  { cls := 8, slots := #[.long (96)], vm := .none },
  { cls := 8, slots := #[.long (97)], vm := .none },
  { cls := 8, slots := #[.long (98)], vm := .none },
  { cls := 8, slots := #[.long (99)], vm := .none },
  { cls := 8, slots := #[.long (100)], vm := .none },
  { cls := 8, slots := #[.long (101)], vm := .none },
  { cls := 8, slots := #[.long (102)], vm := .none },
  { cls := 8, slots := #[.long (103)], vm := .none },
  { cls := 8, slots := #[.long (104)], vm := .none },
  { cls := 8, slots := #[.long (105)], vm := .none },
  { cls := 8, slots := #[.long (106)], vm := .none },
  { cls := 8, slots := #[.long (107)], vm := .none },
  { cls := 8, slots := #[.long (108)], vm := .none },
  { cls := 8, slots := #[.long (109)], vm := .none },
  { cls := 8, slots := #[.long (110)], vm := .none },
  { cls := 8, slots := #[.long (111)], vm := .none },
  { cls := 8, slots := #[.long (112)], vm := .none },
  { cls := 8, slots := #[.long (113)], vm := .none },
  { cls := 8, slots := #[.long (114)], vm := .none },
  { cls := 8, slots := #[.long (115)], vm := .none },
  { cls := 8, slots := #[.long (116)], vm := .none },
  { cls := 8, slots := #[.long (117)], vm := .none },
  { cls := 8, slots := #[.long (118)], vm := .none },
  { cls := 8, slots := #[.long (119)], vm := .none },
  { cls := 8, slots := #[.long (120)], vm := .none },
  { cls := 8, slots := #[.long (121)], vm := .none },
  { cls := 8, slots := #[.long (122)], vm := .none },
  { cls := 8, slots := #[.long (123)], vm := .none },
  { cls := 8, slots := #[.long (124)], vm := .none },
  { cls := 8, slots := #[.long (125)], vm := .none },
  { cls := 8, slots := #[.long (126)], vm := .none },
  { cls := 8, slots := #[.long (127)], vm := .none }]
def classes : Array Class := #[k0, k1, k2, k3, k4, k5, k6, k7, k8, k9, k10, k11, k12, k13, k14, k15]
def interned : List (Array UInt16 × Addr) := []
def slotsUsed : Nat := 515
def theMethod : MethodId := ⟨1, 4⟩
def args0 : Array Value := #[.long 5, .long 7, .long 3, .long 11, .long 2, .long 6]
def aboutOver (below : List Frame) : State where
  vm := { classes := classes, interned := interned.toArray }
  heap := heap
  slotsUsed := slotsUsed
  threads := #[{ frames := .invoking theMethod args0 :: below }]
def below0 : List Frame := [.native { method := ⟨0, 0⟩, args := #[] }]
def about1 : State := aboutOver below0
def p0 : Program := .bare "" "" ""
def e0 : Env := launch0.env 0 0 0
theorem w_frames : about1.frames = Frame.invoking theMethod args0 :: below0 := rfl
set_option maxRecDepth 65536 in
theorem w_args : argsFit about1.vm theMethod args0 = true := by decide +kernel
set_option maxRecDepth 65536 in
theorem w_heap : heapFits about1 = true := by decide +kernel
set_option maxRecDepth 65536 in
theorem w_runnable : about1.curStatus? = some .runnable := by decide +kernel
set_option maxRecDepth 65536 in
theorem w_alone : about1.alone = true := by decide +kernel
set_option maxRecDepth 65536 in
theorem w_named : about1.methodNamed? x = some theMethod := by decide +kernel
set_option maxRecDepth 65536 in
theorem w_hears : about1.hears theMethod below0 = true := by decide +kernel
set_option maxRecDepth 65536 in
theorem w_ripe : about1.ripe theMethod args0 below0 = true := by decide +kernel
theorem w_running : about1.status = .running := rfl
set_option maxRecDepth 65536 in
theorem w_room : about1.hasRoom e0.platform room_1 = true :=
  launch0.hasRoom_least _ room_1 (by decide +kernel) (by decide +kernel) (by decide +kernel) (by decide +kernel) (by decide +kernel) (by decide +kernel)
theorem allAtoms_all (ts : List Jvm.Cond) (a : Array Jvm.Value) (st : Jvm.State) : (allAtoms ts).before a st = ts.all (fun c => c.before a st) := by
  induction ts with
  | nil => rfl
  | cons c t ih =>
    show (Jvm.Cond.and c (allAtoms t)).before a st = _
    rw [Jvm.Cond.before_and, ih, List.all_cons]
def words1 : List Jvm.Cond := Jvm.Cond.code x code maxLocals ret :: tables_1
/-- a 'code' word, met by the world's own term for the bytes: nothing is compared byte by byte -/
theorem code_word {y : MethodName} {bytes : ByteArray} {mx : Nat} {rt : Option FieldType} {a : Array Value} {s : State} {m : MethodId} {meth : Method} {c : Code} (h1 : s.methodNamed? y = some m) (h2 : s.vm.method? m = some meth) (h3 : meth.code = some c) (h4 : c.code = bytes)
    (h5 : (c.maxLocals == mx && c.exceptionTable.isEmpty && decide (c.maxStack ≤ mostOperands) && decide (meth.sig.returnType = rt) && !meth.locks && decide (parseMethodDescriptor y.desc = some meth.sig)) = true) : (Jvm.Cond.code y bytes mx rt).before a s = true := by
  simp only [Bool.and_eq_true, beq_iff_eq, Bool.not_eq_true', decide_eq_true_eq] at h5
  obtain ⟨⟨⟨⟨⟨g1, g2⟩, g3⟩, g4⟩, g5⟩, g6⟩ := h5
  simp [Cond.before, Cond.holds, Cond.value, h1, h2, h3, h4, g1, g2, g3, g4, g5, g6]
def isCode : Jvm.Cond → Bool
  | .code _ _ _ _ => true
  | _ => false
theorem all_split {L : List Jvm.Cond} {P : Jvm.Cond → Bool} (h1 : L.all (fun c => isCode c || P c) = true) (h2 : ∀ c ∈ L.filter isCode, P c = true) : L.all P = true := by
  refine List.all_eq_true.mpr fun c hc => ?_
  have h := List.all_eq_true.mp h1 c hc
  rcases Bool.eq_false_or_eq_true (isCode c) with hi | hi
  · exact h2 c (List.mem_filter.mpr ⟨hc, hi⟩)
  · simpa [hi] using h
set_option maxRecDepth 65536 in
theorem w_c0 : (Jvm.Cond.code x code maxLocals ret).before args0 about1 = true := code_word (m := ⟨1, 4⟩) (meth := k1m4) (c := k1c4) (by decide +kernel) rfl rfl rfl (by decide +kernel)
set_option maxRecDepth 65536 in
theorem w_c1 : (Jvm.Cond.code ({ cls := "com/example/libdmutex/libdmutex/core/RangeEqualsPinLaw", name := "sizeOf", desc := "(J)J" } : Jvm.MethodName) method_2_code (2 : Nat) (Option.some Jvm.ClassFile.FieldType.long)).before args0 about1 = true := code_word (m := ⟨1, 1⟩) (meth := k1m1) (c := k1c1) (by decide +kernel) rfl rfl rfl (by decide +kernel)
set_option maxRecDepth 65536 in
theorem w_c2 : (Jvm.Cond.code ({ cls := "com/example/libdmutex/libdmutex/core/RangeEqualsPinLaw", name := "fromOf", desc := "(JJ)J" } : Jvm.MethodName) method_3_code (4 : Nat) (Option.some Jvm.ClassFile.FieldType.long)).before args0 about1 = true := code_word (m := ⟨1, 2⟩) (meth := k1m2) (c := k1c2) (by decide +kernel) rfl rfl rfl (by decide +kernel)
set_option maxRecDepth 65536 in
theorem w_c3 : (Jvm.Cond.code ({ cls := "com/example/libdmutex/libdmutex/core/RangeEqualsPinLaw", name := "toOf", desc := "(JJJ)J" } : Jvm.MethodName) method_4_code (6 : Nat) (Option.some Jvm.ClassFile.FieldType.long)).before args0 about1 = true := code_word (m := ⟨1, 3⟩) (meth := k1m3) (c := k1c3) (by decide +kernel) rfl rfl rfl (by decide +kernel)
set_option maxRecDepth 65536 in
theorem w_c4 : (Jvm.Cond.code ({ cls := "com/example/libdmutex/libdmutex/core/Range", name := "<init>", desc := "(JJJ)V" } : Jvm.MethodName) prog_39_method_1_code (7 : Nat) (Option.none : Option Jvm.ClassFile.FieldType)).before args0 about1 = true := code_word (m := ⟨2, 0⟩) (meth := k2m0) (c := k2c0) (by decide +kernel) rfl rfl rfl (by decide +kernel)
set_option maxRecDepth 65536 in
theorem w_c5 : (Jvm.Cond.code ({ cls := "java/lang/Object", name := "<init>", desc := "()V" } : Jvm.MethodName) object_method_1_code (1 : Nat) (Option.none : Option Jvm.ClassFile.FieldType)).before args0 about1 = true := code_word (m := ⟨0, 0⟩) (meth := k0m0) (c := k0c0) (by decide +kernel) rfl rfl rfl (by decide +kernel)
set_option maxRecDepth 65536 in
theorem w_c6 : (Jvm.Cond.code ({ cls := "com/example/libdmutex/libdmutex/core/Range", name := "equals", desc := "(Ljava/lang/Object;)Z" } : Jvm.MethodName) prog_39_method_6_code (3 : Nat) (Option.some Jvm.ClassFile.FieldType.boolean)).before args0 about1 = true := code_word (m := ⟨2, 1⟩) (meth := k2m1) (c := k2c1) (by decide +kernel) rfl rfl rfl (by decide +kernel)
set_option maxRecDepth 65536 in
theorem w_c7 : (Jvm.Cond.code ({ cls := "java/lang/Long", name := "valueOf", desc := "(J)Ljava/lang/Long;" } : Jvm.MethodName) jdk_35_method_24_code (3 : Nat) (Option.some (Jvm.ClassFile.FieldType.object "java/lang/Long"))).before args0 about1 = true := code_word (m := ⟨8, 0⟩) (meth := k8m0) (c := k8c0) (by decide +kernel) rfl rfl rfl (by decide +kernel)
set_option maxRecDepth 65536 in
theorem w_c8 : (Jvm.Cond.code ({ cls := "java/lang/Long", name := "<init>", desc := "(J)V" } : Jvm.MethodName) jdk_35_method_26_code (3 : Nat) (Option.none : Option Jvm.ClassFile.FieldType)).before args0 about1 = true := code_word (m := ⟨8, 1⟩) (meth := k8m1) (c := k8c1) (by decide +kernel) rfl rfl rfl (by decide +kernel)
set_option maxRecDepth 65536 in
theorem w_c9 : (Jvm.Cond.code ({ cls := "java/lang/Number", name := "<init>", desc := "()V" } : Jvm.MethodName) jdk_18_method_1_code (1 : Nat) (Option.none : Option Jvm.ClassFile.FieldType)).before args0 about1 = true := code_word (m := ⟨4, 0⟩) (meth := k4m0) (c := k4c0) (by decide +kernel) rfl rfl rfl (by decide +kernel)
def codes1 : List Jvm.Cond := [Jvm.Cond.code x code maxLocals ret, Jvm.Cond.code ({ cls := "com/example/libdmutex/libdmutex/core/RangeEqualsPinLaw", name := "sizeOf", desc := "(J)J" } : Jvm.MethodName) method_2_code (2 : Nat) (Option.some Jvm.ClassFile.FieldType.long), Jvm.Cond.code ({ cls := "com/example/libdmutex/libdmutex/core/RangeEqualsPinLaw", name := "fromOf", desc := "(JJ)J" } : Jvm.MethodName) method_3_code (4 : Nat) (Option.some Jvm.ClassFile.FieldType.long), Jvm.Cond.code ({ cls := "com/example/libdmutex/libdmutex/core/RangeEqualsPinLaw", name := "toOf", desc := "(JJJ)J" } : Jvm.MethodName) method_4_code (6 : Nat) (Option.some Jvm.ClassFile.FieldType.long), Jvm.Cond.code ({ cls := "com/example/libdmutex/libdmutex/core/Range", name := "<init>", desc := "(JJJ)V" } : Jvm.MethodName) prog_39_method_1_code (7 : Nat) (Option.none : Option Jvm.ClassFile.FieldType), Jvm.Cond.code ({ cls := "java/lang/Object", name := "<init>", desc := "()V" } : Jvm.MethodName) object_method_1_code (1 : Nat) (Option.none : Option Jvm.ClassFile.FieldType), Jvm.Cond.code ({ cls := "com/example/libdmutex/libdmutex/core/Range", name := "equals", desc := "(Ljava/lang/Object;)Z" } : Jvm.MethodName) prog_39_method_6_code (3 : Nat) (Option.some Jvm.ClassFile.FieldType.boolean), Jvm.Cond.code ({ cls := "java/lang/Long", name := "valueOf", desc := "(J)Ljava/lang/Long;" } : Jvm.MethodName) jdk_35_method_24_code (3 : Nat) (Option.some (Jvm.ClassFile.FieldType.object "java/lang/Long")), Jvm.Cond.code ({ cls := "java/lang/Long", name := "<init>", desc := "(J)V" } : Jvm.MethodName) jdk_35_method_26_code (3 : Nat) (Option.none : Option Jvm.ClassFile.FieldType), Jvm.Cond.code ({ cls := "java/lang/Number", name := "<init>", desc := "()V" } : Jvm.MethodName) jdk_18_method_1_code (1 : Nat) (Option.none : Option Jvm.ClassFile.FieldType)]
set_option maxRecDepth 65536 in
theorem codes_eq : words1.filter isCode = codes1 := rfl
theorem w_codes : ∀ c ∈ words1.filter isCode, c.before args0 about1 = true := by
  rw [codes_eq]
  intro c hc
  simp only [codes1, List.mem_cons, List.not_mem_nil, or_false] at hc
  rcases hc with rfl | rfl | rfl | rfl | rfl | rfl | rfl | rfl | rfl | rfl
  · exact w_c0
  · exact w_c1
  · exact w_c2
  · exact w_c3
  · exact w_c4
  · exact w_c5
  · exact w_c6
  · exact w_c7
  · exact w_c8
  · exact w_c9
set_option maxRecDepth 65536 in
theorem w_t1 : (words1.take 24).all (fun c => isCode c || c.before args0 about1) = true := by decide +kernel
set_option maxRecDepth 65536 in
theorem w_t2 : ((words1.drop 24).take 24).all (fun c => isCode c || c.before args0 about1) = true := by decide +kernel
set_option maxRecDepth 65536 in
theorem w_t3 : ((words1.drop 24).drop 24).all (fun c => isCode c || c.before args0 about1) = true := by decide +kernel
theorem w_tables : (allAtoms (Jvm.Cond.code x code maxLocals ret :: tables_1)).before args0 about1 = true := by
  rw [allAtoms_all]
  show words1.all (fun c => c.before args0 about1) = true
  refine all_split ?_ w_codes
  rw [← List.take_append_drop 24 words1, List.all_append, w_t1, ← List.take_append_drop 24 (words1.drop 24), List.all_append, w_t2, w_t3]
  rfl
set_option maxRecDepth 65536 in
theorem w_rest : rest_1_c.before args0 about1 = true := by decide +kernel
set_option maxRecDepth 65536 in
theorem w_case : (Jvm.Cond.and given_1 narrow_1).before args0 about1 = true := by decide +kernel
theorem w_applies : (headSpec (Jvm.Cond.code x code maxLocals ret :: tables_1) room_1).applies x e0.platform about1 = true :=
  (Spec.applies_iff w_frames).mpr ⟨w_running, w_runnable, w_alone, w_named, w_hears, w_ripe, w_room, w_tables⟩
theorem atStart : AtStart classFile x code maxLocals ret World_1 tables_1 room_1 Calls_1 rest_1 Pre_1 launch0 p0 e0 about1 theMethod args0 below0 :=
  ⟨lists_1, trivial, launch0.admits_env _ _ _, launch0.least_env, fairChoices_fair.cas, fairChoices_fair.clock, w_frames, w_args, w_heap, w_applies, trivial, w_rest, w_case⟩
end start1
theorem witness_1 : WitnessClaimed_1 := ⟨start1.p0, start1.e0, start1.about1, start1.theMethod, start1.args0, start1.below0, start1.atStart⟩
end Jvm.Pilot.@@N@@
