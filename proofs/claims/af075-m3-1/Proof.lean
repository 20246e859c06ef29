import JvmDerived
import JvmDerived.Pilot.@@N@@Statement
import JvmDerived.Pilot.@@N@@Code
set_option linter.unusedVariables false
set_option linter.unusedSimpArgs false
@@BLOCK:NumsL.lean.txt@@
@@BLOCK:Masks.lean.txt@@
namespace Jvm.RoadKit
open Sem ClassFile Op Lib Jvm.Stand Jvm.Free Jvm.LawKit
section New
variable {p : Program} {l : Launch} {e : Env} {R : Room} {s : State} {m : MethodId} {args : Array Value} {below : List Frame} {meth : Method} {c : Code} {T : State} {locs : List Loc} {cells slots : Nat}
theorem retI (X : Stand p l e R s m args below meth c T locs cells slots) (hx : p.tables.exec = Jvm.exec) {pc : Nat} {Ls : Array Slot} {z : Int32} {rest : List Value} (hret : meth.sig.returnType = some .int) (hd : decode c.code pc = .ok (.ireturn, 1)) {fs : List Frame}
    (hl : ∀ (f : JFrame) (acts : List Action), f.method = m → f.locked = none → f.entered = [] → (doReturn e (T.setTop f) acts (some (.int z))).1 = T.setFrames fs) : Steps p.tables e below (T.setTop (mkF m pc Ls (.int z :: rest))) (T.setFrames fs) := by
  have hm' : T.vm.method? m = some meth := X.method'
  have hn : narrow .int (.int z) = .int z := rfl
  show Steps p.tables e below (T.setTop { method := m, pc := pc, locals := Ls, stack := _ :: rest, locked := none }) _
  jvm_step X.here [X.here.top, hx, hd, hm', hret, hn]
  first | (intro acts; rw [hl _ acts rfl rfl rfl]) | rw [hl _ _ rfl rfl rfl]
  exact Steps.refl _
end New
end Jvm.RoadKit
namespace Jvm.Pilot.@@N@@
open Jvm Jvm.ClassFile Sem Op Lib Jvm.Free Jvm.Stand Jvm.LawKit Jvm.RoadKit Bundle Jvm.Pilot.@@N@@.Jvm.D
theorem own_lrem (x y : Int64) : x - (x / y) * y = x % y := Int64.toInt_inj.mp (by rw [Jvm.Kit.i64_rem, Int64.toInt_mod])
theorem lremM {p : Program} {l : Launch} {e : Env} {R : Room} {s : State} {m : MethodId} {args : Array Value} {below : List Frame} {meth : Method} {c : Code} {T : State} {locs : List Loc} {cells slots : Nat} {g : JFrame} {target : State} (X : Stand p l e R s m args below meth c T locs cells slots) (hx : p.tables.exec = Jvm.exec) (hg : g.method = m) {x y : Int64} {rest : List Value} (hd : decode c.code g.pc = .ok (.lrem, 1)) (hs : g.stack = .long y :: .long x :: rest) (hy : y ≠ 0)
    (hr : Steps p.tables e below (T.setTop { g with pc := g.pc + 1, stack := .long (x % y) :: rest }) target) : Steps p.tables e below (T.setTop g) target := by
  exact XS.lrem X.here hx hg hd hs hy (by rw [own_lrem]; exact hr)
theorem own_eqI {args : Array Value} {s : State} {t : Jvm.Term} {n : Int32} (h : (Jvm.Cond.eq t (.int n)).value args s none s [] = some true) : t.eval args s none [] s = some (.int n) := by
  obtain ⟨x, y, hx, hy, k1, k2⟩ := cmp_v (Or.inl h)
  obtain rfl : y = .int n := Option.some.inj (hy.symm.trans (Term.int_eval n))
  obtain ⟨z, rfl⟩ := k2
  have q : z = n := by simpa [Jvm.Cond.value, hx, hy] using h
  rw [hx, q]

theorem own_sm (x : Int64) (h1 : ¬ (x < (-128 : Int64))) (h2 : ¬ ((127 : Int64) < x)) : x.toInt32.toInt = x.toInt := by
  rw [Int64.lt_iff_toInt_lt] at h1 h2
  have a1 : (-128 : Int64).toInt = -128 := by decide
  have a2 : (127 : Int64).toInt = 127 := by decide
  rw [Int64.toInt_toInt32]
  exact Int.bmod_eq_of_le_mul_two (by omega) (by omega)
theorem own_jL (x : Int64) (h1 : ¬ (x < (-128 : Int64))) (h2 : ¬ ((127 : Int64) < x)) : ¬ (x.toInt32 + (128 : Int32)) < 0 ∧ (x.toInt32 + (128 : Int32)) < 256 := by
  have s := own_sm x h1 h2
  rw [Int64.lt_iff_toInt_lt] at h1 h2
  rw [Int32.lt_iff_toInt_lt, Int32.lt_iff_toInt_lt]
  have e := c_iadd x.toInt32 128
  have r := rng32 (x.toInt32 + 128)
  have a1 : (-128 : Int64).toInt = -128 := by decide
  have a2 : (127 : Int64).toInt = 127 := by decide
  have a3 : (128 : Int32).toInt = 128 := by decide
  have a4 : (0 : Int32).toInt = 0 := by decide
  have a5 : (256 : Int32).toInt = 256 := by decide
  omega
theorem own_jv (x : Int64) (h1 : ¬ (x < (-128 : Int64))) (h2 : ¬ ((127 : Int64) < x)) : ((x.toInt32 + (128 : Int32)) - 128).toInt64 = x := by
  have s := own_sm x h1 h2
  have q : (x.toInt32 + (128 : Int32)) - 128 = x.toInt32 := by
    rw [← Int32.toInt_inj]
    have e := c_iadd x.toInt32 128
    have e2 := c_isub (x.toInt32 + 128) 128
    have r := rng32 (x.toInt32 + 128)
    have r2 := rng32 ((x.toInt32 + 128) - 128)
    have r3 := rng32 x.toInt32
    have a3 : (128 : Int32).toInt = 128 := by decide
    omega
  rw [q, ← Int64.toInt_inj, Int32.toInt_toInt64, s]

theorem own_len {args : Array Value} {s : State} {t : Jvm.Term} {a : Addr} {cl : Cell} {ty : FieldType} {n : Int32} (ev : t.eval args s none [] s = some (.ref a)) (A : Arr s s.heap a cl ty) (h : (Jvm.Term.length t).eval args s none [] s = some (.int n)) : cl.slots.size < 2 ^ 31 ∧ cl.slots.size.toInt32 = n := by
  have q := A.fin (Vm.Alike.refl _)
  by_cases hs : cl.slots.size < 2 ^ 31
  · exact ⟨hs, Value.int.inj (Option.some.inj ((len_f ev q hs).symm.trans h))⟩
  · exfalso
    simp [Jvm.Term.eval, ev, q, hs] at h
theorem own_sub {args : Array Value} {s : State} {j : Int32} (hj : ¬ j < 0) : (Jvm.Term.sub (.index 0) (.int 128)).eval args s none [j.toNatClampNeg] s = some (.int (j - 128)) := by
  simp [Jvm.Term.eval, (back32 hj).1]


theorem d3_0 : decode jdk_30_method_1_code 0 = .ok (.aload_n 0, 1) := by decide +kernel
theorem d3_1 : decode jdk_30_method_1_code 1 = .ok (.invokespecial 1, 3) := by decide +kernel
theorem d3_4 : decode jdk_30_method_1_code 4 = .ok (.return_, 1) := by decide +kernel
theorem pn_0 : plainName "java/lang/Record" = true := by first | (simp [plainName, overriddenIn]; done) | decide +kernel
theorem ef_3 (m : MethodId) (x3_0 : Addr) : entryFrame m #[(.ref x3_0)] 1 = mkF m 0 #[.val (.ref x3_0)] [] := by first | (simp [entryFrame, mkF, argsToLocals, Value.category]; done) | rfl
def Q3 (Z : State) (x3_0 : Addr) (h0 : Heap) (n0 : Nat) (v : Option Value) (h : Heap) (L : List Loc) : Prop := v = none ∧ Fr n0 L ∧ h = h0
set_option maxRecDepth 65536 in
set_option maxHeartbeats 40000000 in
theorem rm3 (l : Launch) (Z : State) (a0 : Array Value) (hw : ∀ d ∈ tables_1, d.before a0 Z = true) (ws : List Jvm.Cond) (x3_0 : Addr) (h0 : Heap) (n0 : Nat) (Z0 : n0 ≤ h0.size) :
    MetFree l (⟨"java/lang/Record", "<init>", "()V"⟩ : MethodName) (head1 (Jvm.Cond.code (⟨"java/lang/Record", "<init>", "()V"⟩ : MethodName) jdk_30_method_1_code 1 none :: ws) ({ frames := 1, cells := 0, slots := 0, locals := 12 } : Room)) (fun a U => a = #[(.ref x3_0)] ∧ Z.Warmed39 U.vm ∧ U.heap = h0) (fun _ _ _ _ _ => True) (fun _ U o U' => ∃ v L, o = .returned v ∧ Q3 Z x3_0 h0 n0 v U'.heap L ∧ FrameEnd U o U' L ({ frames := 1, cells := 0, slots := 0, locals := 12 } : Room).cells ({ frames := 1, cells := 0, slots := 0, locals := 12 } : Room).slots) := by
  refine MetFree.of_bodySF (plainFor_of_name pn_0) hisR ?_
  intro p e s m args below meth c s₁ Bd hml0 hP hK
  obtain ⟨rfl, hZ, hh⟩ := hP
  have hx := Bd.exec
  have hby := Bd.bytes
  have hml : c.maxLocals = 1 := hml0
  have hown : s.vm.findClass "java/lang/Record" = some m.cls := findClass_of_methodNamed Bd.named
  have hnm := (name_of_methodNamed Bd.named Bd.method).1
  have X0 : Stand p l e ({ frames := 1, cells := 0, slots := 0, locals := 12 } : Room) s m #[(.ref x3_0)] below meth c s₁ [] 0 0 := Stand.of_body Bd
  have e0 : s₁.heap = h0 := by rw [← hh, Bd.state]; rfl
  have N0 := Fr.nil n0
  have pre0 : ∀ t, Steps p.tables e below (s₁.setTop (mkF m 0 #[.val (.ref x3_0)] [])) t → Steps p.tables e below (s₁.setTop (entryFrame m #[(.ref x3_0)] 1)) t := fun t k => castTop (ef_3 m x3_0) k
  obtain ⟨T1, X1, e1, st1⟩ := initO X0 hx hZ hown (hw _ (List.mem_of_getElem? (i := 19) rfl)) (hw _ (List.mem_of_getElem? (i := 20) rfl)) (hw _ (List.mem_of_getElem? (i := 21) rfl)) e0 (g := (mkF m 1 #[.val (.ref x3_0)] [(.ref x3_0)])) rfl (by rw [hml]; rfl) rfl (hb hby d3_1) (by decide) (W := 0) (by show 2 * 0 + _ ≤ _; exact Nat.le_of_eq rfl) (by decide)
  obtain ⟨fs, hr, hrun, hended, hW, hsame⟩ := X1.leave (v := none) (fun _ => rfl)
  refine ⟨_, _, pre0 _ (?_), hrun, hended, _, _, rfl, ?_, ⟨_, rfl⟩, hW, hsame.mono (by decide) (by decide)⟩
  · show Steps p.tables e below (s₁.setTop (mkF m 0 #[.val (.ref x3_0)] [])) _
    refine XS.aloadN X0.here hx rfl (hb hby d3_0) rfl rfl ?_
    show Steps p.tables e below (s₁.setTop (mkF m 1 #[.val (.ref x3_0)] [(.ref x3_0)])) _
    refine st1 _ ?_
    show Steps p.tables e below (T1.setTop (mkF m 4 #[.val (.ref x3_0)] [])) _
    exact X1.returnOut hx Bd.returns (hb hby d3_4) hr
  · exact ⟨rfl, N0, e1⟩
theorem d12_0 : decode jdk_18_method_1_code 0 = .ok (.aload_n 0, 1) := by decide +kernel
theorem d12_1 : decode jdk_18_method_1_code 1 = .ok (.invokespecial 1, 3) := by decide +kernel
theorem d12_4 : decode jdk_18_method_1_code 4 = .ok (.return_, 1) := by decide +kernel
theorem pn_1 : plainName "java/lang/Number" = true := by first | (simp [plainName, overriddenIn]; done) | decide +kernel
theorem ef_12 (m : MethodId) (x12_0 : Addr) : entryFrame m #[(.ref x12_0)] 1 = mkF m 0 #[.val (.ref x12_0)] [] := by first | (simp [entryFrame, mkF, argsToLocals, Value.category]; done) | rfl
def Q12 (Z : State) (x12_0 : Addr) (h0 : Heap) (n0 : Nat) (v : Option Value) (h : Heap) (L : List Loc) : Prop := v = none ∧ Fr n0 L ∧ h = h0
set_option maxRecDepth 65536 in
set_option maxHeartbeats 40000000 in
theorem rm12 (l : Launch) (Z : State) (a0 : Array Value) (hw : ∀ d ∈ tables_1, d.before a0 Z = true) (ws : List Jvm.Cond) (x12_0 : Addr) (h0 : Heap) (n0 : Nat) (Z0 : n0 ≤ h0.size) :
    MetFree l (⟨"java/lang/Number", "<init>", "()V"⟩ : MethodName) (head1 (Jvm.Cond.code (⟨"java/lang/Number", "<init>", "()V"⟩ : MethodName) jdk_18_method_1_code 1 none :: ws) ({ frames := 1, cells := 0, slots := 0, locals := 12 } : Room)) (fun a U => a = #[(.ref x12_0)] ∧ Z.Warmed39 U.vm ∧ U.heap = h0) (fun _ _ _ _ _ => True) (fun _ U o U' => ∃ v L, o = .returned v ∧ Q12 Z x12_0 h0 n0 v U'.heap L ∧ FrameEnd U o U' L ({ frames := 1, cells := 0, slots := 0, locals := 12 } : Room).cells ({ frames := 1, cells := 0, slots := 0, locals := 12 } : Room).slots) := by
  refine MetFree.of_bodySF (plainFor_of_name pn_1) hisR ?_
  intro p e s m args below meth c s₁ Bd hml0 hP hK
  obtain ⟨rfl, hZ, hh⟩ := hP
  have hx := Bd.exec
  have hby := Bd.bytes
  have hml : c.maxLocals = 1 := hml0
  have hown : s.vm.findClass "java/lang/Number" = some m.cls := findClass_of_methodNamed Bd.named
  have hnm := (name_of_methodNamed Bd.named Bd.method).1
  have X0 : Stand p l e ({ frames := 1, cells := 0, slots := 0, locals := 12 } : Room) s m #[(.ref x12_0)] below meth c s₁ [] 0 0 := Stand.of_body Bd
  have e0 : s₁.heap = h0 := by rw [← hh, Bd.state]; rfl
  have N0 := Fr.nil n0
  have pre0 : ∀ t, Steps p.tables e below (s₁.setTop (mkF m 0 #[.val (.ref x12_0)] [])) t → Steps p.tables e below (s₁.setTop (entryFrame m #[(.ref x12_0)] 1)) t := fun t k => castTop (ef_12 m x12_0) k
  obtain ⟨T1, X1, e1, st1⟩ := initO X0 hx hZ hown (hw _ (List.mem_of_getElem? (i := 76) rfl)) (hw _ (List.mem_of_getElem? (i := 20) rfl)) (hw _ (List.mem_of_getElem? (i := 21) rfl)) e0 (g := (mkF m 1 #[.val (.ref x12_0)] [(.ref x12_0)])) rfl (by rw [hml]; rfl) rfl (hb hby d12_1) (by decide) (W := 0) (by show 2 * 0 + _ ≤ _; exact Nat.le_of_eq rfl) (by decide)
  obtain ⟨fs, hr, hrun, hended, hW, hsame⟩ := X1.leave (v := none) (fun _ => rfl)
  refine ⟨_, _, pre0 _ (?_), hrun, hended, _, _, rfl, ?_, ⟨_, rfl⟩, hW, hsame.mono (by decide) (by decide)⟩
  · show Steps p.tables e below (s₁.setTop (mkF m 0 #[.val (.ref x12_0)] [])) _
    refine XS.aloadN X0.here hx rfl (hb hby d12_0) rfl rfl ?_
    show Steps p.tables e below (s₁.setTop (mkF m 1 #[.val (.ref x12_0)] [(.ref x12_0)])) _
    refine st1 _ ?_
    show Steps p.tables e below (T1.setTop (mkF m 4 #[.val (.ref x12_0)] [])) _
    exact X1.returnOut hx Bd.returns (hb hby d12_4) hr
  · exact ⟨rfl, N0, e1⟩
theorem pd_0 : parseMethodDescriptor "()V" = some ⟨[], none⟩ := by decide +kernel
theorem d11_0 : decode jdk_35_method_26_code 0 = .ok (.aload_n 0, 1) := by decide +kernel
theorem d11_1 : decode jdk_35_method_26_code 1 = .ok (.invokespecial 270, 3) := by decide +kernel
theorem d11_4 : decode jdk_35_method_26_code 4 = .ok (.aload_n 0, 1) := by decide +kernel
theorem d11_5 : decode jdk_35_method_26_code 5 = .ok (.lload_n 1, 1) := by decide +kernel
theorem d11_6 : decode jdk_35_method_26_code 6 = .ok (.putfield 273, 3) := by decide +kernel
theorem d11_9 : decode jdk_35_method_26_code 9 = .ok (.return_, 1) := by decide +kernel
theorem pn_2 : plainName "java/lang/Long" = true := by first | (simp [plainName, overriddenIn]; done) | decide +kernel
theorem ef_11 (m : MethodId) (x11_0 : Addr) (x11_1 : Int64) : entryFrame m #[(.ref x11_0), (.long x11_1)] 3 = mkF m 0 #[.val (.ref x11_0), .val (.long x11_1), .second] [] := by first | (simp [entryFrame, mkF, argsToLocals, Value.category]; done) | rfl
def Q11 (Z : State) (x11_0 : Addr) (x11_1 : Int64) (h0 : Heap) (n0 : Nat) (v : Option Value) (h : Heap) (L : List Loc) : Prop := v = none ∧ Fr n0 L ∧ Keep h0 h [x11_0] ∧ Exa Z h x11_0 "java/lang/Long" ∧ Fld Z h x11_0 "java/lang/Long" "value" "J" (.long x11_1)
set_option maxRecDepth 65536 in
set_option maxHeartbeats 40000000 in
theorem rm11 (l : Launch) (Z : State) (a0 : Array Value) (hw : ∀ d ∈ tables_1, d.before a0 Z = true) (ws : List Jvm.Cond) (x11_0 : Addr) (x11_1 : Int64) (h0 : Heap) (n0 : Nat) (Z0 : n0 ≤ h0.size) (Exa0 : Exa Z h0 x11_0 "java/lang/Long") (g_x11_0 : n0 ≤ x11_0) (Fo_value : Fld Z h0 x11_0 "java/lang/Long" "value" "J" (.long (0 : Int64))) :
    MetFree l (⟨"java/lang/Long", "<init>", "(J)V"⟩ : MethodName) (head1 (Jvm.Cond.code (⟨"java/lang/Long", "<init>", "(J)V"⟩ : MethodName) jdk_35_method_26_code 3 none :: ws) ({ frames := 2, cells := 0, slots := 0, locals := 24 } : Room)) (fun a U => a = #[(.ref x11_0), (.long x11_1)] ∧ Z.Warmed39 U.vm ∧ U.heap = h0) (fun _ _ _ _ _ => True) (fun _ U o U' => ∃ v L, o = .returned v ∧ Q11 Z x11_0 x11_1 h0 n0 v U'.heap L ∧ FrameEnd U o U' L ({ frames := 2, cells := 0, slots := 0, locals := 24 } : Room).cells ({ frames := 2, cells := 0, slots := 0, locals := 24 } : Room).slots) := by
  refine MetFree.of_bodySF (plainFor_of_name pn_2) hisR ?_
  intro p e s m args below meth c s₁ Bd hml0 hP hK
  obtain ⟨rfl, hZ, hh⟩ := hP
  have hx := Bd.exec
  have hby := Bd.bytes
  have hml : c.maxLocals = 3 := hml0
  have hown : s.vm.findClass "java/lang/Long" = some m.cls := findClass_of_methodNamed Bd.named
  have hnm := (name_of_methodNamed Bd.named Bd.method).1
  have X0 : Stand p l e ({ frames := 2, cells := 0, slots := 0, locals := 24 } : Room) s m #[(.ref x11_0), (.long x11_1)] below meth c s₁ [] 0 0 := Stand.of_body Bd
  have e0 : s₁.heap = h0 := by rw [← hh, Bd.state]; rfl
  have N0 := Fr.nil n0
  have pre0 : ∀ t, Steps p.tables e below (s₁.setTop (mkF m 0 #[.val (.ref x11_0), .val (.long x11_1), .second] [])) t → Steps p.tables e below (s₁.setTop (entryFrame m #[(.ref x11_0), (.long x11_1)] 3)) t := fun t k => castTop (ef_11 m x11_0 x11_1) k
  have sg2 : ∀ t, Steps p.tables e below (s₁.setTop (mkF m 1 #[.val (.ref x11_0), .val (.long x11_1), .second] [(.ref x11_0)])) t → Steps p.tables e below (s₁.setTop (mkF m 0 #[.val (.ref x11_0), .val (.long x11_1), .second] [])) t := fun t kt => by
    show Steps p.tables e below (s₁.setTop (mkF m 0 #[.val (.ref x11_0), .val (.long x11_1), .second] [])) _
    refine XS.aloadN X0.here hx rfl (hb hby d11_0) rfl rfl ?_
    exact kt
  obtain ⟨v1, _, ⟨T1, L1, k1, n1⟩, -, X1, ⟨Lc1, hQ1, l1, y1, z1⟩, st1⟩ := X0.specialBack hx (y := (⟨"java/lang/Number", "<init>", "()V"⟩ : MethodName)) rfl hown (mvT hZ (hw _ (List.mem_of_getElem? (i := 70) rfl))) (mvT hZ (hw _ (List.mem_of_getElem? (i := 71) rfl))) (mvT hZ (hw _ (List.mem_of_getElem? (i := 75) rfl))) (by decide) (backOf (W := 0) (rm12 l Z a0 hw [] x11_0 h0 n0 Z0) hZ (hw _ (List.mem_of_getElem? (i := 75) rfl)) (hw _ (List.mem_of_getElem? (i := 74) rfl)) (by decide) (by decide)) (g := (mkF m 1 #[.val (.ref x11_0), .val (.long x11_1), .second] [(.ref x11_0)])) rfl (by rw [hml]; rfl) (Steps.refl _) (a := x11_0) (argsL := []) (rest := []) (lenOf pd_0 rfl) rfl (by show 2 * 0 + _ ≤ _; exact Nat.le_of_eq rfl) (hb hby d11_1) (fun _ _ => ⟨rfl, e0, (by decide : 0 + 0 ≤ _), (by decide : 0 + 0 ≤ _)⟩)
  dsimp only [Pt.U, Pt.locs, Pt.cells, Pt.slots] at X1 l1 y1 z1 st1 hQ1
  subst l1 y1 z1
  obtain ⟨hv1, N1q, e1⟩ := hQ1
  have N1 := Fr.app N0 N1q
  subst hv1
  obtain ⟨T3, h3, X3, e3, W3, st3⟩ := putF X1 hx hZ hown (host := "") (Or.inl (hw _ (List.mem_of_getElem? (i := 47) rfl))) Via.refl e1 Fo_value Exa0 (Or.inr ⟨(hw _ (List.mem_of_getElem? (i := 48) rfl)), rfl, hnm⟩) (hw _ (List.mem_of_getElem? (i := 65) rfl)) (ty := .long) (by decide) rfl rfl (g := (mkF m 6 #[.val (.ref x11_0), .val (.long x11_1), .second] [(.long x11_1), (.ref x11_0)])) rfl rfl (hb hby d11_6)
  have Fw3 := Fld.same W3 Fo_value
  have N3 := Fr.snoc X3 N1 g_x11_0
  have Zs3 : n0 ≤ h3.size := Nat.le_trans Z0 (Keep.of_wr W3).1
  have KC3 : Keep h0 h3 [x11_0] := (Keep.refl h0 [x11_0]).wr W3 (Or.inl (List.mem_of_getElem? (i := 0) rfl))
  have c4 := (Exa.wr W3 Exa0)
  obtain ⟨fs, hr, hrun, hended, hW, hsame⟩ := X3.leave (v := none) (fun _ => rfl)
  refine ⟨_, _, pre0 _ (sg2 _ ?_), hrun, hended, _, _, rfl, ?_, ⟨_, rfl⟩, hW, hsame.mono (by decide) (by decide)⟩
  · show Steps p.tables e below (s₁.setTop (mkF m 1 #[.val (.ref x11_0), .val (.long x11_1), .second] [(.ref x11_0)])) _
    refine st1.trans ?_
    show Steps p.tables e below (T1.setTop (mkF m 4 #[.val (.ref x11_0), .val (.long x11_1), .second] [])) _
    refine XS.aloadN X1.here hx rfl (hb hby d11_4) rfl rfl ?_
    show Steps p.tables e below (T1.setTop (mkF m 5 #[.val (.ref x11_0), .val (.long x11_1), .second] [(.ref x11_0)])) _
    refine XS.lloadN X1.here hx rfl (hb hby d11_5) rfl ?_
    show Steps p.tables e below (T1.setTop (mkF m 6 #[.val (.ref x11_0), .val (.long x11_1), .second] [(.long x11_1), (.ref x11_0)])) _
    refine st3 _ ?_
    show Steps p.tables e below (T3.setTop (mkF m 9 #[.val (.ref x11_0), .val (.long x11_1), .second] [])) _
    exact X3.returnOut hx Bd.returns (hb hby d11_9) hr
  · show Q11 Z x11_0 x11_1 h0 n0 _ T3.heap _
    rw [e3]
    exact ⟨rfl, N3, KC3, c4, Fw3⟩
theorem pd_1 : parseMethodDescriptor "(J)V" = some ⟨[.long], none⟩ := by decide +kernel
theorem d1_0 : decode jdk_35_method_24_code 0 = .ok (.sipush 128, 3) := by decide +kernel
theorem d1_3 : decode jdk_35_method_24_code 3 = .ok (.istore_n 2, 1) := by decide +kernel
theorem d1_4 : decode jdk_35_method_24_code 4 = .ok (.lload_n 0, 1) := by decide +kernel
theorem d1_5 : decode jdk_35_method_24_code 5 = .ok (.ldc2_w 230, 3) := by decide +kernel
theorem d1_8 : decode jdk_35_method_24_code 8 = .ok (.lcmp, 1) := by decide +kernel
theorem d1_9 : decode jdk_35_method_24_code 9 = .ok (.ifCond .lt 22, 3) := by decide +kernel
theorem d1_12 : decode jdk_35_method_24_code 12 = .ok (.lload_n 0, 1) := by decide +kernel
theorem d1_13 : decode jdk_35_method_24_code 13 = .ok (.ldc2_w 232, 3) := by decide +kernel
theorem d1_16 : decode jdk_35_method_24_code 16 = .ok (.lcmp, 1) := by decide +kernel
theorem d1_17 : decode jdk_35_method_24_code 17 = .ok (.ifCond .gt 14, 3) := by decide +kernel
theorem d1_20 : decode jdk_35_method_24_code 20 = .ok (.getstatic 234, 3) := by decide +kernel
theorem d1_23 : decode jdk_35_method_24_code 23 = .ok (.lload_n 0, 1) := by decide +kernel
theorem d1_24 : decode jdk_35_method_24_code 24 = .ok (.l2i, 1) := by decide +kernel
theorem d1_25 : decode jdk_35_method_24_code 25 = .ok (.sipush 128, 3) := by decide +kernel
theorem d1_28 : decode jdk_35_method_24_code 28 = .ok (.iadd, 1) := by decide +kernel
theorem d1_29 : decode jdk_35_method_24_code 29 = .ok (.aaload, 1) := by decide +kernel
theorem d1_30 : decode jdk_35_method_24_code 30 = .ok (.areturn, 1) := by decide +kernel
theorem d1_31 : decode jdk_35_method_24_code 31 = .ok (.new 1, 3) := by decide +kernel
theorem d1_34 : decode jdk_35_method_24_code 34 = .ok (.dup, 1) := by decide +kernel
theorem d1_35 : decode jdk_35_method_24_code 35 = .ok (.lload_n 0, 1) := by decide +kernel
theorem d1_36 : decode jdk_35_method_24_code 36 = .ok (.invokespecial 240, 3) := by decide +kernel
theorem d1_39 : decode jdk_35_method_24_code 39 = .ok (.areturn, 1) := by decide +kernel
theorem ef_1 (m : MethodId) (x1_0 : Int64) : entryFrame m #[(.long x1_0)] 3 = mkF m 0 #[.val (.long x1_0), .second, .unset] [] := by first | (simp [entryFrame, mkF, argsToLocals, Value.category]; done) | rfl
def Q1 (Z : State) (x1_0 : Int64) (cA : Addr) (cl : Cell) (h0 : Heap) (n0 : Nat) (v : Option Value) (h : Heap) (L : List Loc) : Prop := ∃ r, v = some (.ref r) ∧ Fr n0 L ∧ Keep h0 h [] ∧ Exa Z h r "java/lang/Long" ∧ Fld Z h r "java/lang/Long" "value" "J" (.long x1_0)
set_option maxRecDepth 65536 in
set_option maxHeartbeats 40000000 in
theorem rm1 (l : Launch) (Z : State) (a0 : Array Value) (hw : ∀ d ∈ tables_1, d.before a0 Z = true) (ws : List Jvm.Cond) (x1_0 : Int64) (cA : Addr) (cl : Cell) (h0 : Heap) (n0 : Nat) (Z0 : n0 ≤ h0.size) (O0 : Old Z n0 h0) (JC : Bxs Z cA cl "java/lang/Long" "J" 256 (fun j => .long (j - 128).toInt64)) (SC : Sta Z Z.heap "java/lang/Long$LongCache" "cache" "[Ljava/lang/Long;" (.ref cA)) :
    MetFree l (⟨"java/lang/Long", "valueOf", "(J)Ljava/lang/Long;"⟩ : MethodName) (head1 (Jvm.Cond.code (⟨"java/lang/Long", "valueOf", "(J)Ljava/lang/Long;"⟩ : MethodName) jdk_35_method_24_code 3 (some (.object "java/lang/Long")) :: ws) ({ frames := 3, cells := 1, slots := 1, locals := 39 } : Room)) (fun a U => a = #[(.long x1_0)] ∧ Z.Warmed39 U.vm ∧ U.heap = h0) (fun _ _ _ _ _ => True) (fun _ U o U' => ∃ v L, o = .returned v ∧ Q1 Z x1_0 cA cl h0 n0 v U'.heap L ∧ FrameEnd U o U' L ({ frames := 3, cells := 1, slots := 1, locals := 39 } : Room).cells ({ frames := 3, cells := 1, slots := 1, locals := 39 } : Room).slots) := by
  refine MetFree.of_bodySF (plainFor_of_name pn_2) hisR ?_
  intro p e s m args below meth c s₁ Bd hml0 hP hK
  obtain ⟨rfl, hZ, hh⟩ := hP
  have hx := Bd.exec
  have hby := Bd.bytes
  have hml : c.maxLocals = 3 := hml0
  have hown : s.vm.findClass "java/lang/Long" = some m.cls := findClass_of_methodNamed Bd.named
  have hnm := (name_of_methodNamed Bd.named Bd.method).1
  have X0 : Stand p l e ({ frames := 3, cells := 1, slots := 1, locals := 39 } : Room) s m #[(.long x1_0)] below meth c s₁ [] 0 0 := Stand.of_body Bd
  have e0 : s₁.heap = h0 := by rw [← hh, Bd.state]; rfl
  have N0 := Fr.nil n0
  have pre0 : ∀ t, Steps p.tables e below (s₁.setTop (mkF m 0 #[.val (.long x1_0), .second, .unset] [])) t → Steps p.tables e below (s₁.setTop (entryFrame m #[(.long x1_0)] 3)) t := fun t k => castTop (ef_1 m x1_0) k
  have sg1 : ∀ t, Steps p.tables e below (s₁.setTop (mkF m 9 #[.val (.long x1_0), .second, .val (.int (128 : Int32))] [(.int (lcmpW x1_0 (-128 : Int64)))])) t → Steps p.tables e below (s₁.setTop (mkF m 0 #[.val (.long x1_0), .second, .unset] [])) t := fun t kt => by
    show Steps p.tables e below (s₁.setTop (mkF m 0 #[.val (.long x1_0), .second, .unset] [])) _
    refine XS.sipush X0.here hx rfl (hb hby d1_0) ?_
    show Steps p.tables e below (s₁.setTop (mkF m 3 #[.val (.long x1_0), .second, .unset] [(.int (128 : Int32))])) _
    refine XS.istoreN X0.here hx rfl (hb hby d1_3) rfl (l' := #[.val (.long x1_0), .second, .val (.int (128 : Int32))]) rfl ?_
    show Steps p.tables e below (s₁.setTop (mkF m 4 #[.val (.long x1_0), .second, .val (.int (128 : Int32))] [])) _
    refine XS.lloadN X0.here hx rfl (hb hby d1_4) rfl ?_
    show Steps p.tables e below (s₁.setTop (mkF m 5 #[.val (.long x1_0), .second, .val (.int (128 : Int32))] [(.long x1_0)])) _
    refine X0.ldc2Long hx hown (mvT hZ (hw _ (List.mem_of_getElem? (i := 4) rfl))) (g := (mkF m 5 #[.val (.long x1_0), .second, .val (.int (128 : Int32))] [(.long x1_0)])) rfl (hb hby d1_5) _ ?_
    show Steps p.tables e below (s₁.setTop (mkF m 8 #[.val (.long x1_0), .second, .val (.int (128 : Int32))] [(.long (-128 : Int64)), (.long x1_0)])) _
    refine XS.lcmp X0.here hx rfl (hb hby d1_8) rfl ?_
    exact kt
  by_cases hc9_2 : x1_0 < (-128 : Int64)
  · obtain ⟨T3, h3, X3, e3, E3, A3, D3, -, st3⟩ := newO X0 hx hZ hown (hw _ (List.mem_of_getElem? (i := 64) rfl)) (hw _ (List.mem_of_getElem? (i := 65) rfl)) (hw _ (List.mem_of_getElem? (i := 2) rfl)) e0 (g := (mkF m 31 #[.val (.long x1_0), .second, .val (.int (128 : Int32))] [])) rfl (hb hby d1_31) (by decide) (by decide)
    obtain ⟨b3, g3⟩ : ∃ z, z = h0.size := ⟨_, rfl⟩
    rw [← g3] at A3 D3 st3
    have g_b3 : n0 ≤ b3 := Nat.le_trans Z0 (Nat.le_of_eq g3.symm)
    have sz_b3 : h0.size ≤ b3 := Nat.le_trans (Keep.refl h0 []).1 (Nat.le_of_eq g3.symm)
    have Zs3 : n0 ≤ h3.size := Nat.le_trans Z0 E3.1
    have KC3 : Keep h0 h3 [] := (Keep.refl h0 []).ext E3
    have Ol3 : Old Z n0 h3 := (O0).ext E3
    have F_value_b3 : Fld Z h3 b3 "java/lang/Long" "value" "J" (.long (0 : Int64)) := D3 (Or.inr (hw _ (List.mem_of_getElem? (i := 48) rfl))) (ty := .long) (by decide)
    have sg5 : ∀ t, Steps p.tables e below (T3.setTop (mkF m 36 #[.val (.long x1_0), .second, .val (.int (128 : Int32))] [(.long x1_0), (.ref b3), (.ref b3)])) t → Steps p.tables e below (s₁.setTop (mkF m 9 #[.val (.long x1_0), .second, .val (.int (128 : Int32))] [(.int (lcmpW x1_0 (-128 : Int64)))])) t := fun t kt => by
      show Steps p.tables e below (s₁.setTop (mkF m 9 #[.val (.long x1_0), .second, .val (.int (128 : Int32))] [(.int (lcmpW x1_0 (-128 : Int64)))])) _
      refine XS.ifYes X0.here hx rfl (pc0 := 9) (pc' := 31) rfl (hb hby d1_9) rfl ((if0 _ _).trans (tlt ((lw_lt _ _).mpr hc9_2)).1) (by decide) (by decide) ?_
      show Steps p.tables e below (s₁.setTop (mkF m 31 #[.val (.long x1_0), .second, .val (.int (128 : Int32))] [])) _
      refine st3 _ ?_
      show Steps p.tables e below (T3.setTop (mkF m 34 #[.val (.long x1_0), .second, .val (.int (128 : Int32))] [(.ref b3)])) _
      refine XS.dup X3.here hx rfl (hb hby d1_34) rfl rfl ?_
      show Steps p.tables e below (T3.setTop (mkF m 35 #[.val (.long x1_0), .second, .val (.int (128 : Int32))] [(.ref b3), (.ref b3)])) _
      refine XS.lloadN X3.here hx rfl (hb hby d1_35) rfl ?_
      exact kt
    obtain ⟨v4, _, ⟨T4, L4, k4, n4⟩, -, X4, ⟨Lc4, hQ4, l4, y4, z4⟩, st4⟩ := X3.specialBack hx (y := (⟨"java/lang/Long", "<init>", "(J)V"⟩ : MethodName)) rfl hown (mvT hZ (hw _ (List.mem_of_getElem? (i := 66) rfl))) (mvT hZ (hw _ (List.mem_of_getElem? (i := 67) rfl))) (mvT hZ (hw _ (List.mem_of_getElem? (i := 69) rfl))) (by decide) (backOf (W := 1) (rm11 l Z a0 hw [] b3 x1_0 h3 n0 Zs3 A3 g_b3 F_value_b3) hZ (hw _ (List.mem_of_getElem? (i := 69) rfl)) (hw _ (List.mem_of_getElem? (i := 2) rfl)) (by decide) (by decide)) (g := (mkF m 36 #[.val (.long x1_0), .second, .val (.int (128 : Int32))] [(.long x1_0), (.ref b3), (.ref b3)])) rfl (by rw [hml]; rfl) (Steps.refl _) (a := b3) (argsL := [(.long x1_0)]) (rest := [(.ref b3)]) (lenOf pd_1 rfl) rfl (by show 2 * 0 + _ ≤ _; exact Nat.le_of_eq rfl) (hb hby d1_36) (fun _ _ => ⟨rfl, e3, (by decide : 1 + 0 ≤ _), (by decide : 1 + 0 ≤ _)⟩)
    dsimp only [Pt.U, Pt.locs, Pt.cells, Pt.slots] at X4 l4 y4 z4 st4 hQ4
    subst l4 y4 z4
    obtain ⟨rfl, N4q, K4, Ex4, Fq4_value⟩ := hQ4
    have N4 := Fr.app N0 N4q
    have Zs4 : n0 ≤ T4.heap.size := Nat.le_trans Zs3 K4.1
    have KC4 : Keep h0 T4.heap [] := (KC3).trans K4 (allS (Or.inr sz_b3) all0)
    have Ol4 : Old Z n0 T4.heap := (Ol3).keep K4 (allS g_b3 all0)
    obtain ⟨fs, hr, hrun, hended, hW, hsame⟩ := X4.leave (v := some (.ref b3)) (fun h => by rw [Bd.returns] at h; cases h)
    refine ⟨_, _, pre0 _ (sg1 _ (sg5 _ ?_)), hrun, hended, _, _, rfl, ?_, ⟨_, rfl⟩, hW, hsame.mono (by decide) (by decide)⟩
    · show Steps p.tables e below (T3.setTop (mkF m 36 #[.val (.long x1_0), .second, .val (.int (128 : Int32))] [(.long x1_0), (.ref b3), (.ref b3)])) _
      refine st4.trans ?_
      show Steps p.tables e below (T4.setTop (mkF m 39 #[.val (.long x1_0), .second, .val (.int (128 : Int32))] [(.ref b3)])) _
      exact retOut X4 hx Bd.returns rfl (Or.inr (Or.inr (Or.inr (Or.inr ⟨rfl, rfl, rfl⟩)))) (hb hby d1_39) hr
    · show Q1 Z x1_0 cA cl h0 n0 _ T4.heap _
      exact ⟨b3, rfl, N4, KC4, Ex4, Fq4_value⟩
  · have sg6 : ∀ t, Steps p.tables e below (s₁.setTop (mkF m 17 #[.val (.long x1_0), .second, .val (.int (128 : Int32))] [(.int (lcmpW x1_0 (127 : Int64)))])) t → Steps p.tables e below (s₁.setTop (mkF m 9 #[.val (.long x1_0), .second, .val (.int (128 : Int32))] [(.int (lcmpW x1_0 (-128 : Int64)))])) t := fun t kt => by
      show Steps p.tables e below (s₁.setTop (mkF m 9 #[.val (.long x1_0), .second, .val (.int (128 : Int32))] [(.int (lcmpW x1_0 (-128 : Int64)))])) _
      refine XS.ifNo X0.here hx rfl (hb hby d1_9) rfl ((if0 _ _).trans (flt (mt (lw_lt _ _).mp hc9_2)).1) ?_
      show Steps p.tables e below (s₁.setTop (mkF m 12 #[.val (.long x1_0), .second, .val (.int (128 : Int32))] [])) _
      refine XS.lloadN X0.here hx rfl (hb hby d1_12) rfl ?_
      show Steps p.tables e below (s₁.setTop (mkF m 13 #[.val (.long x1_0), .second, .val (.int (128 : Int32))] [(.long x1_0)])) _
      refine X0.ldc2Long hx hown (mvT hZ (hw _ (List.mem_of_getElem? (i := 5) rfl))) (g := (mkF m 13 #[.val (.long x1_0), .second, .val (.int (128 : Int32))] [(.long x1_0)])) rfl (hb hby d1_13) _ ?_
      show Steps p.tables e below (s₁.setTop (mkF m 16 #[.val (.long x1_0), .second, .val (.int (128 : Int32))] [(.long (127 : Int64)), (.long x1_0)])) _
      refine XS.lcmp X0.here hx rfl (hb hby d1_16) rfl ?_
      exact kt
    by_cases hc17_7 : (127 : Int64) < x1_0
    · obtain ⟨T8, h8, X8, e8, E8, A8, D8, -, st8⟩ := newO X0 hx hZ hown (hw _ (List.mem_of_getElem? (i := 64) rfl)) (hw _ (List.mem_of_getElem? (i := 65) rfl)) (hw _ (List.mem_of_getElem? (i := 2) rfl)) e0 (g := (mkF m 31 #[.val (.long x1_0), .second, .val (.int (128 : Int32))] [])) rfl (hb hby d1_31) (by decide) (by decide)
      obtain ⟨b8, g8⟩ : ∃ z, z = h0.size := ⟨_, rfl⟩
      rw [← g8] at A8 D8 st8
      have g_b8 : n0 ≤ b8 := Nat.le_trans Z0 (Nat.le_of_eq g8.symm)
      have sz_b8 : h0.size ≤ b8 := Nat.le_trans (Keep.refl h0 []).1 (Nat.le_of_eq g8.symm)
      have Zs8 : n0 ≤ h8.size := Nat.le_trans Z0 E8.1
      have KC8 : Keep h0 h8 [] := (Keep.refl h0 []).ext E8
      have Ol8 : Old Z n0 h8 := (O0).ext E8
      have F_value_b8 : Fld Z h8 b8 "java/lang/Long" "value" "J" (.long (0 : Int64)) := D8 (Or.inr (hw _ (List.mem_of_getElem? (i := 48) rfl))) (ty := .long) (by decide)
      have sg10 : ∀ t, Steps p.tables e below (T8.setTop (mkF m 36 #[.val (.long x1_0), .second, .val (.int (128 : Int32))] [(.long x1_0), (.ref b8), (.ref b8)])) t → Steps p.tables e below (s₁.setTop (mkF m 17 #[.val (.long x1_0), .second, .val (.int (128 : Int32))] [(.int (lcmpW x1_0 (127 : Int64)))])) t := fun t kt => by
        show Steps p.tables e below (s₁.setTop (mkF m 17 #[.val (.long x1_0), .second, .val (.int (128 : Int32))] [(.int (lcmpW x1_0 (127 : Int64)))])) _
        refine XS.ifYes X0.here hx rfl (pc0 := 17) (pc' := 31) rfl (hb hby d1_17) rfl ((if0 _ _).trans (tlt ((lw_gt _ _).mpr hc17_7)).2.2.1) (by decide) (by decide) ?_
        show Steps p.tables e below (s₁.setTop (mkF m 31 #[.val (.long x1_0), .second, .val (.int (128 : Int32))] [])) _
        refine st8 _ ?_
        show Steps p.tables e below (T8.setTop (mkF m 34 #[.val (.long x1_0), .second, .val (.int (128 : Int32))] [(.ref b8)])) _
        refine XS.dup X8.here hx rfl (hb hby d1_34) rfl rfl ?_
        show Steps p.tables e below (T8.setTop (mkF m 35 #[.val (.long x1_0), .second, .val (.int (128 : Int32))] [(.ref b8), (.ref b8)])) _
        refine XS.lloadN X8.here hx rfl (hb hby d1_35) rfl ?_
        exact kt
      obtain ⟨v9, _, ⟨T9, L9, k9, n9⟩, -, X9, ⟨Lc9, hQ9, l9, y9, z9⟩, st9⟩ := X8.specialBack hx (y := (⟨"java/lang/Long", "<init>", "(J)V"⟩ : MethodName)) rfl hown (mvT hZ (hw _ (List.mem_of_getElem? (i := 66) rfl))) (mvT hZ (hw _ (List.mem_of_getElem? (i := 67) rfl))) (mvT hZ (hw _ (List.mem_of_getElem? (i := 69) rfl))) (by decide) (backOf (W := 1) (rm11 l Z a0 hw [] b8 x1_0 h8 n0 Zs8 A8 g_b8 F_value_b8) hZ (hw _ (List.mem_of_getElem? (i := 69) rfl)) (hw _ (List.mem_of_getElem? (i := 2) rfl)) (by decide) (by decide)) (g := (mkF m 36 #[.val (.long x1_0), .second, .val (.int (128 : Int32))] [(.long x1_0), (.ref b8), (.ref b8)])) rfl (by rw [hml]; rfl) (Steps.refl _) (a := b8) (argsL := [(.long x1_0)]) (rest := [(.ref b8)]) (lenOf pd_1 rfl) rfl (by show 2 * 0 + _ ≤ _; exact Nat.le_of_eq rfl) (hb hby d1_36) (fun _ _ => ⟨rfl, e8, (by decide : 1 + 0 ≤ _), (by decide : 1 + 0 ≤ _)⟩)
      dsimp only [Pt.U, Pt.locs, Pt.cells, Pt.slots] at X9 l9 y9 z9 st9 hQ9
      subst l9 y9 z9
      obtain ⟨rfl, N9q, K9, Ex9, Fq9_value⟩ := hQ9
      have N9 := Fr.app N0 N9q
      have Zs9 : n0 ≤ T9.heap.size := Nat.le_trans Zs8 K9.1
      have KC9 : Keep h0 T9.heap [] := (KC8).trans K9 (allS (Or.inr sz_b8) all0)
      have Ol9 : Old Z n0 T9.heap := (Ol8).keep K9 (allS g_b8 all0)
      obtain ⟨fs, hr, hrun, hended, hW, hsame⟩ := X9.leave (v := some (.ref b8)) (fun h => by rw [Bd.returns] at h; cases h)
      refine ⟨_, _, pre0 _ (sg1 _ (sg6 _ (sg10 _ ?_))), hrun, hended, _, _, rfl, ?_, ⟨_, rfl⟩, hW, hsame.mono (by decide) (by decide)⟩
      · show Steps p.tables e below (T8.setTop (mkF m 36 #[.val (.long x1_0), .second, .val (.int (128 : Int32))] [(.long x1_0), (.ref b8), (.ref b8)])) _
        refine st9.trans ?_
        show Steps p.tables e below (T9.setTop (mkF m 39 #[.val (.long x1_0), .second, .val (.int (128 : Int32))] [(.ref b8)])) _
        exact retOut X9 hx Bd.returns rfl (Or.inr (Or.inr (Or.inr (Or.inr ⟨rfl, rfl, rfl⟩)))) (hb hby d1_39) hr
      · show Q1 Z x1_0 cA cl h0 n0 _ T9.heap _
        exact ⟨b8, rfl, N9, KC9, Ex9, Fq9_value⟩
    · obtain ⟨T11, X11, e11, st11⟩ := getS2 X0 hx hZ hown (host := "") (Or.inl (hw _ (List.mem_of_getElem? (i := 6) rfl))) Via.refl e0 (Sta.ext O0.2 SC) (g := (mkF m 20 #[.val (.long x1_0), .second, .val (.int (128 : Int32))] [])) rfl (hb hby d1_20)
      have hin := inb_of JC.2.1 (own_jL x1_0 hc9_2 hc17_7)
      obtain ⟨r, hsl, hE, hF⟩ := JC.2.2.2 _ hin
      dsimp only at hF
      rw [own_jv x1_0 hc9_2 hc17_7] at hF
      obtain ⟨fs, hr, hrun, hended, hW, hsame⟩ := X11.leave (v := some (.ref r)) (fun h => by rw [Bd.returns] at h; cases h)
      refine ⟨_, _, pre0 _ (sg1 _ (sg6 _ ?_)), hrun, hended, _, _, rfl, ?_, ⟨_, rfl⟩, hW, hsame.mono (by decide) (by decide)⟩
      · show Steps p.tables e below (s₁.setTop (mkF m 17 #[.val (.long x1_0), .second, .val (.int (128 : Int32))] [(.int (lcmpW x1_0 (127 : Int64)))])) _
        refine XS.ifNo X0.here hx rfl (hb hby d1_17) rfl ((if0 _ _).trans (flt (mt (lw_gt _ _).mp hc17_7)).2.2.1) ?_
        show Steps p.tables e below (s₁.setTop (mkF m 20 #[.val (.long x1_0), .second, .val (.int (128 : Int32))] [])) _
        refine st11 _ ?_
        show Steps p.tables e below (T11.setTop (mkF m 23 #[.val (.long x1_0), .second, .val (.int (128 : Int32))] [(.ref cA)])) _
        refine XS.lloadN X11.here hx rfl (hb hby d1_23) rfl ?_
        show Steps p.tables e below (T11.setTop (mkF m 24 #[.val (.long x1_0), .second, .val (.int (128 : Int32))] [(.long x1_0), (.ref cA)])) _
        refine XS.l2i X11.here hx rfl (hb hby d1_24) rfl ?_
        show Steps p.tables e below (T11.setTop (mkF m 25 #[.val (.long x1_0), .second, .val (.int (128 : Int32))] [(.int (x1_0.toInt32)), (.ref cA)])) _
        refine XS.sipush X11.here hx rfl (hb hby d1_25) ?_
        show Steps p.tables e below (T11.setTop (mkF m 28 #[.val (.long x1_0), .second, .val (.int (128 : Int32))] [(.int (128 : Int32)), (.int (x1_0.toInt32)), (.ref cA)])) _
        refine XS.iadd X11.here hx rfl (hb hby d1_28) rfl ?_
        show Steps p.tables e below (T11.setTop (mkF m 29 #[.val (.long x1_0), .second, .val (.int (128 : Int32))] [(.int ((x1_0.toInt32) + (128 : Int32))), (.ref cA)])) _
        refine X11.aaload hx (j := ((x1_0.toInt32) + (128 : Int32))) (v := (.ref r)) (by rw [e11]; exact (Arr.ext O0.2 JC.1).1) (State.isArrayOf_alike hZ.alike JC.1.2.1) rfl JC.1.2.2 hin hsl (g := (mkF m 29 #[.val (.long x1_0), .second, .val (.int (128 : Int32))] [(.int ((x1_0.toInt32) + (128 : Int32))), (.ref cA)])) rfl rfl (hb hby d1_29) _ ?_
        show Steps p.tables e below (T11.setTop (mkF m 30 #[.val (.long x1_0), .second, .val (.int (128 : Int32))] [(.ref r)])) _
        exact retOut X11 hx Bd.returns rfl (Or.inr (Or.inr (Or.inr (Or.inr ⟨rfl, rfl, rfl⟩)))) (hb hby d1_30) hr
      · show Q1 Z x1_0 cA cl h0 n0 _ T11.heap _
        rw [e11]
        exact ⟨r, rfl, N0, Keep.refl h0 [], (Exa.ext O0.2 hE), (Fld.ext O0.2 hF)⟩
theorem dcr_0 : decode prog_3_method_1_code 0 = .ok (.aload_n 0, 1) := by decide +kernel
theorem dcr_1 : decode prog_3_method_1_code 1 = .ok (.invokespecial 1, 3) := by decide +kernel
theorem dcr_4 : decode prog_3_method_1_code 4 = .ok (.aload_n 0, 1) := by decide +kernel
theorem dcr_5 : decode prog_3_method_1_code 5 = .ok (.lload_n 1, 1) := by decide +kernel
theorem dcr_6 : decode prog_3_method_1_code 6 = .ok (.putfield 7, 3) := by decide +kernel
theorem dcr_9 : decode prog_3_method_1_code 9 = .ok (.aload_n 0, 1) := by decide +kernel
theorem dcr_10 : decode prog_3_method_1_code 10 = .ok (.lload_n 3, 1) := by decide +kernel
theorem dcr_11 : decode prog_3_method_1_code 11 = .ok (.putfield 13, 3) := by decide +kernel
theorem dcr_14 : decode prog_3_method_1_code 14 = .ok (.aload_n 0, 1) := by decide +kernel
theorem dcr_15 : decode prog_3_method_1_code 15 = .ok (.lload 5, 2) := by decide +kernel
theorem dcr_17 : decode prog_3_method_1_code 17 = .ok (.putfield 16, 3) := by decide +kernel
theorem dcr_20 : decode prog_3_method_1_code 20 = .ok (.aload_n 0, 1) := by decide +kernel
theorem dcr_21 : decode prog_3_method_1_code 21 = .ok (.aload 7, 2) := by decide +kernel
theorem dcr_23 : decode prog_3_method_1_code 23 = .ok (.putfield 19, 3) := by decide +kernel
theorem dcr_26 : decode prog_3_method_1_code 26 = .ok (.return_, 1) := by decide +kernel
theorem pn_3 : plainName "com/example/redeliver/redeliver/EndpointCounters" = true := by first | (simp [plainName, overriddenIn]; done) | decide +kernel
theorem ef_cr (m : MethodId) (xcr_0 : Addr) (xcr_1 : Int64) (xcr_2 : Int64) (xcr_3 : Int64) (xcr_4 : Addr) : entryFrame m #[(.ref xcr_0), (.long xcr_1), (.long xcr_2), (.long xcr_3), (.ref xcr_4)] 8 = mkF m 0 #[.val (.ref xcr_0), .val (.long xcr_1), .second, .val (.long xcr_2), .second, .val (.long xcr_3), .second, .val (.ref xcr_4)] [] := by first | (simp [entryFrame, mkF, argsToLocals, Value.category]; done) | rfl
def Qcr (Z : State) (xcr_0 : Addr) (xcr_1 : Int64) (xcr_2 : Int64) (xcr_3 : Int64) (xcr_4 : Addr) (h0 : Heap) (n0 : Nat) (v : Option Value) (h : Heap) (L : List Loc) : Prop := v = none ∧ Fr n0 L ∧ Keep h0 h [xcr_0] ∧ Exa Z h xcr_0 "com/example/redeliver/redeliver/EndpointCounters" ∧ Fld Z h xcr_0 "com/example/redeliver/redeliver/EndpointCounters" "attempts" "J" (.long xcr_1) ∧ Fld Z h xcr_0 "com/example/redeliver/redeliver/EndpointCounters" "failures" "J" (.long xcr_2) ∧ Fld Z h xcr_0 "com/example/redeliver/redeliver/EndpointCounters" "consecutiveFailures" "J" (.long xcr_3) ∧ Fld Z h xcr_0 "com/example/redeliver/redeliver/EndpointCounters" "lastSuccessAt" "Ljava/lang/Long;" (.ref xcr_4)
set_option maxRecDepth 65536 in
set_option maxHeartbeats 40000000 in
theorem rmcr (l : Launch) (Z : State) (a0 : Array Value) (hw : ∀ d ∈ tables_1, d.before a0 Z = true) (ws : List Jvm.Cond) (xcr_0 : Addr) (xcr_1 : Int64) (xcr_2 : Int64) (xcr_3 : Int64) (xcr_4 : Addr) (h0 : Heap) (n0 : Nat) (Z0 : n0 ≤ h0.size) (Exa0 : Exa Z h0 xcr_0 "com/example/redeliver/redeliver/EndpointCounters") (g_xcr_0 : n0 ≤ xcr_0) (Fo_attempts : Fld Z h0 xcr_0 "com/example/redeliver/redeliver/EndpointCounters" "attempts" "J" (.long (0 : Int64))) (Fo_failures : Fld Z h0 xcr_0 "com/example/redeliver/redeliver/EndpointCounters" "failures" "J" (.long (0 : Int64))) (Fo_consecutiveFailures : Fld Z h0 xcr_0 "com/example/redeliver/redeliver/EndpointCounters" "consecutiveFailures" "J" (.long (0 : Int64))) (Fo_lastSuccessAt : Fld Z h0 xcr_0 "com/example/redeliver/redeliver/EndpointCounters" "lastSuccessAt" "Ljava/lang/Long;" .null) :
    MetFree l (⟨"com/example/redeliver/redeliver/EndpointCounters", "<init>", "(JJJLjava/lang/Long;)V"⟩ : MethodName) (head1 (Jvm.Cond.code (⟨"com/example/redeliver/redeliver/EndpointCounters", "<init>", "(JJJLjava/lang/Long;)V"⟩ : MethodName) prog_3_method_1_code 8 none :: ws) ({ frames := 2, cells := 0, slots := 0, locals := 24 } : Room)) (fun a U => a = #[(.ref xcr_0), (.long xcr_1), (.long xcr_2), (.long xcr_3), (.ref xcr_4)] ∧ Z.Warmed39 U.vm ∧ U.heap = h0) (fun _ _ _ _ _ => True) (fun _ U o U' => ∃ v L, o = .returned v ∧ Qcr Z xcr_0 xcr_1 xcr_2 xcr_3 xcr_4 h0 n0 v U'.heap L ∧ FrameEnd U o U' L ({ frames := 2, cells := 0, slots := 0, locals := 24 } : Room).cells ({ frames := 2, cells := 0, slots := 0, locals := 24 } : Room).slots) := by
  refine MetFree.of_bodySF (plainFor_of_name pn_3) hisR ?_
  intro p e s m args below meth c s₁ Bd hml0 hP hK
  obtain ⟨rfl, hZ, hh⟩ := hP
  have hx := Bd.exec
  have hby := Bd.bytes
  have hml : c.maxLocals = 8 := hml0
  have hown : s.vm.findClass "com/example/redeliver/redeliver/EndpointCounters" = some m.cls := findClass_of_methodNamed Bd.named
  have hnm := (name_of_methodNamed Bd.named Bd.method).1
  have X0 : Stand p l e ({ frames := 2, cells := 0, slots := 0, locals := 24 } : Room) s m #[(.ref xcr_0), (.long xcr_1), (.long xcr_2), (.long xcr_3), (.ref xcr_4)] below meth c s₁ [] 0 0 := Stand.of_body Bd
  have e0 : s₁.heap = h0 := by rw [← hh, Bd.state]; rfl
  have N0 := Fr.nil n0
  have pre0 : ∀ t, Steps p.tables e below (s₁.setTop (mkF m 0 #[.val (.ref xcr_0), .val (.long xcr_1), .second, .val (.long xcr_2), .second, .val (.long xcr_3), .second, .val (.ref xcr_4)] [])) t → Steps p.tables e below (s₁.setTop (entryFrame m #[(.ref xcr_0), (.long xcr_1), (.long xcr_2), (.long xcr_3), (.ref xcr_4)] 8)) t := fun t k => castTop (ef_cr m xcr_0 xcr_1 xcr_2 xcr_3 xcr_4) k
  have sg2 : ∀ t, Steps p.tables e below (s₁.setTop (mkF m 1 #[.val (.ref xcr_0), .val (.long xcr_1), .second, .val (.long xcr_2), .second, .val (.long xcr_3), .second, .val (.ref xcr_4)] [(.ref xcr_0)])) t → Steps p.tables e below (s₁.setTop (mkF m 0 #[.val (.ref xcr_0), .val (.long xcr_1), .second, .val (.long xcr_2), .second, .val (.long xcr_3), .second, .val (.ref xcr_4)] [])) t := fun t kt => by
    show Steps p.tables e below (s₁.setTop (mkF m 0 #[.val (.ref xcr_0), .val (.long xcr_1), .second, .val (.long xcr_2), .second, .val (.long xcr_3), .second, .val (.ref xcr_4)] [])) _
    refine XS.aloadN X0.here hx rfl (hb hby dcr_0) rfl rfl ?_
    exact kt
  obtain ⟨v1, _, ⟨T1, L1, k1, n1⟩, -, X1, ⟨Lc1, hQ1, l1, y1, z1⟩, st1⟩ := X0.specialBack hx (y := (⟨"java/lang/Record", "<init>", "()V"⟩ : MethodName)) rfl hown (mvT hZ (hw _ (List.mem_of_getElem? (i := 14) rfl))) (mvT hZ (hw _ (List.mem_of_getElem? (i := 15) rfl))) (mvT hZ (hw _ (List.mem_of_getElem? (i := 18) rfl))) (by decide) (backOf (W := 0) (rm3 l Z a0 hw [] xcr_0 h0 n0 Z0) hZ (hw _ (List.mem_of_getElem? (i := 18) rfl)) (hw _ (List.mem_of_getElem? (i := 17) rfl)) (by decide) (by decide)) (g := (mkF m 1 #[.val (.ref xcr_0), .val (.long xcr_1), .second, .val (.long xcr_2), .second, .val (.long xcr_3), .second, .val (.ref xcr_4)] [(.ref xcr_0)])) rfl (by rw [hml]; rfl) (Steps.refl _) (a := xcr_0) (argsL := []) (rest := []) (lenOf pd_0 rfl) rfl (by show 2 * 0 + _ ≤ _; exact Nat.le_of_eq rfl) (hb hby dcr_1) (fun _ _ => ⟨rfl, e0, (by decide : 0 + 0 ≤ _), (by decide : 0 + 0 ≤ _)⟩)
  dsimp only [Pt.U, Pt.locs, Pt.cells, Pt.slots] at X1 l1 y1 z1 st1 hQ1
  subst l1 y1 z1
  obtain ⟨hv1, N1q, e1⟩ := hQ1
  have N1 := Fr.app N0 N1q
  subst hv1
  obtain ⟨T3, h3, X3, e3, W3, st3⟩ := putF X1 hx hZ hown (host := "") (Or.inl (hw _ (List.mem_of_getElem? (i := 22) rfl))) Via.refl e1 Fo_attempts Exa0 (Or.inr ⟨(hw _ (List.mem_of_getElem? (i := 23) rfl)), rfl, hnm⟩) (hw _ (List.mem_of_getElem? (i := 9) rfl)) (ty := .long) (by decide) rfl rfl (g := (mkF m 6 #[.val (.ref xcr_0), .val (.long xcr_1), .second, .val (.long xcr_2), .second, .val (.long xcr_3), .second, .val (.ref xcr_4)] [(.long xcr_1), (.ref xcr_0)])) rfl rfl (hb hby dcr_6)
  have Fw3 := Fld.same W3 Fo_attempts
  have N3 := Fr.snoc X3 N1 g_xcr_0
  have Zs3 : n0 ≤ h3.size := Nat.le_trans Z0 (Keep.of_wr W3).1
  have KC3 : Keep h0 h3 [xcr_0] := (Keep.refl h0 [xcr_0]).wr W3 (Or.inl (List.mem_of_getElem? (i := 0) rfl))
  have c4 := (Fld.other W3 Fo_failures (Or.inr (slot_ne (Or.inr (hw _ (List.mem_of_getElem? (i := 25) rfl))) (Or.inr (hw _ (List.mem_of_getElem? (i := 23) rfl))) (by decide) (t := .long) (t' := .long) (by decide) (by decide))))
  have c5 := (Exa.wr W3 Exa0)
  obtain ⟨T6, h6, X6, e6, W6, st6⟩ := putF X3 hx hZ hown (host := "") (Or.inl (hw _ (List.mem_of_getElem? (i := 24) rfl))) Via.refl e3 c4 c5 (Or.inr ⟨(hw _ (List.mem_of_getElem? (i := 25) rfl)), rfl, hnm⟩) (hw _ (List.mem_of_getElem? (i := 9) rfl)) (ty := .long) (by decide) rfl rfl (g := (mkF m 11 #[.val (.ref xcr_0), .val (.long xcr_1), .second, .val (.long xcr_2), .second, .val (.long xcr_3), .second, .val (.ref xcr_4)] [(.long xcr_2), (.ref xcr_0)])) rfl rfl (hb hby dcr_11)
  have Fw6 := Fld.same W6 c4
  have N6 := Fr.snoc X6 N3 g_xcr_0
  have Zs6 : n0 ≤ h6.size := Nat.le_trans Zs3 (Keep.of_wr W6).1
  have KC6 : Keep h0 h6 [xcr_0] := (KC3).wr W6 (Or.inl (List.mem_of_getElem? (i := 0) rfl))
  have c7 := (Fld.other W6 (Fld.other W3 Fo_consecutiveFailures (Or.inr (slot_ne (Or.inr (hw _ (List.mem_of_getElem? (i := 27) rfl))) (Or.inr (hw _ (List.mem_of_getElem? (i := 23) rfl))) (by decide) (t := .long) (t' := .long) (by decide) (by decide)))) (Or.inr (slot_ne (Or.inr (hw _ (List.mem_of_getElem? (i := 27) rfl))) (Or.inr (hw _ (List.mem_of_getElem? (i := 25) rfl))) (by decide) (t := .long) (t' := .long) (by decide) (by decide))))
  have c8 := (Exa.wr W6 c5)
  obtain ⟨T9, h9, X9, e9, W9, st9⟩ := putF X6 hx hZ hown (host := "") (Or.inl (hw _ (List.mem_of_getElem? (i := 26) rfl))) Via.refl e6 c7 c8 (Or.inr ⟨(hw _ (List.mem_of_getElem? (i := 27) rfl)), rfl, hnm⟩) (hw _ (List.mem_of_getElem? (i := 9) rfl)) (ty := .long) (by decide) rfl rfl (g := (mkF m 17 #[.val (.ref xcr_0), .val (.long xcr_1), .second, .val (.long xcr_2), .second, .val (.long xcr_3), .second, .val (.ref xcr_4)] [(.long xcr_3), (.ref xcr_0)])) rfl rfl (hb hby dcr_17)
  have Fw9 := Fld.same W9 c7
  have N9 := Fr.snoc X9 N6 g_xcr_0
  have Zs9 : n0 ≤ h9.size := Nat.le_trans Zs6 (Keep.of_wr W9).1
  have KC9 : Keep h0 h9 [xcr_0] := (KC6).wr W9 (Or.inl (List.mem_of_getElem? (i := 0) rfl))
  have c10 := (Fld.other W9 (Fld.other W6 (Fld.other W3 Fo_lastSuccessAt (Or.inr (slot_ne (Or.inr (hw _ (List.mem_of_getElem? (i := 29) rfl))) (Or.inr (hw _ (List.mem_of_getElem? (i := 23) rfl))) (by decide) (t := (.object "java/lang/Long")) (t' := .long) (by decide) (by decide)))) (Or.inr (slot_ne (Or.inr (hw _ (List.mem_of_getElem? (i := 29) rfl))) (Or.inr (hw _ (List.mem_of_getElem? (i := 25) rfl))) (by decide) (t := (.object "java/lang/Long")) (t' := .long) (by decide) (by decide)))) (Or.inr (slot_ne (Or.inr (hw _ (List.mem_of_getElem? (i := 29) rfl))) (Or.inr (hw _ (List.mem_of_getElem? (i := 27) rfl))) (by decide) (t := (.object "java/lang/Long")) (t' := .long) (by decide) (by decide))))
  have c11 := (Exa.wr W9 c8)
  obtain ⟨T12, h12, X12, e12, W12, st12⟩ := putF X9 hx hZ hown (host := "") (Or.inl (hw _ (List.mem_of_getElem? (i := 28) rfl))) Via.refl e9 c10 c11 (Or.inr ⟨(hw _ (List.mem_of_getElem? (i := 29) rfl)), rfl, hnm⟩) (hw _ (List.mem_of_getElem? (i := 9) rfl)) (ty := (.object "java/lang/Long")) (by decide) rfl rfl (g := (mkF m 23 #[.val (.ref xcr_0), .val (.long xcr_1), .second, .val (.long xcr_2), .second, .val (.long xcr_3), .second, .val (.ref xcr_4)] [(.ref xcr_4), (.ref xcr_0)])) rfl rfl (hb hby dcr_23)
  have Fw12 := Fld.same W12 c10
  have N12 := Fr.snoc X12 N9 g_xcr_0
  have Zs12 : n0 ≤ h12.size := Nat.le_trans Zs9 (Keep.of_wr W12).1
  have KC12 : Keep h0 h12 [xcr_0] := (KC9).wr W12 (Or.inl (List.mem_of_getElem? (i := 0) rfl))
  have c13 := (Exa.wr W12 c11)
  have c14 := (Fld.other W12 (Fld.other W9 (Fld.other W6 Fw3 (Or.inr (slot_ne (Or.inr (hw _ (List.mem_of_getElem? (i := 23) rfl))) (Or.inr (hw _ (List.mem_of_getElem? (i := 25) rfl))) (by decide) (t := .long) (t' := .long) (by decide) (by decide)))) (Or.inr (slot_ne (Or.inr (hw _ (List.mem_of_getElem? (i := 23) rfl))) (Or.inr (hw _ (List.mem_of_getElem? (i := 27) rfl))) (by decide) (t := .long) (t' := .long) (by decide) (by decide)))) (Or.inr (slot_ne (Or.inr (hw _ (List.mem_of_getElem? (i := 23) rfl))) (Or.inr (hw _ (List.mem_of_getElem? (i := 29) rfl))) (by decide) (t := .long) (t' := (.object "java/lang/Long")) (by decide) (by decide))))
  have c15 := (Fld.other W12 (Fld.other W9 Fw6 (Or.inr (slot_ne (Or.inr (hw _ (List.mem_of_getElem? (i := 25) rfl))) (Or.inr (hw _ (List.mem_of_getElem? (i := 27) rfl))) (by decide) (t := .long) (t' := .long) (by decide) (by decide)))) (Or.inr (slot_ne (Or.inr (hw _ (List.mem_of_getElem? (i := 25) rfl))) (Or.inr (hw _ (List.mem_of_getElem? (i := 29) rfl))) (by decide) (t := .long) (t' := (.object "java/lang/Long")) (by decide) (by decide))))
  have c16 := (Fld.other W12 Fw9 (Or.inr (slot_ne (Or.inr (hw _ (List.mem_of_getElem? (i := 27) rfl))) (Or.inr (hw _ (List.mem_of_getElem? (i := 29) rfl))) (by decide) (t := .long) (t' := (.object "java/lang/Long")) (by decide) (by decide))))
  obtain ⟨fs, hr, hrun, hended, hW, hsame⟩ := X12.leave (v := none) (fun _ => rfl)
  refine ⟨_, _, pre0 _ (sg2 _ ?_), hrun, hended, _, _, rfl, ?_, ⟨_, rfl⟩, hW, hsame.mono (by decide) (by decide)⟩
  · show Steps p.tables e below (s₁.setTop (mkF m 1 #[.val (.ref xcr_0), .val (.long xcr_1), .second, .val (.long xcr_2), .second, .val (.long xcr_3), .second, .val (.ref xcr_4)] [(.ref xcr_0)])) _
    refine st1.trans ?_
    show Steps p.tables e below (T1.setTop (mkF m 4 #[.val (.ref xcr_0), .val (.long xcr_1), .second, .val (.long xcr_2), .second, .val (.long xcr_3), .second, .val (.ref xcr_4)] [])) _
    refine XS.aloadN X1.here hx rfl (hb hby dcr_4) rfl rfl ?_
    show Steps p.tables e below (T1.setTop (mkF m 5 #[.val (.ref xcr_0), .val (.long xcr_1), .second, .val (.long xcr_2), .second, .val (.long xcr_3), .second, .val (.ref xcr_4)] [(.ref xcr_0)])) _
    refine XS.lloadN X1.here hx rfl (hb hby dcr_5) rfl ?_
    show Steps p.tables e below (T1.setTop (mkF m 6 #[.val (.ref xcr_0), .val (.long xcr_1), .second, .val (.long xcr_2), .second, .val (.long xcr_3), .second, .val (.ref xcr_4)] [(.long xcr_1), (.ref xcr_0)])) _
    refine st3 _ ?_
    show Steps p.tables e below (T3.setTop (mkF m 9 #[.val (.ref xcr_0), .val (.long xcr_1), .second, .val (.long xcr_2), .second, .val (.long xcr_3), .second, .val (.ref xcr_4)] [])) _
    refine XS.aloadN X3.here hx rfl (hb hby dcr_9) rfl rfl ?_
    show Steps p.tables e below (T3.setTop (mkF m 10 #[.val (.ref xcr_0), .val (.long xcr_1), .second, .val (.long xcr_2), .second, .val (.long xcr_3), .second, .val (.ref xcr_4)] [(.ref xcr_0)])) _
    refine XS.lloadN X3.here hx rfl (hb hby dcr_10) rfl ?_
    show Steps p.tables e below (T3.setTop (mkF m 11 #[.val (.ref xcr_0), .val (.long xcr_1), .second, .val (.long xcr_2), .second, .val (.long xcr_3), .second, .val (.ref xcr_4)] [(.long xcr_2), (.ref xcr_0)])) _
    refine st6 _ ?_
    show Steps p.tables e below (T6.setTop (mkF m 14 #[.val (.ref xcr_0), .val (.long xcr_1), .second, .val (.long xcr_2), .second, .val (.long xcr_3), .second, .val (.ref xcr_4)] [])) _
    refine XS.aloadN X6.here hx rfl (hb hby dcr_14) rfl rfl ?_
    show Steps p.tables e below (T6.setTop (mkF m 15 #[.val (.ref xcr_0), .val (.long xcr_1), .second, .val (.long xcr_2), .second, .val (.long xcr_3), .second, .val (.ref xcr_4)] [(.ref xcr_0)])) _
    refine XS.lload X6.here hx rfl (hb hby dcr_15) rfl ?_
    show Steps p.tables e below (T6.setTop (mkF m 17 #[.val (.ref xcr_0), .val (.long xcr_1), .second, .val (.long xcr_2), .second, .val (.long xcr_3), .second, .val (.ref xcr_4)] [(.long xcr_3), (.ref xcr_0)])) _
    refine st9 _ ?_
    show Steps p.tables e below (T9.setTop (mkF m 20 #[.val (.ref xcr_0), .val (.long xcr_1), .second, .val (.long xcr_2), .second, .val (.long xcr_3), .second, .val (.ref xcr_4)] [])) _
    refine XS.aloadN X9.here hx rfl (hb hby dcr_20) rfl rfl ?_
    show Steps p.tables e below (T9.setTop (mkF m 21 #[.val (.ref xcr_0), .val (.long xcr_1), .second, .val (.long xcr_2), .second, .val (.long xcr_3), .second, .val (.ref xcr_4)] [(.ref xcr_0)])) _
    refine XS.aload X9.here hx rfl (hb hby dcr_21) rfl rfl ?_
    show Steps p.tables e below (T9.setTop (mkF m 23 #[.val (.ref xcr_0), .val (.long xcr_1), .second, .val (.long xcr_2), .second, .val (.long xcr_3), .second, .val (.ref xcr_4)] [(.ref xcr_4), (.ref xcr_0)])) _
    refine st12 _ ?_
    show Steps p.tables e below (T12.setTop (mkF m 26 #[.val (.ref xcr_0), .val (.long xcr_1), .second, .val (.long xcr_2), .second, .val (.long xcr_3), .second, .val (.ref xcr_4)] [])) _
    exact X12.returnOut hx Bd.returns (hb hby dcr_26) hr
  · show Qcr Z xcr_0 xcr_1 xcr_2 xcr_3 xcr_4 h0 n0 _ T12.heap _
    rw [e12]
    exact ⟨rfl, N12, KC12, c13, c14, c15, c16, Fw12⟩
theorem dcn_0 : decode prog_3_method_1_code 0 = .ok (.aload_n 0, 1) := by decide +kernel
theorem dcn_1 : decode prog_3_method_1_code 1 = .ok (.invokespecial 1, 3) := by decide +kernel
theorem dcn_4 : decode prog_3_method_1_code 4 = .ok (.aload_n 0, 1) := by decide +kernel
theorem dcn_5 : decode prog_3_method_1_code 5 = .ok (.lload_n 1, 1) := by decide +kernel
theorem dcn_6 : decode prog_3_method_1_code 6 = .ok (.putfield 7, 3) := by decide +kernel
theorem dcn_9 : decode prog_3_method_1_code 9 = .ok (.aload_n 0, 1) := by decide +kernel
theorem dcn_10 : decode prog_3_method_1_code 10 = .ok (.lload_n 3, 1) := by decide +kernel
theorem dcn_11 : decode prog_3_method_1_code 11 = .ok (.putfield 13, 3) := by decide +kernel
theorem dcn_14 : decode prog_3_method_1_code 14 = .ok (.aload_n 0, 1) := by decide +kernel
theorem dcn_15 : decode prog_3_method_1_code 15 = .ok (.lload 5, 2) := by decide +kernel
theorem dcn_17 : decode prog_3_method_1_code 17 = .ok (.putfield 16, 3) := by decide +kernel
theorem dcn_20 : decode prog_3_method_1_code 20 = .ok (.aload_n 0, 1) := by decide +kernel
theorem dcn_21 : decode prog_3_method_1_code 21 = .ok (.aload 7, 2) := by decide +kernel
theorem dcn_23 : decode prog_3_method_1_code 23 = .ok (.putfield 19, 3) := by decide +kernel
theorem dcn_26 : decode prog_3_method_1_code 26 = .ok (.return_, 1) := by decide +kernel
theorem ef_cn (m : MethodId) (xcn_0 : Addr) (xcn_1 : Int64) (xcn_2 : Int64) (xcn_3 : Int64) : entryFrame m #[(.ref xcn_0), (.long xcn_1), (.long xcn_2), (.long xcn_3), .null] 8 = mkF m 0 #[.val (.ref xcn_0), .val (.long xcn_1), .second, .val (.long xcn_2), .second, .val (.long xcn_3), .second, .val .null] [] := by first | (simp [entryFrame, mkF, argsToLocals, Value.category]; done) | rfl
def Qcn (Z : State) (xcn_0 : Addr) (xcn_1 : Int64) (xcn_2 : Int64) (xcn_3 : Int64) (h0 : Heap) (n0 : Nat) (v : Option Value) (h : Heap) (L : List Loc) : Prop := v = none ∧ Fr n0 L ∧ Keep h0 h [xcn_0] ∧ Exa Z h xcn_0 "com/example/redeliver/redeliver/EndpointCounters" ∧ Fld Z h xcn_0 "com/example/redeliver/redeliver/EndpointCounters" "attempts" "J" (.long xcn_1) ∧ Fld Z h xcn_0 "com/example/redeliver/redeliver/EndpointCounters" "failures" "J" (.long xcn_2) ∧ Fld Z h xcn_0 "com/example/redeliver/redeliver/EndpointCounters" "consecutiveFailures" "J" (.long xcn_3) ∧ Fld Z h xcn_0 "com/example/redeliver/redeliver/EndpointCounters" "lastSuccessAt" "Ljava/lang/Long;" .null
set_option maxRecDepth 65536 in
set_option maxHeartbeats 40000000 in
theorem rmcn (l : Launch) (Z : State) (a0 : Array Value) (hw : ∀ d ∈ tables_1, d.before a0 Z = true) (ws : List Jvm.Cond) (xcn_0 : Addr) (xcn_1 : Int64) (xcn_2 : Int64) (xcn_3 : Int64) (h0 : Heap) (n0 : Nat) (Z0 : n0 ≤ h0.size) (Exa0 : Exa Z h0 xcn_0 "com/example/redeliver/redeliver/EndpointCounters") (g_xcn_0 : n0 ≤ xcn_0) (Fo_attempts : Fld Z h0 xcn_0 "com/example/redeliver/redeliver/EndpointCounters" "attempts" "J" (.long (0 : Int64))) (Fo_failures : Fld Z h0 xcn_0 "com/example/redeliver/redeliver/EndpointCounters" "failures" "J" (.long (0 : Int64))) (Fo_consecutiveFailures : Fld Z h0 xcn_0 "com/example/redeliver/redeliver/EndpointCounters" "consecutiveFailures" "J" (.long (0 : Int64))) (Fo_lastSuccessAt : Fld Z h0 xcn_0 "com/example/redeliver/redeliver/EndpointCounters" "lastSuccessAt" "Ljava/lang/Long;" .null) :
    MetFree l (⟨"com/example/redeliver/redeliver/EndpointCounters", "<init>", "(JJJLjava/lang/Long;)V"⟩ : MethodName) (head1 (Jvm.Cond.code (⟨"com/example/redeliver/redeliver/EndpointCounters", "<init>", "(JJJLjava/lang/Long;)V"⟩ : MethodName) prog_3_method_1_code 8 none :: ws) ({ frames := 2, cells := 0, slots := 0, locals := 24 } : Room)) (fun a U => a = #[(.ref xcn_0), (.long xcn_1), (.long xcn_2), (.long xcn_3), .null] ∧ Z.Warmed39 U.vm ∧ U.heap = h0) (fun _ _ _ _ _ => True) (fun _ U o U' => ∃ v L, o = .returned v ∧ Qcn Z xcn_0 xcn_1 xcn_2 xcn_3 h0 n0 v U'.heap L ∧ FrameEnd U o U' L ({ frames := 2, cells := 0, slots := 0, locals := 24 } : Room).cells ({ frames := 2, cells := 0, slots := 0, locals := 24 } : Room).slots) := by
  refine MetFree.of_bodySF (plainFor_of_name pn_3) hisR ?_
  intro p e s m args below meth c s₁ Bd hml0 hP hK
  obtain ⟨rfl, hZ, hh⟩ := hP
  have hx := Bd.exec
  have hby := Bd.bytes
  have hml : c.maxLocals = 8 := hml0
  have hown : s.vm.findClass "com/example/redeliver/redeliver/EndpointCounters" = some m.cls := findClass_of_methodNamed Bd.named
  have hnm := (name_of_methodNamed Bd.named Bd.method).1
  have X0 : Stand p l e ({ frames := 2, cells := 0, slots := 0, locals := 24 } : Room) s m #[(.ref xcn_0), (.long xcn_1), (.long xcn_2), (.long xcn_3), .null] below meth c s₁ [] 0 0 := Stand.of_body Bd
  have e0 : s₁.heap = h0 := by rw [← hh, Bd.state]; rfl
  have N0 := Fr.nil n0
  have pre0 : ∀ t, Steps p.tables e below (s₁.setTop (mkF m 0 #[.val (.ref xcn_0), .val (.long xcn_1), .second, .val (.long xcn_2), .second, .val (.long xcn_3), .second, .val .null] [])) t → Steps p.tables e below (s₁.setTop (entryFrame m #[(.ref xcn_0), (.long xcn_1), (.long xcn_2), (.long xcn_3), .null] 8)) t := fun t k => castTop (ef_cn m xcn_0 xcn_1 xcn_2 xcn_3) k
  have sg2 : ∀ t, Steps p.tables e below (s₁.setTop (mkF m 1 #[.val (.ref xcn_0), .val (.long xcn_1), .second, .val (.long xcn_2), .second, .val (.long xcn_3), .second, .val .null] [(.ref xcn_0)])) t → Steps p.tables e below (s₁.setTop (mkF m 0 #[.val (.ref xcn_0), .val (.long xcn_1), .second, .val (.long xcn_2), .second, .val (.long xcn_3), .second, .val .null] [])) t := fun t kt => by
    show Steps p.tables e below (s₁.setTop (mkF m 0 #[.val (.ref xcn_0), .val (.long xcn_1), .second, .val (.long xcn_2), .second, .val (.long xcn_3), .second, .val .null] [])) _
    refine XS.aloadN X0.here hx rfl (hb hby dcn_0) rfl rfl ?_
    exact kt
  obtain ⟨v1, _, ⟨T1, L1, k1, n1⟩, -, X1, ⟨Lc1, hQ1, l1, y1, z1⟩, st1⟩ := X0.specialBack hx (y := (⟨"java/lang/Record", "<init>", "()V"⟩ : MethodName)) rfl hown (mvT hZ (hw _ (List.mem_of_getElem? (i := 14) rfl))) (mvT hZ (hw _ (List.mem_of_getElem? (i := 15) rfl))) (mvT hZ (hw _ (List.mem_of_getElem? (i := 18) rfl))) (by decide) (backOf (W := 0) (rm3 l Z a0 hw [] xcn_0 h0 n0 Z0) hZ (hw _ (List.mem_of_getElem? (i := 18) rfl)) (hw _ (List.mem_of_getElem? (i := 17) rfl)) (by decide) (by decide)) (g := (mkF m 1 #[.val (.ref xcn_0), .val (.long xcn_1), .second, .val (.long xcn_2), .second, .val (.long xcn_3), .second, .val .null] [(.ref xcn_0)])) rfl (by rw [hml]; rfl) (Steps.refl _) (a := xcn_0) (argsL := []) (rest := []) (lenOf pd_0 rfl) rfl (by show 2 * 0 + _ ≤ _; exact Nat.le_of_eq rfl) (hb hby dcn_1) (fun _ _ => ⟨rfl, e0, (by decide : 0 + 0 ≤ _), (by decide : 0 + 0 ≤ _)⟩)
  dsimp only [Pt.U, Pt.locs, Pt.cells, Pt.slots] at X1 l1 y1 z1 st1 hQ1
  subst l1 y1 z1
  obtain ⟨hv1, N1q, e1⟩ := hQ1
  have N1 := Fr.app N0 N1q
  subst hv1
  obtain ⟨T3, h3, X3, e3, W3, st3⟩ := putF X1 hx hZ hown (host := "") (Or.inl (hw _ (List.mem_of_getElem? (i := 22) rfl))) Via.refl e1 Fo_attempts Exa0 (Or.inr ⟨(hw _ (List.mem_of_getElem? (i := 23) rfl)), rfl, hnm⟩) (hw _ (List.mem_of_getElem? (i := 9) rfl)) (ty := .long) (by decide) rfl rfl (g := (mkF m 6 #[.val (.ref xcn_0), .val (.long xcn_1), .second, .val (.long xcn_2), .second, .val (.long xcn_3), .second, .val .null] [(.long xcn_1), (.ref xcn_0)])) rfl rfl (hb hby dcn_6)
  have Fw3 := Fld.same W3 Fo_attempts
  have N3 := Fr.snoc X3 N1 g_xcn_0
  have Zs3 : n0 ≤ h3.size := Nat.le_trans Z0 (Keep.of_wr W3).1
  have KC3 : Keep h0 h3 [xcn_0] := (Keep.refl h0 [xcn_0]).wr W3 (Or.inl (List.mem_of_getElem? (i := 0) rfl))
  have c4 := (Fld.other W3 Fo_failures (Or.inr (slot_ne (Or.inr (hw _ (List.mem_of_getElem? (i := 25) rfl))) (Or.inr (hw _ (List.mem_of_getElem? (i := 23) rfl))) (by decide) (t := .long) (t' := .long) (by decide) (by decide))))
  have c5 := (Exa.wr W3 Exa0)
  obtain ⟨T6, h6, X6, e6, W6, st6⟩ := putF X3 hx hZ hown (host := "") (Or.inl (hw _ (List.mem_of_getElem? (i := 24) rfl))) Via.refl e3 c4 c5 (Or.inr ⟨(hw _ (List.mem_of_getElem? (i := 25) rfl)), rfl, hnm⟩) (hw _ (List.mem_of_getElem? (i := 9) rfl)) (ty := .long) (by decide) rfl rfl (g := (mkF m 11 #[.val (.ref xcn_0), .val (.long xcn_1), .second, .val (.long xcn_2), .second, .val (.long xcn_3), .second, .val .null] [(.long xcn_2), (.ref xcn_0)])) rfl rfl (hb hby dcn_11)
  have Fw6 := Fld.same W6 c4
  have N6 := Fr.snoc X6 N3 g_xcn_0
  have Zs6 : n0 ≤ h6.size := Nat.le_trans Zs3 (Keep.of_wr W6).1
  have KC6 : Keep h0 h6 [xcn_0] := (KC3).wr W6 (Or.inl (List.mem_of_getElem? (i := 0) rfl))
  have c7 := (Fld.other W6 (Fld.other W3 Fo_consecutiveFailures (Or.inr (slot_ne (Or.inr (hw _ (List.mem_of_getElem? (i := 27) rfl))) (Or.inr (hw _ (List.mem_of_getElem? (i := 23) rfl))) (by decide) (t := .long) (t' := .long) (by decide) (by decide)))) (Or.inr (slot_ne (Or.inr (hw _ (List.mem_of_getElem? (i := 27) rfl))) (Or.inr (hw _ (List.mem_of_getElem? (i := 25) rfl))) (by decide) (t := .long) (t' := .long) (by decide) (by decide))))
  have c8 := (Exa.wr W6 c5)
  obtain ⟨T9, h9, X9, e9, W9, st9⟩ := putF X6 hx hZ hown (host := "") (Or.inl (hw _ (List.mem_of_getElem? (i := 26) rfl))) Via.refl e6 c7 c8 (Or.inr ⟨(hw _ (List.mem_of_getElem? (i := 27) rfl)), rfl, hnm⟩) (hw _ (List.mem_of_getElem? (i := 9) rfl)) (ty := .long) (by decide) rfl rfl (g := (mkF m 17 #[.val (.ref xcn_0), .val (.long xcn_1), .second, .val (.long xcn_2), .second, .val (.long xcn_3), .second, .val .null] [(.long xcn_3), (.ref xcn_0)])) rfl rfl (hb hby dcn_17)
  have Fw9 := Fld.same W9 c7
  have N9 := Fr.snoc X9 N6 g_xcn_0
  have Zs9 : n0 ≤ h9.size := Nat.le_trans Zs6 (Keep.of_wr W9).1
  have KC9 : Keep h0 h9 [xcn_0] := (KC6).wr W9 (Or.inl (List.mem_of_getElem? (i := 0) rfl))
  have c10 := (Fld.other W9 (Fld.other W6 (Fld.other W3 Fo_lastSuccessAt (Or.inr (slot_ne (Or.inr (hw _ (List.mem_of_getElem? (i := 29) rfl))) (Or.inr (hw _ (List.mem_of_getElem? (i := 23) rfl))) (by decide) (t := (.object "java/lang/Long")) (t' := .long) (by decide) (by decide)))) (Or.inr (slot_ne (Or.inr (hw _ (List.mem_of_getElem? (i := 29) rfl))) (Or.inr (hw _ (List.mem_of_getElem? (i := 25) rfl))) (by decide) (t := (.object "java/lang/Long")) (t' := .long) (by decide) (by decide)))) (Or.inr (slot_ne (Or.inr (hw _ (List.mem_of_getElem? (i := 29) rfl))) (Or.inr (hw _ (List.mem_of_getElem? (i := 27) rfl))) (by decide) (t := (.object "java/lang/Long")) (t' := .long) (by decide) (by decide))))
  have c11 := (Exa.wr W9 c8)
  obtain ⟨T12, h12, X12, e12, W12, st12⟩ := putF X9 hx hZ hown (host := "") (Or.inl (hw _ (List.mem_of_getElem? (i := 28) rfl))) Via.refl e9 c10 c11 (Or.inr ⟨(hw _ (List.mem_of_getElem? (i := 29) rfl)), rfl, hnm⟩) (hw _ (List.mem_of_getElem? (i := 9) rfl)) (ty := (.object "java/lang/Long")) (by decide) rfl rfl (g := (mkF m 23 #[.val (.ref xcn_0), .val (.long xcn_1), .second, .val (.long xcn_2), .second, .val (.long xcn_3), .second, .val .null] [.null, (.ref xcn_0)])) rfl rfl (hb hby dcn_23)
  have Fw12 := Fld.same W12 c10
  have N12 := Fr.snoc X12 N9 g_xcn_0
  have Zs12 : n0 ≤ h12.size := Nat.le_trans Zs9 (Keep.of_wr W12).1
  have KC12 : Keep h0 h12 [xcn_0] := (KC9).wr W12 (Or.inl (List.mem_of_getElem? (i := 0) rfl))
  have c13 := (Exa.wr W12 c11)
  have c14 := (Fld.other W12 (Fld.other W9 (Fld.other W6 Fw3 (Or.inr (slot_ne (Or.inr (hw _ (List.mem_of_getElem? (i := 23) rfl))) (Or.inr (hw _ (List.mem_of_getElem? (i := 25) rfl))) (by decide) (t := .long) (t' := .long) (by decide) (by decide)))) (Or.inr (slot_ne (Or.inr (hw _ (List.mem_of_getElem? (i := 23) rfl))) (Or.inr (hw _ (List.mem_of_getElem? (i := 27) rfl))) (by decide) (t := .long) (t' := .long) (by decide) (by decide)))) (Or.inr (slot_ne (Or.inr (hw _ (List.mem_of_getElem? (i := 23) rfl))) (Or.inr (hw _ (List.mem_of_getElem? (i := 29) rfl))) (by decide) (t := .long) (t' := (.object "java/lang/Long")) (by decide) (by decide))))
  have c15 := (Fld.other W12 (Fld.other W9 Fw6 (Or.inr (slot_ne (Or.inr (hw _ (List.mem_of_getElem? (i := 25) rfl))) (Or.inr (hw _ (List.mem_of_getElem? (i := 27) rfl))) (by decide) (t := .long) (t' := .long) (by decide) (by decide)))) (Or.inr (slot_ne (Or.inr (hw _ (List.mem_of_getElem? (i := 25) rfl))) (Or.inr (hw _ (List.mem_of_getElem? (i := 29) rfl))) (by decide) (t := .long) (t' := (.object "java/lang/Long")) (by decide) (by decide))))
  have c16 := (Fld.other W12 Fw9 (Or.inr (slot_ne (Or.inr (hw _ (List.mem_of_getElem? (i := 27) rfl))) (Or.inr (hw _ (List.mem_of_getElem? (i := 29) rfl))) (by decide) (t := .long) (t' := (.object "java/lang/Long")) (by decide) (by decide))))
  obtain ⟨fs, hr, hrun, hended, hW, hsame⟩ := X12.leave (v := none) (fun _ => rfl)
  refine ⟨_, _, pre0 _ (sg2 _ ?_), hrun, hended, _, _, rfl, ?_, ⟨_, rfl⟩, hW, hsame.mono (by decide) (by decide)⟩
  · show Steps p.tables e below (s₁.setTop (mkF m 1 #[.val (.ref xcn_0), .val (.long xcn_1), .second, .val (.long xcn_2), .second, .val (.long xcn_3), .second, .val .null] [(.ref xcn_0)])) _
    refine st1.trans ?_
    show Steps p.tables e below (T1.setTop (mkF m 4 #[.val (.ref xcn_0), .val (.long xcn_1), .second, .val (.long xcn_2), .second, .val (.long xcn_3), .second, .val .null] [])) _
    refine XS.aloadN X1.here hx rfl (hb hby dcn_4) rfl rfl ?_
    show Steps p.tables e below (T1.setTop (mkF m 5 #[.val (.ref xcn_0), .val (.long xcn_1), .second, .val (.long xcn_2), .second, .val (.long xcn_3), .second, .val .null] [(.ref xcn_0)])) _
    refine XS.lloadN X1.here hx rfl (hb hby dcn_5) rfl ?_
    show Steps p.tables e below (T1.setTop (mkF m 6 #[.val (.ref xcn_0), .val (.long xcn_1), .second, .val (.long xcn_2), .second, .val (.long xcn_3), .second, .val .null] [(.long xcn_1), (.ref xcn_0)])) _
    refine st3 _ ?_
    show Steps p.tables e below (T3.setTop (mkF m 9 #[.val (.ref xcn_0), .val (.long xcn_1), .second, .val (.long xcn_2), .second, .val (.long xcn_3), .second, .val .null] [])) _
    refine XS.aloadN X3.here hx rfl (hb hby dcn_9) rfl rfl ?_
    show Steps p.tables e below (T3.setTop (mkF m 10 #[.val (.ref xcn_0), .val (.long xcn_1), .second, .val (.long xcn_2), .second, .val (.long xcn_3), .second, .val .null] [(.ref xcn_0)])) _
    refine XS.lloadN X3.here hx rfl (hb hby dcn_10) rfl ?_
    show Steps p.tables e below (T3.setTop (mkF m 11 #[.val (.ref xcn_0), .val (.long xcn_1), .second, .val (.long xcn_2), .second, .val (.long xcn_3), .second, .val .null] [(.long xcn_2), (.ref xcn_0)])) _
    refine st6 _ ?_
    show Steps p.tables e below (T6.setTop (mkF m 14 #[.val (.ref xcn_0), .val (.long xcn_1), .second, .val (.long xcn_2), .second, .val (.long xcn_3), .second, .val .null] [])) _
    refine XS.aloadN X6.here hx rfl (hb hby dcn_14) rfl rfl ?_
    show Steps p.tables e below (T6.setTop (mkF m 15 #[.val (.ref xcn_0), .val (.long xcn_1), .second, .val (.long xcn_2), .second, .val (.long xcn_3), .second, .val .null] [(.ref xcn_0)])) _
    refine XS.lload X6.here hx rfl (hb hby dcn_15) rfl ?_
    show Steps p.tables e below (T6.setTop (mkF m 17 #[.val (.ref xcn_0), .val (.long xcn_1), .second, .val (.long xcn_2), .second, .val (.long xcn_3), .second, .val .null] [(.long xcn_3), (.ref xcn_0)])) _
    refine st9 _ ?_
    show Steps p.tables e below (T9.setTop (mkF m 20 #[.val (.ref xcn_0), .val (.long xcn_1), .second, .val (.long xcn_2), .second, .val (.long xcn_3), .second, .val .null] [])) _
    refine XS.aloadN X9.here hx rfl (hb hby dcn_20) rfl rfl ?_
    show Steps p.tables e below (T9.setTop (mkF m 21 #[.val (.ref xcn_0), .val (.long xcn_1), .second, .val (.long xcn_2), .second, .val (.long xcn_3), .second, .val .null] [(.ref xcn_0)])) _
    refine XS.aload X9.here hx rfl (hb hby dcn_21) rfl rfl ?_
    show Steps p.tables e below (T9.setTop (mkF m 23 #[.val (.ref xcn_0), .val (.long xcn_1), .second, .val (.long xcn_2), .second, .val (.long xcn_3), .second, .val .null] [.null, (.ref xcn_0)])) _
    refine st12 _ ?_
    show Steps p.tables e below (T12.setTop (mkF m 26 #[.val (.ref xcn_0), .val (.long xcn_1), .second, .val (.long xcn_2), .second, .val (.long xcn_3), .second, .val .null] [])) _
    exact X12.returnOut hx Bd.returns (hb hby dcn_26) hr
  · show Qcn Z xcn_0 xcn_1 xcn_2 xcn_3 h0 n0 _ T12.heap _
    rw [e12]
    exact ⟨rfl, N12, KC12, c13, c14, c15, c16, Fw12⟩
theorem d8_0 : decode prog_3_method_7_code 0 = .ok (.aload_n 0, 1) := by decide +kernel
theorem d8_1 : decode prog_3_method_7_code 1 = .ok (.getfield 7, 3) := by decide +kernel
theorem d8_4 : decode prog_3_method_7_code 4 = .ok (.lreturn, 1) := by decide +kernel
theorem ef_8 (m : MethodId) (x8_0 : Addr) : entryFrame m #[(.ref x8_0)] 1 = mkF m 0 #[.val (.ref x8_0)] [] := by first | (simp [entryFrame, mkF, argsToLocals, Value.category]; done) | rfl
def f8 (x8_0 : Addr) (u : Int64) : Int64 := u
def Q8 (Z : State) (x8_0 : Addr) (u : Int64) (h0 : Heap) (n0 : Nat) (v : Option Value) (h : Heap) (L : List Loc) : Prop := v = some (.long (f8 x8_0 u)) ∧ Fr n0 L ∧ h = h0
set_option maxRecDepth 65536 in
set_option maxHeartbeats 40000000 in
theorem rm8 (l : Launch) (Z : State) (a0 : Array Value) (hw : ∀ d ∈ tables_1, d.before a0 Z = true) (ws : List Jvm.Cond) (x8_0 : Addr) (u : Int64) (h0 : Heap) (n0 : Nat) (Z0 : n0 ≤ h0.size) (Fg : Fld Z h0 x8_0 "com/example/redeliver/redeliver/EndpointCounters" "attempts" "J" (.long u)) :
    MetFree l (⟨"com/example/redeliver/redeliver/EndpointCounters", "attempts", "()J"⟩ : MethodName) (head1 (Jvm.Cond.code (⟨"com/example/redeliver/redeliver/EndpointCounters", "attempts", "()J"⟩ : MethodName) prog_3_method_7_code 1 (some .long) :: ws) ({ frames := 0, cells := 0, slots := 0, locals := 0 } : Room)) (fun a U => a = #[(.ref x8_0)] ∧ Z.Warmed39 U.vm ∧ U.heap = h0) (fun _ _ _ _ _ => True) (fun _ U o U' => ∃ v L, o = .returned v ∧ Q8 Z x8_0 u h0 n0 v U'.heap L ∧ FrameEnd U o U' L ({ frames := 0, cells := 0, slots := 0, locals := 0 } : Room).cells ({ frames := 0, cells := 0, slots := 0, locals := 0 } : Room).slots) := by
  refine MetFree.of_bodySF (plainFor_of_name pn_3) hisR ?_
  intro p e s m args below meth c s₁ Bd hml0 hP hK
  obtain ⟨rfl, hZ, hh⟩ := hP
  have hx := Bd.exec
  have hby := Bd.bytes
  have hml : c.maxLocals = 1 := hml0
  have hown : s.vm.findClass "com/example/redeliver/redeliver/EndpointCounters" = some m.cls := findClass_of_methodNamed Bd.named
  have hnm := (name_of_methodNamed Bd.named Bd.method).1
  have X0 : Stand p l e ({ frames := 0, cells := 0, slots := 0, locals := 0 } : Room) s m #[(.ref x8_0)] below meth c s₁ [] 0 0 := Stand.of_body Bd
  have e0 : s₁.heap = h0 := by rw [← hh, Bd.state]; rfl
  have N0 := Fr.nil n0
  have pre0 : ∀ t, Steps p.tables e below (s₁.setTop (mkF m 0 #[.val (.ref x8_0)] [])) t → Steps p.tables e below (s₁.setTop (entryFrame m #[(.ref x8_0)] 1)) t := fun t k => castTop (ef_8 m x8_0) k
  obtain ⟨T1, X1, e1, st1⟩ := getF X0 hx hZ hown (host := "") (Or.inl (hw _ (List.mem_of_getElem? (i := 22) rfl))) Via.refl e0 Fg (g := (mkF m 1 #[.val (.ref x8_0)] [(.ref x8_0)])) rfl rfl (hb hby d8_1)
  obtain ⟨fs, hr, hrun, hended, hW, hsame⟩ := X1.leave (v := some (.long u)) (fun h => by rw [Bd.returns] at h; cases h)
  refine ⟨_, _, pre0 _ (?_), hrun, hended, _, _, rfl, ?_, ⟨_, rfl⟩, hW, hsame.mono (by decide) (by decide)⟩
  · show Steps p.tables e below (s₁.setTop (mkF m 0 #[.val (.ref x8_0)] [])) _
    refine XS.aloadN X0.here hx rfl (hb hby d8_0) rfl rfl ?_
    show Steps p.tables e below (s₁.setTop (mkF m 1 #[.val (.ref x8_0)] [(.ref x8_0)])) _
    refine st1 _ ?_
    show Steps p.tables e below (T1.setTop (mkF m 4 #[.val (.ref x8_0)] [(.long u)])) _
    exact retOut X1 hx Bd.returns rfl (Or.inr (Or.inl ⟨rfl, rfl, _, rfl⟩)) (hb hby d8_4) hr
  · exact ⟨rfl, N0, e1⟩
theorem d9_0 : decode prog_3_method_8_code 0 = .ok (.aload_n 0, 1) := by decide +kernel
theorem d9_1 : decode prog_3_method_8_code 1 = .ok (.getfield 13, 3) := by decide +kernel
theorem d9_4 : decode prog_3_method_8_code 4 = .ok (.lreturn, 1) := by decide +kernel
theorem ef_9 (m : MethodId) (x9_0 : Addr) : entryFrame m #[(.ref x9_0)] 1 = mkF m 0 #[.val (.ref x9_0)] [] := by first | (simp [entryFrame, mkF, argsToLocals, Value.category]; done) | rfl
def f9 (x9_0 : Addr) (u : Int64) : Int64 := u
def Q9 (Z : State) (x9_0 : Addr) (u : Int64) (h0 : Heap) (n0 : Nat) (v : Option Value) (h : Heap) (L : List Loc) : Prop := v = some (.long (f9 x9_0 u)) ∧ Fr n0 L ∧ h = h0
set_option maxRecDepth 65536 in
set_option maxHeartbeats 40000000 in
theorem rm9 (l : Launch) (Z : State) (a0 : Array Value) (hw : ∀ d ∈ tables_1, d.before a0 Z = true) (ws : List Jvm.Cond) (x9_0 : Addr) (u : Int64) (h0 : Heap) (n0 : Nat) (Z0 : n0 ≤ h0.size) (Fg : Fld Z h0 x9_0 "com/example/redeliver/redeliver/EndpointCounters" "failures" "J" (.long u)) :
    MetFree l (⟨"com/example/redeliver/redeliver/EndpointCounters", "failures", "()J"⟩ : MethodName) (head1 (Jvm.Cond.code (⟨"com/example/redeliver/redeliver/EndpointCounters", "failures", "()J"⟩ : MethodName) prog_3_method_8_code 1 (some .long) :: ws) ({ frames := 0, cells := 0, slots := 0, locals := 0 } : Room)) (fun a U => a = #[(.ref x9_0)] ∧ Z.Warmed39 U.vm ∧ U.heap = h0) (fun _ _ _ _ _ => True) (fun _ U o U' => ∃ v L, o = .returned v ∧ Q9 Z x9_0 u h0 n0 v U'.heap L ∧ FrameEnd U o U' L ({ frames := 0, cells := 0, slots := 0, locals := 0 } : Room).cells ({ frames := 0, cells := 0, slots := 0, locals := 0 } : Room).slots) := by
  refine MetFree.of_bodySF (plainFor_of_name pn_3) hisR ?_
  intro p e s m args below meth c s₁ Bd hml0 hP hK
  obtain ⟨rfl, hZ, hh⟩ := hP
  have hx := Bd.exec
  have hby := Bd.bytes
  have hml : c.maxLocals = 1 := hml0
  have hown : s.vm.findClass "com/example/redeliver/redeliver/EndpointCounters" = some m.cls := findClass_of_methodNamed Bd.named
  have hnm := (name_of_methodNamed Bd.named Bd.method).1
  have X0 : Stand p l e ({ frames := 0, cells := 0, slots := 0, locals := 0 } : Room) s m #[(.ref x9_0)] below meth c s₁ [] 0 0 := Stand.of_body Bd
  have e0 : s₁.heap = h0 := by rw [← hh, Bd.state]; rfl
  have N0 := Fr.nil n0
  have pre0 : ∀ t, Steps p.tables e below (s₁.setTop (mkF m 0 #[.val (.ref x9_0)] [])) t → Steps p.tables e below (s₁.setTop (entryFrame m #[(.ref x9_0)] 1)) t := fun t k => castTop (ef_9 m x9_0) k
  obtain ⟨T1, X1, e1, st1⟩ := getF X0 hx hZ hown (host := "") (Or.inl (hw _ (List.mem_of_getElem? (i := 24) rfl))) Via.refl e0 Fg (g := (mkF m 1 #[.val (.ref x9_0)] [(.ref x9_0)])) rfl rfl (hb hby d9_1)
  obtain ⟨fs, hr, hrun, hended, hW, hsame⟩ := X1.leave (v := some (.long u)) (fun h => by rw [Bd.returns] at h; cases h)
  refine ⟨_, _, pre0 _ (?_), hrun, hended, _, _, rfl, ?_, ⟨_, rfl⟩, hW, hsame.mono (by decide) (by decide)⟩
  · show Steps p.tables e below (s₁.setTop (mkF m 0 #[.val (.ref x9_0)] [])) _
    refine XS.aloadN X0.here hx rfl (hb hby d9_0) rfl rfl ?_
    show Steps p.tables e below (s₁.setTop (mkF m 1 #[.val (.ref x9_0)] [(.ref x9_0)])) _
    refine st1 _ ?_
    show Steps p.tables e below (T1.setTop (mkF m 4 #[.val (.ref x9_0)] [(.long u)])) _
    exact retOut X1 hx Bd.returns rfl (Or.inr (Or.inl ⟨rfl, rfl, _, rfl⟩)) (hb hby d9_4) hr
  · exact ⟨rfl, N0, e1⟩
theorem d10_0 : decode prog_3_method_9_code 0 = .ok (.aload_n 0, 1) := by decide +kernel
theorem d10_1 : decode prog_3_method_9_code 1 = .ok (.getfield 16, 3) := by decide +kernel
theorem d10_4 : decode prog_3_method_9_code 4 = .ok (.lreturn, 1) := by decide +kernel
theorem ef_10 (m : MethodId) (x10_0 : Addr) : entryFrame m #[(.ref x10_0)] 1 = mkF m 0 #[.val (.ref x10_0)] [] := by first | (simp [entryFrame, mkF, argsToLocals, Value.category]; done) | rfl
def f10 (x10_0 : Addr) (u : Int64) : Int64 := u
def Q10 (Z : State) (x10_0 : Addr) (u : Int64) (h0 : Heap) (n0 : Nat) (v : Option Value) (h : Heap) (L : List Loc) : Prop := v = some (.long (f10 x10_0 u)) ∧ Fr n0 L ∧ h = h0
set_option maxRecDepth 65536 in
set_option maxHeartbeats 40000000 in
theorem rm10 (l : Launch) (Z : State) (a0 : Array Value) (hw : ∀ d ∈ tables_1, d.before a0 Z = true) (ws : List Jvm.Cond) (x10_0 : Addr) (u : Int64) (h0 : Heap) (n0 : Nat) (Z0 : n0 ≤ h0.size) (Fg : Fld Z h0 x10_0 "com/example/redeliver/redeliver/EndpointCounters" "consecutiveFailures" "J" (.long u)) :
    MetFree l (⟨"com/example/redeliver/redeliver/EndpointCounters", "consecutiveFailures", "()J"⟩ : MethodName) (head1 (Jvm.Cond.code (⟨"com/example/redeliver/redeliver/EndpointCounters", "consecutiveFailures", "()J"⟩ : MethodName) prog_3_method_9_code 1 (some .long) :: ws) ({ frames := 0, cells := 0, slots := 0, locals := 0 } : Room)) (fun a U => a = #[(.ref x10_0)] ∧ Z.Warmed39 U.vm ∧ U.heap = h0) (fun _ _ _ _ _ => True) (fun _ U o U' => ∃ v L, o = .returned v ∧ Q10 Z x10_0 u h0 n0 v U'.heap L ∧ FrameEnd U o U' L ({ frames := 0, cells := 0, slots := 0, locals := 0 } : Room).cells ({ frames := 0, cells := 0, slots := 0, locals := 0 } : Room).slots) := by
  refine MetFree.of_bodySF (plainFor_of_name pn_3) hisR ?_
  intro p e s m args below meth c s₁ Bd hml0 hP hK
  obtain ⟨rfl, hZ, hh⟩ := hP
  have hx := Bd.exec
  have hby := Bd.bytes
  have hml : c.maxLocals = 1 := hml0
  have hown : s.vm.findClass "com/example/redeliver/redeliver/EndpointCounters" = some m.cls := findClass_of_methodNamed Bd.named
  have hnm := (name_of_methodNamed Bd.named Bd.method).1
  have X0 : Stand p l e ({ frames := 0, cells := 0, slots := 0, locals := 0 } : Room) s m #[(.ref x10_0)] below meth c s₁ [] 0 0 := Stand.of_body Bd
  have e0 : s₁.heap = h0 := by rw [← hh, Bd.state]; rfl
  have N0 := Fr.nil n0
  have pre0 : ∀ t, Steps p.tables e below (s₁.setTop (mkF m 0 #[.val (.ref x10_0)] [])) t → Steps p.tables e below (s₁.setTop (entryFrame m #[(.ref x10_0)] 1)) t := fun t k => castTop (ef_10 m x10_0) k
  obtain ⟨T1, X1, e1, st1⟩ := getF X0 hx hZ hown (host := "") (Or.inl (hw _ (List.mem_of_getElem? (i := 26) rfl))) Via.refl e0 Fg (g := (mkF m 1 #[.val (.ref x10_0)] [(.ref x10_0)])) rfl rfl (hb hby d10_1)
  obtain ⟨fs, hr, hrun, hended, hW, hsame⟩ := X1.leave (v := some (.long u)) (fun h => by rw [Bd.returns] at h; cases h)
  refine ⟨_, _, pre0 _ (?_), hrun, hended, _, _, rfl, ?_, ⟨_, rfl⟩, hW, hsame.mono (by decide) (by decide)⟩
  · show Steps p.tables e below (s₁.setTop (mkF m 0 #[.val (.ref x10_0)] [])) _
    refine XS.aloadN X0.here hx rfl (hb hby d10_0) rfl rfl ?_
    show Steps p.tables e below (s₁.setTop (mkF m 1 #[.val (.ref x10_0)] [(.ref x10_0)])) _
    refine st1 _ ?_
    show Steps p.tables e below (T1.setTop (mkF m 4 #[.val (.ref x10_0)] [(.long u)])) _
    exact retOut X1 hx Bd.returns rfl (Or.inr (Or.inl ⟨rfl, rfl, _, rfl⟩)) (hb hby d10_4) hr
  · exact ⟨rfl, N0, e1⟩
theorem dlr_0 : decode prog_3_method_10_code 0 = .ok (.aload_n 0, 1) := by decide +kernel
theorem dlr_1 : decode prog_3_method_10_code 1 = .ok (.getfield 19, 3) := by decide +kernel
theorem dlr_4 : decode prog_3_method_10_code 4 = .ok (.areturn, 1) := by decide +kernel
theorem ef_lr (m : MethodId) (xlr_0 : Addr) : entryFrame m #[(.ref xlr_0)] 1 = mkF m 0 #[.val (.ref xlr_0)] [] := by first | (simp [entryFrame, mkF, argsToLocals, Value.category]; done) | rfl
def flr (xlr_0 : Addr) (u : Addr) : Addr := u
def Qlr (Z : State) (xlr_0 : Addr) (u : Addr) (h0 : Heap) (n0 : Nat) (v : Option Value) (h : Heap) (L : List Loc) : Prop := v = some (.ref (flr xlr_0 u)) ∧ Fr n0 L ∧ h = h0
set_option maxRecDepth 65536 in
set_option maxHeartbeats 40000000 in
theorem rmlr (l : Launch) (Z : State) (a0 : Array Value) (hw : ∀ d ∈ tables_1, d.before a0 Z = true) (ws : List Jvm.Cond) (xlr_0 : Addr) (u : Addr) (h0 : Heap) (n0 : Nat) (Z0 : n0 ≤ h0.size) (Fg : Fld Z h0 xlr_0 "com/example/redeliver/redeliver/EndpointCounters" "lastSuccessAt" "Ljava/lang/Long;" (.ref u)) :
    MetFree l (⟨"com/example/redeliver/redeliver/EndpointCounters", "lastSuccessAt", "()Ljava/lang/Long;"⟩ : MethodName) (head1 (Jvm.Cond.code (⟨"com/example/redeliver/redeliver/EndpointCounters", "lastSuccessAt", "()Ljava/lang/Long;"⟩ : MethodName) prog_3_method_10_code 1 (some (.object "java/lang/Long")) :: ws) ({ frames := 0, cells := 0, slots := 0, locals := 0 } : Room)) (fun a U => a = #[(.ref xlr_0)] ∧ Z.Warmed39 U.vm ∧ U.heap = h0) (fun _ _ _ _ _ => True) (fun _ U o U' => ∃ v L, o = .returned v ∧ Qlr Z xlr_0 u h0 n0 v U'.heap L ∧ FrameEnd U o U' L ({ frames := 0, cells := 0, slots := 0, locals := 0 } : Room).cells ({ frames := 0, cells := 0, slots := 0, locals := 0 } : Room).slots) := by
  refine MetFree.of_bodySF (plainFor_of_name pn_3) hisR ?_
  intro p e s m args below meth c s₁ Bd hml0 hP hK
  obtain ⟨rfl, hZ, hh⟩ := hP
  have hx := Bd.exec
  have hby := Bd.bytes
  have hml : c.maxLocals = 1 := hml0
  have hown : s.vm.findClass "com/example/redeliver/redeliver/EndpointCounters" = some m.cls := findClass_of_methodNamed Bd.named
  have hnm := (name_of_methodNamed Bd.named Bd.method).1
  have X0 : Stand p l e ({ frames := 0, cells := 0, slots := 0, locals := 0 } : Room) s m #[(.ref xlr_0)] below meth c s₁ [] 0 0 := Stand.of_body Bd
  have e0 : s₁.heap = h0 := by rw [← hh, Bd.state]; rfl
  have N0 := Fr.nil n0
  have pre0 : ∀ t, Steps p.tables e below (s₁.setTop (mkF m 0 #[.val (.ref xlr_0)] [])) t → Steps p.tables e below (s₁.setTop (entryFrame m #[(.ref xlr_0)] 1)) t := fun t k => castTop (ef_lr m xlr_0) k
  obtain ⟨T1, X1, e1, st1⟩ := getF X0 hx hZ hown (host := "") (Or.inl (hw _ (List.mem_of_getElem? (i := 28) rfl))) Via.refl e0 Fg (g := (mkF m 1 #[.val (.ref xlr_0)] [(.ref xlr_0)])) rfl rfl (hb hby dlr_1)
  obtain ⟨fs, hr, hrun, hended, hW, hsame⟩ := X1.leave (v := some (.ref u)) (fun h => by rw [Bd.returns] at h; cases h)
  refine ⟨_, _, pre0 _ (?_), hrun, hended, _, _, rfl, ?_, ⟨_, rfl⟩, hW, hsame.mono (by decide) (by decide)⟩
  · show Steps p.tables e below (s₁.setTop (mkF m 0 #[.val (.ref xlr_0)] [])) _
    refine XS.aloadN X0.here hx rfl (hb hby dlr_0) rfl rfl ?_
    show Steps p.tables e below (s₁.setTop (mkF m 1 #[.val (.ref xlr_0)] [(.ref xlr_0)])) _
    refine st1 _ ?_
    show Steps p.tables e below (T1.setTop (mkF m 4 #[.val (.ref xlr_0)] [(.ref u)])) _
    exact retOut X1 hx Bd.returns rfl (Or.inr (Or.inr (Or.inr (Or.inr ⟨rfl, rfl, rfl⟩)))) (hb hby dlr_4) hr
  · exact ⟨rfl, N0, e1⟩
theorem dln_0 : decode prog_3_method_10_code 0 = .ok (.aload_n 0, 1) := by decide +kernel
theorem dln_1 : decode prog_3_method_10_code 1 = .ok (.getfield 19, 3) := by decide +kernel
theorem dln_4 : decode prog_3_method_10_code 4 = .ok (.areturn, 1) := by decide +kernel
theorem ef_ln (m : MethodId) (xln_0 : Addr) : entryFrame m #[(.ref xln_0)] 1 = mkF m 0 #[.val (.ref xln_0)] [] := by first | (simp [entryFrame, mkF, argsToLocals, Value.category]; done) | rfl
def Qln (Z : State) (xln_0 : Addr) (h0 : Heap) (n0 : Nat) (v : Option Value) (h : Heap) (L : List Loc) : Prop := v = some .null ∧ Fr n0 L ∧ h = h0
set_option maxRecDepth 65536 in
set_option maxHeartbeats 40000000 in
theorem rmln (l : Launch) (Z : State) (a0 : Array Value) (hw : ∀ d ∈ tables_1, d.before a0 Z = true) (ws : List Jvm.Cond) (xln_0 : Addr) (h0 : Heap) (n0 : Nat) (Z0 : n0 ≤ h0.size) (Fg : Fld Z h0 xln_0 "com/example/redeliver/redeliver/EndpointCounters" "lastSuccessAt" "Ljava/lang/Long;" .null) :
    MetFree l (⟨"com/example/redeliver/redeliver/EndpointCounters", "lastSuccessAt", "()Ljava/lang/Long;"⟩ : MethodName) (head1 (Jvm.Cond.code (⟨"com/example/redeliver/redeliver/EndpointCounters", "lastSuccessAt", "()Ljava/lang/Long;"⟩ : MethodName) prog_3_method_10_code 1 (some (.object "java/lang/Long")) :: ws) ({ frames := 0, cells := 0, slots := 0, locals := 0 } : Room)) (fun a U => a = #[(.ref xln_0)] ∧ Z.Warmed39 U.vm ∧ U.heap = h0) (fun _ _ _ _ _ => True) (fun _ U o U' => ∃ v L, o = .returned v ∧ Qln Z xln_0 h0 n0 v U'.heap L ∧ FrameEnd U o U' L ({ frames := 0, cells := 0, slots := 0, locals := 0 } : Room).cells ({ frames := 0, cells := 0, slots := 0, locals := 0 } : Room).slots) := by
  refine MetFree.of_bodySF (plainFor_of_name pn_3) hisR ?_
  intro p e s m args below meth c s₁ Bd hml0 hP hK
  obtain ⟨rfl, hZ, hh⟩ := hP
  have hx := Bd.exec
  have hby := Bd.bytes
  have hml : c.maxLocals = 1 := hml0
  have hown : s.vm.findClass "com/example/redeliver/redeliver/EndpointCounters" = some m.cls := findClass_of_methodNamed Bd.named
  have hnm := (name_of_methodNamed Bd.named Bd.method).1
  have X0 : Stand p l e ({ frames := 0, cells := 0, slots := 0, locals := 0 } : Room) s m #[(.ref xln_0)] below meth c s₁ [] 0 0 := Stand.of_body Bd
  have e0 : s₁.heap = h0 := by rw [← hh, Bd.state]; rfl
  have N0 := Fr.nil n0
  have pre0 : ∀ t, Steps p.tables e below (s₁.setTop (mkF m 0 #[.val (.ref xln_0)] [])) t → Steps p.tables e below (s₁.setTop (entryFrame m #[(.ref xln_0)] 1)) t := fun t k => castTop (ef_ln m xln_0) k
  obtain ⟨T1, X1, e1, st1⟩ := getF X0 hx hZ hown (host := "") (Or.inl (hw _ (List.mem_of_getElem? (i := 28) rfl))) Via.refl e0 Fg (g := (mkF m 1 #[.val (.ref xln_0)] [(.ref xln_0)])) rfl rfl (hb hby dln_1)
  obtain ⟨fs, hr, hrun, hended, hW, hsame⟩ := X1.leave (v := some .null) (fun h => by rw [Bd.returns] at h; cases h)
  refine ⟨_, _, pre0 _ (?_), hrun, hended, _, _, rfl, ?_, ⟨_, rfl⟩, hW, hsame.mono (by decide) (by decide)⟩
  · show Steps p.tables e below (s₁.setTop (mkF m 0 #[.val (.ref xln_0)] [])) _
    refine XS.aloadN X0.here hx rfl (hb hby dln_0) rfl rfl ?_
    show Steps p.tables e below (s₁.setTop (mkF m 1 #[.val (.ref xln_0)] [(.ref xln_0)])) _
    refine st1 _ ?_
    show Steps p.tables e below (T1.setTop (mkF m 4 #[.val (.ref xln_0)] [.null])) _
    exact retOut X1 hx Bd.returns rfl (Or.inr (Or.inr (Or.inr (Or.inr ⟨rfl, rfl, rfl⟩)))) (hb hby dln_4) hr
  · exact ⟨rfl, N0, e1⟩
theorem d7_0 : decode jdk_35_method_31_code 0 = .ok (.aload_n 0, 1) := by decide +kernel
theorem d7_1 : decode jdk_35_method_31_code 1 = .ok (.getfield 273, 3) := by decide +kernel
theorem d7_4 : decode jdk_35_method_31_code 4 = .ok (.lreturn, 1) := by decide +kernel
theorem ef_7 (m : MethodId) (x7_0 : Addr) : entryFrame m #[(.ref x7_0)] 1 = mkF m 0 #[.val (.ref x7_0)] [] := by first | (simp [entryFrame, mkF, argsToLocals, Value.category]; done) | rfl
def f7 (x7_0 : Addr) (u : Int64) : Int64 := u
def Q7 (Z : State) (x7_0 : Addr) (u : Int64) (h0 : Heap) (n0 : Nat) (v : Option Value) (h : Heap) (L : List Loc) : Prop := v = some (.long (f7 x7_0 u)) ∧ Fr n0 L ∧ h = h0
set_option maxRecDepth 65536 in
set_option maxHeartbeats 40000000 in
theorem rm7 (l : Launch) (Z : State) (a0 : Array Value) (hw : ∀ d ∈ tables_1, d.before a0 Z = true) (ws : List Jvm.Cond) (x7_0 : Addr) (u : Int64) (h0 : Heap) (n0 : Nat) (Z0 : n0 ≤ h0.size) (Fg : Fld Z h0 x7_0 "java/lang/Long" "value" "J" (.long u)) :
    MetFree l (⟨"java/lang/Long", "longValue", "()J"⟩ : MethodName) (head1 (Jvm.Cond.code (⟨"java/lang/Long", "longValue", "()J"⟩ : MethodName) jdk_35_method_31_code 1 (some .long) :: ws) ({ frames := 0, cells := 0, slots := 0, locals := 0 } : Room)) (fun a U => a = #[(.ref x7_0)] ∧ Z.Warmed39 U.vm ∧ U.heap = h0) (fun _ _ _ _ _ => True) (fun _ U o U' => ∃ v L, o = .returned v ∧ Q7 Z x7_0 u h0 n0 v U'.heap L ∧ FrameEnd U o U' L ({ frames := 0, cells := 0, slots := 0, locals := 0 } : Room).cells ({ frames := 0, cells := 0, slots := 0, locals := 0 } : Room).slots) := by
  refine MetFree.of_bodySF (plainFor_of_name pn_2) hisR ?_
  intro p e s m args below meth c s₁ Bd hml0 hP hK
  obtain ⟨rfl, hZ, hh⟩ := hP
  have hx := Bd.exec
  have hby := Bd.bytes
  have hml : c.maxLocals = 1 := hml0
  have hown : s.vm.findClass "java/lang/Long" = some m.cls := findClass_of_methodNamed Bd.named
  have hnm := (name_of_methodNamed Bd.named Bd.method).1
  have X0 : Stand p l e ({ frames := 0, cells := 0, slots := 0, locals := 0 } : Room) s m #[(.ref x7_0)] below meth c s₁ [] 0 0 := Stand.of_body Bd
  have e0 : s₁.heap = h0 := by rw [← hh, Bd.state]; rfl
  have N0 := Fr.nil n0
  have pre0 : ∀ t, Steps p.tables e below (s₁.setTop (mkF m 0 #[.val (.ref x7_0)] [])) t → Steps p.tables e below (s₁.setTop (entryFrame m #[(.ref x7_0)] 1)) t := fun t k => castTop (ef_7 m x7_0) k
  obtain ⟨T1, X1, e1, st1⟩ := getF X0 hx hZ hown (host := "") (Or.inl (hw _ (List.mem_of_getElem? (i := 47) rfl))) Via.refl e0 Fg (g := (mkF m 1 #[.val (.ref x7_0)] [(.ref x7_0)])) rfl rfl (hb hby d7_1)
  obtain ⟨fs, hr, hrun, hended, hW, hsame⟩ := X1.leave (v := some (.long u)) (fun h => by rw [Bd.returns] at h; cases h)
  refine ⟨_, _, pre0 _ (?_), hrun, hended, _, _, rfl, ?_, ⟨_, rfl⟩, hW, hsame.mono (by decide) (by decide)⟩
  · show Steps p.tables e below (s₁.setTop (mkF m 0 #[.val (.ref x7_0)] [])) _
    refine XS.aloadN X0.here hx rfl (hb hby d7_0) rfl rfl ?_
    show Steps p.tables e below (s₁.setTop (mkF m 1 #[.val (.ref x7_0)] [(.ref x7_0)])) _
    refine st1 _ ?_
    show Steps p.tables e below (T1.setTop (mkF m 4 #[.val (.ref x7_0)] [(.long u)])) _
    exact retOut X1 hx Bd.returns rfl (Or.inr (Or.inl ⟨rfl, rfl, _, rfl⟩)) (hb hby d7_4) hr
  · exact ⟨rfl, N0, e1⟩
theorem pd_2 : parseMethodDescriptor "(JJJLjava/lang/Long;)V" = some ⟨[.long, .long, .long, (.object "java/lang/Long")], none⟩ := by decide +kernel
theorem dar_0 : decode prog_3_method_2_code 0 = .ok (.iload_n 1, 1) := by decide +kernel
theorem dar_1 : decode prog_3_method_2_code 1 = .ok (.ifCond .eq 26, 3) := by decide +kernel
theorem dar_27 : decode prog_3_method_2_code 27 = .ok (.new 8, 3) := by decide +kernel
theorem dar_30 : decode prog_3_method_2_code 30 = .ok (.dup, 1) := by decide +kernel
theorem dar_31 : decode prog_3_method_2_code 31 = .ok (.aload_n 0, 1) := by decide +kernel
theorem dar_32 : decode prog_3_method_2_code 32 = .ok (.getfield 7, 3) := by decide +kernel
theorem dar_35 : decode prog_3_method_2_code 35 = .ok (.lconst 1, 1) := by decide +kernel
theorem dar_36 : decode prog_3_method_2_code 36 = .ok (.ladd, 1) := by decide +kernel
theorem dar_37 : decode prog_3_method_2_code 37 = .ok (.aload_n 0, 1) := by decide +kernel
theorem dar_38 : decode prog_3_method_2_code 38 = .ok (.getfield 13, 3) := by decide +kernel
theorem dar_41 : decode prog_3_method_2_code 41 = .ok (.lconst 1, 1) := by decide +kernel
theorem dar_42 : decode prog_3_method_2_code 42 = .ok (.ladd, 1) := by decide +kernel
theorem dar_43 : decode prog_3_method_2_code 43 = .ok (.aload_n 0, 1) := by decide +kernel
theorem dar_44 : decode prog_3_method_2_code 44 = .ok (.getfield 16, 3) := by decide +kernel
theorem dar_47 : decode prog_3_method_2_code 47 = .ok (.lconst 1, 1) := by decide +kernel
theorem dar_48 : decode prog_3_method_2_code 48 = .ok (.ladd, 1) := by decide +kernel
theorem dar_49 : decode prog_3_method_2_code 49 = .ok (.aload_n 0, 1) := by decide +kernel
theorem dar_50 : decode prog_3_method_2_code 50 = .ok (.getfield 19, 3) := by decide +kernel
theorem dar_53 : decode prog_3_method_2_code 53 = .ok (.invokespecial 29, 3) := by decide +kernel
theorem dar_56 : decode prog_3_method_2_code 56 = .ok (.areturn, 1) := by decide +kernel
theorem ef_ar (m : MethodId) (xar_0 : Addr) (xar_2 : Int64) : entryFrame m #[(.ref xar_0), (.int (0 : Int32)), (.long xar_2)] 4 = mkF m 0 #[.val (.ref xar_0), .val (.int (0 : Int32)), .val (.long xar_2), .second] [] := by first | (simp [entryFrame, mkF, argsToLocals, Value.category]; done) | rfl
def Qar (Z : State) (xar_0 : Addr) (xar_2 : Int64) (u_attempts : Int64) (u_failures : Int64) (u_consecutiveFailures : Int64) (u_lastSuccessAt : Addr) (h0 : Heap) (n0 : Nat) (v : Option Value) (h : Heap) (L : List Loc) : Prop := ∃ ro0 : Addr, v = some (.ref ro0) ∧ Fr n0 L ∧ Keep h0 h [] ∧ Exa Z h ro0 "com/example/redeliver/redeliver/EndpointCounters" ∧ Fld Z h ro0 "com/example/redeliver/redeliver/EndpointCounters" "attempts" "J" (.long (u_attempts + (1 : Int64))) ∧ Fld Z h ro0 "com/example/redeliver/redeliver/EndpointCounters" "failures" "J" (.long (u_failures + (1 : Int64))) ∧ Fld Z h ro0 "com/example/redeliver/redeliver/EndpointCounters" "consecutiveFailures" "J" (.long (u_consecutiveFailures + (1 : Int64))) ∧ Fld Z h ro0 "com/example/redeliver/redeliver/EndpointCounters" "lastSuccessAt" "Ljava/lang/Long;" (.ref u_lastSuccessAt)
set_option maxRecDepth 65536 in
set_option maxHeartbeats 40000000 in
theorem rmar (l : Launch) (Z : State) (a0 : Array Value) (hw : ∀ d ∈ tables_1, d.before a0 Z = true) (ws : List Jvm.Cond) (xar_0 : Addr) (xar_2 : Int64) (u_attempts : Int64) (u_failures : Int64) (u_consecutiveFailures : Int64) (u_lastSuccessAt : Addr) (h0 : Heap) (n0 : Nat) (Z0 : n0 ≤ h0.size) (Exa0 : Exa Z h0 xar_0 "com/example/redeliver/redeliver/EndpointCounters") (Ft_attempts : Fld Z h0 xar_0 "com/example/redeliver/redeliver/EndpointCounters" "attempts" "J" (.long u_attempts)) (Ft_failures : Fld Z h0 xar_0 "com/example/redeliver/redeliver/EndpointCounters" "failures" "J" (.long u_failures)) (Ft_consecutiveFailures : Fld Z h0 xar_0 "com/example/redeliver/redeliver/EndpointCounters" "consecutiveFailures" "J" (.long u_consecutiveFailures)) (Ft_lastSuccessAt : Fld Z h0 xar_0 "com/example/redeliver/redeliver/EndpointCounters" "lastSuccessAt" "Ljava/lang/Long;" (.ref u_lastSuccessAt)) :
    MetFree l (⟨"com/example/redeliver/redeliver/EndpointCounters", "after", "(ZJ)Lcom/example/redeliver/redeliver/EndpointCounters;"⟩ : MethodName) (head1 (Jvm.Cond.code (⟨"com/example/redeliver/redeliver/EndpointCounters", "after", "(ZJ)Lcom/example/redeliver/redeliver/EndpointCounters;"⟩ : MethodName) prog_3_method_2_code 4 (some (.object "com/example/redeliver/redeliver/EndpointCounters")) :: ws) ({ frames := 3, cells := 1, slots := 4, locals := 44 } : Room)) (fun a U => a = #[(.ref xar_0), (.int (0 : Int32)), (.long xar_2)] ∧ Z.Warmed39 U.vm ∧ U.heap = h0) (fun _ _ _ _ _ => True) (fun _ U o U' => ∃ v L, o = .returned v ∧ Qar Z xar_0 xar_2 u_attempts u_failures u_consecutiveFailures u_lastSuccessAt h0 n0 v U'.heap L ∧ FrameEnd U o U' L ({ frames := 3, cells := 1, slots := 4, locals := 44 } : Room).cells ({ frames := 3, cells := 1, slots := 4, locals := 44 } : Room).slots) := by
  refine MetFree.of_bodySF (plainFor_of_name pn_3) hisR ?_
  intro p e s m args below meth c s₁ Bd hml0 hP hK
  obtain ⟨rfl, hZ, hh⟩ := hP
  have hx := Bd.exec
  have hby := Bd.bytes
  have hml : c.maxLocals = 4 := hml0
  have hown : s.vm.findClass "com/example/redeliver/redeliver/EndpointCounters" = some m.cls := findClass_of_methodNamed Bd.named
  have hnm := (name_of_methodNamed Bd.named Bd.method).1
  have X0 : Stand p l e ({ frames := 3, cells := 1, slots := 4, locals := 44 } : Room) s m #[(.ref xar_0), (.int (0 : Int32)), (.long xar_2)] below meth c s₁ [] 0 0 := Stand.of_body Bd
  have e0 : s₁.heap = h0 := by rw [← hh, Bd.state]; rfl
  have N0 := Fr.nil n0
  have pre0 : ∀ t, Steps p.tables e below (s₁.setTop (mkF m 0 #[.val (.ref xar_0), .val (.int (0 : Int32)), .val (.long xar_2), .second] [])) t → Steps p.tables e below (s₁.setTop (entryFrame m #[(.ref xar_0), (.int (0 : Int32)), (.long xar_2)] 4)) t := fun t k => castTop (ef_ar m xar_0 xar_2) k
  obtain ⟨T1, h1, X1, e1, E1, A1, D1, -, st1⟩ := newO X0 hx hZ hown (hw _ (List.mem_of_getElem? (i := 35) rfl)) (hw _ (List.mem_of_getElem? (i := 9) rfl)) (hw _ (List.mem_of_getElem? (i := 10) rfl)) e0 (g := (mkF m 27 #[.val (.ref xar_0), .val (.int (0 : Int32)), .val (.long xar_2), .second] [])) rfl (hb hby dar_27) (by decide) (by decide)
  obtain ⟨b1, g1⟩ : ∃ z, z = h0.size := ⟨_, rfl⟩
  rw [← g1] at A1 D1 st1
  have g_b1 : n0 ≤ b1 := Nat.le_trans Z0 (Nat.le_of_eq g1.symm)
  have sz_b1 : h0.size ≤ b1 := Nat.le_trans (Keep.refl h0 []).1 (Nat.le_of_eq g1.symm)
  have ne_xar_0_b1 : xar_0 ≠ b1 := Nat.ne_of_lt (Nat.lt_of_lt_of_le Exa0.lt (Nat.le_of_eq g1.symm))
  have Zs1 : n0 ≤ h1.size := Nat.le_trans Z0 E1.1
  have KC1 : Keep h0 h1 [] := (Keep.refl h0 []).ext E1
  have F_attempts_b1 : Fld Z h1 b1 "com/example/redeliver/redeliver/EndpointCounters" "attempts" "J" (.long (0 : Int64)) := D1 (Or.inr (hw _ (List.mem_of_getElem? (i := 23) rfl))) (ty := .long) (by decide)
  have F_failures_b1 : Fld Z h1 b1 "com/example/redeliver/redeliver/EndpointCounters" "failures" "J" (.long (0 : Int64)) := D1 (Or.inr (hw _ (List.mem_of_getElem? (i := 25) rfl))) (ty := .long) (by decide)
  have F_consecutiveFailures_b1 : Fld Z h1 b1 "com/example/redeliver/redeliver/EndpointCounters" "consecutiveFailures" "J" (.long (0 : Int64)) := D1 (Or.inr (hw _ (List.mem_of_getElem? (i := 27) rfl))) (ty := .long) (by decide)
  have F_lastSuccessAt_b1 : Fld Z h1 b1 "com/example/redeliver/redeliver/EndpointCounters" "lastSuccessAt" "Ljava/lang/Long;" .null := D1 (Or.inr (hw _ (List.mem_of_getElem? (i := 29) rfl))) (ty := (.object "java/lang/Long")) (by decide)
  have c2 := (Fld.ext E1 Ft_attempts)
  obtain ⟨T3, X3, e3, st3⟩ := getF X1 hx hZ hown (host := "") (Or.inl (hw _ (List.mem_of_getElem? (i := 22) rfl))) Via.refl e1 c2 (g := (mkF m 32 #[.val (.ref xar_0), .val (.int (0 : Int32)), .val (.long xar_2), .second] [(.ref xar_0), (.ref b1), (.ref b1)])) rfl rfl (hb hby dar_32)
  have c4 := (Fld.ext E1 Ft_failures)
  obtain ⟨T5, X5, e5, st5⟩ := getF X3 hx hZ hown (host := "") (Or.inl (hw _ (List.mem_of_getElem? (i := 24) rfl))) Via.refl e3 c4 (g := (mkF m 38 #[.val (.ref xar_0), .val (.int (0 : Int32)), .val (.long xar_2), .second] [(.ref xar_0), (.long (u_attempts + (1 : Int64))), (.ref b1), (.ref b1)])) rfl rfl (hb hby dar_38)
  have c6 := (Fld.ext E1 Ft_consecutiveFailures)
  obtain ⟨T7, X7, e7, st7⟩ := getF X5 hx hZ hown (host := "") (Or.inl (hw _ (List.mem_of_getElem? (i := 26) rfl))) Via.refl e5 c6 (g := (mkF m 44 #[.val (.ref xar_0), .val (.int (0 : Int32)), .val (.long xar_2), .second] [(.ref xar_0), (.long (u_failures + (1 : Int64))), (.long (u_attempts + (1 : Int64))), (.ref b1), (.ref b1)])) rfl rfl (hb hby dar_44)
  have c8 := (Fld.ext E1 Ft_lastSuccessAt)
  obtain ⟨T9, X9, e9, st9⟩ := getF X7 hx hZ hown (host := "") (Or.inl (hw _ (List.mem_of_getElem? (i := 28) rfl))) Via.refl e7 c8 (g := (mkF m 50 #[.val (.ref xar_0), .val (.int (0 : Int32)), .val (.long xar_2), .second] [(.ref xar_0), (.long (u_consecutiveFailures + (1 : Int64))), (.long (u_failures + (1 : Int64))), (.long (u_attempts + (1 : Int64))), (.ref b1), (.ref b1)])) rfl rfl (hb hby dar_50)
  have sg11 : ∀ t, Steps p.tables e below (T9.setTop (mkF m 53 #[.val (.ref xar_0), .val (.int (0 : Int32)), .val (.long xar_2), .second] [(.ref u_lastSuccessAt), (.long (u_consecutiveFailures + (1 : Int64))), (.long (u_failures + (1 : Int64))), (.long (u_attempts + (1 : Int64))), (.ref b1), (.ref b1)])) t → Steps p.tables e below (s₁.setTop (mkF m 0 #[.val (.ref xar_0), .val (.int (0 : Int32)), .val (.long xar_2), .second] [])) t := fun t kt => by
    show Steps p.tables e below (s₁.setTop (mkF m 0 #[.val (.ref xar_0), .val (.int (0 : Int32)), .val (.long xar_2), .second] [])) _
    refine XS.iloadN X0.here hx rfl (hb hby dar_0) rfl ?_
    show Steps p.tables e below (s₁.setTop (mkF m 1 #[.val (.ref xar_0), .val (.int (0 : Int32)), .val (.long xar_2), .second] [(.int (0 : Int32))])) _
    refine XS.ifYes X0.here hx rfl (pc0 := 1) (pc' := 27) rfl (hb hby dar_1) rfl ((if0 _ _).trans (teq (by decide : ((0 : Int32) = (0 : Int32)))).1) (by decide) (by decide) ?_
    show Steps p.tables e below (s₁.setTop (mkF m 27 #[.val (.ref xar_0), .val (.int (0 : Int32)), .val (.long xar_2), .second] [])) _
    refine st1 _ ?_
    show Steps p.tables e below (T1.setTop (mkF m 30 #[.val (.ref xar_0), .val (.int (0 : Int32)), .val (.long xar_2), .second] [(.ref b1)])) _
    refine XS.dup X1.here hx rfl (hb hby dar_30) rfl rfl ?_
    show Steps p.tables e below (T1.setTop (mkF m 31 #[.val (.ref xar_0), .val (.int (0 : Int32)), .val (.long xar_2), .second] [(.ref b1), (.ref b1)])) _
    refine XS.aloadN X1.here hx rfl (hb hby dar_31) rfl rfl ?_
    show Steps p.tables e below (T1.setTop (mkF m 32 #[.val (.ref xar_0), .val (.int (0 : Int32)), .val (.long xar_2), .second] [(.ref xar_0), (.ref b1), (.ref b1)])) _
    refine st3 _ ?_
    show Steps p.tables e below (T3.setTop (mkF m 35 #[.val (.ref xar_0), .val (.int (0 : Int32)), .val (.long xar_2), .second] [(.long u_attempts), (.ref b1), (.ref b1)])) _
    refine XS.lconst X3.here hx rfl (hb hby dar_35) ?_
    show Steps p.tables e below (T3.setTop (mkF m 36 #[.val (.ref xar_0), .val (.int (0 : Int32)), .val (.long xar_2), .second] [(.long (1 : Int64)), (.long u_attempts), (.ref b1), (.ref b1)])) _
    refine XS.ladd X3.here hx rfl (hb hby dar_36) rfl ?_
    show Steps p.tables e below (T3.setTop (mkF m 37 #[.val (.ref xar_0), .val (.int (0 : Int32)), .val (.long xar_2), .second] [(.long (u_attempts + (1 : Int64))), (.ref b1), (.ref b1)])) _
    refine XS.aloadN X3.here hx rfl (hb hby dar_37) rfl rfl ?_
    show Steps p.tables e below (T3.setTop (mkF m 38 #[.val (.ref xar_0), .val (.int (0 : Int32)), .val (.long xar_2), .second] [(.ref xar_0), (.long (u_attempts + (1 : Int64))), (.ref b1), (.ref b1)])) _
    refine st5 _ ?_
    show Steps p.tables e below (T5.setTop (mkF m 41 #[.val (.ref xar_0), .val (.int (0 : Int32)), .val (.long xar_2), .second] [(.long u_failures), (.long (u_attempts + (1 : Int64))), (.ref b1), (.ref b1)])) _
    refine XS.lconst X5.here hx rfl (hb hby dar_41) ?_
    show Steps p.tables e below (T5.setTop (mkF m 42 #[.val (.ref xar_0), .val (.int (0 : Int32)), .val (.long xar_2), .second] [(.long (1 : Int64)), (.long u_failures), (.long (u_attempts + (1 : Int64))), (.ref b1), (.ref b1)])) _
    refine XS.ladd X5.here hx rfl (hb hby dar_42) rfl ?_
    show Steps p.tables e below (T5.setTop (mkF m 43 #[.val (.ref xar_0), .val (.int (0 : Int32)), .val (.long xar_2), .second] [(.long (u_failures + (1 : Int64))), (.long (u_attempts + (1 : Int64))), (.ref b1), (.ref b1)])) _
    refine XS.aloadN X5.here hx rfl (hb hby dar_43) rfl rfl ?_
    show Steps p.tables e below (T5.setTop (mkF m 44 #[.val (.ref xar_0), .val (.int (0 : Int32)), .val (.long xar_2), .second] [(.ref xar_0), (.long (u_failures + (1 : Int64))), (.long (u_attempts + (1 : Int64))), (.ref b1), (.ref b1)])) _
    refine st7 _ ?_
    show Steps p.tables e below (T7.setTop (mkF m 47 #[.val (.ref xar_0), .val (.int (0 : Int32)), .val (.long xar_2), .second] [(.long u_consecutiveFailures), (.long (u_failures + (1 : Int64))), (.long (u_attempts + (1 : Int64))), (.ref b1), (.ref b1)])) _
    refine XS.lconst X7.here hx rfl (hb hby dar_47) ?_
    show Steps p.tables e below (T7.setTop (mkF m 48 #[.val (.ref xar_0), .val (.int (0 : Int32)), .val (.long xar_2), .second] [(.long (1 : Int64)), (.long u_consecutiveFailures), (.long (u_failures + (1 : Int64))), (.long (u_attempts + (1 : Int64))), (.ref b1), (.ref b1)])) _
    refine XS.ladd X7.here hx rfl (hb hby dar_48) rfl ?_
    show Steps p.tables e below (T7.setTop (mkF m 49 #[.val (.ref xar_0), .val (.int (0 : Int32)), .val (.long xar_2), .second] [(.long (u_consecutiveFailures + (1 : Int64))), (.long (u_failures + (1 : Int64))), (.long (u_attempts + (1 : Int64))), (.ref b1), (.ref b1)])) _
    refine XS.aloadN X7.here hx rfl (hb hby dar_49) rfl rfl ?_
    show Steps p.tables e below (T7.setTop (mkF m 50 #[.val (.ref xar_0), .val (.int (0 : Int32)), .val (.long xar_2), .second] [(.ref xar_0), (.long (u_consecutiveFailures + (1 : Int64))), (.long (u_failures + (1 : Int64))), (.long (u_attempts + (1 : Int64))), (.ref b1), (.ref b1)])) _
    refine st9 _ ?_
    exact kt
  obtain ⟨v10, _, ⟨T10, L10, k10, n10⟩, -, X10, ⟨Lc10, hQ10, l10, y10, z10⟩, st10⟩ := X9.specialBack hx (y := (⟨"com/example/redeliver/redeliver/EndpointCounters", "<init>", "(JJJLjava/lang/Long;)V"⟩ : MethodName)) rfl hown (mvT hZ (hw _ (List.mem_of_getElem? (i := 36) rfl))) (mvT hZ (hw _ (List.mem_of_getElem? (i := 12) rfl))) (mvT hZ (hw _ (List.mem_of_getElem? (i := 13) rfl))) (by decide) (backOf (W := 1) (rmcr l Z a0 hw [] b1 (u_attempts + (1 : Int64)) (u_failures + (1 : Int64)) (u_consecutiveFailures + (1 : Int64)) u_lastSuccessAt h1 n0 Zs1 A1 g_b1 F_attempts_b1 F_failures_b1 F_consecutiveFailures_b1 F_lastSuccessAt_b1) hZ (hw _ (List.mem_of_getElem? (i := 13) rfl)) (hw _ (List.mem_of_getElem? (i := 10) rfl)) (by decide) (by decide)) (g := (mkF m 53 #[.val (.ref xar_0), .val (.int (0 : Int32)), .val (.long xar_2), .second] [(.ref u_lastSuccessAt), (.long (u_consecutiveFailures + (1 : Int64))), (.long (u_failures + (1 : Int64))), (.long (u_attempts + (1 : Int64))), (.ref b1), (.ref b1)])) rfl (by rw [hml]; rfl) (Steps.refl _) (a := b1) (argsL := [(.long (u_attempts + (1 : Int64))), (.long (u_failures + (1 : Int64))), (.long (u_consecutiveFailures + (1 : Int64))), (.ref u_lastSuccessAt)]) (rest := [(.ref b1)]) (lenOf pd_2 rfl) rfl (by show 2 * 0 + _ ≤ _; exact Nat.le_of_eq rfl) (hb hby dar_53) (fun _ _ => ⟨rfl, e9, (by decide : 1 + 0 ≤ _), (by decide : 4 + 0 ≤ _)⟩)
  dsimp only [Pt.U, Pt.locs, Pt.cells, Pt.slots] at X10 l10 y10 z10 st10 hQ10
  subst l10 y10 z10
  obtain ⟨rfl, N10q, K10, Ex10, Fq10_attempts, Fq10_failures, Fq10_consecutiveFailures, Fq10_lastSuccessAt⟩ := hQ10
  have N10 := Fr.app N0 N10q
  have Zs10 : n0 ≤ T10.heap.size := Nat.le_trans Zs1 K10.1
  have KC10 : Keep h0 T10.heap [] := (KC1).trans K10 (allS (Or.inr sz_b1) all0)
  obtain ⟨fs, hr, hrun, hended, hW, hsame⟩ := X10.leave (v := some (.ref b1)) (fun h => by rw [Bd.returns] at h; cases h)
  refine ⟨_, _, pre0 _ (sg11 _ ?_), hrun, hended, _, _, rfl, ?_, ⟨_, rfl⟩, hW, hsame.mono (by decide) (by decide)⟩
  · show Steps p.tables e below (T9.setTop (mkF m 53 #[.val (.ref xar_0), .val (.int (0 : Int32)), .val (.long xar_2), .second] [(.ref u_lastSuccessAt), (.long (u_consecutiveFailures + (1 : Int64))), (.long (u_failures + (1 : Int64))), (.long (u_attempts + (1 : Int64))), (.ref b1), (.ref b1)])) _
    refine st10.trans ?_
    show Steps p.tables e below (T10.setTop (mkF m 56 #[.val (.ref xar_0), .val (.int (0 : Int32)), .val (.long xar_2), .second] [(.ref b1)])) _
    exact retOut X10 hx Bd.returns rfl (Or.inr (Or.inr (Or.inr (Or.inr ⟨rfl, rfl, rfl⟩)))) (hb hby dar_56) hr
  · show Qar Z xar_0 xar_2 u_attempts u_failures u_consecutiveFailures u_lastSuccessAt h0 n0 _ T10.heap _
    exact ⟨b1, rfl, N10, KC10, Ex10, Fq10_attempts, Fq10_failures, Fq10_consecutiveFailures, Fq10_lastSuccessAt⟩
theorem dan_0 : decode prog_3_method_2_code 0 = .ok (.iload_n 1, 1) := by decide +kernel
theorem dan_1 : decode prog_3_method_2_code 1 = .ok (.ifCond .eq 26, 3) := by decide +kernel
theorem dan_27 : decode prog_3_method_2_code 27 = .ok (.new 8, 3) := by decide +kernel
theorem dan_30 : decode prog_3_method_2_code 30 = .ok (.dup, 1) := by decide +kernel
theorem dan_31 : decode prog_3_method_2_code 31 = .ok (.aload_n 0, 1) := by decide +kernel
theorem dan_32 : decode prog_3_method_2_code 32 = .ok (.getfield 7, 3) := by decide +kernel
theorem dan_35 : decode prog_3_method_2_code 35 = .ok (.lconst 1, 1) := by decide +kernel
theorem dan_36 : decode prog_3_method_2_code 36 = .ok (.ladd, 1) := by decide +kernel
theorem dan_37 : decode prog_3_method_2_code 37 = .ok (.aload_n 0, 1) := by decide +kernel
theorem dan_38 : decode prog_3_method_2_code 38 = .ok (.getfield 13, 3) := by decide +kernel
theorem dan_41 : decode prog_3_method_2_code 41 = .ok (.lconst 1, 1) := by decide +kernel
theorem dan_42 : decode prog_3_method_2_code 42 = .ok (.ladd, 1) := by decide +kernel
theorem dan_43 : decode prog_3_method_2_code 43 = .ok (.aload_n 0, 1) := by decide +kernel
theorem dan_44 : decode prog_3_method_2_code 44 = .ok (.getfield 16, 3) := by decide +kernel
theorem dan_47 : decode prog_3_method_2_code 47 = .ok (.lconst 1, 1) := by decide +kernel
theorem dan_48 : decode prog_3_method_2_code 48 = .ok (.ladd, 1) := by decide +kernel
theorem dan_49 : decode prog_3_method_2_code 49 = .ok (.aload_n 0, 1) := by decide +kernel
theorem dan_50 : decode prog_3_method_2_code 50 = .ok (.getfield 19, 3) := by decide +kernel
theorem dan_53 : decode prog_3_method_2_code 53 = .ok (.invokespecial 29, 3) := by decide +kernel
theorem dan_56 : decode prog_3_method_2_code 56 = .ok (.areturn, 1) := by decide +kernel
theorem ef_an (m : MethodId) (xan_0 : Addr) (xan_2 : Int64) : entryFrame m #[(.ref xan_0), (.int (0 : Int32)), (.long xan_2)] 4 = mkF m 0 #[.val (.ref xan_0), .val (.int (0 : Int32)), .val (.long xan_2), .second] [] := by first | (simp [entryFrame, mkF, argsToLocals, Value.category]; done) | rfl
def Qan (Z : State) (xan_0 : Addr) (xan_2 : Int64) (u_attempts : Int64) (u_failures : Int64) (u_consecutiveFailures : Int64) (h0 : Heap) (n0 : Nat) (v : Option Value) (h : Heap) (L : List Loc) : Prop := ∃ ro0 : Addr, v = some (.ref ro0) ∧ Fr n0 L ∧ Keep h0 h [] ∧ Exa Z h ro0 "com/example/redeliver/redeliver/EndpointCounters" ∧ Fld Z h ro0 "com/example/redeliver/redeliver/EndpointCounters" "attempts" "J" (.long (u_attempts + (1 : Int64))) ∧ Fld Z h ro0 "com/example/redeliver/redeliver/EndpointCounters" "failures" "J" (.long (u_failures + (1 : Int64))) ∧ Fld Z h ro0 "com/example/redeliver/redeliver/EndpointCounters" "consecutiveFailures" "J" (.long (u_consecutiveFailures + (1 : Int64))) ∧ Fld Z h ro0 "com/example/redeliver/redeliver/EndpointCounters" "lastSuccessAt" "Ljava/lang/Long;" .null
set_option maxRecDepth 65536 in
set_option maxHeartbeats 40000000 in
theorem rman (l : Launch) (Z : State) (a0 : Array Value) (hw : ∀ d ∈ tables_1, d.before a0 Z = true) (ws : List Jvm.Cond) (xan_0 : Addr) (xan_2 : Int64) (u_attempts : Int64) (u_failures : Int64) (u_consecutiveFailures : Int64) (h0 : Heap) (n0 : Nat) (Z0 : n0 ≤ h0.size) (Exa0 : Exa Z h0 xan_0 "com/example/redeliver/redeliver/EndpointCounters") (Ft_attempts : Fld Z h0 xan_0 "com/example/redeliver/redeliver/EndpointCounters" "attempts" "J" (.long u_attempts)) (Ft_failures : Fld Z h0 xan_0 "com/example/redeliver/redeliver/EndpointCounters" "failures" "J" (.long u_failures)) (Ft_consecutiveFailures : Fld Z h0 xan_0 "com/example/redeliver/redeliver/EndpointCounters" "consecutiveFailures" "J" (.long u_consecutiveFailures)) (Ft_lastSuccessAt : Fld Z h0 xan_0 "com/example/redeliver/redeliver/EndpointCounters" "lastSuccessAt" "Ljava/lang/Long;" .null) :
    MetFree l (⟨"com/example/redeliver/redeliver/EndpointCounters", "after", "(ZJ)Lcom/example/redeliver/redeliver/EndpointCounters;"⟩ : MethodName) (head1 (Jvm.Cond.code (⟨"com/example/redeliver/redeliver/EndpointCounters", "after", "(ZJ)Lcom/example/redeliver/redeliver/EndpointCounters;"⟩ : MethodName) prog_3_method_2_code 4 (some (.object "com/example/redeliver/redeliver/EndpointCounters")) :: ws) ({ frames := 3, cells := 1, slots := 4, locals := 44 } : Room)) (fun a U => a = #[(.ref xan_0), (.int (0 : Int32)), (.long xan_2)] ∧ Z.Warmed39 U.vm ∧ U.heap = h0) (fun _ _ _ _ _ => True) (fun _ U o U' => ∃ v L, o = .returned v ∧ Qan Z xan_0 xan_2 u_attempts u_failures u_consecutiveFailures h0 n0 v U'.heap L ∧ FrameEnd U o U' L ({ frames := 3, cells := 1, slots := 4, locals := 44 } : Room).cells ({ frames := 3, cells := 1, slots := 4, locals := 44 } : Room).slots) := by
  refine MetFree.of_bodySF (plainFor_of_name pn_3) hisR ?_
  intro p e s m args below meth c s₁ Bd hml0 hP hK
  obtain ⟨rfl, hZ, hh⟩ := hP
  have hx := Bd.exec
  have hby := Bd.bytes
  have hml : c.maxLocals = 4 := hml0
  have hown : s.vm.findClass "com/example/redeliver/redeliver/EndpointCounters" = some m.cls := findClass_of_methodNamed Bd.named
  have hnm := (name_of_methodNamed Bd.named Bd.method).1
  have X0 : Stand p l e ({ frames := 3, cells := 1, slots := 4, locals := 44 } : Room) s m #[(.ref xan_0), (.int (0 : Int32)), (.long xan_2)] below meth c s₁ [] 0 0 := Stand.of_body Bd
  have e0 : s₁.heap = h0 := by rw [← hh, Bd.state]; rfl
  have N0 := Fr.nil n0
  have pre0 : ∀ t, Steps p.tables e below (s₁.setTop (mkF m 0 #[.val (.ref xan_0), .val (.int (0 : Int32)), .val (.long xan_2), .second] [])) t → Steps p.tables e below (s₁.setTop (entryFrame m #[(.ref xan_0), (.int (0 : Int32)), (.long xan_2)] 4)) t := fun t k => castTop (ef_an m xan_0 xan_2) k
  obtain ⟨T1, h1, X1, e1, E1, A1, D1, -, st1⟩ := newO X0 hx hZ hown (hw _ (List.mem_of_getElem? (i := 35) rfl)) (hw _ (List.mem_of_getElem? (i := 9) rfl)) (hw _ (List.mem_of_getElem? (i := 10) rfl)) e0 (g := (mkF m 27 #[.val (.ref xan_0), .val (.int (0 : Int32)), .val (.long xan_2), .second] [])) rfl (hb hby dan_27) (by decide) (by decide)
  obtain ⟨b1, g1⟩ : ∃ z, z = h0.size := ⟨_, rfl⟩
  rw [← g1] at A1 D1 st1
  have g_b1 : n0 ≤ b1 := Nat.le_trans Z0 (Nat.le_of_eq g1.symm)
  have sz_b1 : h0.size ≤ b1 := Nat.le_trans (Keep.refl h0 []).1 (Nat.le_of_eq g1.symm)
  have ne_xan_0_b1 : xan_0 ≠ b1 := Nat.ne_of_lt (Nat.lt_of_lt_of_le Exa0.lt (Nat.le_of_eq g1.symm))
  have Zs1 : n0 ≤ h1.size := Nat.le_trans Z0 E1.1
  have KC1 : Keep h0 h1 [] := (Keep.refl h0 []).ext E1
  have F_attempts_b1 : Fld Z h1 b1 "com/example/redeliver/redeliver/EndpointCounters" "attempts" "J" (.long (0 : Int64)) := D1 (Or.inr (hw _ (List.mem_of_getElem? (i := 23) rfl))) (ty := .long) (by decide)
  have F_failures_b1 : Fld Z h1 b1 "com/example/redeliver/redeliver/EndpointCounters" "failures" "J" (.long (0 : Int64)) := D1 (Or.inr (hw _ (List.mem_of_getElem? (i := 25) rfl))) (ty := .long) (by decide)
  have F_consecutiveFailures_b1 : Fld Z h1 b1 "com/example/redeliver/redeliver/EndpointCounters" "consecutiveFailures" "J" (.long (0 : Int64)) := D1 (Or.inr (hw _ (List.mem_of_getElem? (i := 27) rfl))) (ty := .long) (by decide)
  have F_lastSuccessAt_b1 : Fld Z h1 b1 "com/example/redeliver/redeliver/EndpointCounters" "lastSuccessAt" "Ljava/lang/Long;" .null := D1 (Or.inr (hw _ (List.mem_of_getElem? (i := 29) rfl))) (ty := (.object "java/lang/Long")) (by decide)
  have c2 := (Fld.ext E1 Ft_attempts)
  obtain ⟨T3, X3, e3, st3⟩ := getF X1 hx hZ hown (host := "") (Or.inl (hw _ (List.mem_of_getElem? (i := 22) rfl))) Via.refl e1 c2 (g := (mkF m 32 #[.val (.ref xan_0), .val (.int (0 : Int32)), .val (.long xan_2), .second] [(.ref xan_0), (.ref b1), (.ref b1)])) rfl rfl (hb hby dan_32)
  have c4 := (Fld.ext E1 Ft_failures)
  obtain ⟨T5, X5, e5, st5⟩ := getF X3 hx hZ hown (host := "") (Or.inl (hw _ (List.mem_of_getElem? (i := 24) rfl))) Via.refl e3 c4 (g := (mkF m 38 #[.val (.ref xan_0), .val (.int (0 : Int32)), .val (.long xan_2), .second] [(.ref xan_0), (.long (u_attempts + (1 : Int64))), (.ref b1), (.ref b1)])) rfl rfl (hb hby dan_38)
  have c6 := (Fld.ext E1 Ft_consecutiveFailures)
  obtain ⟨T7, X7, e7, st7⟩ := getF X5 hx hZ hown (host := "") (Or.inl (hw _ (List.mem_of_getElem? (i := 26) rfl))) Via.refl e5 c6 (g := (mkF m 44 #[.val (.ref xan_0), .val (.int (0 : Int32)), .val (.long xan_2), .second] [(.ref xan_0), (.long (u_failures + (1 : Int64))), (.long (u_attempts + (1 : Int64))), (.ref b1), (.ref b1)])) rfl rfl (hb hby dan_44)
  have c8 := (Fld.ext E1 Ft_lastSuccessAt)
  obtain ⟨T9, X9, e9, st9⟩ := getF X7 hx hZ hown (host := "") (Or.inl (hw _ (List.mem_of_getElem? (i := 28) rfl))) Via.refl e7 c8 (g := (mkF m 50 #[.val (.ref xan_0), .val (.int (0 : Int32)), .val (.long xan_2), .second] [(.ref xan_0), (.long (u_consecutiveFailures + (1 : Int64))), (.long (u_failures + (1 : Int64))), (.long (u_attempts + (1 : Int64))), (.ref b1), (.ref b1)])) rfl rfl (hb hby dan_50)
  have sg11 : ∀ t, Steps p.tables e below (T9.setTop (mkF m 53 #[.val (.ref xan_0), .val (.int (0 : Int32)), .val (.long xan_2), .second] [.null, (.long (u_consecutiveFailures + (1 : Int64))), (.long (u_failures + (1 : Int64))), (.long (u_attempts + (1 : Int64))), (.ref b1), (.ref b1)])) t → Steps p.tables e below (s₁.setTop (mkF m 0 #[.val (.ref xan_0), .val (.int (0 : Int32)), .val (.long xan_2), .second] [])) t := fun t kt => by
    show Steps p.tables e below (s₁.setTop (mkF m 0 #[.val (.ref xan_0), .val (.int (0 : Int32)), .val (.long xan_2), .second] [])) _
    refine XS.iloadN X0.here hx rfl (hb hby dan_0) rfl ?_
    show Steps p.tables e below (s₁.setTop (mkF m 1 #[.val (.ref xan_0), .val (.int (0 : Int32)), .val (.long xan_2), .second] [(.int (0 : Int32))])) _
    refine XS.ifYes X0.here hx rfl (pc0 := 1) (pc' := 27) rfl (hb hby dan_1) rfl ((if0 _ _).trans (teq (by decide : ((0 : Int32) = (0 : Int32)))).1) (by decide) (by decide) ?_
    show Steps p.tables e below (s₁.setTop (mkF m 27 #[.val (.ref xan_0), .val (.int (0 : Int32)), .val (.long xan_2), .second] [])) _
    refine st1 _ ?_
    show Steps p.tables e below (T1.setTop (mkF m 30 #[.val (.ref xan_0), .val (.int (0 : Int32)), .val (.long xan_2), .second] [(.ref b1)])) _
    refine XS.dup X1.here hx rfl (hb hby dan_30) rfl rfl ?_
    show Steps p.tables e below (T1.setTop (mkF m 31 #[.val (.ref xan_0), .val (.int (0 : Int32)), .val (.long xan_2), .second] [(.ref b1), (.ref b1)])) _
    refine XS.aloadN X1.here hx rfl (hb hby dan_31) rfl rfl ?_
    show Steps p.tables e below (T1.setTop (mkF m 32 #[.val (.ref xan_0), .val (.int (0 : Int32)), .val (.long xan_2), .second] [(.ref xan_0), (.ref b1), (.ref b1)])) _
    refine st3 _ ?_
    show Steps p.tables e below (T3.setTop (mkF m 35 #[.val (.ref xan_0), .val (.int (0 : Int32)), .val (.long xan_2), .second] [(.long u_attempts), (.ref b1), (.ref b1)])) _
    refine XS.lconst X3.here hx rfl (hb hby dan_35) ?_
    show Steps p.tables e below (T3.setTop (mkF m 36 #[.val (.ref xan_0), .val (.int (0 : Int32)), .val (.long xan_2), .second] [(.long (1 : Int64)), (.long u_attempts), (.ref b1), (.ref b1)])) _
    refine XS.ladd X3.here hx rfl (hb hby dan_36) rfl ?_
    show Steps p.tables e below (T3.setTop (mkF m 37 #[.val (.ref xan_0), .val (.int (0 : Int32)), .val (.long xan_2), .second] [(.long (u_attempts + (1 : Int64))), (.ref b1), (.ref b1)])) _
    refine XS.aloadN X3.here hx rfl (hb hby dan_37) rfl rfl ?_
    show Steps p.tables e below (T3.setTop (mkF m 38 #[.val (.ref xan_0), .val (.int (0 : Int32)), .val (.long xan_2), .second] [(.ref xan_0), (.long (u_attempts + (1 : Int64))), (.ref b1), (.ref b1)])) _
    refine st5 _ ?_
    show Steps p.tables e below (T5.setTop (mkF m 41 #[.val (.ref xan_0), .val (.int (0 : Int32)), .val (.long xan_2), .second] [(.long u_failures), (.long (u_attempts + (1 : Int64))), (.ref b1), (.ref b1)])) _
    refine XS.lconst X5.here hx rfl (hb hby dan_41) ?_
    show Steps p.tables e below (T5.setTop (mkF m 42 #[.val (.ref xan_0), .val (.int (0 : Int32)), .val (.long xan_2), .second] [(.long (1 : Int64)), (.long u_failures), (.long (u_attempts + (1 : Int64))), (.ref b1), (.ref b1)])) _
    refine XS.ladd X5.here hx rfl (hb hby dan_42) rfl ?_
    show Steps p.tables e below (T5.setTop (mkF m 43 #[.val (.ref xan_0), .val (.int (0 : Int32)), .val (.long xan_2), .second] [(.long (u_failures + (1 : Int64))), (.long (u_attempts + (1 : Int64))), (.ref b1), (.ref b1)])) _
    refine XS.aloadN X5.here hx rfl (hb hby dan_43) rfl rfl ?_
    show Steps p.tables e below (T5.setTop (mkF m 44 #[.val (.ref xan_0), .val (.int (0 : Int32)), .val (.long xan_2), .second] [(.ref xan_0), (.long (u_failures + (1 : Int64))), (.long (u_attempts + (1 : Int64))), (.ref b1), (.ref b1)])) _
    refine st7 _ ?_
    show Steps p.tables e below (T7.setTop (mkF m 47 #[.val (.ref xan_0), .val (.int (0 : Int32)), .val (.long xan_2), .second] [(.long u_consecutiveFailures), (.long (u_failures + (1 : Int64))), (.long (u_attempts + (1 : Int64))), (.ref b1), (.ref b1)])) _
    refine XS.lconst X7.here hx rfl (hb hby dan_47) ?_
    show Steps p.tables e below (T7.setTop (mkF m 48 #[.val (.ref xan_0), .val (.int (0 : Int32)), .val (.long xan_2), .second] [(.long (1 : Int64)), (.long u_consecutiveFailures), (.long (u_failures + (1 : Int64))), (.long (u_attempts + (1 : Int64))), (.ref b1), (.ref b1)])) _
    refine XS.ladd X7.here hx rfl (hb hby dan_48) rfl ?_
    show Steps p.tables e below (T7.setTop (mkF m 49 #[.val (.ref xan_0), .val (.int (0 : Int32)), .val (.long xan_2), .second] [(.long (u_consecutiveFailures + (1 : Int64))), (.long (u_failures + (1 : Int64))), (.long (u_attempts + (1 : Int64))), (.ref b1), (.ref b1)])) _
    refine XS.aloadN X7.here hx rfl (hb hby dan_49) rfl rfl ?_
    show Steps p.tables e below (T7.setTop (mkF m 50 #[.val (.ref xan_0), .val (.int (0 : Int32)), .val (.long xan_2), .second] [(.ref xan_0), (.long (u_consecutiveFailures + (1 : Int64))), (.long (u_failures + (1 : Int64))), (.long (u_attempts + (1 : Int64))), (.ref b1), (.ref b1)])) _
    refine st9 _ ?_
    exact kt
  obtain ⟨v10, _, ⟨T10, L10, k10, n10⟩, -, X10, ⟨Lc10, hQ10, l10, y10, z10⟩, st10⟩ := X9.specialBack hx (y := (⟨"com/example/redeliver/redeliver/EndpointCounters", "<init>", "(JJJLjava/lang/Long;)V"⟩ : MethodName)) rfl hown (mvT hZ (hw _ (List.mem_of_getElem? (i := 36) rfl))) (mvT hZ (hw _ (List.mem_of_getElem? (i := 12) rfl))) (mvT hZ (hw _ (List.mem_of_getElem? (i := 13) rfl))) (by decide) (backOf (W := 1) (rmcn l Z a0 hw [] b1 (u_attempts + (1 : Int64)) (u_failures + (1 : Int64)) (u_consecutiveFailures + (1 : Int64)) h1 n0 Zs1 A1 g_b1 F_attempts_b1 F_failures_b1 F_consecutiveFailures_b1 F_lastSuccessAt_b1) hZ (hw _ (List.mem_of_getElem? (i := 13) rfl)) (hw _ (List.mem_of_getElem? (i := 10) rfl)) (by decide) (by decide)) (g := (mkF m 53 #[.val (.ref xan_0), .val (.int (0 : Int32)), .val (.long xan_2), .second] [.null, (.long (u_consecutiveFailures + (1 : Int64))), (.long (u_failures + (1 : Int64))), (.long (u_attempts + (1 : Int64))), (.ref b1), (.ref b1)])) rfl (by rw [hml]; rfl) (Steps.refl _) (a := b1) (argsL := [(.long (u_attempts + (1 : Int64))), (.long (u_failures + (1 : Int64))), (.long (u_consecutiveFailures + (1 : Int64))), .null]) (rest := [(.ref b1)]) (lenOf pd_2 rfl) rfl (by show 2 * 0 + _ ≤ _; exact Nat.le_of_eq rfl) (hb hby dan_53) (fun _ _ => ⟨rfl, e9, (by decide : 1 + 0 ≤ _), (by decide : 4 + 0 ≤ _)⟩)
  dsimp only [Pt.U, Pt.locs, Pt.cells, Pt.slots] at X10 l10 y10 z10 st10 hQ10
  subst l10 y10 z10
  obtain ⟨rfl, N10q, K10, Ex10, Fq10_attempts, Fq10_failures, Fq10_consecutiveFailures, Fq10_lastSuccessAt⟩ := hQ10
  have N10 := Fr.app N0 N10q
  have Zs10 : n0 ≤ T10.heap.size := Nat.le_trans Zs1 K10.1
  have KC10 : Keep h0 T10.heap [] := (KC1).trans K10 (allS (Or.inr sz_b1) all0)
  obtain ⟨fs, hr, hrun, hended, hW, hsame⟩ := X10.leave (v := some (.ref b1)) (fun h => by rw [Bd.returns] at h; cases h)
  refine ⟨_, _, pre0 _ (sg11 _ ?_), hrun, hended, _, _, rfl, ?_, ⟨_, rfl⟩, hW, hsame.mono (by decide) (by decide)⟩
  · show Steps p.tables e below (T9.setTop (mkF m 53 #[.val (.ref xan_0), .val (.int (0 : Int32)), .val (.long xan_2), .second] [.null, (.long (u_consecutiveFailures + (1 : Int64))), (.long (u_failures + (1 : Int64))), (.long (u_attempts + (1 : Int64))), (.ref b1), (.ref b1)])) _
    refine st10.trans ?_
    show Steps p.tables e below (T10.setTop (mkF m 56 #[.val (.ref xan_0), .val (.int (0 : Int32)), .val (.long xan_2), .second] [(.ref b1)])) _
    exact retOut X10 hx Bd.returns rfl (Or.inr (Or.inr (Or.inr (Or.inr ⟨rfl, rfl, rfl⟩)))) (hb hby dan_56) hr
  · show Qan Z xan_0 xan_2 u_attempts u_failures u_consecutiveFailures h0 n0 _ T10.heap _
    exact ⟨b1, rfl, N10, KC10, Ex10, Fq10_attempts, Fq10_failures, Fq10_consecutiveFailures, Fq10_lastSuccessAt⟩
theorem pd_3 : parseMethodDescriptor "(J)Ljava/lang/Long;" = some ⟨[.long], some (.object "java/lang/Long")⟩ := by decide +kernel
theorem das_0 : decode prog_3_method_2_code 0 = .ok (.iload_n 1, 1) := by decide +kernel
theorem das_1 : decode prog_3_method_2_code 1 = .ok (.ifCond .eq 26, 3) := by decide +kernel
theorem das_4 : decode prog_3_method_2_code 4 = .ok (.new 8, 3) := by decide +kernel
theorem das_7 : decode prog_3_method_2_code 7 = .ok (.dup, 1) := by decide +kernel
theorem das_8 : decode prog_3_method_2_code 8 = .ok (.aload_n 0, 1) := by decide +kernel
theorem das_9 : decode prog_3_method_2_code 9 = .ok (.getfield 7, 3) := by decide +kernel
theorem das_12 : decode prog_3_method_2_code 12 = .ok (.lconst 1, 1) := by decide +kernel
theorem das_13 : decode prog_3_method_2_code 13 = .ok (.ladd, 1) := by decide +kernel
theorem das_14 : decode prog_3_method_2_code 14 = .ok (.aload_n 0, 1) := by decide +kernel
theorem das_15 : decode prog_3_method_2_code 15 = .ok (.getfield 13, 3) := by decide +kernel
theorem das_18 : decode prog_3_method_2_code 18 = .ok (.lconst 0, 1) := by decide +kernel
theorem das_19 : decode prog_3_method_2_code 19 = .ok (.lload_n 2, 1) := by decide +kernel
theorem das_20 : decode prog_3_method_2_code 20 = .ok (.invokestatic 23, 3) := by decide +kernel
theorem das_23 : decode prog_3_method_2_code 23 = .ok (.invokespecial 29, 3) := by decide +kernel
theorem das_26 : decode prog_3_method_2_code 26 = .ok (.areturn, 1) := by decide +kernel
theorem ef_as (m : MethodId) (xas_0 : Addr) (xas_2 : Int64) : entryFrame m #[(.ref xas_0), (.int (1 : Int32)), (.long xas_2)] 4 = mkF m 0 #[.val (.ref xas_0), .val (.int (1 : Int32)), .val (.long xas_2), .second] [] := by first | (simp [entryFrame, mkF, argsToLocals, Value.category]; done) | rfl
def Qas (Z : State) (xas_0 : Addr) (xas_2 : Int64) (u_attempts : Int64) (u_failures : Int64) (u_consecutiveFailures : Int64) (u_lastSuccessAt : Addr) (cA : Addr) (cl : Cell) (h0 : Heap) (n0 : Nat) (v : Option Value) (h : Heap) (L : List Loc) : Prop := ∃ ro0 ro1 : Addr, v = some (.ref ro0) ∧ Fr n0 L ∧ Keep h0 h [] ∧ Exa Z h ro0 "com/example/redeliver/redeliver/EndpointCounters" ∧ Exa Z h ro1 "java/lang/Long" ∧ Fld Z h ro0 "com/example/redeliver/redeliver/EndpointCounters" "attempts" "J" (.long (u_attempts + (1 : Int64))) ∧ Fld Z h ro0 "com/example/redeliver/redeliver/EndpointCounters" "failures" "J" (.long u_failures) ∧ Fld Z h ro0 "com/example/redeliver/redeliver/EndpointCounters" "consecutiveFailures" "J" (.long (0 : Int64)) ∧ Fld Z h ro0 "com/example/redeliver/redeliver/EndpointCounters" "lastSuccessAt" "Ljava/lang/Long;" (.ref ro1) ∧ Fld Z h ro1 "java/lang/Long" "value" "J" (.long xas_2)
set_option maxRecDepth 65536 in
set_option maxHeartbeats 40000000 in
theorem rmas (l : Launch) (Z : State) (a0 : Array Value) (hw : ∀ d ∈ tables_1, d.before a0 Z = true) (ws : List Jvm.Cond) (xas_0 : Addr) (xas_2 : Int64) (u_attempts : Int64) (u_failures : Int64) (u_consecutiveFailures : Int64) (u_lastSuccessAt : Addr) (cA : Addr) (cl : Cell) (h0 : Heap) (n0 : Nat) (Z0 : n0 ≤ h0.size) (Exa0 : Exa Z h0 xas_0 "com/example/redeliver/redeliver/EndpointCounters") (Ft_attempts : Fld Z h0 xas_0 "com/example/redeliver/redeliver/EndpointCounters" "attempts" "J" (.long u_attempts)) (Ft_failures : Fld Z h0 xas_0 "com/example/redeliver/redeliver/EndpointCounters" "failures" "J" (.long u_failures)) (Ft_consecutiveFailures : Fld Z h0 xas_0 "com/example/redeliver/redeliver/EndpointCounters" "consecutiveFailures" "J" (.long u_consecutiveFailures)) (Ft_lastSuccessAt : Fld Z h0 xas_0 "com/example/redeliver/redeliver/EndpointCounters" "lastSuccessAt" "Ljava/lang/Long;" (.ref u_lastSuccessAt)) (O0 : Old Z n0 h0) (JC : Bxs Z cA cl "java/lang/Long" "J" 256 (fun j => .long (j - 128).toInt64)) (SC : Sta Z Z.heap "java/lang/Long$LongCache" "cache" "[Ljava/lang/Long;" (.ref cA)) :
    MetFree l (⟨"com/example/redeliver/redeliver/EndpointCounters", "after", "(ZJ)Lcom/example/redeliver/redeliver/EndpointCounters;"⟩ : MethodName) (head1 (Jvm.Cond.code (⟨"com/example/redeliver/redeliver/EndpointCounters", "after", "(ZJ)Lcom/example/redeliver/redeliver/EndpointCounters;"⟩ : MethodName) prog_3_method_2_code 4 (some (.object "com/example/redeliver/redeliver/EndpointCounters")) :: ws) ({ frames := 4, cells := 2, slots := 5, locals := 61 } : Room)) (fun a U => a = #[(.ref xas_0), (.int (1 : Int32)), (.long xas_2)] ∧ Z.Warmed39 U.vm ∧ U.heap = h0) (fun _ _ _ _ _ => True) (fun _ U o U' => ∃ v L, o = .returned v ∧ Qas Z xas_0 xas_2 u_attempts u_failures u_consecutiveFailures u_lastSuccessAt cA cl h0 n0 v U'.heap L ∧ FrameEnd U o U' L ({ frames := 4, cells := 2, slots := 5, locals := 61 } : Room).cells ({ frames := 4, cells := 2, slots := 5, locals := 61 } : Room).slots) := by
  refine MetFree.of_bodySF (plainFor_of_name pn_3) hisR ?_
  intro p e s m args below meth c s₁ Bd hml0 hP hK
  obtain ⟨rfl, hZ, hh⟩ := hP
  have hx := Bd.exec
  have hby := Bd.bytes
  have hml : c.maxLocals = 4 := hml0
  have hown : s.vm.findClass "com/example/redeliver/redeliver/EndpointCounters" = some m.cls := findClass_of_methodNamed Bd.named
  have hnm := (name_of_methodNamed Bd.named Bd.method).1
  have X0 : Stand p l e ({ frames := 4, cells := 2, slots := 5, locals := 61 } : Room) s m #[(.ref xas_0), (.int (1 : Int32)), (.long xas_2)] below meth c s₁ [] 0 0 := Stand.of_body Bd
  have e0 : s₁.heap = h0 := by rw [← hh, Bd.state]; rfl
  have N0 := Fr.nil n0
  have pre0 : ∀ t, Steps p.tables e below (s₁.setTop (mkF m 0 #[.val (.ref xas_0), .val (.int (1 : Int32)), .val (.long xas_2), .second] [])) t → Steps p.tables e below (s₁.setTop (entryFrame m #[(.ref xas_0), (.int (1 : Int32)), (.long xas_2)] 4)) t := fun t k => castTop (ef_as m xas_0 xas_2) k
  obtain ⟨T1, h1, X1, e1, E1, A1, D1, -, st1⟩ := newO X0 hx hZ hown (hw _ (List.mem_of_getElem? (i := 35) rfl)) (hw _ (List.mem_of_getElem? (i := 9) rfl)) (hw _ (List.mem_of_getElem? (i := 10) rfl)) e0 (g := (mkF m 4 #[.val (.ref xas_0), .val (.int (1 : Int32)), .val (.long xas_2), .second] [])) rfl (hb hby das_4) (by decide) (by decide)
  obtain ⟨b1, g1⟩ : ∃ z, z = h0.size := ⟨_, rfl⟩
  rw [← g1] at A1 D1 st1
  have g_b1 : n0 ≤ b1 := Nat.le_trans Z0 (Nat.le_of_eq g1.symm)
  have sz_b1 : h0.size ≤ b1 := Nat.le_trans (Keep.refl h0 []).1 (Nat.le_of_eq g1.symm)
  have ne_xas_0_b1 : xas_0 ≠ b1 := Nat.ne_of_lt (Nat.lt_of_lt_of_le Exa0.lt (Nat.le_of_eq g1.symm))
  have Zs1 : n0 ≤ h1.size := Nat.le_trans Z0 E1.1
  have KC1 : Keep h0 h1 [] := (Keep.refl h0 []).ext E1
  have Ol1 : Old Z n0 h1 := (O0).ext E1
  have F_attempts_b1 : Fld Z h1 b1 "com/example/redeliver/redeliver/EndpointCounters" "attempts" "J" (.long (0 : Int64)) := D1 (Or.inr (hw _ (List.mem_of_getElem? (i := 23) rfl))) (ty := .long) (by decide)
  have F_failures_b1 : Fld Z h1 b1 "com/example/redeliver/redeliver/EndpointCounters" "failures" "J" (.long (0 : Int64)) := D1 (Or.inr (hw _ (List.mem_of_getElem? (i := 25) rfl))) (ty := .long) (by decide)
  have F_consecutiveFailures_b1 : Fld Z h1 b1 "com/example/redeliver/redeliver/EndpointCounters" "consecutiveFailures" "J" (.long (0 : Int64)) := D1 (Or.inr (hw _ (List.mem_of_getElem? (i := 27) rfl))) (ty := .long) (by decide)
  have F_lastSuccessAt_b1 : Fld Z h1 b1 "com/example/redeliver/redeliver/EndpointCounters" "lastSuccessAt" "Ljava/lang/Long;" .null := D1 (Or.inr (hw _ (List.mem_of_getElem? (i := 29) rfl))) (ty := (.object "java/lang/Long")) (by decide)
  have c2 := (Fld.ext E1 Ft_attempts)
  obtain ⟨T3, X3, e3, st3⟩ := getF X1 hx hZ hown (host := "") (Or.inl (hw _ (List.mem_of_getElem? (i := 22) rfl))) Via.refl e1 c2 (g := (mkF m 9 #[.val (.ref xas_0), .val (.int (1 : Int32)), .val (.long xas_2), .second] [(.ref xas_0), (.ref b1), (.ref b1)])) rfl rfl (hb hby das_9)
  have c4 := (Fld.ext E1 Ft_failures)
  obtain ⟨T5, X5, e5, st5⟩ := getF X3 hx hZ hown (host := "") (Or.inl (hw _ (List.mem_of_getElem? (i := 24) rfl))) Via.refl e3 c4 (g := (mkF m 15 #[.val (.ref xas_0), .val (.int (1 : Int32)), .val (.long xas_2), .second] [(.ref xas_0), (.long (u_attempts + (1 : Int64))), (.ref b1), (.ref b1)])) rfl rfl (hb hby das_15)
  have sg7 : ∀ t, Steps p.tables e below (T5.setTop (mkF m 20 #[.val (.ref xas_0), .val (.int (1 : Int32)), .val (.long xas_2), .second] [(.long xas_2), (.long (0 : Int64)), (.long u_failures), (.long (u_attempts + (1 : Int64))), (.ref b1), (.ref b1)])) t → Steps p.tables e below (s₁.setTop (mkF m 0 #[.val (.ref xas_0), .val (.int (1 : Int32)), .val (.long xas_2), .second] [])) t := fun t kt => by
    show Steps p.tables e below (s₁.setTop (mkF m 0 #[.val (.ref xas_0), .val (.int (1 : Int32)), .val (.long xas_2), .second] [])) _
    refine XS.iloadN X0.here hx rfl (hb hby das_0) rfl ?_
    show Steps p.tables e below (s₁.setTop (mkF m 1 #[.val (.ref xas_0), .val (.int (1 : Int32)), .val (.long xas_2), .second] [(.int (1 : Int32))])) _
    refine XS.ifNo X0.here hx rfl (hb hby das_1) rfl ((if0 _ _).trans (feq (by decide : ¬ ((1 : Int32) = (0 : Int32)))).1) ?_
    show Steps p.tables e below (s₁.setTop (mkF m 4 #[.val (.ref xas_0), .val (.int (1 : Int32)), .val (.long xas_2), .second] [])) _
    refine st1 _ ?_
    show Steps p.tables e below (T1.setTop (mkF m 7 #[.val (.ref xas_0), .val (.int (1 : Int32)), .val (.long xas_2), .second] [(.ref b1)])) _
    refine XS.dup X1.here hx rfl (hb hby das_7) rfl rfl ?_
    show Steps p.tables e below (T1.setTop (mkF m 8 #[.val (.ref xas_0), .val (.int (1 : Int32)), .val (.long xas_2), .second] [(.ref b1), (.ref b1)])) _
    refine XS.aloadN X1.here hx rfl (hb hby das_8) rfl rfl ?_
    show Steps p.tables e below (T1.setTop (mkF m 9 #[.val (.ref xas_0), .val (.int (1 : Int32)), .val (.long xas_2), .second] [(.ref xas_0), (.ref b1), (.ref b1)])) _
    refine st3 _ ?_
    show Steps p.tables e below (T3.setTop (mkF m 12 #[.val (.ref xas_0), .val (.int (1 : Int32)), .val (.long xas_2), .second] [(.long u_attempts), (.ref b1), (.ref b1)])) _
    refine XS.lconst X3.here hx rfl (hb hby das_12) ?_
    show Steps p.tables e below (T3.setTop (mkF m 13 #[.val (.ref xas_0), .val (.int (1 : Int32)), .val (.long xas_2), .second] [(.long (1 : Int64)), (.long u_attempts), (.ref b1), (.ref b1)])) _
    refine XS.ladd X3.here hx rfl (hb hby das_13) rfl ?_
    show Steps p.tables e below (T3.setTop (mkF m 14 #[.val (.ref xas_0), .val (.int (1 : Int32)), .val (.long xas_2), .second] [(.long (u_attempts + (1 : Int64))), (.ref b1), (.ref b1)])) _
    refine XS.aloadN X3.here hx rfl (hb hby das_14) rfl rfl ?_
    show Steps p.tables e below (T3.setTop (mkF m 15 #[.val (.ref xas_0), .val (.int (1 : Int32)), .val (.long xas_2), .second] [(.ref xas_0), (.long (u_attempts + (1 : Int64))), (.ref b1), (.ref b1)])) _
    refine st5 _ ?_
    show Steps p.tables e below (T5.setTop (mkF m 18 #[.val (.ref xas_0), .val (.int (1 : Int32)), .val (.long xas_2), .second] [(.long u_failures), (.long (u_attempts + (1 : Int64))), (.ref b1), (.ref b1)])) _
    refine XS.lconst X5.here hx rfl (hb hby das_18) ?_
    show Steps p.tables e below (T5.setTop (mkF m 19 #[.val (.ref xas_0), .val (.int (1 : Int32)), .val (.long xas_2), .second] [(.long (0 : Int64)), (.long u_failures), (.long (u_attempts + (1 : Int64))), (.ref b1), (.ref b1)])) _
    refine XS.lloadN X5.here hx rfl (hb hby das_19) rfl ?_
    exact kt
  obtain ⟨v6, _, ⟨T6, L6, k6, n6⟩, -, X6, ⟨Lc6, hQ6, l6, y6, z6⟩, st6⟩ := Jvm.LawKit.callS X5 hx (y := (⟨"java/lang/Long", "valueOf", "(J)Ljava/lang/Long;"⟩ : MethodName)) hown (mvT hZ (hw _ (List.mem_of_getElem? (i := 77) rfl))) (mvT hZ (hw _ (List.mem_of_getElem? (i := 1) rfl))) (mvT hZ (hw _ (List.mem_of_getElem? (i := 2) rfl))) (mvT hZ (hw _ (List.mem_of_getElem? (i := 3) rfl))) (by decide) (backOf (W := 8) (rm1 l Z a0 hw [] xas_2 cA cl h1 n0 Zs1 Ol1 JC SC) hZ (hw _ (List.mem_of_getElem? (i := 3) rfl)) (hw _ (List.mem_of_getElem? (i := 2) rfl)) (by decide) (by decide)) (g := (mkF m 20 #[.val (.ref xas_0), .val (.int (1 : Int32)), .val (.long xas_2), .second] [(.long xas_2), (.long (0 : Int64)), (.long u_failures), (.long (u_attempts + (1 : Int64))), (.ref b1), (.ref b1)])) rfl (by rw [hml]; rfl) (argsL := [(.long xas_2)]) (rest := [(.long (0 : Int64)), (.long u_failures), (.long (u_attempts + (1 : Int64))), (.ref b1), (.ref b1)]) (lenOf pd_3 rfl) rfl (by show 2 * 0 + _ ≤ _; exact Nat.le_of_eq rfl) (hb hby das_20) (fun _ _ => ⟨rfl, e5, (by decide : 1 + 1 ≤ _), (by decide : 4 + 1 ≤ _)⟩)
  dsimp only [Pt.U, Pt.locs, Pt.cells, Pt.slots] at X6 l6 y6 z6 st6 hQ6
  subst l6 y6 z6
  obtain ⟨r6, rfl, N6q, K6, Ex6, Fq6⟩ := hQ6
  have N6 := Fr.app N0 N6q
  have Zs6 : n0 ≤ T6.heap.size := Nat.le_trans Zs1 K6.1
  have KC6 : Keep h0 T6.heap [] := (KC1).trans K6 all0
  have Ol6 : Old Z n0 T6.heap := (Ol1).keep K6 all0
  have c9 := (Exa.keep A1 K6)
  have c10 := (Fld.keep F_attempts_b1 K6 nin0)
  have c11 := (Fld.keep F_failures_b1 K6 nin0)
  have c12 := (Fld.keep F_consecutiveFailures_b1 K6 nin0)
  have c13 := (Fld.keep F_lastSuccessAt_b1 K6 nin0)
  have sg14 : ∀ t, Steps p.tables e below (T6.setTop (mkF m 23 #[.val (.ref xas_0), .val (.int (1 : Int32)), .val (.long xas_2), .second] [(.ref r6), (.long (0 : Int64)), (.long u_failures), (.long (u_attempts + (1 : Int64))), (.ref b1), (.ref b1)])) t → Steps p.tables e below (T5.setTop (mkF m 20 #[.val (.ref xas_0), .val (.int (1 : Int32)), .val (.long xas_2), .second] [(.long xas_2), (.long (0 : Int64)), (.long u_failures), (.long (u_attempts + (1 : Int64))), (.ref b1), (.ref b1)])) t := fun t kt => by
    show Steps p.tables e below (T5.setTop (mkF m 20 #[.val (.ref xas_0), .val (.int (1 : Int32)), .val (.long xas_2), .second] [(.long xas_2), (.long (0 : Int64)), (.long u_failures), (.long (u_attempts + (1 : Int64))), (.ref b1), (.ref b1)])) _
    refine st6 _ ?_
    exact kt
  obtain ⟨v8, _, ⟨T8, L8, k8, n8⟩, -, X8, ⟨Lc8, hQ8, l8, y8, z8⟩, st8⟩ := X6.specialBack hx (y := (⟨"com/example/redeliver/redeliver/EndpointCounters", "<init>", "(JJJLjava/lang/Long;)V"⟩ : MethodName)) rfl hown (mvT hZ (hw _ (List.mem_of_getElem? (i := 36) rfl))) (mvT hZ (hw _ (List.mem_of_getElem? (i := 12) rfl))) (mvT hZ (hw _ (List.mem_of_getElem? (i := 13) rfl))) (by decide) (backOf (W := 1) (rmcr l Z a0 hw [] b1 (u_attempts + (1 : Int64)) u_failures (0 : Int64) r6 T6.heap n0 Zs6 c9 g_b1 c10 c11 c12 c13) hZ (hw _ (List.mem_of_getElem? (i := 13) rfl)) (hw _ (List.mem_of_getElem? (i := 10) rfl)) (by decide) (by decide)) (g := (mkF m 23 #[.val (.ref xas_0), .val (.int (1 : Int32)), .val (.long xas_2), .second] [(.ref r6), (.long (0 : Int64)), (.long u_failures), (.long (u_attempts + (1 : Int64))), (.ref b1), (.ref b1)])) rfl (by rw [hml]; rfl) (Steps.refl _) (a := b1) (argsL := [(.long (u_attempts + (1 : Int64))), (.long u_failures), (.long (0 : Int64)), (.ref r6)]) (rest := [(.ref b1)]) (lenOf pd_2 rfl) rfl (by show 2 * 0 + _ ≤ _; exact Nat.le_of_eq rfl) (hb hby das_23) (fun _ _ => ⟨rfl, rfl, (by decide : 2 + 0 ≤ _), (by decide : 5 + 0 ≤ _)⟩)
  dsimp only [Pt.U, Pt.locs, Pt.cells, Pt.slots] at X8 l8 y8 z8 st8 hQ8
  subst l8 y8 z8
  obtain ⟨rfl, N8q, K8, Ex8, Fq8_attempts, Fq8_failures, Fq8_consecutiveFailures, Fq8_lastSuccessAt⟩ := hQ8
  have N8 := Fr.app N6 N8q
  have Zs8 : n0 ≤ T8.heap.size := Nat.le_trans Zs6 K8.1
  have KC8 : Keep h0 T8.heap [] := (KC6).trans K8 (allS (Or.inr sz_b1) all0)
  have Ol8 : Old Z n0 T8.heap := (Ol6).keep K8 (allS g_b1 all0)
  have c15 := (Exa.keep Ex6 K8)
  have ne_r6_b1 := ne_exa c15 Ex8 (by decide)
  have c16 := (Fld.keep Fq6 K8 (ninS ne_r6_b1 nin0))
  obtain ⟨fs, hr, hrun, hended, hW, hsame⟩ := X8.leave (v := some (.ref b1)) (fun h => by rw [Bd.returns] at h; cases h)
  refine ⟨_, _, pre0 _ (sg7 _ (sg14 _ ?_)), hrun, hended, _, _, rfl, ?_, ⟨_, rfl⟩, hW, hsame.mono (by decide) (by decide)⟩
  · show Steps p.tables e below (T6.setTop (mkF m 23 #[.val (.ref xas_0), .val (.int (1 : Int32)), .val (.long xas_2), .second] [(.ref r6), (.long (0 : Int64)), (.long u_failures), (.long (u_attempts + (1 : Int64))), (.ref b1), (.ref b1)])) _
    refine st8.trans ?_
    show Steps p.tables e below (T8.setTop (mkF m 26 #[.val (.ref xas_0), .val (.int (1 : Int32)), .val (.long xas_2), .second] [(.ref b1)])) _
    exact retOut X8 hx Bd.returns rfl (Or.inr (Or.inr (Or.inr (Or.inr ⟨rfl, rfl, rfl⟩)))) (hb hby das_26) hr
  · show Qas Z xas_0 xas_2 u_attempts u_failures u_consecutiveFailures u_lastSuccessAt cA cl h0 n0 _ T8.heap _
    exact ⟨b1, r6, rfl, N8, KC8, Ex8, c15, Fq8_attempts, Fq8_failures, Fq8_consecutiveFailures, Fq8_lastSuccessAt, c16⟩
theorem dat_0 : decode prog_3_method_2_code 0 = .ok (.iload_n 1, 1) := by decide +kernel
theorem dat_1 : decode prog_3_method_2_code 1 = .ok (.ifCond .eq 26, 3) := by decide +kernel
theorem dat_4 : decode prog_3_method_2_code 4 = .ok (.new 8, 3) := by decide +kernel
theorem dat_7 : decode prog_3_method_2_code 7 = .ok (.dup, 1) := by decide +kernel
theorem dat_8 : decode prog_3_method_2_code 8 = .ok (.aload_n 0, 1) := by decide +kernel
theorem dat_9 : decode prog_3_method_2_code 9 = .ok (.getfield 7, 3) := by decide +kernel
theorem dat_12 : decode prog_3_method_2_code 12 = .ok (.lconst 1, 1) := by decide +kernel
theorem dat_13 : decode prog_3_method_2_code 13 = .ok (.ladd, 1) := by decide +kernel
theorem dat_14 : decode prog_3_method_2_code 14 = .ok (.aload_n 0, 1) := by decide +kernel
theorem dat_15 : decode prog_3_method_2_code 15 = .ok (.getfield 13, 3) := by decide +kernel
theorem dat_18 : decode prog_3_method_2_code 18 = .ok (.lconst 0, 1) := by decide +kernel
theorem dat_19 : decode prog_3_method_2_code 19 = .ok (.lload_n 2, 1) := by decide +kernel
theorem dat_20 : decode prog_3_method_2_code 20 = .ok (.invokestatic 23, 3) := by decide +kernel
theorem dat_23 : decode prog_3_method_2_code 23 = .ok (.invokespecial 29, 3) := by decide +kernel
theorem dat_26 : decode prog_3_method_2_code 26 = .ok (.areturn, 1) := by decide +kernel
theorem ef_at (m : MethodId) (xat_0 : Addr) (xat_2 : Int64) : entryFrame m #[(.ref xat_0), (.int (1 : Int32)), (.long xat_2)] 4 = mkF m 0 #[.val (.ref xat_0), .val (.int (1 : Int32)), .val (.long xat_2), .second] [] := by first | (simp [entryFrame, mkF, argsToLocals, Value.category]; done) | rfl
def Qat (Z : State) (xat_0 : Addr) (xat_2 : Int64) (u_attempts : Int64) (u_failures : Int64) (u_consecutiveFailures : Int64) (cA : Addr) (cl : Cell) (h0 : Heap) (n0 : Nat) (v : Option Value) (h : Heap) (L : List Loc) : Prop := ∃ ro0 ro1 : Addr, v = some (.ref ro0) ∧ Fr n0 L ∧ Keep h0 h [] ∧ Exa Z h ro0 "com/example/redeliver/redeliver/EndpointCounters" ∧ Exa Z h ro1 "java/lang/Long" ∧ Fld Z h ro0 "com/example/redeliver/redeliver/EndpointCounters" "attempts" "J" (.long (u_attempts + (1 : Int64))) ∧ Fld Z h ro0 "com/example/redeliver/redeliver/EndpointCounters" "failures" "J" (.long u_failures) ∧ Fld Z h ro0 "com/example/redeliver/redeliver/EndpointCounters" "consecutiveFailures" "J" (.long (0 : Int64)) ∧ Fld Z h ro0 "com/example/redeliver/redeliver/EndpointCounters" "lastSuccessAt" "Ljava/lang/Long;" (.ref ro1) ∧ Fld Z h ro1 "java/lang/Long" "value" "J" (.long xat_2)
set_option maxRecDepth 65536 in
set_option maxHeartbeats 40000000 in
theorem rmat (l : Launch) (Z : State) (a0 : Array Value) (hw : ∀ d ∈ tables_1, d.before a0 Z = true) (ws : List Jvm.Cond) (xat_0 : Addr) (xat_2 : Int64) (u_attempts : Int64) (u_failures : Int64) (u_consecutiveFailures : Int64) (cA : Addr) (cl : Cell) (h0 : Heap) (n0 : Nat) (Z0 : n0 ≤ h0.size) (Exa0 : Exa Z h0 xat_0 "com/example/redeliver/redeliver/EndpointCounters") (Ft_attempts : Fld Z h0 xat_0 "com/example/redeliver/redeliver/EndpointCounters" "attempts" "J" (.long u_attempts)) (Ft_failures : Fld Z h0 xat_0 "com/example/redeliver/redeliver/EndpointCounters" "failures" "J" (.long u_failures)) (Ft_consecutiveFailures : Fld Z h0 xat_0 "com/example/redeliver/redeliver/EndpointCounters" "consecutiveFailures" "J" (.long u_consecutiveFailures)) (Ft_lastSuccessAt : Fld Z h0 xat_0 "com/example/redeliver/redeliver/EndpointCounters" "lastSuccessAt" "Ljava/lang/Long;" .null) (O0 : Old Z n0 h0) (JC : Bxs Z cA cl "java/lang/Long" "J" 256 (fun j => .long (j - 128).toInt64)) (SC : Sta Z Z.heap "java/lang/Long$LongCache" "cache" "[Ljava/lang/Long;" (.ref cA)) :
    MetFree l (⟨"com/example/redeliver/redeliver/EndpointCounters", "after", "(ZJ)Lcom/example/redeliver/redeliver/EndpointCounters;"⟩ : MethodName) (head1 (Jvm.Cond.code (⟨"com/example/redeliver/redeliver/EndpointCounters", "after", "(ZJ)Lcom/example/redeliver/redeliver/EndpointCounters;"⟩ : MethodName) prog_3_method_2_code 4 (some (.object "com/example/redeliver/redeliver/EndpointCounters")) :: ws) ({ frames := 4, cells := 2, slots := 5, locals := 61 } : Room)) (fun a U => a = #[(.ref xat_0), (.int (1 : Int32)), (.long xat_2)] ∧ Z.Warmed39 U.vm ∧ U.heap = h0) (fun _ _ _ _ _ => True) (fun _ U o U' => ∃ v L, o = .returned v ∧ Qat Z xat_0 xat_2 u_attempts u_failures u_consecutiveFailures cA cl h0 n0 v U'.heap L ∧ FrameEnd U o U' L ({ frames := 4, cells := 2, slots := 5, locals := 61 } : Room).cells ({ frames := 4, cells := 2, slots := 5, locals := 61 } : Room).slots) := by
  refine MetFree.of_bodySF (plainFor_of_name pn_3) hisR ?_
  intro p e s m args below meth c s₁ Bd hml0 hP hK
  obtain ⟨rfl, hZ, hh⟩ := hP
  have hx := Bd.exec
  have hby := Bd.bytes
  have hml : c.maxLocals = 4 := hml0
  have hown : s.vm.findClass "com/example/redeliver/redeliver/EndpointCounters" = some m.cls := findClass_of_methodNamed Bd.named
  have hnm := (name_of_methodNamed Bd.named Bd.method).1
  have X0 : Stand p l e ({ frames := 4, cells := 2, slots := 5, locals := 61 } : Room) s m #[(.ref xat_0), (.int (1 : Int32)), (.long xat_2)] below meth c s₁ [] 0 0 := Stand.of_body Bd
  have e0 : s₁.heap = h0 := by rw [← hh, Bd.state]; rfl
  have N0 := Fr.nil n0
  have pre0 : ∀ t, Steps p.tables e below (s₁.setTop (mkF m 0 #[.val (.ref xat_0), .val (.int (1 : Int32)), .val (.long xat_2), .second] [])) t → Steps p.tables e below (s₁.setTop (entryFrame m #[(.ref xat_0), (.int (1 : Int32)), (.long xat_2)] 4)) t := fun t k => castTop (ef_at m xat_0 xat_2) k
  obtain ⟨T1, h1, X1, e1, E1, A1, D1, -, st1⟩ := newO X0 hx hZ hown (hw _ (List.mem_of_getElem? (i := 35) rfl)) (hw _ (List.mem_of_getElem? (i := 9) rfl)) (hw _ (List.mem_of_getElem? (i := 10) rfl)) e0 (g := (mkF m 4 #[.val (.ref xat_0), .val (.int (1 : Int32)), .val (.long xat_2), .second] [])) rfl (hb hby dat_4) (by decide) (by decide)
  obtain ⟨b1, g1⟩ : ∃ z, z = h0.size := ⟨_, rfl⟩
  rw [← g1] at A1 D1 st1
  have g_b1 : n0 ≤ b1 := Nat.le_trans Z0 (Nat.le_of_eq g1.symm)
  have sz_b1 : h0.size ≤ b1 := Nat.le_trans (Keep.refl h0 []).1 (Nat.le_of_eq g1.symm)
  have ne_xat_0_b1 : xat_0 ≠ b1 := Nat.ne_of_lt (Nat.lt_of_lt_of_le Exa0.lt (Nat.le_of_eq g1.symm))
  have Zs1 : n0 ≤ h1.size := Nat.le_trans Z0 E1.1
  have KC1 : Keep h0 h1 [] := (Keep.refl h0 []).ext E1
  have Ol1 : Old Z n0 h1 := (O0).ext E1
  have F_attempts_b1 : Fld Z h1 b1 "com/example/redeliver/redeliver/EndpointCounters" "attempts" "J" (.long (0 : Int64)) := D1 (Or.inr (hw _ (List.mem_of_getElem? (i := 23) rfl))) (ty := .long) (by decide)
  have F_failures_b1 : Fld Z h1 b1 "com/example/redeliver/redeliver/EndpointCounters" "failures" "J" (.long (0 : Int64)) := D1 (Or.inr (hw _ (List.mem_of_getElem? (i := 25) rfl))) (ty := .long) (by decide)
  have F_consecutiveFailures_b1 : Fld Z h1 b1 "com/example/redeliver/redeliver/EndpointCounters" "consecutiveFailures" "J" (.long (0 : Int64)) := D1 (Or.inr (hw _ (List.mem_of_getElem? (i := 27) rfl))) (ty := .long) (by decide)
  have F_lastSuccessAt_b1 : Fld Z h1 b1 "com/example/redeliver/redeliver/EndpointCounters" "lastSuccessAt" "Ljava/lang/Long;" .null := D1 (Or.inr (hw _ (List.mem_of_getElem? (i := 29) rfl))) (ty := (.object "java/lang/Long")) (by decide)
  have c2 := (Fld.ext E1 Ft_attempts)
  obtain ⟨T3, X3, e3, st3⟩ := getF X1 hx hZ hown (host := "") (Or.inl (hw _ (List.mem_of_getElem? (i := 22) rfl))) Via.refl e1 c2 (g := (mkF m 9 #[.val (.ref xat_0), .val (.int (1 : Int32)), .val (.long xat_2), .second] [(.ref xat_0), (.ref b1), (.ref b1)])) rfl rfl (hb hby dat_9)
  have c4 := (Fld.ext E1 Ft_failures)
  obtain ⟨T5, X5, e5, st5⟩ := getF X3 hx hZ hown (host := "") (Or.inl (hw _ (List.mem_of_getElem? (i := 24) rfl))) Via.refl e3 c4 (g := (mkF m 15 #[.val (.ref xat_0), .val (.int (1 : Int32)), .val (.long xat_2), .second] [(.ref xat_0), (.long (u_attempts + (1 : Int64))), (.ref b1), (.ref b1)])) rfl rfl (hb hby dat_15)
  have sg7 : ∀ t, Steps p.tables e below (T5.setTop (mkF m 20 #[.val (.ref xat_0), .val (.int (1 : Int32)), .val (.long xat_2), .second] [(.long xat_2), (.long (0 : Int64)), (.long u_failures), (.long (u_attempts + (1 : Int64))), (.ref b1), (.ref b1)])) t → Steps p.tables e below (s₁.setTop (mkF m 0 #[.val (.ref xat_0), .val (.int (1 : Int32)), .val (.long xat_2), .second] [])) t := fun t kt => by
    show Steps p.tables e below (s₁.setTop (mkF m 0 #[.val (.ref xat_0), .val (.int (1 : Int32)), .val (.long xat_2), .second] [])) _
    refine XS.iloadN X0.here hx rfl (hb hby dat_0) rfl ?_
    show Steps p.tables e below (s₁.setTop (mkF m 1 #[.val (.ref xat_0), .val (.int (1 : Int32)), .val (.long xat_2), .second] [(.int (1 : Int32))])) _
    refine XS.ifNo X0.here hx rfl (hb hby dat_1) rfl ((if0 _ _).trans (feq (by decide : ¬ ((1 : Int32) = (0 : Int32)))).1) ?_
    show Steps p.tables e below (s₁.setTop (mkF m 4 #[.val (.ref xat_0), .val (.int (1 : Int32)), .val (.long xat_2), .second] [])) _
    refine st1 _ ?_
    show Steps p.tables e below (T1.setTop (mkF m 7 #[.val (.ref xat_0), .val (.int (1 : Int32)), .val (.long xat_2), .second] [(.ref b1)])) _
    refine XS.dup X1.here hx rfl (hb hby dat_7) rfl rfl ?_
    show Steps p.tables e below (T1.setTop (mkF m 8 #[.val (.ref xat_0), .val (.int (1 : Int32)), .val (.long xat_2), .second] [(.ref b1), (.ref b1)])) _
    refine XS.aloadN X1.here hx rfl (hb hby dat_8) rfl rfl ?_
    show Steps p.tables e below (T1.setTop (mkF m 9 #[.val (.ref xat_0), .val (.int (1 : Int32)), .val (.long xat_2), .second] [(.ref xat_0), (.ref b1), (.ref b1)])) _
    refine st3 _ ?_
    show Steps p.tables e below (T3.setTop (mkF m 12 #[.val (.ref xat_0), .val (.int (1 : Int32)), .val (.long xat_2), .second] [(.long u_attempts), (.ref b1), (.ref b1)])) _
    refine XS.lconst X3.here hx rfl (hb hby dat_12) ?_
    show Steps p.tables e below (T3.setTop (mkF m 13 #[.val (.ref xat_0), .val (.int (1 : Int32)), .val (.long xat_2), .second] [(.long (1 : Int64)), (.long u_attempts), (.ref b1), (.ref b1)])) _
    refine XS.ladd X3.here hx rfl (hb hby dat_13) rfl ?_
    show Steps p.tables e below (T3.setTop (mkF m 14 #[.val (.ref xat_0), .val (.int (1 : Int32)), .val (.long xat_2), .second] [(.long (u_attempts + (1 : Int64))), (.ref b1), (.ref b1)])) _
    refine XS.aloadN X3.here hx rfl (hb hby dat_14) rfl rfl ?_
    show Steps p.tables e below (T3.setTop (mkF m 15 #[.val (.ref xat_0), .val (.int (1 : Int32)), .val (.long xat_2), .second] [(.ref xat_0), (.long (u_attempts + (1 : Int64))), (.ref b1), (.ref b1)])) _
    refine st5 _ ?_
    show Steps p.tables e below (T5.setTop (mkF m 18 #[.val (.ref xat_0), .val (.int (1 : Int32)), .val (.long xat_2), .second] [(.long u_failures), (.long (u_attempts + (1 : Int64))), (.ref b1), (.ref b1)])) _
    refine XS.lconst X5.here hx rfl (hb hby dat_18) ?_
    show Steps p.tables e below (T5.setTop (mkF m 19 #[.val (.ref xat_0), .val (.int (1 : Int32)), .val (.long xat_2), .second] [(.long (0 : Int64)), (.long u_failures), (.long (u_attempts + (1 : Int64))), (.ref b1), (.ref b1)])) _
    refine XS.lloadN X5.here hx rfl (hb hby dat_19) rfl ?_
    exact kt
  obtain ⟨v6, _, ⟨T6, L6, k6, n6⟩, -, X6, ⟨Lc6, hQ6, l6, y6, z6⟩, st6⟩ := Jvm.LawKit.callS X5 hx (y := (⟨"java/lang/Long", "valueOf", "(J)Ljava/lang/Long;"⟩ : MethodName)) hown (mvT hZ (hw _ (List.mem_of_getElem? (i := 77) rfl))) (mvT hZ (hw _ (List.mem_of_getElem? (i := 1) rfl))) (mvT hZ (hw _ (List.mem_of_getElem? (i := 2) rfl))) (mvT hZ (hw _ (List.mem_of_getElem? (i := 3) rfl))) (by decide) (backOf (W := 8) (rm1 l Z a0 hw [] xat_2 cA cl h1 n0 Zs1 Ol1 JC SC) hZ (hw _ (List.mem_of_getElem? (i := 3) rfl)) (hw _ (List.mem_of_getElem? (i := 2) rfl)) (by decide) (by decide)) (g := (mkF m 20 #[.val (.ref xat_0), .val (.int (1 : Int32)), .val (.long xat_2), .second] [(.long xat_2), (.long (0 : Int64)), (.long u_failures), (.long (u_attempts + (1 : Int64))), (.ref b1), (.ref b1)])) rfl (by rw [hml]; rfl) (argsL := [(.long xat_2)]) (rest := [(.long (0 : Int64)), (.long u_failures), (.long (u_attempts + (1 : Int64))), (.ref b1), (.ref b1)]) (lenOf pd_3 rfl) rfl (by show 2 * 0 + _ ≤ _; exact Nat.le_of_eq rfl) (hb hby dat_20) (fun _ _ => ⟨rfl, e5, (by decide : 1 + 1 ≤ _), (by decide : 4 + 1 ≤ _)⟩)
  dsimp only [Pt.U, Pt.locs, Pt.cells, Pt.slots] at X6 l6 y6 z6 st6 hQ6
  subst l6 y6 z6
  obtain ⟨r6, rfl, N6q, K6, Ex6, Fq6⟩ := hQ6
  have N6 := Fr.app N0 N6q
  have Zs6 : n0 ≤ T6.heap.size := Nat.le_trans Zs1 K6.1
  have KC6 : Keep h0 T6.heap [] := (KC1).trans K6 all0
  have Ol6 : Old Z n0 T6.heap := (Ol1).keep K6 all0
  have c9 := (Exa.keep A1 K6)
  have c10 := (Fld.keep F_attempts_b1 K6 nin0)
  have c11 := (Fld.keep F_failures_b1 K6 nin0)
  have c12 := (Fld.keep F_consecutiveFailures_b1 K6 nin0)
  have c13 := (Fld.keep F_lastSuccessAt_b1 K6 nin0)
  have sg14 : ∀ t, Steps p.tables e below (T6.setTop (mkF m 23 #[.val (.ref xat_0), .val (.int (1 : Int32)), .val (.long xat_2), .second] [(.ref r6), (.long (0 : Int64)), (.long u_failures), (.long (u_attempts + (1 : Int64))), (.ref b1), (.ref b1)])) t → Steps p.tables e below (T5.setTop (mkF m 20 #[.val (.ref xat_0), .val (.int (1 : Int32)), .val (.long xat_2), .second] [(.long xat_2), (.long (0 : Int64)), (.long u_failures), (.long (u_attempts + (1 : Int64))), (.ref b1), (.ref b1)])) t := fun t kt => by
    show Steps p.tables e below (T5.setTop (mkF m 20 #[.val (.ref xat_0), .val (.int (1 : Int32)), .val (.long xat_2), .second] [(.long xat_2), (.long (0 : Int64)), (.long u_failures), (.long (u_attempts + (1 : Int64))), (.ref b1), (.ref b1)])) _
    refine st6 _ ?_
    exact kt
  obtain ⟨v8, _, ⟨T8, L8, k8, n8⟩, -, X8, ⟨Lc8, hQ8, l8, y8, z8⟩, st8⟩ := X6.specialBack hx (y := (⟨"com/example/redeliver/redeliver/EndpointCounters", "<init>", "(JJJLjava/lang/Long;)V"⟩ : MethodName)) rfl hown (mvT hZ (hw _ (List.mem_of_getElem? (i := 36) rfl))) (mvT hZ (hw _ (List.mem_of_getElem? (i := 12) rfl))) (mvT hZ (hw _ (List.mem_of_getElem? (i := 13) rfl))) (by decide) (backOf (W := 1) (rmcr l Z a0 hw [] b1 (u_attempts + (1 : Int64)) u_failures (0 : Int64) r6 T6.heap n0 Zs6 c9 g_b1 c10 c11 c12 c13) hZ (hw _ (List.mem_of_getElem? (i := 13) rfl)) (hw _ (List.mem_of_getElem? (i := 10) rfl)) (by decide) (by decide)) (g := (mkF m 23 #[.val (.ref xat_0), .val (.int (1 : Int32)), .val (.long xat_2), .second] [(.ref r6), (.long (0 : Int64)), (.long u_failures), (.long (u_attempts + (1 : Int64))), (.ref b1), (.ref b1)])) rfl (by rw [hml]; rfl) (Steps.refl _) (a := b1) (argsL := [(.long (u_attempts + (1 : Int64))), (.long u_failures), (.long (0 : Int64)), (.ref r6)]) (rest := [(.ref b1)]) (lenOf pd_2 rfl) rfl (by show 2 * 0 + _ ≤ _; exact Nat.le_of_eq rfl) (hb hby dat_23) (fun _ _ => ⟨rfl, rfl, (by decide : 2 + 0 ≤ _), (by decide : 5 + 0 ≤ _)⟩)
  dsimp only [Pt.U, Pt.locs, Pt.cells, Pt.slots] at X8 l8 y8 z8 st8 hQ8
  subst l8 y8 z8
  obtain ⟨rfl, N8q, K8, Ex8, Fq8_attempts, Fq8_failures, Fq8_consecutiveFailures, Fq8_lastSuccessAt⟩ := hQ8
  have N8 := Fr.app N6 N8q
  have Zs8 : n0 ≤ T8.heap.size := Nat.le_trans Zs6 K8.1
  have KC8 : Keep h0 T8.heap [] := (KC6).trans K8 (allS (Or.inr sz_b1) all0)
  have Ol8 : Old Z n0 T8.heap := (Ol6).keep K8 (allS g_b1 all0)
  have c15 := (Exa.keep Ex6 K8)
  have ne_r6_b1 := ne_exa c15 Ex8 (by decide)
  have c16 := (Fld.keep Fq6 K8 (ninS ne_r6_b1 nin0))
  obtain ⟨fs, hr, hrun, hended, hW, hsame⟩ := X8.leave (v := some (.ref b1)) (fun h => by rw [Bd.returns] at h; cases h)
  refine ⟨_, _, pre0 _ (sg7 _ (sg14 _ ?_)), hrun, hended, _, _, rfl, ?_, ⟨_, rfl⟩, hW, hsame.mono (by decide) (by decide)⟩
  · show Steps p.tables e below (T6.setTop (mkF m 23 #[.val (.ref xat_0), .val (.int (1 : Int32)), .val (.long xat_2), .second] [(.ref r6), (.long (0 : Int64)), (.long u_failures), (.long (u_attempts + (1 : Int64))), (.ref b1), (.ref b1)])) _
    refine st8.trans ?_
    show Steps p.tables e below (T8.setTop (mkF m 26 #[.val (.ref xat_0), .val (.int (1 : Int32)), .val (.long xat_2), .second] [(.ref b1)])) _
    exact retOut X8 hx Bd.returns rfl (Or.inr (Or.inr (Or.inr (Or.inr ⟨rfl, rfl, rfl⟩)))) (hb hby dat_26) hr
  · show Qat Z xat_0 xat_2 u_attempts u_failures u_consecutiveFailures cA cl h0 n0 _ T8.heap _
    exact ⟨b1, r6, rfl, N8, KC8, Ex8, c15, Fq8_attempts, Fq8_failures, Fq8_consecutiveFailures, Fq8_lastSuccessAt, c16⟩
theorem pd_4 : parseMethodDescriptor "(ZJ)Lcom/example/redeliver/redeliver/EndpointCounters;" = some ⟨[.boolean, .long], some (.object "com/example/redeliver/redeliver/EndpointCounters")⟩ := by decide +kernel
theorem pd_5 : parseMethodDescriptor "()Ljava/lang/Long;" = some ⟨[], some (.object "java/lang/Long")⟩ := by decide +kernel
theorem pd_6 : parseMethodDescriptor "()J" = some ⟨[], some .long⟩ := by decide +kernel
theorem pn_4 : plainName "com/example/redeliver/redeliver/EndpointCountersAfterPinLaw" = true := by first | (simp [plainName, overriddenIn]; done) | decide +kernel
theorem ef_0 (m : MethodId) (x0_0 : Int64) (x0_1 : Int64) (x0_2 : Int64) (x0_3 : Int64) (x0_4 : Int64) (x0_5 : Int32) : entryFrame m #[(.long x0_0), (.long x0_1), (.long x0_2), (.long x0_3), (.long x0_4), (.int x0_5)] maxLocals = mkF m 0 #[.val (.long x0_0), .second, .val (.long x0_1), .second, .val (.long x0_2), .second, .val (.long x0_3), .second, .val (.long x0_4), .second, .val (.int x0_5), .unset, .unset, .unset, .unset, .unset, .unset, .unset] [] := by first | (simp [entryFrame, mkF, argsToLocals, Value.category, maxLocals]; done) | rfl
def Q0 (Z : State) (x0_0 : Int64) (x0_1 : Int64) (x0_2 : Int64) (x0_3 : Int64) (x0_4 : Int64) (x0_5 : Int32) (cA : Addr) (cl : Cell) (h0 : Heap) (n0 : Nat) (v : Option Value) (h : Heap) (L : List Loc) : Prop := v = some (.int 1) ∧ Fr n0 L
set_option maxRecDepth 65536 in
set_option maxHeartbeats 40000000 in
theorem rm0 (l : Launch) (Z : State) (a0 : Array Value) (hw : ∀ d ∈ tables_1, d.before a0 Z = true) (ws : List Jvm.Cond) (x0_0 : Int64) (x0_1 : Int64) (x0_2 : Int64) (x0_3 : Int64) (x0_4 : Int64) (x0_5 : Int32) (cA : Addr) (cl : Cell) (h0 : Heap) (n0 : Nat) (Z0 : n0 ≤ h0.size) (O0 : Old Z n0 h0) (JC : Bxs Z cA cl "java/lang/Long" "J" 256 (fun j => .long (j - 128).toInt64)) (SC : Sta Z Z.heap "java/lang/Long$LongCache" "cache" "[Ljava/lang/Long;" (.ref cA)) :
    MetFree l x (head1 (Jvm.Cond.code x code maxLocals ret :: ws) room_1) (fun a U => a = #[(.long x0_0), (.long x0_1), (.long x0_2), (.long x0_3), (.long x0_4), (.int x0_5)] ∧ Z.Warmed39 U.vm ∧ U.heap = h0) (fun _ _ _ _ _ => True) (fun _ U o U' => ∃ v L, o = .returned v ∧ Q0 Z x0_0 x0_1 x0_2 x0_3 x0_4 x0_5 cA cl h0 n0 v U'.heap L ∧ FrameEnd U o U' L room_1.cells room_1.slots) := by
  refine MetFree.of_bodySF (plainFor_of_name pn_4) hisR ?_
  intro p e s m args below meth c s₁ Bd hml0 hP hK
  obtain ⟨rfl, hZ, hh⟩ := hP
  have hx := Bd.exec
  have hby := Bd.bytes
  have hml : c.maxLocals = 18 := hml0
  have hown : s.vm.findClass "com/example/redeliver/redeliver/EndpointCountersAfterPinLaw" = some m.cls := findClass_of_methodNamed Bd.named
  have hnm := (name_of_methodNamed Bd.named Bd.method).1
  have X0 : Stand p l e room_1 s m #[(.long x0_0), (.long x0_1), (.long x0_2), (.long x0_3), (.long x0_4), (.int x0_5)] below meth c s₁ [] 0 0 := Stand.of_body Bd
  have e0 : s₁.heap = h0 := by rw [← hh, Bd.state]; rfl
  have N0 := Fr.nil n0
  have pre0 : ∀ t, Steps p.tables e below (s₁.setTop (mkF m 0 #[.val (.long x0_0), .second, .val (.long x0_1), .second, .val (.long x0_2), .second, .val (.long x0_3), .second, .val (.long x0_4), .second, .val (.int x0_5), .unset, .unset, .unset, .unset, .unset, .unset, .unset] [])) t → Steps p.tables e below (s₁.setTop (entryFrame m #[(.long x0_0), (.long x0_1), (.long x0_2), (.long x0_3), (.long x0_4), (.int x0_5)] maxLocals)) t := fun t k => castTop (ef_0 m x0_0 x0_1 x0_2 x0_3 x0_4 x0_5) k
  have sg1 : ∀ t, Steps p.tables e below (s₁.setTop (mkF m 4 #[.val (.long x0_0), .second, .val (.long x0_1), .second, .val (.long x0_2), .second, .val (.long x0_3), .second, .val (.long x0_4), .second, .val (.int x0_5), .unset, .unset, .unset, .unset, .unset, .unset, .unset] [(.int (x0_5 &&& (1 : Int32)))])) t → Steps p.tables e below (s₁.setTop (mkF m 0 #[.val (.long x0_0), .second, .val (.long x0_1), .second, .val (.long x0_2), .second, .val (.long x0_3), .second, .val (.long x0_4), .second, .val (.int x0_5), .unset, .unset, .unset, .unset, .unset, .unset, .unset] [])) t := fun t kt => by
    show Steps p.tables e below (s₁.setTop (mkF m 0 #[.val (.long x0_0), .second, .val (.long x0_1), .second, .val (.long x0_2), .second, .val (.long x0_3), .second, .val (.long x0_4), .second, .val (.int x0_5), .unset, .unset, .unset, .unset, .unset, .unset, .unset] [])) _
    refine XS.iload X0.here hx rfl (hb hby at_0) rfl ?_
    show Steps p.tables e below (s₁.setTop (mkF m 2 #[.val (.long x0_0), .second, .val (.long x0_1), .second, .val (.long x0_2), .second, .val (.long x0_3), .second, .val (.long x0_4), .second, .val (.int x0_5), .unset, .unset, .unset, .unset, .unset, .unset, .unset] [(.int x0_5)])) _
    refine XS.iconst X0.here hx rfl (hb hby at_2) ?_
    show Steps p.tables e below (s₁.setTop (mkF m 3 #[.val (.long x0_0), .second, .val (.long x0_1), .second, .val (.long x0_2), .second, .val (.long x0_3), .second, .val (.long x0_4), .second, .val (.int x0_5), .unset, .unset, .unset, .unset, .unset, .unset, .unset] [(.int (1 : Int32)), (.int x0_5)])) _
    refine XS.iand X0.here hx rfl (hb hby at_3) rfl ?_
    exact kt
  by_cases hc4_2 : (x0_5 &&& (1 : Int32)) = (0 : Int32)
  · have sg3 : ∀ t, Steps p.tables e below (s₁.setTop (mkF m 18 #[.val (.long x0_0), .second, .val (.long x0_1), .second, .val (.long x0_2), .second, .val (.long x0_3), .second, .val (.long x0_4), .second, .val (.int x0_5), .val (.int (0 : Int32)), .unset, .unset, .unset, .unset, .unset, .unset] [(.int (x0_5 &&& (2 : Int32)))])) t → Steps p.tables e below (s₁.setTop (mkF m 4 #[.val (.long x0_0), .second, .val (.long x0_1), .second, .val (.long x0_2), .second, .val (.long x0_3), .second, .val (.long x0_4), .second, .val (.int x0_5), .unset, .unset, .unset, .unset, .unset, .unset, .unset] [(.int (x0_5 &&& (1 : Int32)))])) t := fun t kt => by
      show Steps p.tables e below (s₁.setTop (mkF m 4 #[.val (.long x0_0), .second, .val (.long x0_1), .second, .val (.long x0_2), .second, .val (.long x0_3), .second, .val (.long x0_4), .second, .val (.int x0_5), .unset, .unset, .unset, .unset, .unset, .unset, .unset] [(.int (x0_5 &&& (1 : Int32)))])) _
      refine XS.ifYes X0.here hx rfl (pc0 := 4) (pc' := 11) rfl (hb hby at_4) rfl ((if0 _ _).trans (teq hc4_2).1) (by decide) (by decide) ?_
      show Steps p.tables e below (s₁.setTop (mkF m 11 #[.val (.long x0_0), .second, .val (.long x0_1), .second, .val (.long x0_2), .second, .val (.long x0_3), .second, .val (.long x0_4), .second, .val (.int x0_5), .unset, .unset, .unset, .unset, .unset, .unset, .unset] [])) _
      refine XS.iconst X0.here hx rfl (hb hby at_11) ?_
      show Steps p.tables e below (s₁.setTop (mkF m 12 #[.val (.long x0_0), .second, .val (.long x0_1), .second, .val (.long x0_2), .second, .val (.long x0_3), .second, .val (.long x0_4), .second, .val (.int x0_5), .unset, .unset, .unset, .unset, .unset, .unset, .unset] [(.int (0 : Int32))])) _
      refine XS.istore X0.here hx rfl (hb hby at_12) rfl (l' := #[.val (.long x0_0), .second, .val (.long x0_1), .second, .val (.long x0_2), .second, .val (.long x0_3), .second, .val (.long x0_4), .second, .val (.int x0_5), .val (.int (0 : Int32)), .unset, .unset, .unset, .unset, .unset, .unset]) rfl ?_
      show Steps p.tables e below (s₁.setTop (mkF m 14 #[.val (.long x0_0), .second, .val (.long x0_1), .second, .val (.long x0_2), .second, .val (.long x0_3), .second, .val (.long x0_4), .second, .val (.int x0_5), .val (.int (0 : Int32)), .unset, .unset, .unset, .unset, .unset, .unset] [])) _
      refine XS.iload X0.here hx rfl (hb hby at_14) rfl ?_
      show Steps p.tables e below (s₁.setTop (mkF m 16 #[.val (.long x0_0), .second, .val (.long x0_1), .second, .val (.long x0_2), .second, .val (.long x0_3), .second, .val (.long x0_4), .second, .val (.int x0_5), .val (.int (0 : Int32)), .unset, .unset, .unset, .unset, .unset, .unset] [(.int x0_5)])) _
      refine XS.iconst X0.here hx rfl (hb hby at_16) ?_
      show Steps p.tables e below (s₁.setTop (mkF m 17 #[.val (.long x0_0), .second, .val (.long x0_1), .second, .val (.long x0_2), .second, .val (.long x0_3), .second, .val (.long x0_4), .second, .val (.int x0_5), .val (.int (0 : Int32)), .unset, .unset, .unset, .unset, .unset, .unset] [(.int (2 : Int32)), (.int x0_5)])) _
      refine XS.iand X0.here hx rfl (hb hby at_17) rfl ?_
      exact kt
    by_cases hc18_4 : (x0_5 &&& (2 : Int32)) = (0 : Int32)
    · obtain ⟨T5, h5, X5, e5, E5, A5, D5, -, st5⟩ := newO X0 hx hZ hown (hw _ (List.mem_of_getElem? (i := 8) rfl)) (hw _ (List.mem_of_getElem? (i := 9) rfl)) (hw _ (List.mem_of_getElem? (i := 10) rfl)) e0 (g := (mkF m 44 #[.val (.long x0_0), .second, .val (.long x0_1), .second, .val (.long x0_2), .second, .val (.long x0_3), .second, .val (.long x0_4), .second, .val (.int x0_5), .val (.int (0 : Int32)), .val (.int (0 : Int32)), .val .null, .unset, .unset, .unset, .unset] [])) rfl (hb hby at_44) (by decide) (by decide)
      obtain ⟨b5, g5⟩ : ∃ z, z = h0.size := ⟨_, rfl⟩
      rw [← g5] at A5 D5 st5
      have g_b5 : n0 ≤ b5 := Nat.le_trans Z0 (Nat.le_of_eq g5.symm)
      have Zs5 : n0 ≤ h5.size := Nat.le_trans Z0 E5.1
      have Ol5 : Old Z n0 h5 := (O0).ext E5
      have F_attempts_b5 : Fld Z h5 b5 "com/example/redeliver/redeliver/EndpointCounters" "attempts" "J" (.long (0 : Int64)) := D5 (Or.inr (hw _ (List.mem_of_getElem? (i := 23) rfl))) (ty := .long) (by decide)
      have F_failures_b5 : Fld Z h5 b5 "com/example/redeliver/redeliver/EndpointCounters" "failures" "J" (.long (0 : Int64)) := D5 (Or.inr (hw _ (List.mem_of_getElem? (i := 25) rfl))) (ty := .long) (by decide)
      have F_consecutiveFailures_b5 : Fld Z h5 b5 "com/example/redeliver/redeliver/EndpointCounters" "consecutiveFailures" "J" (.long (0 : Int64)) := D5 (Or.inr (hw _ (List.mem_of_getElem? (i := 27) rfl))) (ty := .long) (by decide)
      have F_lastSuccessAt_b5 : Fld Z h5 b5 "com/example/redeliver/redeliver/EndpointCounters" "lastSuccessAt" "Ljava/lang/Long;" .null := D5 (Or.inr (hw _ (List.mem_of_getElem? (i := 29) rfl))) (ty := (.object "java/lang/Long")) (by decide)
      have sg7 : ∀ t, Steps p.tables e below (T5.setTop (mkF m 54 #[.val (.long x0_0), .second, .val (.long x0_1), .second, .val (.long x0_2), .second, .val (.long x0_3), .second, .val (.long x0_4), .second, .val (.int x0_5), .val (.int (0 : Int32)), .val (.int (0 : Int32)), .val .null, .unset, .unset, .unset, .unset] [.null, (.long x0_2), (.long x0_1), (.long x0_0), (.ref b5), (.ref b5)])) t → Steps p.tables e below (s₁.setTop (mkF m 18 #[.val (.long x0_0), .second, .val (.long x0_1), .second, .val (.long x0_2), .second, .val (.long x0_3), .second, .val (.long x0_4), .second, .val (.int x0_5), .val (.int (0 : Int32)), .unset, .unset, .unset, .unset, .unset, .unset] [(.int (x0_5 &&& (2 : Int32)))])) t := fun t kt => by
        show Steps p.tables e below (s₁.setTop (mkF m 18 #[.val (.long x0_0), .second, .val (.long x0_1), .second, .val (.long x0_2), .second, .val (.long x0_3), .second, .val (.long x0_4), .second, .val (.int x0_5), .val (.int (0 : Int32)), .unset, .unset, .unset, .unset, .unset, .unset] [(.int (x0_5 &&& (2 : Int32)))])) _
        refine XS.ifYes X0.here hx rfl (pc0 := 18) (pc' := 25) rfl (hb hby at_18) rfl ((if0 _ _).trans (teq hc18_4).1) (by decide) (by decide) ?_
        show Steps p.tables e below (s₁.setTop (mkF m 25 #[.val (.long x0_0), .second, .val (.long x0_1), .second, .val (.long x0_2), .second, .val (.long x0_3), .second, .val (.long x0_4), .second, .val (.int x0_5), .val (.int (0 : Int32)), .unset, .unset, .unset, .unset, .unset, .unset] [])) _
        refine XS.iconst X0.here hx rfl (hb hby at_25) ?_
        show Steps p.tables e below (s₁.setTop (mkF m 26 #[.val (.long x0_0), .second, .val (.long x0_1), .second, .val (.long x0_2), .second, .val (.long x0_3), .second, .val (.long x0_4), .second, .val (.int x0_5), .val (.int (0 : Int32)), .unset, .unset, .unset, .unset, .unset, .unset] [(.int (0 : Int32))])) _
        refine XS.istore X0.here hx rfl (hb hby at_26) rfl (l' := #[.val (.long x0_0), .second, .val (.long x0_1), .second, .val (.long x0_2), .second, .val (.long x0_3), .second, .val (.long x0_4), .second, .val (.int x0_5), .val (.int (0 : Int32)), .val (.int (0 : Int32)), .unset, .unset, .unset, .unset, .unset]) rfl ?_
        show Steps p.tables e below (s₁.setTop (mkF m 28 #[.val (.long x0_0), .second, .val (.long x0_1), .second, .val (.long x0_2), .second, .val (.long x0_3), .second, .val (.long x0_4), .second, .val (.int x0_5), .val (.int (0 : Int32)), .val (.int (0 : Int32)), .unset, .unset, .unset, .unset, .unset] [])) _
        refine XS.iload X0.here hx rfl (hb hby at_28) rfl ?_
        show Steps p.tables e below (s₁.setTop (mkF m 30 #[.val (.long x0_0), .second, .val (.long x0_1), .second, .val (.long x0_2), .second, .val (.long x0_3), .second, .val (.long x0_4), .second, .val (.int x0_5), .val (.int (0 : Int32)), .val (.int (0 : Int32)), .unset, .unset, .unset, .unset, .unset] [(.int (0 : Int32))])) _
        refine XS.ifYes X0.here hx rfl (pc0 := 30) (pc' := 41) rfl (hb hby at_30) rfl ((if0 _ _).trans (teq (by decide : ((0 : Int32) = (0 : Int32)))).1) (by decide) (by decide) ?_
        show Steps p.tables e below (s₁.setTop (mkF m 41 #[.val (.long x0_0), .second, .val (.long x0_1), .second, .val (.long x0_2), .second, .val (.long x0_3), .second, .val (.long x0_4), .second, .val (.int x0_5), .val (.int (0 : Int32)), .val (.int (0 : Int32)), .unset, .unset, .unset, .unset, .unset] [])) _
        refine XS.aconstNull X0.here hx rfl (hb hby at_41) ?_
        show Steps p.tables e below (s₁.setTop (mkF m 42 #[.val (.long x0_0), .second, .val (.long x0_1), .second, .val (.long x0_2), .second, .val (.long x0_3), .second, .val (.long x0_4), .second, .val (.int x0_5), .val (.int (0 : Int32)), .val (.int (0 : Int32)), .unset, .unset, .unset, .unset, .unset] [.null])) _
        refine XS.astore X0.here hx rfl (hb hby at_42) rfl rfl (l' := #[.val (.long x0_0), .second, .val (.long x0_1), .second, .val (.long x0_2), .second, .val (.long x0_3), .second, .val (.long x0_4), .second, .val (.int x0_5), .val (.int (0 : Int32)), .val (.int (0 : Int32)), .val .null, .unset, .unset, .unset, .unset]) rfl ?_
        show Steps p.tables e below (s₁.setTop (mkF m 44 #[.val (.long x0_0), .second, .val (.long x0_1), .second, .val (.long x0_2), .second, .val (.long x0_3), .second, .val (.long x0_4), .second, .val (.int x0_5), .val (.int (0 : Int32)), .val (.int (0 : Int32)), .val .null, .unset, .unset, .unset, .unset] [])) _
        refine st5 _ ?_
        show Steps p.tables e below (T5.setTop (mkF m 47 #[.val (.long x0_0), .second, .val (.long x0_1), .second, .val (.long x0_2), .second, .val (.long x0_3), .second, .val (.long x0_4), .second, .val (.int x0_5), .val (.int (0 : Int32)), .val (.int (0 : Int32)), .val .null, .unset, .unset, .unset, .unset] [(.ref b5)])) _
        refine XS.dup X5.here hx rfl (hb hby at_47) rfl rfl ?_
        show Steps p.tables e below (T5.setTop (mkF m 48 #[.val (.long x0_0), .second, .val (.long x0_1), .second, .val (.long x0_2), .second, .val (.long x0_3), .second, .val (.long x0_4), .second, .val (.int x0_5), .val (.int (0 : Int32)), .val (.int (0 : Int32)), .val .null, .unset, .unset, .unset, .unset] [(.ref b5), (.ref b5)])) _
        refine XS.lloadN X5.here hx rfl (hb hby at_48) rfl ?_
        show Steps p.tables e below (T5.setTop (mkF m 49 #[.val (.long x0_0), .second, .val (.long x0_1), .second, .val (.long x0_2), .second, .val (.long x0_3), .second, .val (.long x0_4), .second, .val (.int x0_5), .val (.int (0 : Int32)), .val (.int (0 : Int32)), .val .null, .unset, .unset, .unset, .unset] [(.long x0_0), (.ref b5), (.ref b5)])) _
        refine XS.lloadN X5.here hx rfl (hb hby at_49) rfl ?_
        show Steps p.tables e below (T5.setTop (mkF m 50 #[.val (.long x0_0), .second, .val (.long x0_1), .second, .val (.long x0_2), .second, .val (.long x0_3), .second, .val (.long x0_4), .second, .val (.int x0_5), .val (.int (0 : Int32)), .val (.int (0 : Int32)), .val .null, .unset, .unset, .unset, .unset] [(.long x0_1), (.long x0_0), (.ref b5), (.ref b5)])) _
        refine XS.lload X5.here hx rfl (hb hby at_50) rfl ?_
        show Steps p.tables e below (T5.setTop (mkF m 52 #[.val (.long x0_0), .second, .val (.long x0_1), .second, .val (.long x0_2), .second, .val (.long x0_3), .second, .val (.long x0_4), .second, .val (.int x0_5), .val (.int (0 : Int32)), .val (.int (0 : Int32)), .val .null, .unset, .unset, .unset, .unset] [(.long x0_2), (.long x0_1), (.long x0_0), (.ref b5), (.ref b5)])) _
        refine XS.aload X5.here hx rfl (hb hby at_52) rfl rfl ?_
        exact kt
      obtain ⟨v6, _, ⟨T6, L6, k6, n6⟩, -, X6, ⟨Lc6, hQ6, l6, y6, z6⟩, st6⟩ := X5.specialBack hx (y := (⟨"com/example/redeliver/redeliver/EndpointCounters", "<init>", "(JJJLjava/lang/Long;)V"⟩ : MethodName)) rfl hown (mvT hZ (hw _ (List.mem_of_getElem? (i := 11) rfl))) (mvT hZ (hw _ (List.mem_of_getElem? (i := 12) rfl))) (mvT hZ (hw _ (List.mem_of_getElem? (i := 13) rfl))) (by decide) (backOf (W := 1) (rmcn l Z a0 hw [] b5 x0_0 x0_1 x0_2 h5 n0 Zs5 A5 g_b5 F_attempts_b5 F_failures_b5 F_consecutiveFailures_b5 F_lastSuccessAt_b5) hZ (hw _ (List.mem_of_getElem? (i := 13) rfl)) (hw _ (List.mem_of_getElem? (i := 10) rfl)) (by decide) (by decide)) (g := (mkF m 54 #[.val (.long x0_0), .second, .val (.long x0_1), .second, .val (.long x0_2), .second, .val (.long x0_3), .second, .val (.long x0_4), .second, .val (.int x0_5), .val (.int (0 : Int32)), .val (.int (0 : Int32)), .val .null, .unset, .unset, .unset, .unset] [.null, (.long x0_2), (.long x0_1), (.long x0_0), (.ref b5), (.ref b5)])) rfl (by rw [hml]; rfl) (Steps.refl _) (a := b5) (argsL := [(.long x0_0), (.long x0_1), (.long x0_2), .null]) (rest := [(.ref b5)]) (lenOf pd_2 rfl) rfl (by show 2 * 0 + _ ≤ _; exact Nat.le_of_eq rfl) (hb hby at_54) (fun _ _ => ⟨rfl, e5, (by decide : 1 + 0 ≤ _), (by decide : 4 + 0 ≤ _)⟩)
      dsimp only [Pt.U, Pt.locs, Pt.cells, Pt.slots] at X6 l6 y6 z6 st6 hQ6
      subst l6 y6 z6
      obtain ⟨rfl, N6q, K6, Ex6, Fq6_attempts, Fq6_failures, Fq6_consecutiveFailures, Fq6_lastSuccessAt⟩ := hQ6
      have N6 := Fr.app N0 N6q
      have Zs6 : n0 ≤ T6.heap.size := Nat.le_trans Zs5 K6.1
      have Ol6 : Old Z n0 T6.heap := (Ol5).keep K6 (allS g_b5 all0)
      have sg9 : ∀ t, Steps p.tables e below (T6.setTop (mkF m 65 #[.val (.long x0_0), .second, .val (.long x0_1), .second, .val (.long x0_2), .second, .val (.long x0_3), .second, .val (.long x0_4), .second, .val (.int x0_5), .val (.int (0 : Int32)), .val (.int (0 : Int32)), .val .null, .val (.ref b5), .unset, .unset, .unset] [(.long x0_4), (.int (0 : Int32)), (.ref b5)])) t → Steps p.tables e below (T5.setTop (mkF m 54 #[.val (.long x0_0), .second, .val (.long x0_1), .second, .val (.long x0_2), .second, .val (.long x0_3), .second, .val (.long x0_4), .second, .val (.int x0_5), .val (.int (0 : Int32)), .val (.int (0 : Int32)), .val .null, .unset, .unset, .unset, .unset] [.null, (.long x0_2), (.long x0_1), (.long x0_0), (.ref b5), (.ref b5)])) t := fun t kt => by
        show Steps p.tables e below (T5.setTop (mkF m 54 #[.val (.long x0_0), .second, .val (.long x0_1), .second, .val (.long x0_2), .second, .val (.long x0_3), .second, .val (.long x0_4), .second, .val (.int x0_5), .val (.int (0 : Int32)), .val (.int (0 : Int32)), .val .null, .unset, .unset, .unset, .unset] [.null, (.long x0_2), (.long x0_1), (.long x0_0), (.ref b5), (.ref b5)])) _
        refine st6.trans ?_
        show Steps p.tables e below (T6.setTop (mkF m 57 #[.val (.long x0_0), .second, .val (.long x0_1), .second, .val (.long x0_2), .second, .val (.long x0_3), .second, .val (.long x0_4), .second, .val (.int x0_5), .val (.int (0 : Int32)), .val (.int (0 : Int32)), .val .null, .unset, .unset, .unset, .unset] [(.ref b5)])) _
        refine XS.astore X6.here hx rfl (hb hby at_57) rfl rfl (l' := #[.val (.long x0_0), .second, .val (.long x0_1), .second, .val (.long x0_2), .second, .val (.long x0_3), .second, .val (.long x0_4), .second, .val (.int x0_5), .val (.int (0 : Int32)), .val (.int (0 : Int32)), .val .null, .val (.ref b5), .unset, .unset, .unset]) rfl ?_
        show Steps p.tables e below (T6.setTop (mkF m 59 #[.val (.long x0_0), .second, .val (.long x0_1), .second, .val (.long x0_2), .second, .val (.long x0_3), .second, .val (.long x0_4), .second, .val (.int x0_5), .val (.int (0 : Int32)), .val (.int (0 : Int32)), .val .null, .val (.ref b5), .unset, .unset, .unset] [])) _
        refine XS.aload X6.here hx rfl (hb hby at_59) rfl rfl ?_
        show Steps p.tables e below (T6.setTop (mkF m 61 #[.val (.long x0_0), .second, .val (.long x0_1), .second, .val (.long x0_2), .second, .val (.long x0_3), .second, .val (.long x0_4), .second, .val (.int x0_5), .val (.int (0 : Int32)), .val (.int (0 : Int32)), .val .null, .val (.ref b5), .unset, .unset, .unset] [(.ref b5)])) _
        refine XS.iload X6.here hx rfl (hb hby at_61) rfl ?_
        show Steps p.tables e below (T6.setTop (mkF m 63 #[.val (.long x0_0), .second, .val (.long x0_1), .second, .val (.long x0_2), .second, .val (.long x0_3), .second, .val (.long x0_4), .second, .val (.int x0_5), .val (.int (0 : Int32)), .val (.int (0 : Int32)), .val .null, .val (.ref b5), .unset, .unset, .unset] [(.int (0 : Int32)), (.ref b5)])) _
        refine XS.lload X6.here hx rfl (hb hby at_63) rfl ?_
        exact kt
      obtain ⟨cq8, kq8, q8a, q8b, q8c⟩ := isOf hZ rfl Ex6
      obtain ⟨v8, _, ⟨T8, L8, k8, n8⟩, -, X8, ⟨Lc8, hQ8, l8, y8, z8⟩, st8⟩ := X6.virtualBack hx (y := (⟨"com/example/redeliver/redeliver/EndpointCounters", "after", "(ZJ)Lcom/example/redeliver/redeliver/EndpointCounters;"⟩ : MethodName)) (z := (⟨"com/example/redeliver/redeliver/EndpointCounters", "after", "(ZJ)Lcom/example/redeliver/redeliver/EndpointCounters;"⟩ : MethodName)) hown (mvT hZ (hw _ (List.mem_of_getElem? (i := 30) rfl))) (mvT hZ (hw _ (List.mem_of_getElem? (i := 31) rfl))) (notFace_of_selects (args := #[]) (mvT hZ (hw _ (List.mem_of_getElem? (i := 33) rfl)))) (mvT hZ (hw _ (List.mem_of_getElem? (i := 33) rfl))) (mvT hZ (hw _ (List.mem_of_getElem? (i := 32) rfl))) (by decide) (backOf (W := 0) (rman l Z a0 hw [] b5 x0_4 x0_0 x0_1 x0_2 T6.heap n0 Zs6 Ex6 Fq6_attempts Fq6_failures Fq6_consecutiveFailures Fq6_lastSuccessAt) hZ (hw _ (List.mem_of_getElem? (i := 34) rfl)) (hw _ (List.mem_of_getElem? (i := 10) rfl)) (by decide) (by decide)) q8a q8c (g := (mkF m 65 #[.val (.long x0_0), .second, .val (.long x0_1), .second, .val (.long x0_2), .second, .val (.long x0_3), .second, .val (.long x0_4), .second, .val (.int x0_5), .val (.int (0 : Int32)), .val (.int (0 : Int32)), .val .null, .val (.ref b5), .unset, .unset, .unset] [(.long x0_4), (.int (0 : Int32)), (.ref b5)])) rfl (by rw [hml]; rfl) (Steps.refl _) (argsL := [(.int (0 : Int32)), (.long x0_4)]) (rest := []) (lenOf pd_4 rfl) rfl (by show 2 * 0 + _ ≤ _; exact Nat.le_of_eq rfl) (hb hby at_65) (fun _ _ => ⟨rfl, rfl, (by decide : 1 + 1 ≤ _), (by decide : 4 + 4 ≤ _)⟩)
      dsimp only [Pt.U, Pt.locs, Pt.cells, Pt.slots] at X8 l8 y8 z8 st8 hQ8
      subst l8 y8 z8
      obtain ⟨ro0_8, rfl, N8q, K8, Ero0_8, Fro0_8_attempts, Fro0_8_failures, Fro0_8_consecutiveFailures, Fro0_8_lastSuccessAt⟩ := hQ8
      have N8 := Fr.app N6 N8q
      have Zs8 : n0 ≤ T8.heap.size := Nat.le_trans Zs6 K8.1
      have Ol8 : Old Z n0 T8.heap := (Ol6).keep K8 all0
      have sg11 : ∀ t, Steps p.tables e below (T8.setTop (mkF m 79 #[.val (.long x0_0), .second, .val (.long x0_1), .second, .val (.long x0_2), .second, .val (.long x0_3), .second, .val (.long x0_4), .second, .val (.int x0_5), .val (.int (0 : Int32)), .val (.int (0 : Int32)), .val .null, .val (.ref b5), .val (.ref ro0_8), .unset, .unset] [(.ref ro0_8)])) t → Steps p.tables e below (T6.setTop (mkF m 65 #[.val (.long x0_0), .second, .val (.long x0_1), .second, .val (.long x0_2), .second, .val (.long x0_3), .second, .val (.long x0_4), .second, .val (.int x0_5), .val (.int (0 : Int32)), .val (.int (0 : Int32)), .val .null, .val (.ref b5), .unset, .unset, .unset] [(.long x0_4), (.int (0 : Int32)), (.ref b5)])) t := fun t kt => by
        show Steps p.tables e below (T6.setTop (mkF m 65 #[.val (.long x0_0), .second, .val (.long x0_1), .second, .val (.long x0_2), .second, .val (.long x0_3), .second, .val (.long x0_4), .second, .val (.int x0_5), .val (.int (0 : Int32)), .val (.int (0 : Int32)), .val .null, .val (.ref b5), .unset, .unset, .unset] [(.long x0_4), (.int (0 : Int32)), (.ref b5)])) _
        refine st8.trans ?_
        show Steps p.tables e below (T8.setTop (mkF m 68 #[.val (.long x0_0), .second, .val (.long x0_1), .second, .val (.long x0_2), .second, .val (.long x0_3), .second, .val (.long x0_4), .second, .val (.int x0_5), .val (.int (0 : Int32)), .val (.int (0 : Int32)), .val .null, .val (.ref b5), .unset, .unset, .unset] [(.ref ro0_8)])) _
        refine XS.astore X8.here hx rfl (hb hby at_68) rfl rfl (l' := #[.val (.long x0_0), .second, .val (.long x0_1), .second, .val (.long x0_2), .second, .val (.long x0_3), .second, .val (.long x0_4), .second, .val (.int x0_5), .val (.int (0 : Int32)), .val (.int (0 : Int32)), .val .null, .val (.ref b5), .val (.ref ro0_8), .unset, .unset]) rfl ?_
        show Steps p.tables e below (T8.setTop (mkF m 70 #[.val (.long x0_0), .second, .val (.long x0_1), .second, .val (.long x0_2), .second, .val (.long x0_3), .second, .val (.long x0_4), .second, .val (.int x0_5), .val (.int (0 : Int32)), .val (.int (0 : Int32)), .val .null, .val (.ref b5), .val (.ref ro0_8), .unset, .unset] [])) _
        refine XS.aload X8.here hx rfl (hb hby at_70) rfl rfl ?_
        show Steps p.tables e below (T8.setTop (mkF m 72 #[.val (.long x0_0), .second, .val (.long x0_1), .second, .val (.long x0_2), .second, .val (.long x0_3), .second, .val (.long x0_4), .second, .val (.int x0_5), .val (.int (0 : Int32)), .val (.int (0 : Int32)), .val .null, .val (.ref b5), .val (.ref ro0_8), .unset, .unset] [(.ref ro0_8)])) _
        refine XS.ifnonnullYes X8.here hx rfl (pc0 := 72) (pc' := 77) rfl (hb hby at_72) rfl (by decide) (by decide) ?_
        show Steps p.tables e below (T8.setTop (mkF m 77 #[.val (.long x0_0), .second, .val (.long x0_1), .second, .val (.long x0_2), .second, .val (.long x0_3), .second, .val (.long x0_4), .second, .val (.int x0_5), .val (.int (0 : Int32)), .val (.int (0 : Int32)), .val .null, .val (.ref b5), .val (.ref ro0_8), .unset, .unset] [])) _
        refine XS.aload X8.here hx rfl (hb hby at_77) rfl rfl ?_
        exact kt
      obtain ⟨cq10, kq10, q10a, q10b, q10c⟩ := isOf hZ rfl Ero0_8
      obtain ⟨v10, _, ⟨T10, L10, k10, n10⟩, -, X10, ⟨Lc10, hQ10, l10, y10, z10⟩, st10⟩ := X8.virtualBack hx (y := (⟨"com/example/redeliver/redeliver/EndpointCounters", "lastSuccessAt", "()Ljava/lang/Long;"⟩ : MethodName)) (z := (⟨"com/example/redeliver/redeliver/EndpointCounters", "lastSuccessAt", "()Ljava/lang/Long;"⟩ : MethodName)) hown (mvT hZ (hw _ (List.mem_of_getElem? (i := 37) rfl))) (mvT hZ (hw _ (List.mem_of_getElem? (i := 38) rfl))) (notFace_of_selects (args := #[]) (mvT hZ (hw _ (List.mem_of_getElem? (i := 40) rfl)))) (mvT hZ (hw _ (List.mem_of_getElem? (i := 40) rfl))) (mvT hZ (hw _ (List.mem_of_getElem? (i := 39) rfl))) (by decide) (backOf (W := 0) (rmln l Z a0 hw [] ro0_8 T8.heap n0 Zs8 Fro0_8_lastSuccessAt) hZ (hw _ (List.mem_of_getElem? (i := 41) rfl)) (hw _ (List.mem_of_getElem? (i := 10) rfl)) (by decide) (by decide)) q10a q10c (g := (mkF m 79 #[.val (.long x0_0), .second, .val (.long x0_1), .second, .val (.long x0_2), .second, .val (.long x0_3), .second, .val (.long x0_4), .second, .val (.int x0_5), .val (.int (0 : Int32)), .val (.int (0 : Int32)), .val .null, .val (.ref b5), .val (.ref ro0_8), .unset, .unset] [(.ref ro0_8)])) rfl (by rw [hml]; rfl) (Steps.refl _) (argsL := []) (rest := []) (lenOf pd_5 rfl) rfl (by show 2 * 0 + _ ≤ _; exact Nat.le_of_eq rfl) (hb hby at_79) (fun _ _ => ⟨rfl, rfl, (by decide : 2 + 0 ≤ _), (by decide : 8 + 0 ≤ _)⟩)
      dsimp only [Pt.U, Pt.locs, Pt.cells, Pt.slots] at X10 l10 y10 z10 st10 hQ10
      subst l10 y10 z10
      obtain ⟨hv10, N10q, e10⟩ := hQ10
      have N10 := Fr.app N8 N10q
      subst hv10
      have sg13 : ∀ t, Steps p.tables e below (T10.setTop (mkF m 186 #[.val (.long x0_0), .second, .val (.long x0_1), .second, .val (.long x0_2), .second, .val (.long x0_3), .second, .val (.long x0_4), .second, .val (.int x0_5), .val (.int (0 : Int32)), .val (.int (0 : Int32)), .val .null, .val (.ref b5), .val (.ref ro0_8), .val .null, .val (.int (1 : Int32))] [(.ref ro0_8)])) t → Steps p.tables e below (T8.setTop (mkF m 79 #[.val (.long x0_0), .second, .val (.long x0_1), .second, .val (.long x0_2), .second, .val (.long x0_3), .second, .val (.long x0_4), .second, .val (.int x0_5), .val (.int (0 : Int32)), .val (.int (0 : Int32)), .val .null, .val (.ref b5), .val (.ref ro0_8), .unset, .unset] [(.ref ro0_8)])) t := fun t kt => by
        show Steps p.tables e below (T8.setTop (mkF m 79 #[.val (.long x0_0), .second, .val (.long x0_1), .second, .val (.long x0_2), .second, .val (.long x0_3), .second, .val (.long x0_4), .second, .val (.int x0_5), .val (.int (0 : Int32)), .val (.int (0 : Int32)), .val .null, .val (.ref b5), .val (.ref ro0_8), .unset, .unset] [(.ref ro0_8)])) _
        refine st10.trans ?_
        show Steps p.tables e below (T10.setTop (mkF m 82 #[.val (.long x0_0), .second, .val (.long x0_1), .second, .val (.long x0_2), .second, .val (.long x0_3), .second, .val (.long x0_4), .second, .val (.int x0_5), .val (.int (0 : Int32)), .val (.int (0 : Int32)), .val .null, .val (.ref b5), .val (.ref ro0_8), .unset, .unset] [.null])) _
        refine XS.astore X10.here hx rfl (hb hby at_82) rfl rfl (l' := #[.val (.long x0_0), .second, .val (.long x0_1), .second, .val (.long x0_2), .second, .val (.long x0_3), .second, .val (.long x0_4), .second, .val (.int x0_5), .val (.int (0 : Int32)), .val (.int (0 : Int32)), .val .null, .val (.ref b5), .val (.ref ro0_8), .val .null, .unset]) rfl ?_
        show Steps p.tables e below (T10.setTop (mkF m 84 #[.val (.long x0_0), .second, .val (.long x0_1), .second, .val (.long x0_2), .second, .val (.long x0_3), .second, .val (.long x0_4), .second, .val (.int x0_5), .val (.int (0 : Int32)), .val (.int (0 : Int32)), .val .null, .val (.ref b5), .val (.ref ro0_8), .val .null, .unset] [])) _
        refine XS.iload X10.here hx rfl (hb hby at_84) rfl ?_
        show Steps p.tables e below (T10.setTop (mkF m 86 #[.val (.long x0_0), .second, .val (.long x0_1), .second, .val (.long x0_2), .second, .val (.long x0_3), .second, .val (.long x0_4), .second, .val (.int x0_5), .val (.int (0 : Int32)), .val (.int (0 : Int32)), .val .null, .val (.ref b5), .val (.ref ro0_8), .val .null, .unset] [(.int (0 : Int32))])) _
        refine XS.ifYes X10.here hx rfl (pc0 := 86) (pc' := 143) rfl (hb hby at_86) rfl ((if0 _ _).trans (teq (by decide : ((0 : Int32) = (0 : Int32)))).1) (by decide) (by decide) ?_
        show Steps p.tables e below (T10.setTop (mkF m 143 #[.val (.long x0_0), .second, .val (.long x0_1), .second, .val (.long x0_2), .second, .val (.long x0_3), .second, .val (.long x0_4), .second, .val (.int x0_5), .val (.int (0 : Int32)), .val (.int (0 : Int32)), .val .null, .val (.ref b5), .val (.ref ro0_8), .val .null, .unset] [])) _
        refine XS.iload X10.here hx rfl (hb hby at_143) rfl ?_
        show Steps p.tables e below (T10.setTop (mkF m 145 #[.val (.long x0_0), .second, .val (.long x0_1), .second, .val (.long x0_2), .second, .val (.long x0_3), .second, .val (.long x0_4), .second, .val (.int x0_5), .val (.int (0 : Int32)), .val (.int (0 : Int32)), .val .null, .val (.ref b5), .val (.ref ro0_8), .val .null, .unset] [(.int (0 : Int32))])) _
        refine XS.ifYes X10.here hx rfl (pc0 := 145) (pc' := 172) rfl (hb hby at_145) rfl ((if0 _ _).trans (teq (by decide : ((0 : Int32) = (0 : Int32)))).1) (by decide) (by decide) ?_
        show Steps p.tables e below (T10.setTop (mkF m 172 #[.val (.long x0_0), .second, .val (.long x0_1), .second, .val (.long x0_2), .second, .val (.long x0_3), .second, .val (.long x0_4), .second, .val (.int x0_5), .val (.int (0 : Int32)), .val (.int (0 : Int32)), .val .null, .val (.ref b5), .val (.ref ro0_8), .val .null, .unset] [])) _
        refine XS.aload X10.here hx rfl (hb hby at_172) rfl rfl ?_
        show Steps p.tables e below (T10.setTop (mkF m 174 #[.val (.long x0_0), .second, .val (.long x0_1), .second, .val (.long x0_2), .second, .val (.long x0_3), .second, .val (.long x0_4), .second, .val (.int x0_5), .val (.int (0 : Int32)), .val (.int (0 : Int32)), .val .null, .val (.ref b5), .val (.ref ro0_8), .val .null, .unset] [.null])) _
        refine XS.ifnonnullNo X10.here hx rfl (hb hby at_174) rfl ?_
        show Steps p.tables e below (T10.setTop (mkF m 177 #[.val (.long x0_0), .second, .val (.long x0_1), .second, .val (.long x0_2), .second, .val (.long x0_3), .second, .val (.long x0_4), .second, .val (.int x0_5), .val (.int (0 : Int32)), .val (.int (0 : Int32)), .val .null, .val (.ref b5), .val (.ref ro0_8), .val .null, .unset] [])) _
        refine XS.iconst X10.here hx rfl (hb hby at_177) ?_
        show Steps p.tables e below (T10.setTop (mkF m 178 #[.val (.long x0_0), .second, .val (.long x0_1), .second, .val (.long x0_2), .second, .val (.long x0_3), .second, .val (.long x0_4), .second, .val (.int x0_5), .val (.int (0 : Int32)), .val (.int (0 : Int32)), .val .null, .val (.ref b5), .val (.ref ro0_8), .val .null, .unset] [(.int (1 : Int32))])) _
        refine XS.goto X10.here hx rfl (pc0 := 178) (pc' := 182) rfl (hb hby at_178) (by decide) (by decide) ?_
        show Steps p.tables e below (T10.setTop (mkF m 182 #[.val (.long x0_0), .second, .val (.long x0_1), .second, .val (.long x0_2), .second, .val (.long x0_3), .second, .val (.long x0_4), .second, .val (.int x0_5), .val (.int (0 : Int32)), .val (.int (0 : Int32)), .val .null, .val (.ref b5), .val (.ref ro0_8), .val .null, .unset] [(.int (1 : Int32))])) _
        refine XS.istore X10.here hx rfl (hb hby at_182) rfl (l' := #[.val (.long x0_0), .second, .val (.long x0_1), .second, .val (.long x0_2), .second, .val (.long x0_3), .second, .val (.long x0_4), .second, .val (.int x0_5), .val (.int (0 : Int32)), .val (.int (0 : Int32)), .val .null, .val (.ref b5), .val (.ref ro0_8), .val .null, .val (.int (1 : Int32))]) rfl ?_
        show Steps p.tables e below (T10.setTop (mkF m 184 #[.val (.long x0_0), .second, .val (.long x0_1), .second, .val (.long x0_2), .second, .val (.long x0_3), .second, .val (.long x0_4), .second, .val (.int x0_5), .val (.int (0 : Int32)), .val (.int (0 : Int32)), .val .null, .val (.ref b5), .val (.ref ro0_8), .val .null, .val (.int (1 : Int32))] [])) _
        refine XS.aload X10.here hx rfl (hb hby at_184) rfl rfl ?_
        exact kt
      obtain ⟨cq12, kq12, q12a, q12b, q12c⟩ := isOf hZ e10 Ero0_8
      obtain ⟨v12, _, ⟨T12, L12, k12, n12⟩, -, X12, ⟨Lc12, hQ12, l12, y12, z12⟩, st12⟩ := X10.virtualBack hx (y := (⟨"com/example/redeliver/redeliver/EndpointCounters", "attempts", "()J"⟩ : MethodName)) (z := (⟨"com/example/redeliver/redeliver/EndpointCounters", "attempts", "()J"⟩ : MethodName)) hown (mvT hZ (hw _ (List.mem_of_getElem? (i := 49) rfl))) (mvT hZ (hw _ (List.mem_of_getElem? (i := 50) rfl))) (notFace_of_selects (args := #[]) (mvT hZ (hw _ (List.mem_of_getElem? (i := 52) rfl)))) (mvT hZ (hw _ (List.mem_of_getElem? (i := 52) rfl))) (mvT hZ (hw _ (List.mem_of_getElem? (i := 51) rfl))) (by decide) (backOf (W := 0) (rm8 l Z a0 hw [] ro0_8 (x0_0 + (1 : Int64)) T8.heap n0 Zs8 Fro0_8_attempts) hZ (hw _ (List.mem_of_getElem? (i := 53) rfl)) (hw _ (List.mem_of_getElem? (i := 10) rfl)) (by decide) (by decide)) q12a q12c (g := (mkF m 186 #[.val (.long x0_0), .second, .val (.long x0_1), .second, .val (.long x0_2), .second, .val (.long x0_3), .second, .val (.long x0_4), .second, .val (.int x0_5), .val (.int (0 : Int32)), .val (.int (0 : Int32)), .val .null, .val (.ref b5), .val (.ref ro0_8), .val .null, .val (.int (1 : Int32))] [(.ref ro0_8)])) rfl (by rw [hml]; rfl) (Steps.refl _) (argsL := []) (rest := []) (lenOf pd_6 rfl) rfl (by show 2 * 0 + _ ≤ _; exact Nat.le_of_eq rfl) (hb hby at_186) (fun _ _ => ⟨rfl, e10, (by decide : 2 + 0 ≤ _), (by decide : 8 + 0 ≤ _)⟩)
      dsimp only [Pt.U, Pt.locs, Pt.cells, Pt.slots] at X12 l12 y12 z12 st12 hQ12
      subst l12 y12 z12
      obtain ⟨hv12, N12q, e12⟩ := hQ12
      have N12 := Fr.app N10 N12q
      have hf12 : f8 ro0_8 (x0_0 + (1 : Int64)) = (x0_0 + (1 : Int64)) := rfl
      rw [hf12] at hv12
      subst hv12
      have sg15 : ∀ t, Steps p.tables e below (T12.setTop (mkF m 198 #[.val (.long x0_0), .second, .val (.long x0_1), .second, .val (.long x0_2), .second, .val (.long x0_3), .second, .val (.long x0_4), .second, .val (.int x0_5), .val (.int (0 : Int32)), .val (.int (0 : Int32)), .val .null, .val (.ref b5), .val (.ref ro0_8), .val .null, .val (.int (1 : Int32))] [(.ref ro0_8)])) t → Steps p.tables e below (T10.setTop (mkF m 186 #[.val (.long x0_0), .second, .val (.long x0_1), .second, .val (.long x0_2), .second, .val (.long x0_3), .second, .val (.long x0_4), .second, .val (.int x0_5), .val (.int (0 : Int32)), .val (.int (0 : Int32)), .val .null, .val (.ref b5), .val (.ref ro0_8), .val .null, .val (.int (1 : Int32))] [(.ref ro0_8)])) t := fun t kt => by
        show Steps p.tables e below (T10.setTop (mkF m 186 #[.val (.long x0_0), .second, .val (.long x0_1), .second, .val (.long x0_2), .second, .val (.long x0_3), .second, .val (.long x0_4), .second, .val (.int x0_5), .val (.int (0 : Int32)), .val (.int (0 : Int32)), .val .null, .val (.ref b5), .val (.ref ro0_8), .val .null, .val (.int (1 : Int32))] [(.ref ro0_8)])) _
        refine st12.trans ?_
        show Steps p.tables e below (T12.setTop (mkF m 189 #[.val (.long x0_0), .second, .val (.long x0_1), .second, .val (.long x0_2), .second, .val (.long x0_3), .second, .val (.long x0_4), .second, .val (.int x0_5), .val (.int (0 : Int32)), .val (.int (0 : Int32)), .val .null, .val (.ref b5), .val (.ref ro0_8), .val .null, .val (.int (1 : Int32))] [(.long (x0_0 + (1 : Int64)))])) _
        refine XS.lloadN X12.here hx rfl (hb hby at_189) rfl ?_
        show Steps p.tables e below (T12.setTop (mkF m 190 #[.val (.long x0_0), .second, .val (.long x0_1), .second, .val (.long x0_2), .second, .val (.long x0_3), .second, .val (.long x0_4), .second, .val (.int x0_5), .val (.int (0 : Int32)), .val (.int (0 : Int32)), .val .null, .val (.ref b5), .val (.ref ro0_8), .val .null, .val (.int (1 : Int32))] [(.long x0_0), (.long (x0_0 + (1 : Int64)))])) _
        refine XS.lconst X12.here hx rfl (hb hby at_190) ?_
        show Steps p.tables e below (T12.setTop (mkF m 191 #[.val (.long x0_0), .second, .val (.long x0_1), .second, .val (.long x0_2), .second, .val (.long x0_3), .second, .val (.long x0_4), .second, .val (.int x0_5), .val (.int (0 : Int32)), .val (.int (0 : Int32)), .val .null, .val (.ref b5), .val (.ref ro0_8), .val .null, .val (.int (1 : Int32))] [(.long (1 : Int64)), (.long x0_0), (.long (x0_0 + (1 : Int64)))])) _
        refine XS.ladd X12.here hx rfl (hb hby at_191) rfl ?_
        show Steps p.tables e below (T12.setTop (mkF m 192 #[.val (.long x0_0), .second, .val (.long x0_1), .second, .val (.long x0_2), .second, .val (.long x0_3), .second, .val (.long x0_4), .second, .val (.int x0_5), .val (.int (0 : Int32)), .val (.int (0 : Int32)), .val .null, .val (.ref b5), .val (.ref ro0_8), .val .null, .val (.int (1 : Int32))] [(.long (x0_0 + (1 : Int64))), (.long (x0_0 + (1 : Int64)))])) _
        refine XS.lcmp X12.here hx rfl (hb hby at_192) rfl ?_
        show Steps p.tables e below (T12.setTop (mkF m 193 #[.val (.long x0_0), .second, .val (.long x0_1), .second, .val (.long x0_2), .second, .val (.long x0_3), .second, .val (.long x0_4), .second, .val (.int x0_5), .val (.int (0 : Int32)), .val (.int (0 : Int32)), .val .null, .val (.ref b5), .val (.ref ro0_8), .val .null, .val (.int (1 : Int32))] [(.int (lcmpW (x0_0 + (1 : Int64)) (x0_0 + (1 : Int64))))])) _
        refine XS.ifNo X12.here hx rfl (hb hby at_193) rfl ((if0 _ _).trans (teq ((lw_eq _ _).mpr (rfl : (x0_0 + (1 : Int64)) = (x0_0 + (1 : Int64))))).2) ?_
        show Steps p.tables e below (T12.setTop (mkF m 196 #[.val (.long x0_0), .second, .val (.long x0_1), .second, .val (.long x0_2), .second, .val (.long x0_3), .second, .val (.long x0_4), .second, .val (.int x0_5), .val (.int (0 : Int32)), .val (.int (0 : Int32)), .val .null, .val (.ref b5), .val (.ref ro0_8), .val .null, .val (.int (1 : Int32))] [])) _
        refine XS.aload X12.here hx rfl (hb hby at_196) rfl rfl ?_
        exact kt
      obtain ⟨cq14, kq14, q14a, q14b, q14c⟩ := isOf hZ e12 Ero0_8
      obtain ⟨v14, _, ⟨T14, L14, k14, n14⟩, -, X14, ⟨Lc14, hQ14, l14, y14, z14⟩, st14⟩ := X12.virtualBack hx (y := (⟨"com/example/redeliver/redeliver/EndpointCounters", "failures", "()J"⟩ : MethodName)) (z := (⟨"com/example/redeliver/redeliver/EndpointCounters", "failures", "()J"⟩ : MethodName)) hown (mvT hZ (hw _ (List.mem_of_getElem? (i := 54) rfl))) (mvT hZ (hw _ (List.mem_of_getElem? (i := 55) rfl))) (notFace_of_selects (args := #[]) (mvT hZ (hw _ (List.mem_of_getElem? (i := 57) rfl)))) (mvT hZ (hw _ (List.mem_of_getElem? (i := 57) rfl))) (mvT hZ (hw _ (List.mem_of_getElem? (i := 56) rfl))) (by decide) (backOf (W := 0) (rm9 l Z a0 hw [] ro0_8 (x0_1 + (1 : Int64)) T8.heap n0 Zs8 Fro0_8_failures) hZ (hw _ (List.mem_of_getElem? (i := 58) rfl)) (hw _ (List.mem_of_getElem? (i := 10) rfl)) (by decide) (by decide)) q14a q14c (g := (mkF m 198 #[.val (.long x0_0), .second, .val (.long x0_1), .second, .val (.long x0_2), .second, .val (.long x0_3), .second, .val (.long x0_4), .second, .val (.int x0_5), .val (.int (0 : Int32)), .val (.int (0 : Int32)), .val .null, .val (.ref b5), .val (.ref ro0_8), .val .null, .val (.int (1 : Int32))] [(.ref ro0_8)])) rfl (by rw [hml]; rfl) (Steps.refl _) (argsL := []) (rest := []) (lenOf pd_6 rfl) rfl (by show 2 * 0 + _ ≤ _; exact Nat.le_of_eq rfl) (hb hby at_198) (fun _ _ => ⟨rfl, e12, (by decide : 2 + 0 ≤ _), (by decide : 8 + 0 ≤ _)⟩)
      dsimp only [Pt.U, Pt.locs, Pt.cells, Pt.slots] at X14 l14 y14 z14 st14 hQ14
      subst l14 y14 z14
      obtain ⟨hv14, N14q, e14⟩ := hQ14
      have N14 := Fr.app N12 N14q
      have hf14 : f9 ro0_8 (x0_1 + (1 : Int64)) = (x0_1 + (1 : Int64)) := rfl
      rw [hf14] at hv14
      subst hv14
      have sg17 : ∀ t, Steps p.tables e below (T14.setTop (mkF m 210 #[.val (.long x0_0), .second, .val (.long x0_1), .second, .val (.long x0_2), .second, .val (.long x0_3), .second, .val (.long x0_4), .second, .val (.int x0_5), .val (.int (0 : Int32)), .val (.int (0 : Int32)), .val .null, .val (.ref b5), .val (.ref ro0_8), .val .null, .val (.int (1 : Int32))] [(.ref ro0_8)])) t → Steps p.tables e below (T12.setTop (mkF m 198 #[.val (.long x0_0), .second, .val (.long x0_1), .second, .val (.long x0_2), .second, .val (.long x0_3), .second, .val (.long x0_4), .second, .val (.int x0_5), .val (.int (0 : Int32)), .val (.int (0 : Int32)), .val .null, .val (.ref b5), .val (.ref ro0_8), .val .null, .val (.int (1 : Int32))] [(.ref ro0_8)])) t := fun t kt => by
        show Steps p.tables e below (T12.setTop (mkF m 198 #[.val (.long x0_0), .second, .val (.long x0_1), .second, .val (.long x0_2), .second, .val (.long x0_3), .second, .val (.long x0_4), .second, .val (.int x0_5), .val (.int (0 : Int32)), .val (.int (0 : Int32)), .val .null, .val (.ref b5), .val (.ref ro0_8), .val .null, .val (.int (1 : Int32))] [(.ref ro0_8)])) _
        refine st14.trans ?_
        show Steps p.tables e below (T14.setTop (mkF m 201 #[.val (.long x0_0), .second, .val (.long x0_1), .second, .val (.long x0_2), .second, .val (.long x0_3), .second, .val (.long x0_4), .second, .val (.int x0_5), .val (.int (0 : Int32)), .val (.int (0 : Int32)), .val .null, .val (.ref b5), .val (.ref ro0_8), .val .null, .val (.int (1 : Int32))] [(.long (x0_1 + (1 : Int64)))])) _
        refine XS.lloadN X14.here hx rfl (hb hby at_201) rfl ?_
        show Steps p.tables e below (T14.setTop (mkF m 202 #[.val (.long x0_0), .second, .val (.long x0_1), .second, .val (.long x0_2), .second, .val (.long x0_3), .second, .val (.long x0_4), .second, .val (.int x0_5), .val (.int (0 : Int32)), .val (.int (0 : Int32)), .val .null, .val (.ref b5), .val (.ref ro0_8), .val .null, .val (.int (1 : Int32))] [(.long x0_1), (.long (x0_1 + (1 : Int64)))])) _
        refine XS.lconst X14.here hx rfl (hb hby at_202) ?_
        show Steps p.tables e below (T14.setTop (mkF m 203 #[.val (.long x0_0), .second, .val (.long x0_1), .second, .val (.long x0_2), .second, .val (.long x0_3), .second, .val (.long x0_4), .second, .val (.int x0_5), .val (.int (0 : Int32)), .val (.int (0 : Int32)), .val .null, .val (.ref b5), .val (.ref ro0_8), .val .null, .val (.int (1 : Int32))] [(.long (1 : Int64)), (.long x0_1), (.long (x0_1 + (1 : Int64)))])) _
        refine XS.ladd X14.here hx rfl (hb hby at_203) rfl ?_
        show Steps p.tables e below (T14.setTop (mkF m 204 #[.val (.long x0_0), .second, .val (.long x0_1), .second, .val (.long x0_2), .second, .val (.long x0_3), .second, .val (.long x0_4), .second, .val (.int x0_5), .val (.int (0 : Int32)), .val (.int (0 : Int32)), .val .null, .val (.ref b5), .val (.ref ro0_8), .val .null, .val (.int (1 : Int32))] [(.long (x0_1 + (1 : Int64))), (.long (x0_1 + (1 : Int64)))])) _
        refine XS.lcmp X14.here hx rfl (hb hby at_204) rfl ?_
        show Steps p.tables e below (T14.setTop (mkF m 205 #[.val (.long x0_0), .second, .val (.long x0_1), .second, .val (.long x0_2), .second, .val (.long x0_3), .second, .val (.long x0_4), .second, .val (.int x0_5), .val (.int (0 : Int32)), .val (.int (0 : Int32)), .val .null, .val (.ref b5), .val (.ref ro0_8), .val .null, .val (.int (1 : Int32))] [(.int (lcmpW (x0_1 + (1 : Int64)) (x0_1 + (1 : Int64))))])) _
        refine XS.ifNo X14.here hx rfl (hb hby at_205) rfl ((if0 _ _).trans (teq ((lw_eq _ _).mpr (rfl : (x0_1 + (1 : Int64)) = (x0_1 + (1 : Int64))))).2) ?_
        show Steps p.tables e below (T14.setTop (mkF m 208 #[.val (.long x0_0), .second, .val (.long x0_1), .second, .val (.long x0_2), .second, .val (.long x0_3), .second, .val (.long x0_4), .second, .val (.int x0_5), .val (.int (0 : Int32)), .val (.int (0 : Int32)), .val .null, .val (.ref b5), .val (.ref ro0_8), .val .null, .val (.int (1 : Int32))] [])) _
        refine XS.aload X14.here hx rfl (hb hby at_208) rfl rfl ?_
        exact kt
      obtain ⟨cq16, kq16, q16a, q16b, q16c⟩ := isOf hZ e14 Ero0_8
      obtain ⟨v16, _, ⟨T16, L16, k16, n16⟩, -, X16, ⟨Lc16, hQ16, l16, y16, z16⟩, st16⟩ := X14.virtualBack hx (y := (⟨"com/example/redeliver/redeliver/EndpointCounters", "consecutiveFailures", "()J"⟩ : MethodName)) (z := (⟨"com/example/redeliver/redeliver/EndpointCounters", "consecutiveFailures", "()J"⟩ : MethodName)) hown (mvT hZ (hw _ (List.mem_of_getElem? (i := 59) rfl))) (mvT hZ (hw _ (List.mem_of_getElem? (i := 60) rfl))) (notFace_of_selects (args := #[]) (mvT hZ (hw _ (List.mem_of_getElem? (i := 62) rfl)))) (mvT hZ (hw _ (List.mem_of_getElem? (i := 62) rfl))) (mvT hZ (hw _ (List.mem_of_getElem? (i := 61) rfl))) (by decide) (backOf (W := 0) (rm10 l Z a0 hw [] ro0_8 (x0_2 + (1 : Int64)) T8.heap n0 Zs8 Fro0_8_consecutiveFailures) hZ (hw _ (List.mem_of_getElem? (i := 63) rfl)) (hw _ (List.mem_of_getElem? (i := 10) rfl)) (by decide) (by decide)) q16a q16c (g := (mkF m 210 #[.val (.long x0_0), .second, .val (.long x0_1), .second, .val (.long x0_2), .second, .val (.long x0_3), .second, .val (.long x0_4), .second, .val (.int x0_5), .val (.int (0 : Int32)), .val (.int (0 : Int32)), .val .null, .val (.ref b5), .val (.ref ro0_8), .val .null, .val (.int (1 : Int32))] [(.ref ro0_8)])) rfl (by rw [hml]; rfl) (Steps.refl _) (argsL := []) (rest := []) (lenOf pd_6 rfl) rfl (by show 2 * 0 + _ ≤ _; exact Nat.le_of_eq rfl) (hb hby at_210) (fun _ _ => ⟨rfl, e14, (by decide : 2 + 0 ≤ _), (by decide : 8 + 0 ≤ _)⟩)
      dsimp only [Pt.U, Pt.locs, Pt.cells, Pt.slots] at X16 l16 y16 z16 st16 hQ16
      subst l16 y16 z16
      obtain ⟨hv16, N16q, e16⟩ := hQ16
      have N16 := Fr.app N14 N16q
      have hf16 : f10 ro0_8 (x0_2 + (1 : Int64)) = (x0_2 + (1 : Int64)) := rfl
      rw [hf16] at hv16
      subst hv16
      obtain ⟨fs, hr, hrun, hended, hW, hsame⟩ := X16.leave (v := some (.int (1 : Int32))) (fun h => by rw [Bd.returns] at h; cases h)
      refine ⟨_, _, pre0 _ (sg1 _ (sg3 _ (sg7 _ (sg9 _ (sg11 _ (sg13 _ (sg15 _ (sg17 _ ?_)))))))), hrun, hended, _, _, rfl, ?_, ⟨_, rfl⟩, hW, hsame.mono (by decide) (by decide)⟩
      · show Steps p.tables e below (T14.setTop (mkF m 210 #[.val (.long x0_0), .second, .val (.long x0_1), .second, .val (.long x0_2), .second, .val (.long x0_3), .second, .val (.long x0_4), .second, .val (.int x0_5), .val (.int (0 : Int32)), .val (.int (0 : Int32)), .val .null, .val (.ref b5), .val (.ref ro0_8), .val .null, .val (.int (1 : Int32))] [(.ref ro0_8)])) _
        refine st16.trans ?_
        show Steps p.tables e below (T16.setTop (mkF m 213 #[.val (.long x0_0), .second, .val (.long x0_1), .second, .val (.long x0_2), .second, .val (.long x0_3), .second, .val (.long x0_4), .second, .val (.int x0_5), .val (.int (0 : Int32)), .val (.int (0 : Int32)), .val .null, .val (.ref b5), .val (.ref ro0_8), .val .null, .val (.int (1 : Int32))] [(.long (x0_2 + (1 : Int64)))])) _
        refine XS.lload X16.here hx rfl (hb hby at_213) rfl ?_
        show Steps p.tables e below (T16.setTop (mkF m 215 #[.val (.long x0_0), .second, .val (.long x0_1), .second, .val (.long x0_2), .second, .val (.long x0_3), .second, .val (.long x0_4), .second, .val (.int x0_5), .val (.int (0 : Int32)), .val (.int (0 : Int32)), .val .null, .val (.ref b5), .val (.ref ro0_8), .val .null, .val (.int (1 : Int32))] [(.long x0_2), (.long (x0_2 + (1 : Int64)))])) _
        refine XS.lconst X16.here hx rfl (hb hby at_215) ?_
        show Steps p.tables e below (T16.setTop (mkF m 216 #[.val (.long x0_0), .second, .val (.long x0_1), .second, .val (.long x0_2), .second, .val (.long x0_3), .second, .val (.long x0_4), .second, .val (.int x0_5), .val (.int (0 : Int32)), .val (.int (0 : Int32)), .val .null, .val (.ref b5), .val (.ref ro0_8), .val .null, .val (.int (1 : Int32))] [(.long (1 : Int64)), (.long x0_2), (.long (x0_2 + (1 : Int64)))])) _
        refine XS.ladd X16.here hx rfl (hb hby at_216) rfl ?_
        show Steps p.tables e below (T16.setTop (mkF m 217 #[.val (.long x0_0), .second, .val (.long x0_1), .second, .val (.long x0_2), .second, .val (.long x0_3), .second, .val (.long x0_4), .second, .val (.int x0_5), .val (.int (0 : Int32)), .val (.int (0 : Int32)), .val .null, .val (.ref b5), .val (.ref ro0_8), .val .null, .val (.int (1 : Int32))] [(.long (x0_2 + (1 : Int64))), (.long (x0_2 + (1 : Int64)))])) _
        refine XS.lcmp X16.here hx rfl (hb hby at_217) rfl ?_
        show Steps p.tables e below (T16.setTop (mkF m 218 #[.val (.long x0_0), .second, .val (.long x0_1), .second, .val (.long x0_2), .second, .val (.long x0_3), .second, .val (.long x0_4), .second, .val (.int x0_5), .val (.int (0 : Int32)), .val (.int (0 : Int32)), .val .null, .val (.ref b5), .val (.ref ro0_8), .val .null, .val (.int (1 : Int32))] [(.int (lcmpW (x0_2 + (1 : Int64)) (x0_2 + (1 : Int64))))])) _
        refine XS.ifNo X16.here hx rfl (hb hby at_218) rfl ((if0 _ _).trans (teq ((lw_eq _ _).mpr (rfl : (x0_2 + (1 : Int64)) = (x0_2 + (1 : Int64))))).2) ?_
        show Steps p.tables e below (T16.setTop (mkF m 221 #[.val (.long x0_0), .second, .val (.long x0_1), .second, .val (.long x0_2), .second, .val (.long x0_3), .second, .val (.long x0_4), .second, .val (.int x0_5), .val (.int (0 : Int32)), .val (.int (0 : Int32)), .val .null, .val (.ref b5), .val (.ref ro0_8), .val .null, .val (.int (1 : Int32))] [])) _
        refine XS.iload X16.here hx rfl (hb hby at_221) rfl ?_
        show Steps p.tables e below (T16.setTop (mkF m 223 #[.val (.long x0_0), .second, .val (.long x0_1), .second, .val (.long x0_2), .second, .val (.long x0_3), .second, .val (.long x0_4), .second, .val (.int x0_5), .val (.int (0 : Int32)), .val (.int (0 : Int32)), .val .null, .val (.ref b5), .val (.ref ro0_8), .val .null, .val (.int (1 : Int32))] [(.int (1 : Int32))])) _
        refine XS.ifNo X16.here hx rfl (hb hby at_223) rfl ((if0 _ _).trans (feq (by decide : ¬ ((1 : Int32) = (0 : Int32)))).1) ?_
        show Steps p.tables e below (T16.setTop (mkF m 226 #[.val (.long x0_0), .second, .val (.long x0_1), .second, .val (.long x0_2), .second, .val (.long x0_3), .second, .val (.long x0_4), .second, .val (.int x0_5), .val (.int (0 : Int32)), .val (.int (0 : Int32)), .val .null, .val (.ref b5), .val (.ref ro0_8), .val .null, .val (.int (1 : Int32))] [])) _
        refine XS.iconst X16.here hx rfl (hb hby at_226) ?_
        show Steps p.tables e below (T16.setTop (mkF m 227 #[.val (.long x0_0), .second, .val (.long x0_1), .second, .val (.long x0_2), .second, .val (.long x0_3), .second, .val (.long x0_4), .second, .val (.int x0_5), .val (.int (0 : Int32)), .val (.int (0 : Int32)), .val .null, .val (.ref b5), .val (.ref ro0_8), .val .null, .val (.int (1 : Int32))] [(.int (1 : Int32))])) _
        refine XS.goto X16.here hx rfl (pc0 := 227) (pc' := 231) rfl (hb hby at_227) (by decide) (by decide) ?_
        show Steps p.tables e below (T16.setTop (mkF m 231 #[.val (.long x0_0), .second, .val (.long x0_1), .second, .val (.long x0_2), .second, .val (.long x0_3), .second, .val (.long x0_4), .second, .val (.int x0_5), .val (.int (0 : Int32)), .val (.int (0 : Int32)), .val .null, .val (.ref b5), .val (.ref ro0_8), .val .null, .val (.int (1 : Int32))] [(.int (1 : Int32))])) _
        exact retN X16 hx (t := .boolean) Bd.returns (by simp) (hb hby at_231) hr
      · show Q0 Z x0_0 x0_1 x0_2 x0_3 x0_4 x0_5 cA cl h0 n0 _ T16.heap _
        rw [e16]
        exact ⟨rfl, N16⟩
    · have sg19 : ∀ t, Steps p.tables e below (s₁.setTop (mkF m 35 #[.val (.long x0_0), .second, .val (.long x0_1), .second, .val (.long x0_2), .second, .val (.long x0_3), .second, .val (.long x0_4), .second, .val (.int x0_5), .val (.int (0 : Int32)), .val (.int (1 : Int32)), .unset, .unset, .unset, .unset, .unset] [(.long x0_3)])) t → Steps p.tables e below (s₁.setTop (mkF m 18 #[.val (.long x0_0), .second, .val (.long x0_1), .second, .val (.long x0_2), .second, .val (.long x0_3), .second, .val (.long x0_4), .second, .val (.int x0_5), .val (.int (0 : Int32)), .unset, .unset, .unset, .unset, .unset, .unset] [(.int (x0_5 &&& (2 : Int32)))])) t := fun t kt => by
        show Steps p.tables e below (s₁.setTop (mkF m 18 #[.val (.long x0_0), .second, .val (.long x0_1), .second, .val (.long x0_2), .second, .val (.long x0_3), .second, .val (.long x0_4), .second, .val (.int x0_5), .val (.int (0 : Int32)), .unset, .unset, .unset, .unset, .unset, .unset] [(.int (x0_5 &&& (2 : Int32)))])) _
        refine XS.ifNo X0.here hx rfl (hb hby at_18) rfl ((if0 _ _).trans (feq hc18_4).1) ?_
        show Steps p.tables e below (s₁.setTop (mkF m 21 #[.val (.long x0_0), .second, .val (.long x0_1), .second, .val (.long x0_2), .second, .val (.long x0_3), .second, .val (.long x0_4), .second, .val (.int x0_5), .val (.int (0 : Int32)), .unset, .unset, .unset, .unset, .unset, .unset] [])) _
        refine XS.iconst X0.here hx rfl (hb hby at_21) ?_
        show Steps p.tables e below (s₁.setTop (mkF m 22 #[.val (.long x0_0), .second, .val (.long x0_1), .second, .val (.long x0_2), .second, .val (.long x0_3), .second, .val (.long x0_4), .second, .val (.int x0_5), .val (.int (0 : Int32)), .unset, .unset, .unset, .unset, .unset, .unset] [(.int (1 : Int32))])) _
        refine XS.goto X0.here hx rfl (pc0 := 22) (pc' := 26) rfl (hb hby at_22) (by decide) (by decide) ?_
        show Steps p.tables e below (s₁.setTop (mkF m 26 #[.val (.long x0_0), .second, .val (.long x0_1), .second, .val (.long x0_2), .second, .val (.long x0_3), .second, .val (.long x0_4), .second, .val (.int x0_5), .val (.int (0 : Int32)), .unset, .unset, .unset, .unset, .unset, .unset] [(.int (1 : Int32))])) _
        refine XS.istore X0.here hx rfl (hb hby at_26) rfl (l' := #[.val (.long x0_0), .second, .val (.long x0_1), .second, .val (.long x0_2), .second, .val (.long x0_3), .second, .val (.long x0_4), .second, .val (.int x0_5), .val (.int (0 : Int32)), .val (.int (1 : Int32)), .unset, .unset, .unset, .unset, .unset]) rfl ?_
        show Steps p.tables e below (s₁.setTop (mkF m 28 #[.val (.long x0_0), .second, .val (.long x0_1), .second, .val (.long x0_2), .second, .val (.long x0_3), .second, .val (.long x0_4), .second, .val (.int x0_5), .val (.int (0 : Int32)), .val (.int (1 : Int32)), .unset, .unset, .unset, .unset, .unset] [])) _
        refine XS.iload X0.here hx rfl (hb hby at_28) rfl ?_
        show Steps p.tables e below (s₁.setTop (mkF m 30 #[.val (.long x0_0), .second, .val (.long x0_1), .second, .val (.long x0_2), .second, .val (.long x0_3), .second, .val (.long x0_4), .second, .val (.int x0_5), .val (.int (0 : Int32)), .val (.int (1 : Int32)), .unset, .unset, .unset, .unset, .unset] [(.int (1 : Int32))])) _
        refine XS.ifNo X0.here hx rfl (hb hby at_30) rfl ((if0 _ _).trans (feq (by decide : ¬ ((1 : Int32) = (0 : Int32)))).1) ?_
        show Steps p.tables e below (s₁.setTop (mkF m 33 #[.val (.long x0_0), .second, .val (.long x0_1), .second, .val (.long x0_2), .second, .val (.long x0_3), .second, .val (.long x0_4), .second, .val (.int x0_5), .val (.int (0 : Int32)), .val (.int (1 : Int32)), .unset, .unset, .unset, .unset, .unset] [])) _
        refine XS.lload X0.here hx rfl (hb hby at_33) rfl ?_
        exact kt
      obtain ⟨v18, _, ⟨T18, L18, k18, n18⟩, -, X18, ⟨Lc18, hQ18, l18, y18, z18⟩, st18⟩ := Jvm.LawKit.callS X0 hx (y := (⟨"java/lang/Long", "valueOf", "(J)Ljava/lang/Long;"⟩ : MethodName)) hown (mvT hZ (hw _ (List.mem_of_getElem? (i := 0) rfl))) (mvT hZ (hw _ (List.mem_of_getElem? (i := 1) rfl))) (mvT hZ (hw _ (List.mem_of_getElem? (i := 2) rfl))) (mvT hZ (hw _ (List.mem_of_getElem? (i := 3) rfl))) (by decide) (backOf (W := 0) (rm1 l Z a0 hw [] x0_3 cA cl h0 n0 Z0 O0 JC SC) hZ (hw _ (List.mem_of_getElem? (i := 3) rfl)) (hw _ (List.mem_of_getElem? (i := 2) rfl)) (by decide) (by decide)) (g := (mkF m 35 #[.val (.long x0_0), .second, .val (.long x0_1), .second, .val (.long x0_2), .second, .val (.long x0_3), .second, .val (.long x0_4), .second, .val (.int x0_5), .val (.int (0 : Int32)), .val (.int (1 : Int32)), .unset, .unset, .unset, .unset, .unset] [(.long x0_3)])) rfl (by rw [hml]; rfl) (argsL := [(.long x0_3)]) (rest := []) (lenOf pd_3 rfl) rfl (by show 2 * 0 + _ ≤ _; exact Nat.le_of_eq rfl) (hb hby at_35) (fun _ _ => ⟨rfl, e0, (by decide : 0 + 1 ≤ _), (by decide : 0 + 1 ≤ _)⟩)
      dsimp only [Pt.U, Pt.locs, Pt.cells, Pt.slots] at X18 l18 y18 z18 st18 hQ18
      subst l18 y18 z18
      obtain ⟨r18, rfl, N18q, K18, Ex18, Fq18⟩ := hQ18
      have N18 := Fr.app N0 N18q
      have Zs18 : n0 ≤ T18.heap.size := Nat.le_trans Z0 K18.1
      have Ol18 : Old Z n0 T18.heap := (O0).keep K18 all0
      obtain ⟨T20, h20, X20, e20, E20, A20, D20, -, st20⟩ := newO X18 hx hZ hown (hw _ (List.mem_of_getElem? (i := 8) rfl)) (hw _ (List.mem_of_getElem? (i := 9) rfl)) (hw _ (List.mem_of_getElem? (i := 10) rfl)) rfl (g := (mkF m 44 #[.val (.long x0_0), .second, .val (.long x0_1), .second, .val (.long x0_2), .second, .val (.long x0_3), .second, .val (.long x0_4), .second, .val (.int x0_5), .val (.int (0 : Int32)), .val (.int (1 : Int32)), .val (.ref r18), .unset, .unset, .unset, .unset] [])) rfl (hb hby at_44) (by decide) (by decide)
      obtain ⟨b20, g20⟩ : ∃ z, z = T18.heap.size := ⟨_, rfl⟩
      rw [← g20] at A20 D20 st20
      have g_b20 : n0 ≤ b20 := Nat.le_trans Zs18 (Nat.le_of_eq g20.symm)
      have ne_r18_b20 : r18 ≠ b20 := Nat.ne_of_lt (Nat.lt_of_lt_of_le Ex18.lt (Nat.le_of_eq g20.symm))
      have Zs20 : n0 ≤ h20.size := Nat.le_trans Zs18 E20.1
      have Ol20 : Old Z n0 h20 := (Ol18).ext E20
      have F_attempts_b20 : Fld Z h20 b20 "com/example/redeliver/redeliver/EndpointCounters" "attempts" "J" (.long (0 : Int64)) := D20 (Or.inr (hw _ (List.mem_of_getElem? (i := 23) rfl))) (ty := .long) (by decide)
      have F_failures_b20 : Fld Z h20 b20 "com/example/redeliver/redeliver/EndpointCounters" "failures" "J" (.long (0 : Int64)) := D20 (Or.inr (hw _ (List.mem_of_getElem? (i := 25) rfl))) (ty := .long) (by decide)
      have F_consecutiveFailures_b20 : Fld Z h20 b20 "com/example/redeliver/redeliver/EndpointCounters" "consecutiveFailures" "J" (.long (0 : Int64)) := D20 (Or.inr (hw _ (List.mem_of_getElem? (i := 27) rfl))) (ty := .long) (by decide)
      have F_lastSuccessAt_b20 : Fld Z h20 b20 "com/example/redeliver/redeliver/EndpointCounters" "lastSuccessAt" "Ljava/lang/Long;" .null := D20 (Or.inr (hw _ (List.mem_of_getElem? (i := 29) rfl))) (ty := (.object "java/lang/Long")) (by decide)
      have sg22 : ∀ t, Steps p.tables e below (T20.setTop (mkF m 54 #[.val (.long x0_0), .second, .val (.long x0_1), .second, .val (.long x0_2), .second, .val (.long x0_3), .second, .val (.long x0_4), .second, .val (.int x0_5), .val (.int (0 : Int32)), .val (.int (1 : Int32)), .val (.ref r18), .unset, .unset, .unset, .unset] [(.ref r18), (.long x0_2), (.long x0_1), (.long x0_0), (.ref b20), (.ref b20)])) t → Steps p.tables e below (s₁.setTop (mkF m 35 #[.val (.long x0_0), .second, .val (.long x0_1), .second, .val (.long x0_2), .second, .val (.long x0_3), .second, .val (.long x0_4), .second, .val (.int x0_5), .val (.int (0 : Int32)), .val (.int (1 : Int32)), .unset, .unset, .unset, .unset, .unset] [(.long x0_3)])) t := fun t kt => by
        show Steps p.tables e below (s₁.setTop (mkF m 35 #[.val (.long x0_0), .second, .val (.long x0_1), .second, .val (.long x0_2), .second, .val (.long x0_3), .second, .val (.long x0_4), .second, .val (.int x0_5), .val (.int (0 : Int32)), .val (.int (1 : Int32)), .unset, .unset, .unset, .unset, .unset] [(.long x0_3)])) _
        refine st18 _ ?_
        show Steps p.tables e below (T18.setTop (mkF m 38 #[.val (.long x0_0), .second, .val (.long x0_1), .second, .val (.long x0_2), .second, .val (.long x0_3), .second, .val (.long x0_4), .second, .val (.int x0_5), .val (.int (0 : Int32)), .val (.int (1 : Int32)), .unset, .unset, .unset, .unset, .unset] [(.ref r18)])) _
        refine XS.goto X18.here hx rfl (pc0 := 38) (pc' := 42) rfl (hb hby at_38) (by decide) (by decide) ?_
        show Steps p.tables e below (T18.setTop (mkF m 42 #[.val (.long x0_0), .second, .val (.long x0_1), .second, .val (.long x0_2), .second, .val (.long x0_3), .second, .val (.long x0_4), .second, .val (.int x0_5), .val (.int (0 : Int32)), .val (.int (1 : Int32)), .unset, .unset, .unset, .unset, .unset] [(.ref r18)])) _
        refine XS.astore X18.here hx rfl (hb hby at_42) rfl rfl (l' := #[.val (.long x0_0), .second, .val (.long x0_1), .second, .val (.long x0_2), .second, .val (.long x0_3), .second, .val (.long x0_4), .second, .val (.int x0_5), .val (.int (0 : Int32)), .val (.int (1 : Int32)), .val (.ref r18), .unset, .unset, .unset, .unset]) rfl ?_
        show Steps p.tables e below (T18.setTop (mkF m 44 #[.val (.long x0_0), .second, .val (.long x0_1), .second, .val (.long x0_2), .second, .val (.long x0_3), .second, .val (.long x0_4), .second, .val (.int x0_5), .val (.int (0 : Int32)), .val (.int (1 : Int32)), .val (.ref r18), .unset, .unset, .unset, .unset] [])) _
        refine st20 _ ?_
        show Steps p.tables e below (T20.setTop (mkF m 47 #[.val (.long x0_0), .second, .val (.long x0_1), .second, .val (.long x0_2), .second, .val (.long x0_3), .second, .val (.long x0_4), .second, .val (.int x0_5), .val (.int (0 : Int32)), .val (.int (1 : Int32)), .val (.ref r18), .unset, .unset, .unset, .unset] [(.ref b20)])) _
        refine XS.dup X20.here hx rfl (hb hby at_47) rfl rfl ?_
        show Steps p.tables e below (T20.setTop (mkF m 48 #[.val (.long x0_0), .second, .val (.long x0_1), .second, .val (.long x0_2), .second, .val (.long x0_3), .second, .val (.long x0_4), .second, .val (.int x0_5), .val (.int (0 : Int32)), .val (.int (1 : Int32)), .val (.ref r18), .unset, .unset, .unset, .unset] [(.ref b20), (.ref b20)])) _
        refine XS.lloadN X20.here hx rfl (hb hby at_48) rfl ?_
        show Steps p.tables e below (T20.setTop (mkF m 49 #[.val (.long x0_0), .second, .val (.long x0_1), .second, .val (.long x0_2), .second, .val (.long x0_3), .second, .val (.long x0_4), .second, .val (.int x0_5), .val (.int (0 : Int32)), .val (.int (1 : Int32)), .val (.ref r18), .unset, .unset, .unset, .unset] [(.long x0_0), (.ref b20), (.ref b20)])) _
        refine XS.lloadN X20.here hx rfl (hb hby at_49) rfl ?_
        show Steps p.tables e below (T20.setTop (mkF m 50 #[.val (.long x0_0), .second, .val (.long x0_1), .second, .val (.long x0_2), .second, .val (.long x0_3), .second, .val (.long x0_4), .second, .val (.int x0_5), .val (.int (0 : Int32)), .val (.int (1 : Int32)), .val (.ref r18), .unset, .unset, .unset, .unset] [(.long x0_1), (.long x0_0), (.ref b20), (.ref b20)])) _
        refine XS.lload X20.here hx rfl (hb hby at_50) rfl ?_
        show Steps p.tables e below (T20.setTop (mkF m 52 #[.val (.long x0_0), .second, .val (.long x0_1), .second, .val (.long x0_2), .second, .val (.long x0_3), .second, .val (.long x0_4), .second, .val (.int x0_5), .val (.int (0 : Int32)), .val (.int (1 : Int32)), .val (.ref r18), .unset, .unset, .unset, .unset] [(.long x0_2), (.long x0_1), (.long x0_0), (.ref b20), (.ref b20)])) _
        refine XS.aload X20.here hx rfl (hb hby at_52) rfl rfl ?_
        exact kt
      obtain ⟨v21, _, ⟨T21, L21, k21, n21⟩, -, X21, ⟨Lc21, hQ21, l21, y21, z21⟩, st21⟩ := X20.specialBack hx (y := (⟨"com/example/redeliver/redeliver/EndpointCounters", "<init>", "(JJJLjava/lang/Long;)V"⟩ : MethodName)) rfl hown (mvT hZ (hw _ (List.mem_of_getElem? (i := 11) rfl))) (mvT hZ (hw _ (List.mem_of_getElem? (i := 12) rfl))) (mvT hZ (hw _ (List.mem_of_getElem? (i := 13) rfl))) (by decide) (backOf (W := 1) (rmcr l Z a0 hw [] b20 x0_0 x0_1 x0_2 r18 h20 n0 Zs20 A20 g_b20 F_attempts_b20 F_failures_b20 F_consecutiveFailures_b20 F_lastSuccessAt_b20) hZ (hw _ (List.mem_of_getElem? (i := 13) rfl)) (hw _ (List.mem_of_getElem? (i := 10) rfl)) (by decide) (by decide)) (g := (mkF m 54 #[.val (.long x0_0), .second, .val (.long x0_1), .second, .val (.long x0_2), .second, .val (.long x0_3), .second, .val (.long x0_4), .second, .val (.int x0_5), .val (.int (0 : Int32)), .val (.int (1 : Int32)), .val (.ref r18), .unset, .unset, .unset, .unset] [(.ref r18), (.long x0_2), (.long x0_1), (.long x0_0), (.ref b20), (.ref b20)])) rfl (by rw [hml]; rfl) (Steps.refl _) (a := b20) (argsL := [(.long x0_0), (.long x0_1), (.long x0_2), (.ref r18)]) (rest := [(.ref b20)]) (lenOf pd_2 rfl) rfl (by show 2 * 0 + _ ≤ _; exact Nat.le_of_eq rfl) (hb hby at_54) (fun _ _ => ⟨rfl, e20, (by decide : 2 + 0 ≤ _), (by decide : 5 + 0 ≤ _)⟩)
      dsimp only [Pt.U, Pt.locs, Pt.cells, Pt.slots] at X21 l21 y21 z21 st21 hQ21
      subst l21 y21 z21
      obtain ⟨rfl, N21q, K21, Ex21, Fq21_attempts, Fq21_failures, Fq21_consecutiveFailures, Fq21_lastSuccessAt⟩ := hQ21
      have N21 := Fr.app N18 N21q
      have Zs21 : n0 ≤ T21.heap.size := Nat.le_trans Zs20 K21.1
      have Ol21 : Old Z n0 T21.heap := (Ol20).keep K21 (allS g_b20 all0)
      have sg24 : ∀ t, Steps p.tables e below (T21.setTop (mkF m 65 #[.val (.long x0_0), .second, .val (.long x0_1), .second, .val (.long x0_2), .second, .val (.long x0_3), .second, .val (.long x0_4), .second, .val (.int x0_5), .val (.int (0 : Int32)), .val (.int (1 : Int32)), .val (.ref r18), .val (.ref b20), .unset, .unset, .unset] [(.long x0_4), (.int (0 : Int32)), (.ref b20)])) t → Steps p.tables e below (T20.setTop (mkF m 54 #[.val (.long x0_0), .second, .val (.long x0_1), .second, .val (.long x0_2), .second, .val (.long x0_3), .second, .val (.long x0_4), .second, .val (.int x0_5), .val (.int (0 : Int32)), .val (.int (1 : Int32)), .val (.ref r18), .unset, .unset, .unset, .unset] [(.ref r18), (.long x0_2), (.long x0_1), (.long x0_0), (.ref b20), (.ref b20)])) t := fun t kt => by
        show Steps p.tables e below (T20.setTop (mkF m 54 #[.val (.long x0_0), .second, .val (.long x0_1), .second, .val (.long x0_2), .second, .val (.long x0_3), .second, .val (.long x0_4), .second, .val (.int x0_5), .val (.int (0 : Int32)), .val (.int (1 : Int32)), .val (.ref r18), .unset, .unset, .unset, .unset] [(.ref r18), (.long x0_2), (.long x0_1), (.long x0_0), (.ref b20), (.ref b20)])) _
        refine st21.trans ?_
        show Steps p.tables e below (T21.setTop (mkF m 57 #[.val (.long x0_0), .second, .val (.long x0_1), .second, .val (.long x0_2), .second, .val (.long x0_3), .second, .val (.long x0_4), .second, .val (.int x0_5), .val (.int (0 : Int32)), .val (.int (1 : Int32)), .val (.ref r18), .unset, .unset, .unset, .unset] [(.ref b20)])) _
        refine XS.astore X21.here hx rfl (hb hby at_57) rfl rfl (l' := #[.val (.long x0_0), .second, .val (.long x0_1), .second, .val (.long x0_2), .second, .val (.long x0_3), .second, .val (.long x0_4), .second, .val (.int x0_5), .val (.int (0 : Int32)), .val (.int (1 : Int32)), .val (.ref r18), .val (.ref b20), .unset, .unset, .unset]) rfl ?_
        show Steps p.tables e below (T21.setTop (mkF m 59 #[.val (.long x0_0), .second, .val (.long x0_1), .second, .val (.long x0_2), .second, .val (.long x0_3), .second, .val (.long x0_4), .second, .val (.int x0_5), .val (.int (0 : Int32)), .val (.int (1 : Int32)), .val (.ref r18), .val (.ref b20), .unset, .unset, .unset] [])) _
        refine XS.aload X21.here hx rfl (hb hby at_59) rfl rfl ?_
        show Steps p.tables e below (T21.setTop (mkF m 61 #[.val (.long x0_0), .second, .val (.long x0_1), .second, .val (.long x0_2), .second, .val (.long x0_3), .second, .val (.long x0_4), .second, .val (.int x0_5), .val (.int (0 : Int32)), .val (.int (1 : Int32)), .val (.ref r18), .val (.ref b20), .unset, .unset, .unset] [(.ref b20)])) _
        refine XS.iload X21.here hx rfl (hb hby at_61) rfl ?_
        show Steps p.tables e below (T21.setTop (mkF m 63 #[.val (.long x0_0), .second, .val (.long x0_1), .second, .val (.long x0_2), .second, .val (.long x0_3), .second, .val (.long x0_4), .second, .val (.int x0_5), .val (.int (0 : Int32)), .val (.int (1 : Int32)), .val (.ref r18), .val (.ref b20), .unset, .unset, .unset] [(.int (0 : Int32)), (.ref b20)])) _
        refine XS.lload X21.here hx rfl (hb hby at_63) rfl ?_
        exact kt
      obtain ⟨cq23, kq23, q23a, q23b, q23c⟩ := isOf hZ rfl Ex21
      obtain ⟨v23, _, ⟨T23, L23, k23, n23⟩, -, X23, ⟨Lc23, hQ23, l23, y23, z23⟩, st23⟩ := X21.virtualBack hx (y := (⟨"com/example/redeliver/redeliver/EndpointCounters", "after", "(ZJ)Lcom/example/redeliver/redeliver/EndpointCounters;"⟩ : MethodName)) (z := (⟨"com/example/redeliver/redeliver/EndpointCounters", "after", "(ZJ)Lcom/example/redeliver/redeliver/EndpointCounters;"⟩ : MethodName)) hown (mvT hZ (hw _ (List.mem_of_getElem? (i := 30) rfl))) (mvT hZ (hw _ (List.mem_of_getElem? (i := 31) rfl))) (notFace_of_selects (args := #[]) (mvT hZ (hw _ (List.mem_of_getElem? (i := 33) rfl)))) (mvT hZ (hw _ (List.mem_of_getElem? (i := 33) rfl))) (mvT hZ (hw _ (List.mem_of_getElem? (i := 32) rfl))) (by decide) (backOf (W := 0) (rmar l Z a0 hw [] b20 x0_4 x0_0 x0_1 x0_2 r18 T21.heap n0 Zs21 Ex21 Fq21_attempts Fq21_failures Fq21_consecutiveFailures Fq21_lastSuccessAt) hZ (hw _ (List.mem_of_getElem? (i := 34) rfl)) (hw _ (List.mem_of_getElem? (i := 10) rfl)) (by decide) (by decide)) q23a q23c (g := (mkF m 65 #[.val (.long x0_0), .second, .val (.long x0_1), .second, .val (.long x0_2), .second, .val (.long x0_3), .second, .val (.long x0_4), .second, .val (.int x0_5), .val (.int (0 : Int32)), .val (.int (1 : Int32)), .val (.ref r18), .val (.ref b20), .unset, .unset, .unset] [(.long x0_4), (.int (0 : Int32)), (.ref b20)])) rfl (by rw [hml]; rfl) (Steps.refl _) (argsL := [(.int (0 : Int32)), (.long x0_4)]) (rest := []) (lenOf pd_4 rfl) rfl (by show 2 * 0 + _ ≤ _; exact Nat.le_of_eq rfl) (hb hby at_65) (fun _ _ => ⟨rfl, rfl, (by decide : 2 + 1 ≤ _), (by decide : 5 + 4 ≤ _)⟩)
      dsimp only [Pt.U, Pt.locs, Pt.cells, Pt.slots] at X23 l23 y23 z23 st23 hQ23
      subst l23 y23 z23
      obtain ⟨ro0_23, rfl, N23q, K23, Ero0_23, Fro0_23_attempts, Fro0_23_failures, Fro0_23_consecutiveFailures, Fro0_23_lastSuccessAt⟩ := hQ23
      have N23 := Fr.app N21 N23q
      have Zs23 : n0 ≤ T23.heap.size := Nat.le_trans Zs21 K23.1
      have Ol23 : Old Z n0 T23.heap := (Ol21).keep K23 all0
      have sg26 : ∀ t, Steps p.tables e below (T23.setTop (mkF m 79 #[.val (.long x0_0), .second, .val (.long x0_1), .second, .val (.long x0_2), .second, .val (.long x0_3), .second, .val (.long x0_4), .second, .val (.int x0_5), .val (.int (0 : Int32)), .val (.int (1 : Int32)), .val (.ref r18), .val (.ref b20), .val (.ref ro0_23), .unset, .unset] [(.ref ro0_23)])) t → Steps p.tables e below (T21.setTop (mkF m 65 #[.val (.long x0_0), .second, .val (.long x0_1), .second, .val (.long x0_2), .second, .val (.long x0_3), .second, .val (.long x0_4), .second, .val (.int x0_5), .val (.int (0 : Int32)), .val (.int (1 : Int32)), .val (.ref r18), .val (.ref b20), .unset, .unset, .unset] [(.long x0_4), (.int (0 : Int32)), (.ref b20)])) t := fun t kt => by
        show Steps p.tables e below (T21.setTop (mkF m 65 #[.val (.long x0_0), .second, .val (.long x0_1), .second, .val (.long x0_2), .second, .val (.long x0_3), .second, .val (.long x0_4), .second, .val (.int x0_5), .val (.int (0 : Int32)), .val (.int (1 : Int32)), .val (.ref r18), .val (.ref b20), .unset, .unset, .unset] [(.long x0_4), (.int (0 : Int32)), (.ref b20)])) _
        refine st23.trans ?_
        show Steps p.tables e below (T23.setTop (mkF m 68 #[.val (.long x0_0), .second, .val (.long x0_1), .second, .val (.long x0_2), .second, .val (.long x0_3), .second, .val (.long x0_4), .second, .val (.int x0_5), .val (.int (0 : Int32)), .val (.int (1 : Int32)), .val (.ref r18), .val (.ref b20), .unset, .unset, .unset] [(.ref ro0_23)])) _
        refine XS.astore X23.here hx rfl (hb hby at_68) rfl rfl (l' := #[.val (.long x0_0), .second, .val (.long x0_1), .second, .val (.long x0_2), .second, .val (.long x0_3), .second, .val (.long x0_4), .second, .val (.int x0_5), .val (.int (0 : Int32)), .val (.int (1 : Int32)), .val (.ref r18), .val (.ref b20), .val (.ref ro0_23), .unset, .unset]) rfl ?_
        show Steps p.tables e below (T23.setTop (mkF m 70 #[.val (.long x0_0), .second, .val (.long x0_1), .second, .val (.long x0_2), .second, .val (.long x0_3), .second, .val (.long x0_4), .second, .val (.int x0_5), .val (.int (0 : Int32)), .val (.int (1 : Int32)), .val (.ref r18), .val (.ref b20), .val (.ref ro0_23), .unset, .unset] [])) _
        refine XS.aload X23.here hx rfl (hb hby at_70) rfl rfl ?_
        show Steps p.tables e below (T23.setTop (mkF m 72 #[.val (.long x0_0), .second, .val (.long x0_1), .second, .val (.long x0_2), .second, .val (.long x0_3), .second, .val (.long x0_4), .second, .val (.int x0_5), .val (.int (0 : Int32)), .val (.int (1 : Int32)), .val (.ref r18), .val (.ref b20), .val (.ref ro0_23), .unset, .unset] [(.ref ro0_23)])) _
        refine XS.ifnonnullYes X23.here hx rfl (pc0 := 72) (pc' := 77) rfl (hb hby at_72) rfl (by decide) (by decide) ?_
        show Steps p.tables e below (T23.setTop (mkF m 77 #[.val (.long x0_0), .second, .val (.long x0_1), .second, .val (.long x0_2), .second, .val (.long x0_3), .second, .val (.long x0_4), .second, .val (.int x0_5), .val (.int (0 : Int32)), .val (.int (1 : Int32)), .val (.ref r18), .val (.ref b20), .val (.ref ro0_23), .unset, .unset] [])) _
        refine XS.aload X23.here hx rfl (hb hby at_77) rfl rfl ?_
        exact kt
      obtain ⟨cq25, kq25, q25a, q25b, q25c⟩ := isOf hZ rfl Ero0_23
      obtain ⟨v25, _, ⟨T25, L25, k25, n25⟩, -, X25, ⟨Lc25, hQ25, l25, y25, z25⟩, st25⟩ := X23.virtualBack hx (y := (⟨"com/example/redeliver/redeliver/EndpointCounters", "lastSuccessAt", "()Ljava/lang/Long;"⟩ : MethodName)) (z := (⟨"com/example/redeliver/redeliver/EndpointCounters", "lastSuccessAt", "()Ljava/lang/Long;"⟩ : MethodName)) hown (mvT hZ (hw _ (List.mem_of_getElem? (i := 37) rfl))) (mvT hZ (hw _ (List.mem_of_getElem? (i := 38) rfl))) (notFace_of_selects (args := #[]) (mvT hZ (hw _ (List.mem_of_getElem? (i := 40) rfl)))) (mvT hZ (hw _ (List.mem_of_getElem? (i := 40) rfl))) (mvT hZ (hw _ (List.mem_of_getElem? (i := 39) rfl))) (by decide) (backOf (W := 0) (rmlr l Z a0 hw [] ro0_23 r18 T23.heap n0 Zs23 Fro0_23_lastSuccessAt) hZ (hw _ (List.mem_of_getElem? (i := 41) rfl)) (hw _ (List.mem_of_getElem? (i := 10) rfl)) (by decide) (by decide)) q25a q25c (g := (mkF m 79 #[.val (.long x0_0), .second, .val (.long x0_1), .second, .val (.long x0_2), .second, .val (.long x0_3), .second, .val (.long x0_4), .second, .val (.int x0_5), .val (.int (0 : Int32)), .val (.int (1 : Int32)), .val (.ref r18), .val (.ref b20), .val (.ref ro0_23), .unset, .unset] [(.ref ro0_23)])) rfl (by rw [hml]; rfl) (Steps.refl _) (argsL := []) (rest := []) (lenOf pd_5 rfl) rfl (by show 2 * 0 + _ ≤ _; exact Nat.le_of_eq rfl) (hb hby at_79) (fun _ _ => ⟨rfl, rfl, (by decide : 3 + 0 ≤ _), (by decide : 9 + 0 ≤ _)⟩)
      dsimp only [Pt.U, Pt.locs, Pt.cells, Pt.slots] at X25 l25 y25 z25 st25 hQ25
      subst l25 y25 z25
      obtain ⟨hv25, N25q, e25⟩ := hQ25
      have N25 := Fr.app N23 N25q
      have hf25 : flr ro0_23 r18 = r18 := rfl
      rw [hf25] at hv25
      subst hv25
      have c27 := (Exa.keep (Exa.keep (Exa.ext E20 Ex18) K21) K23)
      have c28 := (Fld.keep (Fld.keep (Fld.ext E20 Fq18) K21 (ninS ne_r18_b20 nin0)) K23 nin0)
      have sg30 : ∀ t, Steps p.tables e below (T25.setTop (mkF m 155 #[.val (.long x0_0), .second, .val (.long x0_1), .second, .val (.long x0_2), .second, .val (.long x0_3), .second, .val (.long x0_4), .second, .val (.int x0_5), .val (.int (0 : Int32)), .val (.int (1 : Int32)), .val (.ref r18), .val (.ref b20), .val (.ref ro0_23), .val (.ref r18), .unset] [(.ref r18)])) t → Steps p.tables e below (T23.setTop (mkF m 79 #[.val (.long x0_0), .second, .val (.long x0_1), .second, .val (.long x0_2), .second, .val (.long x0_3), .second, .val (.long x0_4), .second, .val (.int x0_5), .val (.int (0 : Int32)), .val (.int (1 : Int32)), .val (.ref r18), .val (.ref b20), .val (.ref ro0_23), .unset, .unset] [(.ref ro0_23)])) t := fun t kt => by
        show Steps p.tables e below (T23.setTop (mkF m 79 #[.val (.long x0_0), .second, .val (.long x0_1), .second, .val (.long x0_2), .second, .val (.long x0_3), .second, .val (.long x0_4), .second, .val (.int x0_5), .val (.int (0 : Int32)), .val (.int (1 : Int32)), .val (.ref r18), .val (.ref b20), .val (.ref ro0_23), .unset, .unset] [(.ref ro0_23)])) _
        refine st25.trans ?_
        show Steps p.tables e below (T25.setTop (mkF m 82 #[.val (.long x0_0), .second, .val (.long x0_1), .second, .val (.long x0_2), .second, .val (.long x0_3), .second, .val (.long x0_4), .second, .val (.int x0_5), .val (.int (0 : Int32)), .val (.int (1 : Int32)), .val (.ref r18), .val (.ref b20), .val (.ref ro0_23), .unset, .unset] [(.ref r18)])) _
        refine XS.astore X25.here hx rfl (hb hby at_82) rfl rfl (l' := #[.val (.long x0_0), .second, .val (.long x0_1), .second, .val (.long x0_2), .second, .val (.long x0_3), .second, .val (.long x0_4), .second, .val (.int x0_5), .val (.int (0 : Int32)), .val (.int (1 : Int32)), .val (.ref r18), .val (.ref b20), .val (.ref ro0_23), .val (.ref r18), .unset]) rfl ?_
        show Steps p.tables e below (T25.setTop (mkF m 84 #[.val (.long x0_0), .second, .val (.long x0_1), .second, .val (.long x0_2), .second, .val (.long x0_3), .second, .val (.long x0_4), .second, .val (.int x0_5), .val (.int (0 : Int32)), .val (.int (1 : Int32)), .val (.ref r18), .val (.ref b20), .val (.ref ro0_23), .val (.ref r18), .unset] [])) _
        refine XS.iload X25.here hx rfl (hb hby at_84) rfl ?_
        show Steps p.tables e below (T25.setTop (mkF m 86 #[.val (.long x0_0), .second, .val (.long x0_1), .second, .val (.long x0_2), .second, .val (.long x0_3), .second, .val (.long x0_4), .second, .val (.int x0_5), .val (.int (0 : Int32)), .val (.int (1 : Int32)), .val (.ref r18), .val (.ref b20), .val (.ref ro0_23), .val (.ref r18), .unset] [(.int (0 : Int32))])) _
        refine XS.ifYes X25.here hx rfl (pc0 := 86) (pc' := 143) rfl (hb hby at_86) rfl ((if0 _ _).trans (teq (by decide : ((0 : Int32) = (0 : Int32)))).1) (by decide) (by decide) ?_
        show Steps p.tables e below (T25.setTop (mkF m 143 #[.val (.long x0_0), .second, .val (.long x0_1), .second, .val (.long x0_2), .second, .val (.long x0_3), .second, .val (.long x0_4), .second, .val (.int x0_5), .val (.int (0 : Int32)), .val (.int (1 : Int32)), .val (.ref r18), .val (.ref b20), .val (.ref ro0_23), .val (.ref r18), .unset] [])) _
        refine XS.iload X25.here hx rfl (hb hby at_143) rfl ?_
        show Steps p.tables e below (T25.setTop (mkF m 145 #[.val (.long x0_0), .second, .val (.long x0_1), .second, .val (.long x0_2), .second, .val (.long x0_3), .second, .val (.long x0_4), .second, .val (.int x0_5), .val (.int (0 : Int32)), .val (.int (1 : Int32)), .val (.ref r18), .val (.ref b20), .val (.ref ro0_23), .val (.ref r18), .unset] [(.int (1 : Int32))])) _
        refine XS.ifNo X25.here hx rfl (hb hby at_145) rfl ((if0 _ _).trans (feq (by decide : ¬ ((1 : Int32) = (0 : Int32)))).1) ?_
        show Steps p.tables e below (T25.setTop (mkF m 148 #[.val (.long x0_0), .second, .val (.long x0_1), .second, .val (.long x0_2), .second, .val (.long x0_3), .second, .val (.long x0_4), .second, .val (.int x0_5), .val (.int (0 : Int32)), .val (.int (1 : Int32)), .val (.ref r18), .val (.ref b20), .val (.ref ro0_23), .val (.ref r18), .unset] [])) _
        refine XS.aload X25.here hx rfl (hb hby at_148) rfl rfl ?_
        show Steps p.tables e below (T25.setTop (mkF m 150 #[.val (.long x0_0), .second, .val (.long x0_1), .second, .val (.long x0_2), .second, .val (.long x0_3), .second, .val (.long x0_4), .second, .val (.int x0_5), .val (.int (0 : Int32)), .val (.int (1 : Int32)), .val (.ref r18), .val (.ref b20), .val (.ref ro0_23), .val (.ref r18), .unset] [(.ref r18)])) _
        refine XS.ifnullNo X25.here hx rfl (hb hby at_150) rfl ?_
        show Steps p.tables e below (T25.setTop (mkF m 153 #[.val (.long x0_0), .second, .val (.long x0_1), .second, .val (.long x0_2), .second, .val (.long x0_3), .second, .val (.long x0_4), .second, .val (.int x0_5), .val (.int (0 : Int32)), .val (.int (1 : Int32)), .val (.ref r18), .val (.ref b20), .val (.ref ro0_23), .val (.ref r18), .unset] [])) _
        refine XS.aload X25.here hx rfl (hb hby at_153) rfl rfl ?_
        exact kt
      obtain ⟨cq29, kq29, q29a, q29b, q29c⟩ := isOf hZ e25 c27
      obtain ⟨v29, _, ⟨T29, L29, k29, n29⟩, -, X29, ⟨Lc29, hQ29, l29, y29, z29⟩, st29⟩ := X25.virtualBack hx (y := (⟨"java/lang/Long", "longValue", "()J"⟩ : MethodName)) (z := (⟨"java/lang/Long", "longValue", "()J"⟩ : MethodName)) hown (mvT hZ (hw _ (List.mem_of_getElem? (i := 42) rfl))) (mvT hZ (hw _ (List.mem_of_getElem? (i := 43) rfl))) (notFace_of_selects (args := #[]) (mvT hZ (hw _ (List.mem_of_getElem? (i := 45) rfl)))) (mvT hZ (hw _ (List.mem_of_getElem? (i := 45) rfl))) (mvT hZ (hw _ (List.mem_of_getElem? (i := 44) rfl))) (by decide) (backOf (W := 0) (rm7 l Z a0 hw [] r18 x0_3 T23.heap n0 Zs23 c28) hZ (hw _ (List.mem_of_getElem? (i := 46) rfl)) (hw _ (List.mem_of_getElem? (i := 2) rfl)) (by decide) (by decide)) q29a q29c (g := (mkF m 155 #[.val (.long x0_0), .second, .val (.long x0_1), .second, .val (.long x0_2), .second, .val (.long x0_3), .second, .val (.long x0_4), .second, .val (.int x0_5), .val (.int (0 : Int32)), .val (.int (1 : Int32)), .val (.ref r18), .val (.ref b20), .val (.ref ro0_23), .val (.ref r18), .unset] [(.ref r18)])) rfl (by rw [hml]; rfl) (Steps.refl _) (argsL := []) (rest := []) (lenOf pd_6 rfl) rfl (by show 2 * 0 + _ ≤ _; exact Nat.le_of_eq rfl) (hb hby at_155) (fun _ _ => ⟨rfl, e25, (by decide : 3 + 0 ≤ _), (by decide : 9 + 0 ≤ _)⟩)
      dsimp only [Pt.U, Pt.locs, Pt.cells, Pt.slots] at X29 l29 y29 z29 st29 hQ29
      subst l29 y29 z29
      obtain ⟨hv29, N29q, e29⟩ := hQ29
      have N29 := Fr.app N25 N29q
      have hf29 : f7 r18 x0_3 = x0_3 := rfl
      rw [hf29] at hv29
      subst hv29
      have sg32 : ∀ t, Steps p.tables e below (T29.setTop (mkF m 186 #[.val (.long x0_0), .second, .val (.long x0_1), .second, .val (.long x0_2), .second, .val (.long x0_3), .second, .val (.long x0_4), .second, .val (.int x0_5), .val (.int (0 : Int32)), .val (.int (1 : Int32)), .val (.ref r18), .val (.ref b20), .val (.ref ro0_23), .val (.ref r18), .val (.int (1 : Int32))] [(.ref ro0_23)])) t → Steps p.tables e below (T25.setTop (mkF m 155 #[.val (.long x0_0), .second, .val (.long x0_1), .second, .val (.long x0_2), .second, .val (.long x0_3), .second, .val (.long x0_4), .second, .val (.int x0_5), .val (.int (0 : Int32)), .val (.int (1 : Int32)), .val (.ref r18), .val (.ref b20), .val (.ref ro0_23), .val (.ref r18), .unset] [(.ref r18)])) t := fun t kt => by
        show Steps p.tables e below (T25.setTop (mkF m 155 #[.val (.long x0_0), .second, .val (.long x0_1), .second, .val (.long x0_2), .second, .val (.long x0_3), .second, .val (.long x0_4), .second, .val (.int x0_5), .val (.int (0 : Int32)), .val (.int (1 : Int32)), .val (.ref r18), .val (.ref b20), .val (.ref ro0_23), .val (.ref r18), .unset] [(.ref r18)])) _
        refine st29.trans ?_
        show Steps p.tables e below (T29.setTop (mkF m 158 #[.val (.long x0_0), .second, .val (.long x0_1), .second, .val (.long x0_2), .second, .val (.long x0_3), .second, .val (.long x0_4), .second, .val (.int x0_5), .val (.int (0 : Int32)), .val (.int (1 : Int32)), .val (.ref r18), .val (.ref b20), .val (.ref ro0_23), .val (.ref r18), .unset] [(.long x0_3)])) _
        refine XS.lload X29.here hx rfl (hb hby at_158) rfl ?_
        show Steps p.tables e below (T29.setTop (mkF m 160 #[.val (.long x0_0), .second, .val (.long x0_1), .second, .val (.long x0_2), .second, .val (.long x0_3), .second, .val (.long x0_4), .second, .val (.int x0_5), .val (.int (0 : Int32)), .val (.int (1 : Int32)), .val (.ref r18), .val (.ref b20), .val (.ref ro0_23), .val (.ref r18), .unset] [(.long x0_3), (.long x0_3)])) _
        refine XS.lcmp X29.here hx rfl (hb hby at_160) rfl ?_
        show Steps p.tables e below (T29.setTop (mkF m 161 #[.val (.long x0_0), .second, .val (.long x0_1), .second, .val (.long x0_2), .second, .val (.long x0_3), .second, .val (.long x0_4), .second, .val (.int x0_5), .val (.int (0 : Int32)), .val (.int (1 : Int32)), .val (.ref r18), .val (.ref b20), .val (.ref ro0_23), .val (.ref r18), .unset] [(.int (lcmpW x0_3 x0_3))])) _
        refine XS.ifNo X29.here hx rfl (hb hby at_161) rfl ((if0 _ _).trans (teq ((lw_eq _ _).mpr (rfl : x0_3 = x0_3))).2) ?_
        show Steps p.tables e below (T29.setTop (mkF m 164 #[.val (.long x0_0), .second, .val (.long x0_1), .second, .val (.long x0_2), .second, .val (.long x0_3), .second, .val (.long x0_4), .second, .val (.int x0_5), .val (.int (0 : Int32)), .val (.int (1 : Int32)), .val (.ref r18), .val (.ref b20), .val (.ref ro0_23), .val (.ref r18), .unset] [])) _
        refine XS.iconst X29.here hx rfl (hb hby at_164) ?_
        show Steps p.tables e below (T29.setTop (mkF m 165 #[.val (.long x0_0), .second, .val (.long x0_1), .second, .val (.long x0_2), .second, .val (.long x0_3), .second, .val (.long x0_4), .second, .val (.int x0_5), .val (.int (0 : Int32)), .val (.int (1 : Int32)), .val (.ref r18), .val (.ref b20), .val (.ref ro0_23), .val (.ref r18), .unset] [(.int (1 : Int32))])) _
        refine XS.goto X29.here hx rfl (pc0 := 165) (pc' := 182) rfl (hb hby at_165) (by decide) (by decide) ?_
        show Steps p.tables e below (T29.setTop (mkF m 182 #[.val (.long x0_0), .second, .val (.long x0_1), .second, .val (.long x0_2), .second, .val (.long x0_3), .second, .val (.long x0_4), .second, .val (.int x0_5), .val (.int (0 : Int32)), .val (.int (1 : Int32)), .val (.ref r18), .val (.ref b20), .val (.ref ro0_23), .val (.ref r18), .unset] [(.int (1 : Int32))])) _
        refine XS.istore X29.here hx rfl (hb hby at_182) rfl (l' := #[.val (.long x0_0), .second, .val (.long x0_1), .second, .val (.long x0_2), .second, .val (.long x0_3), .second, .val (.long x0_4), .second, .val (.int x0_5), .val (.int (0 : Int32)), .val (.int (1 : Int32)), .val (.ref r18), .val (.ref b20), .val (.ref ro0_23), .val (.ref r18), .val (.int (1 : Int32))]) rfl ?_
        show Steps p.tables e below (T29.setTop (mkF m 184 #[.val (.long x0_0), .second, .val (.long x0_1), .second, .val (.long x0_2), .second, .val (.long x0_3), .second, .val (.long x0_4), .second, .val (.int x0_5), .val (.int (0 : Int32)), .val (.int (1 : Int32)), .val (.ref r18), .val (.ref b20), .val (.ref ro0_23), .val (.ref r18), .val (.int (1 : Int32))] [])) _
        refine XS.aload X29.here hx rfl (hb hby at_184) rfl rfl ?_
        exact kt
      obtain ⟨cq31, kq31, q31a, q31b, q31c⟩ := isOf hZ e29 Ero0_23
      obtain ⟨v31, _, ⟨T31, L31, k31, n31⟩, -, X31, ⟨Lc31, hQ31, l31, y31, z31⟩, st31⟩ := X29.virtualBack hx (y := (⟨"com/example/redeliver/redeliver/EndpointCounters", "attempts", "()J"⟩ : MethodName)) (z := (⟨"com/example/redeliver/redeliver/EndpointCounters", "attempts", "()J"⟩ : MethodName)) hown (mvT hZ (hw _ (List.mem_of_getElem? (i := 49) rfl))) (mvT hZ (hw _ (List.mem_of_getElem? (i := 50) rfl))) (notFace_of_selects (args := #[]) (mvT hZ (hw _ (List.mem_of_getElem? (i := 52) rfl)))) (mvT hZ (hw _ (List.mem_of_getElem? (i := 52) rfl))) (mvT hZ (hw _ (List.mem_of_getElem? (i := 51) rfl))) (by decide) (backOf (W := 0) (rm8 l Z a0 hw [] ro0_23 (x0_0 + (1 : Int64)) T23.heap n0 Zs23 Fro0_23_attempts) hZ (hw _ (List.mem_of_getElem? (i := 53) rfl)) (hw _ (List.mem_of_getElem? (i := 10) rfl)) (by decide) (by decide)) q31a q31c (g := (mkF m 186 #[.val (.long x0_0), .second, .val (.long x0_1), .second, .val (.long x0_2), .second, .val (.long x0_3), .second, .val (.long x0_4), .second, .val (.int x0_5), .val (.int (0 : Int32)), .val (.int (1 : Int32)), .val (.ref r18), .val (.ref b20), .val (.ref ro0_23), .val (.ref r18), .val (.int (1 : Int32))] [(.ref ro0_23)])) rfl (by rw [hml]; rfl) (Steps.refl _) (argsL := []) (rest := []) (lenOf pd_6 rfl) rfl (by show 2 * 0 + _ ≤ _; exact Nat.le_of_eq rfl) (hb hby at_186) (fun _ _ => ⟨rfl, e29, (by decide : 3 + 0 ≤ _), (by decide : 9 + 0 ≤ _)⟩)
      dsimp only [Pt.U, Pt.locs, Pt.cells, Pt.slots] at X31 l31 y31 z31 st31 hQ31
      subst l31 y31 z31
      obtain ⟨hv31, N31q, e31⟩ := hQ31
      have N31 := Fr.app N29 N31q
      have hf31 : f8 ro0_23 (x0_0 + (1 : Int64)) = (x0_0 + (1 : Int64)) := rfl
      rw [hf31] at hv31
      subst hv31
      have sg34 : ∀ t, Steps p.tables e below (T31.setTop (mkF m 198 #[.val (.long x0_0), .second, .val (.long x0_1), .second, .val (.long x0_2), .second, .val (.long x0_3), .second, .val (.long x0_4), .second, .val (.int x0_5), .val (.int (0 : Int32)), .val (.int (1 : Int32)), .val (.ref r18), .val (.ref b20), .val (.ref ro0_23), .val (.ref r18), .val (.int (1 : Int32))] [(.ref ro0_23)])) t → Steps p.tables e below (T29.setTop (mkF m 186 #[.val (.long x0_0), .second, .val (.long x0_1), .second, .val (.long x0_2), .second, .val (.long x0_3), .second, .val (.long x0_4), .second, .val (.int x0_5), .val (.int (0 : Int32)), .val (.int (1 : Int32)), .val (.ref r18), .val (.ref b20), .val (.ref ro0_23), .val (.ref r18), .val (.int (1 : Int32))] [(.ref ro0_23)])) t := fun t kt => by
        show Steps p.tables e below (T29.setTop (mkF m 186 #[.val (.long x0_0), .second, .val (.long x0_1), .second, .val (.long x0_2), .second, .val (.long x0_3), .second, .val (.long x0_4), .second, .val (.int x0_5), .val (.int (0 : Int32)), .val (.int (1 : Int32)), .val (.ref r18), .val (.ref b20), .val (.ref ro0_23), .val (.ref r18), .val (.int (1 : Int32))] [(.ref ro0_23)])) _
        refine st31.trans ?_
        show Steps p.tables e below (T31.setTop (mkF m 189 #[.val (.long x0_0), .second, .val (.long x0_1), .second, .val (.long x0_2), .second, .val (.long x0_3), .second, .val (.long x0_4), .second, .val (.int x0_5), .val (.int (0 : Int32)), .val (.int (1 : Int32)), .val (.ref r18), .val (.ref b20), .val (.ref ro0_23), .val (.ref r18), .val (.int (1 : Int32))] [(.long (x0_0 + (1 : Int64)))])) _
        refine XS.lloadN X31.here hx rfl (hb hby at_189) rfl ?_
        show Steps p.tables e below (T31.setTop (mkF m 190 #[.val (.long x0_0), .second, .val (.long x0_1), .second, .val (.long x0_2), .second, .val (.long x0_3), .second, .val (.long x0_4), .second, .val (.int x0_5), .val (.int (0 : Int32)), .val (.int (1 : Int32)), .val (.ref r18), .val (.ref b20), .val (.ref ro0_23), .val (.ref r18), .val (.int (1 : Int32))] [(.long x0_0), (.long (x0_0 + (1 : Int64)))])) _
        refine XS.lconst X31.here hx rfl (hb hby at_190) ?_
        show Steps p.tables e below (T31.setTop (mkF m 191 #[.val (.long x0_0), .second, .val (.long x0_1), .second, .val (.long x0_2), .second, .val (.long x0_3), .second, .val (.long x0_4), .second, .val (.int x0_5), .val (.int (0 : Int32)), .val (.int (1 : Int32)), .val (.ref r18), .val (.ref b20), .val (.ref ro0_23), .val (.ref r18), .val (.int (1 : Int32))] [(.long (1 : Int64)), (.long x0_0), (.long (x0_0 + (1 : Int64)))])) _
        refine XS.ladd X31.here hx rfl (hb hby at_191) rfl ?_
        show Steps p.tables e below (T31.setTop (mkF m 192 #[.val (.long x0_0), .second, .val (.long x0_1), .second, .val (.long x0_2), .second, .val (.long x0_3), .second, .val (.long x0_4), .second, .val (.int x0_5), .val (.int (0 : Int32)), .val (.int (1 : Int32)), .val (.ref r18), .val (.ref b20), .val (.ref ro0_23), .val (.ref r18), .val (.int (1 : Int32))] [(.long (x0_0 + (1 : Int64))), (.long (x0_0 + (1 : Int64)))])) _
        refine XS.lcmp X31.here hx rfl (hb hby at_192) rfl ?_
        show Steps p.tables e below (T31.setTop (mkF m 193 #[.val (.long x0_0), .second, .val (.long x0_1), .second, .val (.long x0_2), .second, .val (.long x0_3), .second, .val (.long x0_4), .second, .val (.int x0_5), .val (.int (0 : Int32)), .val (.int (1 : Int32)), .val (.ref r18), .val (.ref b20), .val (.ref ro0_23), .val (.ref r18), .val (.int (1 : Int32))] [(.int (lcmpW (x0_0 + (1 : Int64)) (x0_0 + (1 : Int64))))])) _
        refine XS.ifNo X31.here hx rfl (hb hby at_193) rfl ((if0 _ _).trans (teq ((lw_eq _ _).mpr (rfl : (x0_0 + (1 : Int64)) = (x0_0 + (1 : Int64))))).2) ?_
        show Steps p.tables e below (T31.setTop (mkF m 196 #[.val (.long x0_0), .second, .val (.long x0_1), .second, .val (.long x0_2), .second, .val (.long x0_3), .second, .val (.long x0_4), .second, .val (.int x0_5), .val (.int (0 : Int32)), .val (.int (1 : Int32)), .val (.ref r18), .val (.ref b20), .val (.ref ro0_23), .val (.ref r18), .val (.int (1 : Int32))] [])) _
        refine XS.aload X31.here hx rfl (hb hby at_196) rfl rfl ?_
        exact kt
      obtain ⟨cq33, kq33, q33a, q33b, q33c⟩ := isOf hZ e31 Ero0_23
      obtain ⟨v33, _, ⟨T33, L33, k33, n33⟩, -, X33, ⟨Lc33, hQ33, l33, y33, z33⟩, st33⟩ := X31.virtualBack hx (y := (⟨"com/example/redeliver/redeliver/EndpointCounters", "failures", "()J"⟩ : MethodName)) (z := (⟨"com/example/redeliver/redeliver/EndpointCounters", "failures", "()J"⟩ : MethodName)) hown (mvT hZ (hw _ (List.mem_of_getElem? (i := 54) rfl))) (mvT hZ (hw _ (List.mem_of_getElem? (i := 55) rfl))) (notFace_of_selects (args := #[]) (mvT hZ (hw _ (List.mem_of_getElem? (i := 57) rfl)))) (mvT hZ (hw _ (List.mem_of_getElem? (i := 57) rfl))) (mvT hZ (hw _ (List.mem_of_getElem? (i := 56) rfl))) (by decide) (backOf (W := 0) (rm9 l Z a0 hw [] ro0_23 (x0_1 + (1 : Int64)) T23.heap n0 Zs23 Fro0_23_failures) hZ (hw _ (List.mem_of_getElem? (i := 58) rfl)) (hw _ (List.mem_of_getElem? (i := 10) rfl)) (by decide) (by decide)) q33a q33c (g := (mkF m 198 #[.val (.long x0_0), .second, .val (.long x0_1), .second, .val (.long x0_2), .second, .val (.long x0_3), .second, .val (.long x0_4), .second, .val (.int x0_5), .val (.int (0 : Int32)), .val (.int (1 : Int32)), .val (.ref r18), .val (.ref b20), .val (.ref ro0_23), .val (.ref r18), .val (.int (1 : Int32))] [(.ref ro0_23)])) rfl (by rw [hml]; rfl) (Steps.refl _) (argsL := []) (rest := []) (lenOf pd_6 rfl) rfl (by show 2 * 0 + _ ≤ _; exact Nat.le_of_eq rfl) (hb hby at_198) (fun _ _ => ⟨rfl, e31, (by decide : 3 + 0 ≤ _), (by decide : 9 + 0 ≤ _)⟩)
      dsimp only [Pt.U, Pt.locs, Pt.cells, Pt.slots] at X33 l33 y33 z33 st33 hQ33
      subst l33 y33 z33
      obtain ⟨hv33, N33q, e33⟩ := hQ33
      have N33 := Fr.app N31 N33q
      have hf33 : f9 ro0_23 (x0_1 + (1 : Int64)) = (x0_1 + (1 : Int64)) := rfl
      rw [hf33] at hv33
      subst hv33
      have sg36 : ∀ t, Steps p.tables e below (T33.setTop (mkF m 210 #[.val (.long x0_0), .second, .val (.long x0_1), .second, .val (.long x0_2), .second, .val (.long x0_3), .second, .val (.long x0_4), .second, .val (.int x0_5), .val (.int (0 : Int32)), .val (.int (1 : Int32)), .val (.ref r18), .val (.ref b20), .val (.ref ro0_23), .val (.ref r18), .val (.int (1 : Int32))] [(.ref ro0_23)])) t → Steps p.tables e below (T31.setTop (mkF m 198 #[.val (.long x0_0), .second, .val (.long x0_1), .second, .val (.long x0_2), .second, .val (.long x0_3), .second, .val (.long x0_4), .second, .val (.int x0_5), .val (.int (0 : Int32)), .val (.int (1 : Int32)), .val (.ref r18), .val (.ref b20), .val (.ref ro0_23), .val (.ref r18), .val (.int (1 : Int32))] [(.ref ro0_23)])) t := fun t kt => by
        show Steps p.tables e below (T31.setTop (mkF m 198 #[.val (.long x0_0), .second, .val (.long x0_1), .second, .val (.long x0_2), .second, .val (.long x0_3), .second, .val (.long x0_4), .second, .val (.int x0_5), .val (.int (0 : Int32)), .val (.int (1 : Int32)), .val (.ref r18), .val (.ref b20), .val (.ref ro0_23), .val (.ref r18), .val (.int (1 : Int32))] [(.ref ro0_23)])) _
        refine st33.trans ?_
        show Steps p.tables e below (T33.setTop (mkF m 201 #[.val (.long x0_0), .second, .val (.long x0_1), .second, .val (.long x0_2), .second, .val (.long x0_3), .second, .val (.long x0_4), .second, .val (.int x0_5), .val (.int (0 : Int32)), .val (.int (1 : Int32)), .val (.ref r18), .val (.ref b20), .val (.ref ro0_23), .val (.ref r18), .val (.int (1 : Int32))] [(.long (x0_1 + (1 : Int64)))])) _
        refine XS.lloadN X33.here hx rfl (hb hby at_201) rfl ?_
        show Steps p.tables e below (T33.setTop (mkF m 202 #[.val (.long x0_0), .second, .val (.long x0_1), .second, .val (.long x0_2), .second, .val (.long x0_3), .second, .val (.long x0_4), .second, .val (.int x0_5), .val (.int (0 : Int32)), .val (.int (1 : Int32)), .val (.ref r18), .val (.ref b20), .val (.ref ro0_23), .val (.ref r18), .val (.int (1 : Int32))] [(.long x0_1), (.long (x0_1 + (1 : Int64)))])) _
        refine XS.lconst X33.here hx rfl (hb hby at_202) ?_
        show Steps p.tables e below (T33.setTop (mkF m 203 #[.val (.long x0_0), .second, .val (.long x0_1), .second, .val (.long x0_2), .second, .val (.long x0_3), .second, .val (.long x0_4), .second, .val (.int x0_5), .val (.int (0 : Int32)), .val (.int (1 : Int32)), .val (.ref r18), .val (.ref b20), .val (.ref ro0_23), .val (.ref r18), .val (.int (1 : Int32))] [(.long (1 : Int64)), (.long x0_1), (.long (x0_1 + (1 : Int64)))])) _
        refine XS.ladd X33.here hx rfl (hb hby at_203) rfl ?_
        show Steps p.tables e below (T33.setTop (mkF m 204 #[.val (.long x0_0), .second, .val (.long x0_1), .second, .val (.long x0_2), .second, .val (.long x0_3), .second, .val (.long x0_4), .second, .val (.int x0_5), .val (.int (0 : Int32)), .val (.int (1 : Int32)), .val (.ref r18), .val (.ref b20), .val (.ref ro0_23), .val (.ref r18), .val (.int (1 : Int32))] [(.long (x0_1 + (1 : Int64))), (.long (x0_1 + (1 : Int64)))])) _
        refine XS.lcmp X33.here hx rfl (hb hby at_204) rfl ?_
        show Steps p.tables e below (T33.setTop (mkF m 205 #[.val (.long x0_0), .second, .val (.long x0_1), .second, .val (.long x0_2), .second, .val (.long x0_3), .second, .val (.long x0_4), .second, .val (.int x0_5), .val (.int (0 : Int32)), .val (.int (1 : Int32)), .val (.ref r18), .val (.ref b20), .val (.ref ro0_23), .val (.ref r18), .val (.int (1 : Int32))] [(.int (lcmpW (x0_1 + (1 : Int64)) (x0_1 + (1 : Int64))))])) _
        refine XS.ifNo X33.here hx rfl (hb hby at_205) rfl ((if0 _ _).trans (teq ((lw_eq _ _).mpr (rfl : (x0_1 + (1 : Int64)) = (x0_1 + (1 : Int64))))).2) ?_
        show Steps p.tables e below (T33.setTop (mkF m 208 #[.val (.long x0_0), .second, .val (.long x0_1), .second, .val (.long x0_2), .second, .val (.long x0_3), .second, .val (.long x0_4), .second, .val (.int x0_5), .val (.int (0 : Int32)), .val (.int (1 : Int32)), .val (.ref r18), .val (.ref b20), .val (.ref ro0_23), .val (.ref r18), .val (.int (1 : Int32))] [])) _
        refine XS.aload X33.here hx rfl (hb hby at_208) rfl rfl ?_
        exact kt
      obtain ⟨cq35, kq35, q35a, q35b, q35c⟩ := isOf hZ e33 Ero0_23
      obtain ⟨v35, _, ⟨T35, L35, k35, n35⟩, -, X35, ⟨Lc35, hQ35, l35, y35, z35⟩, st35⟩ := X33.virtualBack hx (y := (⟨"com/example/redeliver/redeliver/EndpointCounters", "consecutiveFailures", "()J"⟩ : MethodName)) (z := (⟨"com/example/redeliver/redeliver/EndpointCounters", "consecutiveFailures", "()J"⟩ : MethodName)) hown (mvT hZ (hw _ (List.mem_of_getElem? (i := 59) rfl))) (mvT hZ (hw _ (List.mem_of_getElem? (i := 60) rfl))) (notFace_of_selects (args := #[]) (mvT hZ (hw _ (List.mem_of_getElem? (i := 62) rfl)))) (mvT hZ (hw _ (List.mem_of_getElem? (i := 62) rfl))) (mvT hZ (hw _ (List.mem_of_getElem? (i := 61) rfl))) (by decide) (backOf (W := 0) (rm10 l Z a0 hw [] ro0_23 (x0_2 + (1 : Int64)) T23.heap n0 Zs23 Fro0_23_consecutiveFailures) hZ (hw _ (List.mem_of_getElem? (i := 63) rfl)) (hw _ (List.mem_of_getElem? (i := 10) rfl)) (by decide) (by decide)) q35a q35c (g := (mkF m 210 #[.val (.long x0_0), .second, .val (.long x0_1), .second, .val (.long x0_2), .second, .val (.long x0_3), .second, .val (.long x0_4), .second, .val (.int x0_5), .val (.int (0 : Int32)), .val (.int (1 : Int32)), .val (.ref r18), .val (.ref b20), .val (.ref ro0_23), .val (.ref r18), .val (.int (1 : Int32))] [(.ref ro0_23)])) rfl (by rw [hml]; rfl) (Steps.refl _) (argsL := []) (rest := []) (lenOf pd_6 rfl) rfl (by show 2 * 0 + _ ≤ _; exact Nat.le_of_eq rfl) (hb hby at_210) (fun _ _ => ⟨rfl, e33, (by decide : 3 + 0 ≤ _), (by decide : 9 + 0 ≤ _)⟩)
      dsimp only [Pt.U, Pt.locs, Pt.cells, Pt.slots] at X35 l35 y35 z35 st35 hQ35
      subst l35 y35 z35
      obtain ⟨hv35, N35q, e35⟩ := hQ35
      have N35 := Fr.app N33 N35q
      have hf35 : f10 ro0_23 (x0_2 + (1 : Int64)) = (x0_2 + (1 : Int64)) := rfl
      rw [hf35] at hv35
      subst hv35
      obtain ⟨fs, hr, hrun, hended, hW, hsame⟩ := X35.leave (v := some (.int (1 : Int32))) (fun h => by rw [Bd.returns] at h; cases h)
      refine ⟨_, _, pre0 _ (sg1 _ (sg3 _ (sg19 _ (sg22 _ (sg24 _ (sg26 _ (sg30 _ (sg32 _ (sg34 _ (sg36 _ ?_)))))))))), hrun, hended, _, _, rfl, ?_, ⟨_, rfl⟩, hW, hsame.mono (by decide) (by decide)⟩
      · show Steps p.tables e below (T33.setTop (mkF m 210 #[.val (.long x0_0), .second, .val (.long x0_1), .second, .val (.long x0_2), .second, .val (.long x0_3), .second, .val (.long x0_4), .second, .val (.int x0_5), .val (.int (0 : Int32)), .val (.int (1 : Int32)), .val (.ref r18), .val (.ref b20), .val (.ref ro0_23), .val (.ref r18), .val (.int (1 : Int32))] [(.ref ro0_23)])) _
        refine st35.trans ?_
        show Steps p.tables e below (T35.setTop (mkF m 213 #[.val (.long x0_0), .second, .val (.long x0_1), .second, .val (.long x0_2), .second, .val (.long x0_3), .second, .val (.long x0_4), .second, .val (.int x0_5), .val (.int (0 : Int32)), .val (.int (1 : Int32)), .val (.ref r18), .val (.ref b20), .val (.ref ro0_23), .val (.ref r18), .val (.int (1 : Int32))] [(.long (x0_2 + (1 : Int64)))])) _
        refine XS.lload X35.here hx rfl (hb hby at_213) rfl ?_
        show Steps p.tables e below (T35.setTop (mkF m 215 #[.val (.long x0_0), .second, .val (.long x0_1), .second, .val (.long x0_2), .second, .val (.long x0_3), .second, .val (.long x0_4), .second, .val (.int x0_5), .val (.int (0 : Int32)), .val (.int (1 : Int32)), .val (.ref r18), .val (.ref b20), .val (.ref ro0_23), .val (.ref r18), .val (.int (1 : Int32))] [(.long x0_2), (.long (x0_2 + (1 : Int64)))])) _
        refine XS.lconst X35.here hx rfl (hb hby at_215) ?_
        show Steps p.tables e below (T35.setTop (mkF m 216 #[.val (.long x0_0), .second, .val (.long x0_1), .second, .val (.long x0_2), .second, .val (.long x0_3), .second, .val (.long x0_4), .second, .val (.int x0_5), .val (.int (0 : Int32)), .val (.int (1 : Int32)), .val (.ref r18), .val (.ref b20), .val (.ref ro0_23), .val (.ref r18), .val (.int (1 : Int32))] [(.long (1 : Int64)), (.long x0_2), (.long (x0_2 + (1 : Int64)))])) _
        refine XS.ladd X35.here hx rfl (hb hby at_216) rfl ?_
        show Steps p.tables e below (T35.setTop (mkF m 217 #[.val (.long x0_0), .second, .val (.long x0_1), .second, .val (.long x0_2), .second, .val (.long x0_3), .second, .val (.long x0_4), .second, .val (.int x0_5), .val (.int (0 : Int32)), .val (.int (1 : Int32)), .val (.ref r18), .val (.ref b20), .val (.ref ro0_23), .val (.ref r18), .val (.int (1 : Int32))] [(.long (x0_2 + (1 : Int64))), (.long (x0_2 + (1 : Int64)))])) _
        refine XS.lcmp X35.here hx rfl (hb hby at_217) rfl ?_
        show Steps p.tables e below (T35.setTop (mkF m 218 #[.val (.long x0_0), .second, .val (.long x0_1), .second, .val (.long x0_2), .second, .val (.long x0_3), .second, .val (.long x0_4), .second, .val (.int x0_5), .val (.int (0 : Int32)), .val (.int (1 : Int32)), .val (.ref r18), .val (.ref b20), .val (.ref ro0_23), .val (.ref r18), .val (.int (1 : Int32))] [(.int (lcmpW (x0_2 + (1 : Int64)) (x0_2 + (1 : Int64))))])) _
        refine XS.ifNo X35.here hx rfl (hb hby at_218) rfl ((if0 _ _).trans (teq ((lw_eq _ _).mpr (rfl : (x0_2 + (1 : Int64)) = (x0_2 + (1 : Int64))))).2) ?_
        show Steps p.tables e below (T35.setTop (mkF m 221 #[.val (.long x0_0), .second, .val (.long x0_1), .second, .val (.long x0_2), .second, .val (.long x0_3), .second, .val (.long x0_4), .second, .val (.int x0_5), .val (.int (0 : Int32)), .val (.int (1 : Int32)), .val (.ref r18), .val (.ref b20), .val (.ref ro0_23), .val (.ref r18), .val (.int (1 : Int32))] [])) _
        refine XS.iload X35.here hx rfl (hb hby at_221) rfl ?_
        show Steps p.tables e below (T35.setTop (mkF m 223 #[.val (.long x0_0), .second, .val (.long x0_1), .second, .val (.long x0_2), .second, .val (.long x0_3), .second, .val (.long x0_4), .second, .val (.int x0_5), .val (.int (0 : Int32)), .val (.int (1 : Int32)), .val (.ref r18), .val (.ref b20), .val (.ref ro0_23), .val (.ref r18), .val (.int (1 : Int32))] [(.int (1 : Int32))])) _
        refine XS.ifNo X35.here hx rfl (hb hby at_223) rfl ((if0 _ _).trans (feq (by decide : ¬ ((1 : Int32) = (0 : Int32)))).1) ?_
        show Steps p.tables e below (T35.setTop (mkF m 226 #[.val (.long x0_0), .second, .val (.long x0_1), .second, .val (.long x0_2), .second, .val (.long x0_3), .second, .val (.long x0_4), .second, .val (.int x0_5), .val (.int (0 : Int32)), .val (.int (1 : Int32)), .val (.ref r18), .val (.ref b20), .val (.ref ro0_23), .val (.ref r18), .val (.int (1 : Int32))] [])) _
        refine XS.iconst X35.here hx rfl (hb hby at_226) ?_
        show Steps p.tables e below (T35.setTop (mkF m 227 #[.val (.long x0_0), .second, .val (.long x0_1), .second, .val (.long x0_2), .second, .val (.long x0_3), .second, .val (.long x0_4), .second, .val (.int x0_5), .val (.int (0 : Int32)), .val (.int (1 : Int32)), .val (.ref r18), .val (.ref b20), .val (.ref ro0_23), .val (.ref r18), .val (.int (1 : Int32))] [(.int (1 : Int32))])) _
        refine XS.goto X35.here hx rfl (pc0 := 227) (pc' := 231) rfl (hb hby at_227) (by decide) (by decide) ?_
        show Steps p.tables e below (T35.setTop (mkF m 231 #[.val (.long x0_0), .second, .val (.long x0_1), .second, .val (.long x0_2), .second, .val (.long x0_3), .second, .val (.long x0_4), .second, .val (.int x0_5), .val (.int (0 : Int32)), .val (.int (1 : Int32)), .val (.ref r18), .val (.ref b20), .val (.ref ro0_23), .val (.ref r18), .val (.int (1 : Int32))] [(.int (1 : Int32))])) _
        exact retN X35 hx (t := .boolean) Bd.returns (by simp) (hb hby at_231) hr
      · show Q0 Z x0_0 x0_1 x0_2 x0_3 x0_4 x0_5 cA cl h0 n0 _ T35.heap _
        rw [e35]
        exact ⟨rfl, N35⟩
  · have sg37 : ∀ t, Steps p.tables e below (s₁.setTop (mkF m 18 #[.val (.long x0_0), .second, .val (.long x0_1), .second, .val (.long x0_2), .second, .val (.long x0_3), .second, .val (.long x0_4), .second, .val (.int x0_5), .val (.int (1 : Int32)), .unset, .unset, .unset, .unset, .unset, .unset] [(.int (x0_5 &&& (2 : Int32)))])) t → Steps p.tables e below (s₁.setTop (mkF m 4 #[.val (.long x0_0), .second, .val (.long x0_1), .second, .val (.long x0_2), .second, .val (.long x0_3), .second, .val (.long x0_4), .second, .val (.int x0_5), .unset, .unset, .unset, .unset, .unset, .unset, .unset] [(.int (x0_5 &&& (1 : Int32)))])) t := fun t kt => by
      show Steps p.tables e below (s₁.setTop (mkF m 4 #[.val (.long x0_0), .second, .val (.long x0_1), .second, .val (.long x0_2), .second, .val (.long x0_3), .second, .val (.long x0_4), .second, .val (.int x0_5), .unset, .unset, .unset, .unset, .unset, .unset, .unset] [(.int (x0_5 &&& (1 : Int32)))])) _
      refine XS.ifNo X0.here hx rfl (hb hby at_4) rfl ((if0 _ _).trans (feq hc4_2).1) ?_
      show Steps p.tables e below (s₁.setTop (mkF m 7 #[.val (.long x0_0), .second, .val (.long x0_1), .second, .val (.long x0_2), .second, .val (.long x0_3), .second, .val (.long x0_4), .second, .val (.int x0_5), .unset, .unset, .unset, .unset, .unset, .unset, .unset] [])) _
      refine XS.iconst X0.here hx rfl (hb hby at_7) ?_
      show Steps p.tables e below (s₁.setTop (mkF m 8 #[.val (.long x0_0), .second, .val (.long x0_1), .second, .val (.long x0_2), .second, .val (.long x0_3), .second, .val (.long x0_4), .second, .val (.int x0_5), .unset, .unset, .unset, .unset, .unset, .unset, .unset] [(.int (1 : Int32))])) _
      refine XS.goto X0.here hx rfl (pc0 := 8) (pc' := 12) rfl (hb hby at_8) (by decide) (by decide) ?_
      show Steps p.tables e below (s₁.setTop (mkF m 12 #[.val (.long x0_0), .second, .val (.long x0_1), .second, .val (.long x0_2), .second, .val (.long x0_3), .second, .val (.long x0_4), .second, .val (.int x0_5), .unset, .unset, .unset, .unset, .unset, .unset, .unset] [(.int (1 : Int32))])) _
      refine XS.istore X0.here hx rfl (hb hby at_12) rfl (l' := #[.val (.long x0_0), .second, .val (.long x0_1), .second, .val (.long x0_2), .second, .val (.long x0_3), .second, .val (.long x0_4), .second, .val (.int x0_5), .val (.int (1 : Int32)), .unset, .unset, .unset, .unset, .unset, .unset]) rfl ?_
      show Steps p.tables e below (s₁.setTop (mkF m 14 #[.val (.long x0_0), .second, .val (.long x0_1), .second, .val (.long x0_2), .second, .val (.long x0_3), .second, .val (.long x0_4), .second, .val (.int x0_5), .val (.int (1 : Int32)), .unset, .unset, .unset, .unset, .unset, .unset] [])) _
      refine XS.iload X0.here hx rfl (hb hby at_14) rfl ?_
      show Steps p.tables e below (s₁.setTop (mkF m 16 #[.val (.long x0_0), .second, .val (.long x0_1), .second, .val (.long x0_2), .second, .val (.long x0_3), .second, .val (.long x0_4), .second, .val (.int x0_5), .val (.int (1 : Int32)), .unset, .unset, .unset, .unset, .unset, .unset] [(.int x0_5)])) _
      refine XS.iconst X0.here hx rfl (hb hby at_16) ?_
      show Steps p.tables e below (s₁.setTop (mkF m 17 #[.val (.long x0_0), .second, .val (.long x0_1), .second, .val (.long x0_2), .second, .val (.long x0_3), .second, .val (.long x0_4), .second, .val (.int x0_5), .val (.int (1 : Int32)), .unset, .unset, .unset, .unset, .unset, .unset] [(.int (2 : Int32)), (.int x0_5)])) _
      refine XS.iand X0.here hx rfl (hb hby at_17) rfl ?_
      exact kt
    by_cases hc18_38 : (x0_5 &&& (2 : Int32)) = (0 : Int32)
    · obtain ⟨T39, h39, X39, e39, E39, A39, D39, -, st39⟩ := newO X0 hx hZ hown (hw _ (List.mem_of_getElem? (i := 8) rfl)) (hw _ (List.mem_of_getElem? (i := 9) rfl)) (hw _ (List.mem_of_getElem? (i := 10) rfl)) e0 (g := (mkF m 44 #[.val (.long x0_0), .second, .val (.long x0_1), .second, .val (.long x0_2), .second, .val (.long x0_3), .second, .val (.long x0_4), .second, .val (.int x0_5), .val (.int (1 : Int32)), .val (.int (0 : Int32)), .val .null, .unset, .unset, .unset, .unset] [])) rfl (hb hby at_44) (by decide) (by decide)
      obtain ⟨b39, g39⟩ : ∃ z, z = h0.size := ⟨_, rfl⟩
      rw [← g39] at A39 D39 st39
      have g_b39 : n0 ≤ b39 := Nat.le_trans Z0 (Nat.le_of_eq g39.symm)
      have Zs39 : n0 ≤ h39.size := Nat.le_trans Z0 E39.1
      have Ol39 : Old Z n0 h39 := (O0).ext E39
      have F_attempts_b39 : Fld Z h39 b39 "com/example/redeliver/redeliver/EndpointCounters" "attempts" "J" (.long (0 : Int64)) := D39 (Or.inr (hw _ (List.mem_of_getElem? (i := 23) rfl))) (ty := .long) (by decide)
      have F_failures_b39 : Fld Z h39 b39 "com/example/redeliver/redeliver/EndpointCounters" "failures" "J" (.long (0 : Int64)) := D39 (Or.inr (hw _ (List.mem_of_getElem? (i := 25) rfl))) (ty := .long) (by decide)
      have F_consecutiveFailures_b39 : Fld Z h39 b39 "com/example/redeliver/redeliver/EndpointCounters" "consecutiveFailures" "J" (.long (0 : Int64)) := D39 (Or.inr (hw _ (List.mem_of_getElem? (i := 27) rfl))) (ty := .long) (by decide)
      have F_lastSuccessAt_b39 : Fld Z h39 b39 "com/example/redeliver/redeliver/EndpointCounters" "lastSuccessAt" "Ljava/lang/Long;" .null := D39 (Or.inr (hw _ (List.mem_of_getElem? (i := 29) rfl))) (ty := (.object "java/lang/Long")) (by decide)
      have sg41 : ∀ t, Steps p.tables e below (T39.setTop (mkF m 54 #[.val (.long x0_0), .second, .val (.long x0_1), .second, .val (.long x0_2), .second, .val (.long x0_3), .second, .val (.long x0_4), .second, .val (.int x0_5), .val (.int (1 : Int32)), .val (.int (0 : Int32)), .val .null, .unset, .unset, .unset, .unset] [.null, (.long x0_2), (.long x0_1), (.long x0_0), (.ref b39), (.ref b39)])) t → Steps p.tables e below (s₁.setTop (mkF m 18 #[.val (.long x0_0), .second, .val (.long x0_1), .second, .val (.long x0_2), .second, .val (.long x0_3), .second, .val (.long x0_4), .second, .val (.int x0_5), .val (.int (1 : Int32)), .unset, .unset, .unset, .unset, .unset, .unset] [(.int (x0_5 &&& (2 : Int32)))])) t := fun t kt => by
        show Steps p.tables e below (s₁.setTop (mkF m 18 #[.val (.long x0_0), .second, .val (.long x0_1), .second, .val (.long x0_2), .second, .val (.long x0_3), .second, .val (.long x0_4), .second, .val (.int x0_5), .val (.int (1 : Int32)), .unset, .unset, .unset, .unset, .unset, .unset] [(.int (x0_5 &&& (2 : Int32)))])) _
        refine XS.ifYes X0.here hx rfl (pc0 := 18) (pc' := 25) rfl (hb hby at_18) rfl ((if0 _ _).trans (teq hc18_38).1) (by decide) (by decide) ?_
        show Steps p.tables e below (s₁.setTop (mkF m 25 #[.val (.long x0_0), .second, .val (.long x0_1), .second, .val (.long x0_2), .second, .val (.long x0_3), .second, .val (.long x0_4), .second, .val (.int x0_5), .val (.int (1 : Int32)), .unset, .unset, .unset, .unset, .unset, .unset] [])) _
        refine XS.iconst X0.here hx rfl (hb hby at_25) ?_
        show Steps p.tables e below (s₁.setTop (mkF m 26 #[.val (.long x0_0), .second, .val (.long x0_1), .second, .val (.long x0_2), .second, .val (.long x0_3), .second, .val (.long x0_4), .second, .val (.int x0_5), .val (.int (1 : Int32)), .unset, .unset, .unset, .unset, .unset, .unset] [(.int (0 : Int32))])) _
        refine XS.istore X0.here hx rfl (hb hby at_26) rfl (l' := #[.val (.long x0_0), .second, .val (.long x0_1), .second, .val (.long x0_2), .second, .val (.long x0_3), .second, .val (.long x0_4), .second, .val (.int x0_5), .val (.int (1 : Int32)), .val (.int (0 : Int32)), .unset, .unset, .unset, .unset, .unset]) rfl ?_
        show Steps p.tables e below (s₁.setTop (mkF m 28 #[.val (.long x0_0), .second, .val (.long x0_1), .second, .val (.long x0_2), .second, .val (.long x0_3), .second, .val (.long x0_4), .second, .val (.int x0_5), .val (.int (1 : Int32)), .val (.int (0 : Int32)), .unset, .unset, .unset, .unset, .unset] [])) _
        refine XS.iload X0.here hx rfl (hb hby at_28) rfl ?_
        show Steps p.tables e below (s₁.setTop (mkF m 30 #[.val (.long x0_0), .second, .val (.long x0_1), .second, .val (.long x0_2), .second, .val (.long x0_3), .second, .val (.long x0_4), .second, .val (.int x0_5), .val (.int (1 : Int32)), .val (.int (0 : Int32)), .unset, .unset, .unset, .unset, .unset] [(.int (0 : Int32))])) _
        refine XS.ifYes X0.here hx rfl (pc0 := 30) (pc' := 41) rfl (hb hby at_30) rfl ((if0 _ _).trans (teq (by decide : ((0 : Int32) = (0 : Int32)))).1) (by decide) (by decide) ?_
        show Steps p.tables e below (s₁.setTop (mkF m 41 #[.val (.long x0_0), .second, .val (.long x0_1), .second, .val (.long x0_2), .second, .val (.long x0_3), .second, .val (.long x0_4), .second, .val (.int x0_5), .val (.int (1 : Int32)), .val (.int (0 : Int32)), .unset, .unset, .unset, .unset, .unset] [])) _
        refine XS.aconstNull X0.here hx rfl (hb hby at_41) ?_
        show Steps p.tables e below (s₁.setTop (mkF m 42 #[.val (.long x0_0), .second, .val (.long x0_1), .second, .val (.long x0_2), .second, .val (.long x0_3), .second, .val (.long x0_4), .second, .val (.int x0_5), .val (.int (1 : Int32)), .val (.int (0 : Int32)), .unset, .unset, .unset, .unset, .unset] [.null])) _
        refine XS.astore X0.here hx rfl (hb hby at_42) rfl rfl (l' := #[.val (.long x0_0), .second, .val (.long x0_1), .second, .val (.long x0_2), .second, .val (.long x0_3), .second, .val (.long x0_4), .second, .val (.int x0_5), .val (.int (1 : Int32)), .val (.int (0 : Int32)), .val .null, .unset, .unset, .unset, .unset]) rfl ?_
        show Steps p.tables e below (s₁.setTop (mkF m 44 #[.val (.long x0_0), .second, .val (.long x0_1), .second, .val (.long x0_2), .second, .val (.long x0_3), .second, .val (.long x0_4), .second, .val (.int x0_5), .val (.int (1 : Int32)), .val (.int (0 : Int32)), .val .null, .unset, .unset, .unset, .unset] [])) _
        refine st39 _ ?_
        show Steps p.tables e below (T39.setTop (mkF m 47 #[.val (.long x0_0), .second, .val (.long x0_1), .second, .val (.long x0_2), .second, .val (.long x0_3), .second, .val (.long x0_4), .second, .val (.int x0_5), .val (.int (1 : Int32)), .val (.int (0 : Int32)), .val .null, .unset, .unset, .unset, .unset] [(.ref b39)])) _
        refine XS.dup X39.here hx rfl (hb hby at_47) rfl rfl ?_
        show Steps p.tables e below (T39.setTop (mkF m 48 #[.val (.long x0_0), .second, .val (.long x0_1), .second, .val (.long x0_2), .second, .val (.long x0_3), .second, .val (.long x0_4), .second, .val (.int x0_5), .val (.int (1 : Int32)), .val (.int (0 : Int32)), .val .null, .unset, .unset, .unset, .unset] [(.ref b39), (.ref b39)])) _
        refine XS.lloadN X39.here hx rfl (hb hby at_48) rfl ?_
        show Steps p.tables e below (T39.setTop (mkF m 49 #[.val (.long x0_0), .second, .val (.long x0_1), .second, .val (.long x0_2), .second, .val (.long x0_3), .second, .val (.long x0_4), .second, .val (.int x0_5), .val (.int (1 : Int32)), .val (.int (0 : Int32)), .val .null, .unset, .unset, .unset, .unset] [(.long x0_0), (.ref b39), (.ref b39)])) _
        refine XS.lloadN X39.here hx rfl (hb hby at_49) rfl ?_
        show Steps p.tables e below (T39.setTop (mkF m 50 #[.val (.long x0_0), .second, .val (.long x0_1), .second, .val (.long x0_2), .second, .val (.long x0_3), .second, .val (.long x0_4), .second, .val (.int x0_5), .val (.int (1 : Int32)), .val (.int (0 : Int32)), .val .null, .unset, .unset, .unset, .unset] [(.long x0_1), (.long x0_0), (.ref b39), (.ref b39)])) _
        refine XS.lload X39.here hx rfl (hb hby at_50) rfl ?_
        show Steps p.tables e below (T39.setTop (mkF m 52 #[.val (.long x0_0), .second, .val (.long x0_1), .second, .val (.long x0_2), .second, .val (.long x0_3), .second, .val (.long x0_4), .second, .val (.int x0_5), .val (.int (1 : Int32)), .val (.int (0 : Int32)), .val .null, .unset, .unset, .unset, .unset] [(.long x0_2), (.long x0_1), (.long x0_0), (.ref b39), (.ref b39)])) _
        refine XS.aload X39.here hx rfl (hb hby at_52) rfl rfl ?_
        exact kt
      obtain ⟨v40, _, ⟨T40, L40, k40, n40⟩, -, X40, ⟨Lc40, hQ40, l40, y40, z40⟩, st40⟩ := X39.specialBack hx (y := (⟨"com/example/redeliver/redeliver/EndpointCounters", "<init>", "(JJJLjava/lang/Long;)V"⟩ : MethodName)) rfl hown (mvT hZ (hw _ (List.mem_of_getElem? (i := 11) rfl))) (mvT hZ (hw _ (List.mem_of_getElem? (i := 12) rfl))) (mvT hZ (hw _ (List.mem_of_getElem? (i := 13) rfl))) (by decide) (backOf (W := 1) (rmcn l Z a0 hw [] b39 x0_0 x0_1 x0_2 h39 n0 Zs39 A39 g_b39 F_attempts_b39 F_failures_b39 F_consecutiveFailures_b39 F_lastSuccessAt_b39) hZ (hw _ (List.mem_of_getElem? (i := 13) rfl)) (hw _ (List.mem_of_getElem? (i := 10) rfl)) (by decide) (by decide)) (g := (mkF m 54 #[.val (.long x0_0), .second, .val (.long x0_1), .second, .val (.long x0_2), .second, .val (.long x0_3), .second, .val (.long x0_4), .second, .val (.int x0_5), .val (.int (1 : Int32)), .val (.int (0 : Int32)), .val .null, .unset, .unset, .unset, .unset] [.null, (.long x0_2), (.long x0_1), (.long x0_0), (.ref b39), (.ref b39)])) rfl (by rw [hml]; rfl) (Steps.refl _) (a := b39) (argsL := [(.long x0_0), (.long x0_1), (.long x0_2), .null]) (rest := [(.ref b39)]) (lenOf pd_2 rfl) rfl (by show 2 * 0 + _ ≤ _; exact Nat.le_of_eq rfl) (hb hby at_54) (fun _ _ => ⟨rfl, e39, (by decide : 1 + 0 ≤ _), (by decide : 4 + 0 ≤ _)⟩)
      dsimp only [Pt.U, Pt.locs, Pt.cells, Pt.slots] at X40 l40 y40 z40 st40 hQ40
      subst l40 y40 z40
      obtain ⟨rfl, N40q, K40, Ex40, Fq40_attempts, Fq40_failures, Fq40_consecutiveFailures, Fq40_lastSuccessAt⟩ := hQ40
      have N40 := Fr.app N0 N40q
      have Zs40 : n0 ≤ T40.heap.size := Nat.le_trans Zs39 K40.1
      have Ol40 : Old Z n0 T40.heap := (Ol39).keep K40 (allS g_b39 all0)
      have sg43 : ∀ t, Steps p.tables e below (T40.setTop (mkF m 65 #[.val (.long x0_0), .second, .val (.long x0_1), .second, .val (.long x0_2), .second, .val (.long x0_3), .second, .val (.long x0_4), .second, .val (.int x0_5), .val (.int (1 : Int32)), .val (.int (0 : Int32)), .val .null, .val (.ref b39), .unset, .unset, .unset] [(.long x0_4), (.int (1 : Int32)), (.ref b39)])) t → Steps p.tables e below (T39.setTop (mkF m 54 #[.val (.long x0_0), .second, .val (.long x0_1), .second, .val (.long x0_2), .second, .val (.long x0_3), .second, .val (.long x0_4), .second, .val (.int x0_5), .val (.int (1 : Int32)), .val (.int (0 : Int32)), .val .null, .unset, .unset, .unset, .unset] [.null, (.long x0_2), (.long x0_1), (.long x0_0), (.ref b39), (.ref b39)])) t := fun t kt => by
        show Steps p.tables e below (T39.setTop (mkF m 54 #[.val (.long x0_0), .second, .val (.long x0_1), .second, .val (.long x0_2), .second, .val (.long x0_3), .second, .val (.long x0_4), .second, .val (.int x0_5), .val (.int (1 : Int32)), .val (.int (0 : Int32)), .val .null, .unset, .unset, .unset, .unset] [.null, (.long x0_2), (.long x0_1), (.long x0_0), (.ref b39), (.ref b39)])) _
        refine st40.trans ?_
        show Steps p.tables e below (T40.setTop (mkF m 57 #[.val (.long x0_0), .second, .val (.long x0_1), .second, .val (.long x0_2), .second, .val (.long x0_3), .second, .val (.long x0_4), .second, .val (.int x0_5), .val (.int (1 : Int32)), .val (.int (0 : Int32)), .val .null, .unset, .unset, .unset, .unset] [(.ref b39)])) _
        refine XS.astore X40.here hx rfl (hb hby at_57) rfl rfl (l' := #[.val (.long x0_0), .second, .val (.long x0_1), .second, .val (.long x0_2), .second, .val (.long x0_3), .second, .val (.long x0_4), .second, .val (.int x0_5), .val (.int (1 : Int32)), .val (.int (0 : Int32)), .val .null, .val (.ref b39), .unset, .unset, .unset]) rfl ?_
        show Steps p.tables e below (T40.setTop (mkF m 59 #[.val (.long x0_0), .second, .val (.long x0_1), .second, .val (.long x0_2), .second, .val (.long x0_3), .second, .val (.long x0_4), .second, .val (.int x0_5), .val (.int (1 : Int32)), .val (.int (0 : Int32)), .val .null, .val (.ref b39), .unset, .unset, .unset] [])) _
        refine XS.aload X40.here hx rfl (hb hby at_59) rfl rfl ?_
        show Steps p.tables e below (T40.setTop (mkF m 61 #[.val (.long x0_0), .second, .val (.long x0_1), .second, .val (.long x0_2), .second, .val (.long x0_3), .second, .val (.long x0_4), .second, .val (.int x0_5), .val (.int (1 : Int32)), .val (.int (0 : Int32)), .val .null, .val (.ref b39), .unset, .unset, .unset] [(.ref b39)])) _
        refine XS.iload X40.here hx rfl (hb hby at_61) rfl ?_
        show Steps p.tables e below (T40.setTop (mkF m 63 #[.val (.long x0_0), .second, .val (.long x0_1), .second, .val (.long x0_2), .second, .val (.long x0_3), .second, .val (.long x0_4), .second, .val (.int x0_5), .val (.int (1 : Int32)), .val (.int (0 : Int32)), .val .null, .val (.ref b39), .unset, .unset, .unset] [(.int (1 : Int32)), (.ref b39)])) _
        refine XS.lload X40.here hx rfl (hb hby at_63) rfl ?_
        exact kt
      obtain ⟨cq42, kq42, q42a, q42b, q42c⟩ := isOf hZ rfl Ex40
      obtain ⟨v42, _, ⟨T42, L42, k42, n42⟩, -, X42, ⟨Lc42, hQ42, l42, y42, z42⟩, st42⟩ := X40.virtualBack hx (y := (⟨"com/example/redeliver/redeliver/EndpointCounters", "after", "(ZJ)Lcom/example/redeliver/redeliver/EndpointCounters;"⟩ : MethodName)) (z := (⟨"com/example/redeliver/redeliver/EndpointCounters", "after", "(ZJ)Lcom/example/redeliver/redeliver/EndpointCounters;"⟩ : MethodName)) hown (mvT hZ (hw _ (List.mem_of_getElem? (i := 30) rfl))) (mvT hZ (hw _ (List.mem_of_getElem? (i := 31) rfl))) (notFace_of_selects (args := #[]) (mvT hZ (hw _ (List.mem_of_getElem? (i := 33) rfl)))) (mvT hZ (hw _ (List.mem_of_getElem? (i := 33) rfl))) (mvT hZ (hw _ (List.mem_of_getElem? (i := 32) rfl))) (by decide) (backOf (W := 0) (rmat l Z a0 hw [] b39 x0_4 x0_0 x0_1 x0_2 cA cl T40.heap n0 Zs40 Ex40 Fq40_attempts Fq40_failures Fq40_consecutiveFailures Fq40_lastSuccessAt Ol40 JC SC) hZ (hw _ (List.mem_of_getElem? (i := 34) rfl)) (hw _ (List.mem_of_getElem? (i := 10) rfl)) (by decide) (by decide)) q42a q42c (g := (mkF m 65 #[.val (.long x0_0), .second, .val (.long x0_1), .second, .val (.long x0_2), .second, .val (.long x0_3), .second, .val (.long x0_4), .second, .val (.int x0_5), .val (.int (1 : Int32)), .val (.int (0 : Int32)), .val .null, .val (.ref b39), .unset, .unset, .unset] [(.long x0_4), (.int (1 : Int32)), (.ref b39)])) rfl (by rw [hml]; rfl) (Steps.refl _) (argsL := [(.int (1 : Int32)), (.long x0_4)]) (rest := []) (lenOf pd_4 rfl) rfl (by show 2 * 0 + _ ≤ _; exact Nat.le_of_eq rfl) (hb hby at_65) (fun _ _ => ⟨rfl, rfl, (by decide : 1 + 2 ≤ _), (by decide : 4 + 5 ≤ _)⟩)
      dsimp only [Pt.U, Pt.locs, Pt.cells, Pt.slots] at X42 l42 y42 z42 st42 hQ42
      subst l42 y42 z42
      obtain ⟨ro0_42, ro1_42, rfl, N42q, K42, Ero0_42, Ero1_42, Fro0_42_attempts, Fro0_42_failures, Fro0_42_consecutiveFailures, Fro0_42_lastSuccessAt, Fro1_42_value⟩ := hQ42
      have N42 := Fr.app N40 N42q
      have Zs42 : n0 ≤ T42.heap.size := Nat.le_trans Zs40 K42.1
      have Ol42 : Old Z n0 T42.heap := (Ol40).keep K42 all0
      have sg45 : ∀ t, Steps p.tables e below (T42.setTop (mkF m 79 #[.val (.long x0_0), .second, .val (.long x0_1), .second, .val (.long x0_2), .second, .val (.long x0_3), .second, .val (.long x0_4), .second, .val (.int x0_5), .val (.int (1 : Int32)), .val (.int (0 : Int32)), .val .null, .val (.ref b39), .val (.ref ro0_42), .unset, .unset] [(.ref ro0_42)])) t → Steps p.tables e below (T40.setTop (mkF m 65 #[.val (.long x0_0), .second, .val (.long x0_1), .second, .val (.long x0_2), .second, .val (.long x0_3), .second, .val (.long x0_4), .second, .val (.int x0_5), .val (.int (1 : Int32)), .val (.int (0 : Int32)), .val .null, .val (.ref b39), .unset, .unset, .unset] [(.long x0_4), (.int (1 : Int32)), (.ref b39)])) t := fun t kt => by
        show Steps p.tables e below (T40.setTop (mkF m 65 #[.val (.long x0_0), .second, .val (.long x0_1), .second, .val (.long x0_2), .second, .val (.long x0_3), .second, .val (.long x0_4), .second, .val (.int x0_5), .val (.int (1 : Int32)), .val (.int (0 : Int32)), .val .null, .val (.ref b39), .unset, .unset, .unset] [(.long x0_4), (.int (1 : Int32)), (.ref b39)])) _
        refine st42.trans ?_
        show Steps p.tables e below (T42.setTop (mkF m 68 #[.val (.long x0_0), .second, .val (.long x0_1), .second, .val (.long x0_2), .second, .val (.long x0_3), .second, .val (.long x0_4), .second, .val (.int x0_5), .val (.int (1 : Int32)), .val (.int (0 : Int32)), .val .null, .val (.ref b39), .unset, .unset, .unset] [(.ref ro0_42)])) _
        refine XS.astore X42.here hx rfl (hb hby at_68) rfl rfl (l' := #[.val (.long x0_0), .second, .val (.long x0_1), .second, .val (.long x0_2), .second, .val (.long x0_3), .second, .val (.long x0_4), .second, .val (.int x0_5), .val (.int (1 : Int32)), .val (.int (0 : Int32)), .val .null, .val (.ref b39), .val (.ref ro0_42), .unset, .unset]) rfl ?_
        show Steps p.tables e below (T42.setTop (mkF m 70 #[.val (.long x0_0), .second, .val (.long x0_1), .second, .val (.long x0_2), .second, .val (.long x0_3), .second, .val (.long x0_4), .second, .val (.int x0_5), .val (.int (1 : Int32)), .val (.int (0 : Int32)), .val .null, .val (.ref b39), .val (.ref ro0_42), .unset, .unset] [])) _
        refine XS.aload X42.here hx rfl (hb hby at_70) rfl rfl ?_
        show Steps p.tables e below (T42.setTop (mkF m 72 #[.val (.long x0_0), .second, .val (.long x0_1), .second, .val (.long x0_2), .second, .val (.long x0_3), .second, .val (.long x0_4), .second, .val (.int x0_5), .val (.int (1 : Int32)), .val (.int (0 : Int32)), .val .null, .val (.ref b39), .val (.ref ro0_42), .unset, .unset] [(.ref ro0_42)])) _
        refine XS.ifnonnullYes X42.here hx rfl (pc0 := 72) (pc' := 77) rfl (hb hby at_72) rfl (by decide) (by decide) ?_
        show Steps p.tables e below (T42.setTop (mkF m 77 #[.val (.long x0_0), .second, .val (.long x0_1), .second, .val (.long x0_2), .second, .val (.long x0_3), .second, .val (.long x0_4), .second, .val (.int x0_5), .val (.int (1 : Int32)), .val (.int (0 : Int32)), .val .null, .val (.ref b39), .val (.ref ro0_42), .unset, .unset] [])) _
        refine XS.aload X42.here hx rfl (hb hby at_77) rfl rfl ?_
        exact kt
      obtain ⟨cq44, kq44, q44a, q44b, q44c⟩ := isOf hZ rfl Ero0_42
      obtain ⟨v44, _, ⟨T44, L44, k44, n44⟩, -, X44, ⟨Lc44, hQ44, l44, y44, z44⟩, st44⟩ := X42.virtualBack hx (y := (⟨"com/example/redeliver/redeliver/EndpointCounters", "lastSuccessAt", "()Ljava/lang/Long;"⟩ : MethodName)) (z := (⟨"com/example/redeliver/redeliver/EndpointCounters", "lastSuccessAt", "()Ljava/lang/Long;"⟩ : MethodName)) hown (mvT hZ (hw _ (List.mem_of_getElem? (i := 37) rfl))) (mvT hZ (hw _ (List.mem_of_getElem? (i := 38) rfl))) (notFace_of_selects (args := #[]) (mvT hZ (hw _ (List.mem_of_getElem? (i := 40) rfl)))) (mvT hZ (hw _ (List.mem_of_getElem? (i := 40) rfl))) (mvT hZ (hw _ (List.mem_of_getElem? (i := 39) rfl))) (by decide) (backOf (W := 0) (rmlr l Z a0 hw [] ro0_42 ro1_42 T42.heap n0 Zs42 Fro0_42_lastSuccessAt) hZ (hw _ (List.mem_of_getElem? (i := 41) rfl)) (hw _ (List.mem_of_getElem? (i := 10) rfl)) (by decide) (by decide)) q44a q44c (g := (mkF m 79 #[.val (.long x0_0), .second, .val (.long x0_1), .second, .val (.long x0_2), .second, .val (.long x0_3), .second, .val (.long x0_4), .second, .val (.int x0_5), .val (.int (1 : Int32)), .val (.int (0 : Int32)), .val .null, .val (.ref b39), .val (.ref ro0_42), .unset, .unset] [(.ref ro0_42)])) rfl (by rw [hml]; rfl) (Steps.refl _) (argsL := []) (rest := []) (lenOf pd_5 rfl) rfl (by show 2 * 0 + _ ≤ _; exact Nat.le_of_eq rfl) (hb hby at_79) (fun _ _ => ⟨rfl, rfl, (by decide : 3 + 0 ≤ _), (by decide : 9 + 0 ≤ _)⟩)
      dsimp only [Pt.U, Pt.locs, Pt.cells, Pt.slots] at X44 l44 y44 z44 st44 hQ44
      subst l44 y44 z44
      obtain ⟨hv44, N44q, e44⟩ := hQ44
      have N44 := Fr.app N42 N44q
      have hf44 : flr ro0_42 ro1_42 = ro1_42 := rfl
      rw [hf44] at hv44
      subst hv44
      have sg47 : ∀ t, Steps p.tables e below (T44.setTop (mkF m 91 #[.val (.long x0_0), .second, .val (.long x0_1), .second, .val (.long x0_2), .second, .val (.long x0_3), .second, .val (.long x0_4), .second, .val (.int x0_5), .val (.int (1 : Int32)), .val (.int (0 : Int32)), .val .null, .val (.ref b39), .val (.ref ro0_42), .val (.ref ro1_42), .unset] [(.ref ro0_42)])) t → Steps p.tables e below (T42.setTop (mkF m 79 #[.val (.long x0_0), .second, .val (.long x0_1), .second, .val (.long x0_2), .second, .val (.long x0_3), .second, .val (.long x0_4), .second, .val (.int x0_5), .val (.int (1 : Int32)), .val (.int (0 : Int32)), .val .null, .val (.ref b39), .val (.ref ro0_42), .unset, .unset] [(.ref ro0_42)])) t := fun t kt => by
        show Steps p.tables e below (T42.setTop (mkF m 79 #[.val (.long x0_0), .second, .val (.long x0_1), .second, .val (.long x0_2), .second, .val (.long x0_3), .second, .val (.long x0_4), .second, .val (.int x0_5), .val (.int (1 : Int32)), .val (.int (0 : Int32)), .val .null, .val (.ref b39), .val (.ref ro0_42), .unset, .unset] [(.ref ro0_42)])) _
        refine st44.trans ?_
        show Steps p.tables e below (T44.setTop (mkF m 82 #[.val (.long x0_0), .second, .val (.long x0_1), .second, .val (.long x0_2), .second, .val (.long x0_3), .second, .val (.long x0_4), .second, .val (.int x0_5), .val (.int (1 : Int32)), .val (.int (0 : Int32)), .val .null, .val (.ref b39), .val (.ref ro0_42), .unset, .unset] [(.ref ro1_42)])) _
        refine XS.astore X44.here hx rfl (hb hby at_82) rfl rfl (l' := #[.val (.long x0_0), .second, .val (.long x0_1), .second, .val (.long x0_2), .second, .val (.long x0_3), .second, .val (.long x0_4), .second, .val (.int x0_5), .val (.int (1 : Int32)), .val (.int (0 : Int32)), .val .null, .val (.ref b39), .val (.ref ro0_42), .val (.ref ro1_42), .unset]) rfl ?_
        show Steps p.tables e below (T44.setTop (mkF m 84 #[.val (.long x0_0), .second, .val (.long x0_1), .second, .val (.long x0_2), .second, .val (.long x0_3), .second, .val (.long x0_4), .second, .val (.int x0_5), .val (.int (1 : Int32)), .val (.int (0 : Int32)), .val .null, .val (.ref b39), .val (.ref ro0_42), .val (.ref ro1_42), .unset] [])) _
        refine XS.iload X44.here hx rfl (hb hby at_84) rfl ?_
        show Steps p.tables e below (T44.setTop (mkF m 86 #[.val (.long x0_0), .second, .val (.long x0_1), .second, .val (.long x0_2), .second, .val (.long x0_3), .second, .val (.long x0_4), .second, .val (.int x0_5), .val (.int (1 : Int32)), .val (.int (0 : Int32)), .val .null, .val (.ref b39), .val (.ref ro0_42), .val (.ref ro1_42), .unset] [(.int (1 : Int32))])) _
        refine XS.ifNo X44.here hx rfl (hb hby at_86) rfl ((if0 _ _).trans (feq (by decide : ¬ ((1 : Int32) = (0 : Int32)))).1) ?_
        show Steps p.tables e below (T44.setTop (mkF m 89 #[.val (.long x0_0), .second, .val (.long x0_1), .second, .val (.long x0_2), .second, .val (.long x0_3), .second, .val (.long x0_4), .second, .val (.int x0_5), .val (.int (1 : Int32)), .val (.int (0 : Int32)), .val .null, .val (.ref b39), .val (.ref ro0_42), .val (.ref ro1_42), .unset] [])) _
        refine XS.aload X44.here hx rfl (hb hby at_89) rfl rfl ?_
        exact kt
      obtain ⟨cq46, kq46, q46a, q46b, q46c⟩ := isOf hZ e44 Ero0_42
      obtain ⟨v46, _, ⟨T46, L46, k46, n46⟩, -, X46, ⟨Lc46, hQ46, l46, y46, z46⟩, st46⟩ := X44.virtualBack hx (y := (⟨"com/example/redeliver/redeliver/EndpointCounters", "attempts", "()J"⟩ : MethodName)) (z := (⟨"com/example/redeliver/redeliver/EndpointCounters", "attempts", "()J"⟩ : MethodName)) hown (mvT hZ (hw _ (List.mem_of_getElem? (i := 49) rfl))) (mvT hZ (hw _ (List.mem_of_getElem? (i := 50) rfl))) (notFace_of_selects (args := #[]) (mvT hZ (hw _ (List.mem_of_getElem? (i := 52) rfl)))) (mvT hZ (hw _ (List.mem_of_getElem? (i := 52) rfl))) (mvT hZ (hw _ (List.mem_of_getElem? (i := 51) rfl))) (by decide) (backOf (W := 0) (rm8 l Z a0 hw [] ro0_42 (x0_0 + (1 : Int64)) T42.heap n0 Zs42 Fro0_42_attempts) hZ (hw _ (List.mem_of_getElem? (i := 53) rfl)) (hw _ (List.mem_of_getElem? (i := 10) rfl)) (by decide) (by decide)) q46a q46c (g := (mkF m 91 #[.val (.long x0_0), .second, .val (.long x0_1), .second, .val (.long x0_2), .second, .val (.long x0_3), .second, .val (.long x0_4), .second, .val (.int x0_5), .val (.int (1 : Int32)), .val (.int (0 : Int32)), .val .null, .val (.ref b39), .val (.ref ro0_42), .val (.ref ro1_42), .unset] [(.ref ro0_42)])) rfl (by rw [hml]; rfl) (Steps.refl _) (argsL := []) (rest := []) (lenOf pd_6 rfl) rfl (by show 2 * 0 + _ ≤ _; exact Nat.le_of_eq rfl) (hb hby at_91) (fun _ _ => ⟨rfl, e44, (by decide : 3 + 0 ≤ _), (by decide : 9 + 0 ≤ _)⟩)
      dsimp only [Pt.U, Pt.locs, Pt.cells, Pt.slots] at X46 l46 y46 z46 st46 hQ46
      subst l46 y46 z46
      obtain ⟨hv46, N46q, e46⟩ := hQ46
      have N46 := Fr.app N44 N46q
      have hf46 : f8 ro0_42 (x0_0 + (1 : Int64)) = (x0_0 + (1 : Int64)) := rfl
      rw [hf46] at hv46
      subst hv46
      have sg49 : ∀ t, Steps p.tables e below (T46.setTop (mkF m 103 #[.val (.long x0_0), .second, .val (.long x0_1), .second, .val (.long x0_2), .second, .val (.long x0_3), .second, .val (.long x0_4), .second, .val (.int x0_5), .val (.int (1 : Int32)), .val (.int (0 : Int32)), .val .null, .val (.ref b39), .val (.ref ro0_42), .val (.ref ro1_42), .unset] [(.ref ro0_42)])) t → Steps p.tables e below (T44.setTop (mkF m 91 #[.val (.long x0_0), .second, .val (.long x0_1), .second, .val (.long x0_2), .second, .val (.long x0_3), .second, .val (.long x0_4), .second, .val (.int x0_5), .val (.int (1 : Int32)), .val (.int (0 : Int32)), .val .null, .val (.ref b39), .val (.ref ro0_42), .val (.ref ro1_42), .unset] [(.ref ro0_42)])) t := fun t kt => by
        show Steps p.tables e below (T44.setTop (mkF m 91 #[.val (.long x0_0), .second, .val (.long x0_1), .second, .val (.long x0_2), .second, .val (.long x0_3), .second, .val (.long x0_4), .second, .val (.int x0_5), .val (.int (1 : Int32)), .val (.int (0 : Int32)), .val .null, .val (.ref b39), .val (.ref ro0_42), .val (.ref ro1_42), .unset] [(.ref ro0_42)])) _
        refine st46.trans ?_
        show Steps p.tables e below (T46.setTop (mkF m 94 #[.val (.long x0_0), .second, .val (.long x0_1), .second, .val (.long x0_2), .second, .val (.long x0_3), .second, .val (.long x0_4), .second, .val (.int x0_5), .val (.int (1 : Int32)), .val (.int (0 : Int32)), .val .null, .val (.ref b39), .val (.ref ro0_42), .val (.ref ro1_42), .unset] [(.long (x0_0 + (1 : Int64)))])) _
        refine XS.lloadN X46.here hx rfl (hb hby at_94) rfl ?_
        show Steps p.tables e below (T46.setTop (mkF m 95 #[.val (.long x0_0), .second, .val (.long x0_1), .second, .val (.long x0_2), .second, .val (.long x0_3), .second, .val (.long x0_4), .second, .val (.int x0_5), .val (.int (1 : Int32)), .val (.int (0 : Int32)), .val .null, .val (.ref b39), .val (.ref ro0_42), .val (.ref ro1_42), .unset] [(.long x0_0), (.long (x0_0 + (1 : Int64)))])) _
        refine XS.lconst X46.here hx rfl (hb hby at_95) ?_
        show Steps p.tables e below (T46.setTop (mkF m 96 #[.val (.long x0_0), .second, .val (.long x0_1), .second, .val (.long x0_2), .second, .val (.long x0_3), .second, .val (.long x0_4), .second, .val (.int x0_5), .val (.int (1 : Int32)), .val (.int (0 : Int32)), .val .null, .val (.ref b39), .val (.ref ro0_42), .val (.ref ro1_42), .unset] [(.long (1 : Int64)), (.long x0_0), (.long (x0_0 + (1 : Int64)))])) _
        refine XS.ladd X46.here hx rfl (hb hby at_96) rfl ?_
        show Steps p.tables e below (T46.setTop (mkF m 97 #[.val (.long x0_0), .second, .val (.long x0_1), .second, .val (.long x0_2), .second, .val (.long x0_3), .second, .val (.long x0_4), .second, .val (.int x0_5), .val (.int (1 : Int32)), .val (.int (0 : Int32)), .val .null, .val (.ref b39), .val (.ref ro0_42), .val (.ref ro1_42), .unset] [(.long (x0_0 + (1 : Int64))), (.long (x0_0 + (1 : Int64)))])) _
        refine XS.lcmp X46.here hx rfl (hb hby at_97) rfl ?_
        show Steps p.tables e below (T46.setTop (mkF m 98 #[.val (.long x0_0), .second, .val (.long x0_1), .second, .val (.long x0_2), .second, .val (.long x0_3), .second, .val (.long x0_4), .second, .val (.int x0_5), .val (.int (1 : Int32)), .val (.int (0 : Int32)), .val .null, .val (.ref b39), .val (.ref ro0_42), .val (.ref ro1_42), .unset] [(.int (lcmpW (x0_0 + (1 : Int64)) (x0_0 + (1 : Int64))))])) _
        refine XS.ifNo X46.here hx rfl (hb hby at_98) rfl ((if0 _ _).trans (teq ((lw_eq _ _).mpr (rfl : (x0_0 + (1 : Int64)) = (x0_0 + (1 : Int64))))).2) ?_
        show Steps p.tables e below (T46.setTop (mkF m 101 #[.val (.long x0_0), .second, .val (.long x0_1), .second, .val (.long x0_2), .second, .val (.long x0_3), .second, .val (.long x0_4), .second, .val (.int x0_5), .val (.int (1 : Int32)), .val (.int (0 : Int32)), .val .null, .val (.ref b39), .val (.ref ro0_42), .val (.ref ro1_42), .unset] [])) _
        refine XS.aload X46.here hx rfl (hb hby at_101) rfl rfl ?_
        exact kt
      obtain ⟨cq48, kq48, q48a, q48b, q48c⟩ := isOf hZ e46 Ero0_42
      obtain ⟨v48, _, ⟨T48, L48, k48, n48⟩, -, X48, ⟨Lc48, hQ48, l48, y48, z48⟩, st48⟩ := X46.virtualBack hx (y := (⟨"com/example/redeliver/redeliver/EndpointCounters", "failures", "()J"⟩ : MethodName)) (z := (⟨"com/example/redeliver/redeliver/EndpointCounters", "failures", "()J"⟩ : MethodName)) hown (mvT hZ (hw _ (List.mem_of_getElem? (i := 54) rfl))) (mvT hZ (hw _ (List.mem_of_getElem? (i := 55) rfl))) (notFace_of_selects (args := #[]) (mvT hZ (hw _ (List.mem_of_getElem? (i := 57) rfl)))) (mvT hZ (hw _ (List.mem_of_getElem? (i := 57) rfl))) (mvT hZ (hw _ (List.mem_of_getElem? (i := 56) rfl))) (by decide) (backOf (W := 0) (rm9 l Z a0 hw [] ro0_42 x0_1 T42.heap n0 Zs42 Fro0_42_failures) hZ (hw _ (List.mem_of_getElem? (i := 58) rfl)) (hw _ (List.mem_of_getElem? (i := 10) rfl)) (by decide) (by decide)) q48a q48c (g := (mkF m 103 #[.val (.long x0_0), .second, .val (.long x0_1), .second, .val (.long x0_2), .second, .val (.long x0_3), .second, .val (.long x0_4), .second, .val (.int x0_5), .val (.int (1 : Int32)), .val (.int (0 : Int32)), .val .null, .val (.ref b39), .val (.ref ro0_42), .val (.ref ro1_42), .unset] [(.ref ro0_42)])) rfl (by rw [hml]; rfl) (Steps.refl _) (argsL := []) (rest := []) (lenOf pd_6 rfl) rfl (by show 2 * 0 + _ ≤ _; exact Nat.le_of_eq rfl) (hb hby at_103) (fun _ _ => ⟨rfl, e46, (by decide : 3 + 0 ≤ _), (by decide : 9 + 0 ≤ _)⟩)
      dsimp only [Pt.U, Pt.locs, Pt.cells, Pt.slots] at X48 l48 y48 z48 st48 hQ48
      subst l48 y48 z48
      obtain ⟨hv48, N48q, e48⟩ := hQ48
      have N48 := Fr.app N46 N48q
      have hf48 : f9 ro0_42 x0_1 = x0_1 := rfl
      rw [hf48] at hv48
      subst hv48
      have sg51 : ∀ t, Steps p.tables e below (T48.setTop (mkF m 113 #[.val (.long x0_0), .second, .val (.long x0_1), .second, .val (.long x0_2), .second, .val (.long x0_3), .second, .val (.long x0_4), .second, .val (.int x0_5), .val (.int (1 : Int32)), .val (.int (0 : Int32)), .val .null, .val (.ref b39), .val (.ref ro0_42), .val (.ref ro1_42), .unset] [(.ref ro0_42)])) t → Steps p.tables e below (T46.setTop (mkF m 103 #[.val (.long x0_0), .second, .val (.long x0_1), .second, .val (.long x0_2), .second, .val (.long x0_3), .second, .val (.long x0_4), .second, .val (.int x0_5), .val (.int (1 : Int32)), .val (.int (0 : Int32)), .val .null, .val (.ref b39), .val (.ref ro0_42), .val (.ref ro1_42), .unset] [(.ref ro0_42)])) t := fun t kt => by
        show Steps p.tables e below (T46.setTop (mkF m 103 #[.val (.long x0_0), .second, .val (.long x0_1), .second, .val (.long x0_2), .second, .val (.long x0_3), .second, .val (.long x0_4), .second, .val (.int x0_5), .val (.int (1 : Int32)), .val (.int (0 : Int32)), .val .null, .val (.ref b39), .val (.ref ro0_42), .val (.ref ro1_42), .unset] [(.ref ro0_42)])) _
        refine st48.trans ?_
        show Steps p.tables e below (T48.setTop (mkF m 106 #[.val (.long x0_0), .second, .val (.long x0_1), .second, .val (.long x0_2), .second, .val (.long x0_3), .second, .val (.long x0_4), .second, .val (.int x0_5), .val (.int (1 : Int32)), .val (.int (0 : Int32)), .val .null, .val (.ref b39), .val (.ref ro0_42), .val (.ref ro1_42), .unset] [(.long x0_1)])) _
        refine XS.lloadN X48.here hx rfl (hb hby at_106) rfl ?_
        show Steps p.tables e below (T48.setTop (mkF m 107 #[.val (.long x0_0), .second, .val (.long x0_1), .second, .val (.long x0_2), .second, .val (.long x0_3), .second, .val (.long x0_4), .second, .val (.int x0_5), .val (.int (1 : Int32)), .val (.int (0 : Int32)), .val .null, .val (.ref b39), .val (.ref ro0_42), .val (.ref ro1_42), .unset] [(.long x0_1), (.long x0_1)])) _
        refine XS.lcmp X48.here hx rfl (hb hby at_107) rfl ?_
        show Steps p.tables e below (T48.setTop (mkF m 108 #[.val (.long x0_0), .second, .val (.long x0_1), .second, .val (.long x0_2), .second, .val (.long x0_3), .second, .val (.long x0_4), .second, .val (.int x0_5), .val (.int (1 : Int32)), .val (.int (0 : Int32)), .val .null, .val (.ref b39), .val (.ref ro0_42), .val (.ref ro1_42), .unset] [(.int (lcmpW x0_1 x0_1))])) _
        refine XS.ifNo X48.here hx rfl (hb hby at_108) rfl ((if0 _ _).trans (teq ((lw_eq _ _).mpr (rfl : x0_1 = x0_1))).2) ?_
        show Steps p.tables e below (T48.setTop (mkF m 111 #[.val (.long x0_0), .second, .val (.long x0_1), .second, .val (.long x0_2), .second, .val (.long x0_3), .second, .val (.long x0_4), .second, .val (.int x0_5), .val (.int (1 : Int32)), .val (.int (0 : Int32)), .val .null, .val (.ref b39), .val (.ref ro0_42), .val (.ref ro1_42), .unset] [])) _
        refine XS.aload X48.here hx rfl (hb hby at_111) rfl rfl ?_
        exact kt
      obtain ⟨cq50, kq50, q50a, q50b, q50c⟩ := isOf hZ e48 Ero0_42
      obtain ⟨v50, _, ⟨T50, L50, k50, n50⟩, -, X50, ⟨Lc50, hQ50, l50, y50, z50⟩, st50⟩ := X48.virtualBack hx (y := (⟨"com/example/redeliver/redeliver/EndpointCounters", "consecutiveFailures", "()J"⟩ : MethodName)) (z := (⟨"com/example/redeliver/redeliver/EndpointCounters", "consecutiveFailures", "()J"⟩ : MethodName)) hown (mvT hZ (hw _ (List.mem_of_getElem? (i := 59) rfl))) (mvT hZ (hw _ (List.mem_of_getElem? (i := 60) rfl))) (notFace_of_selects (args := #[]) (mvT hZ (hw _ (List.mem_of_getElem? (i := 62) rfl)))) (mvT hZ (hw _ (List.mem_of_getElem? (i := 62) rfl))) (mvT hZ (hw _ (List.mem_of_getElem? (i := 61) rfl))) (by decide) (backOf (W := 0) (rm10 l Z a0 hw [] ro0_42 (0 : Int64) T42.heap n0 Zs42 Fro0_42_consecutiveFailures) hZ (hw _ (List.mem_of_getElem? (i := 63) rfl)) (hw _ (List.mem_of_getElem? (i := 10) rfl)) (by decide) (by decide)) q50a q50c (g := (mkF m 113 #[.val (.long x0_0), .second, .val (.long x0_1), .second, .val (.long x0_2), .second, .val (.long x0_3), .second, .val (.long x0_4), .second, .val (.int x0_5), .val (.int (1 : Int32)), .val (.int (0 : Int32)), .val .null, .val (.ref b39), .val (.ref ro0_42), .val (.ref ro1_42), .unset] [(.ref ro0_42)])) rfl (by rw [hml]; rfl) (Steps.refl _) (argsL := []) (rest := []) (lenOf pd_6 rfl) rfl (by show 2 * 0 + _ ≤ _; exact Nat.le_of_eq rfl) (hb hby at_113) (fun _ _ => ⟨rfl, e48, (by decide : 3 + 0 ≤ _), (by decide : 9 + 0 ≤ _)⟩)
      dsimp only [Pt.U, Pt.locs, Pt.cells, Pt.slots] at X50 l50 y50 z50 st50 hQ50
      subst l50 y50 z50
      obtain ⟨hv50, N50q, e50⟩ := hQ50
      have N50 := Fr.app N48 N50q
      have hf50 : f10 ro0_42 (0 : Int64) = (0 : Int64) := rfl
      rw [hf50] at hv50
      subst hv50
      have sg53 : ∀ t, Steps p.tables e below (T50.setTop (mkF m 128 #[.val (.long x0_0), .second, .val (.long x0_1), .second, .val (.long x0_2), .second, .val (.long x0_3), .second, .val (.long x0_4), .second, .val (.int x0_5), .val (.int (1 : Int32)), .val (.int (0 : Int32)), .val .null, .val (.ref b39), .val (.ref ro0_42), .val (.ref ro1_42), .unset] [(.ref ro1_42)])) t → Steps p.tables e below (T48.setTop (mkF m 113 #[.val (.long x0_0), .second, .val (.long x0_1), .second, .val (.long x0_2), .second, .val (.long x0_3), .second, .val (.long x0_4), .second, .val (.int x0_5), .val (.int (1 : Int32)), .val (.int (0 : Int32)), .val .null, .val (.ref b39), .val (.ref ro0_42), .val (.ref ro1_42), .unset] [(.ref ro0_42)])) t := fun t kt => by
        show Steps p.tables e below (T48.setTop (mkF m 113 #[.val (.long x0_0), .second, .val (.long x0_1), .second, .val (.long x0_2), .second, .val (.long x0_3), .second, .val (.long x0_4), .second, .val (.int x0_5), .val (.int (1 : Int32)), .val (.int (0 : Int32)), .val .null, .val (.ref b39), .val (.ref ro0_42), .val (.ref ro1_42), .unset] [(.ref ro0_42)])) _
        refine st50.trans ?_
        show Steps p.tables e below (T50.setTop (mkF m 116 #[.val (.long x0_0), .second, .val (.long x0_1), .second, .val (.long x0_2), .second, .val (.long x0_3), .second, .val (.long x0_4), .second, .val (.int x0_5), .val (.int (1 : Int32)), .val (.int (0 : Int32)), .val .null, .val (.ref b39), .val (.ref ro0_42), .val (.ref ro1_42), .unset] [(.long (0 : Int64))])) _
        refine XS.lconst X50.here hx rfl (hb hby at_116) ?_
        show Steps p.tables e below (T50.setTop (mkF m 117 #[.val (.long x0_0), .second, .val (.long x0_1), .second, .val (.long x0_2), .second, .val (.long x0_3), .second, .val (.long x0_4), .second, .val (.int x0_5), .val (.int (1 : Int32)), .val (.int (0 : Int32)), .val .null, .val (.ref b39), .val (.ref ro0_42), .val (.ref ro1_42), .unset] [(.long (0 : Int64)), (.long (0 : Int64))])) _
        refine XS.lcmp X50.here hx rfl (hb hby at_117) rfl ?_
        show Steps p.tables e below (T50.setTop (mkF m 118 #[.val (.long x0_0), .second, .val (.long x0_1), .second, .val (.long x0_2), .second, .val (.long x0_3), .second, .val (.long x0_4), .second, .val (.int x0_5), .val (.int (1 : Int32)), .val (.int (0 : Int32)), .val .null, .val (.ref b39), .val (.ref ro0_42), .val (.ref ro1_42), .unset] [(.int (lcmpW (0 : Int64) (0 : Int64)))])) _
        refine XS.ifNo X50.here hx rfl (hb hby at_118) rfl ((if0 _ _).trans (teq ((lw_eq _ _).mpr (by decide : ((0 : Int64) = (0 : Int64))))).2) ?_
        show Steps p.tables e below (T50.setTop (mkF m 121 #[.val (.long x0_0), .second, .val (.long x0_1), .second, .val (.long x0_2), .second, .val (.long x0_3), .second, .val (.long x0_4), .second, .val (.int x0_5), .val (.int (1 : Int32)), .val (.int (0 : Int32)), .val .null, .val (.ref b39), .val (.ref ro0_42), .val (.ref ro1_42), .unset] [])) _
        refine XS.aload X50.here hx rfl (hb hby at_121) rfl rfl ?_
        show Steps p.tables e below (T50.setTop (mkF m 123 #[.val (.long x0_0), .second, .val (.long x0_1), .second, .val (.long x0_2), .second, .val (.long x0_3), .second, .val (.long x0_4), .second, .val (.int x0_5), .val (.int (1 : Int32)), .val (.int (0 : Int32)), .val .null, .val (.ref b39), .val (.ref ro0_42), .val (.ref ro1_42), .unset] [(.ref ro1_42)])) _
        refine XS.ifnullNo X50.here hx rfl (hb hby at_123) rfl ?_
        show Steps p.tables e below (T50.setTop (mkF m 126 #[.val (.long x0_0), .second, .val (.long x0_1), .second, .val (.long x0_2), .second, .val (.long x0_3), .second, .val (.long x0_4), .second, .val (.int x0_5), .val (.int (1 : Int32)), .val (.int (0 : Int32)), .val .null, .val (.ref b39), .val (.ref ro0_42), .val (.ref ro1_42), .unset] [])) _
        refine XS.aload X50.here hx rfl (hb hby at_126) rfl rfl ?_
        exact kt
      obtain ⟨cq52, kq52, q52a, q52b, q52c⟩ := isOf hZ e50 Ero1_42
      obtain ⟨v52, _, ⟨T52, L52, k52, n52⟩, -, X52, ⟨Lc52, hQ52, l52, y52, z52⟩, st52⟩ := X50.virtualBack hx (y := (⟨"java/lang/Long", "longValue", "()J"⟩ : MethodName)) (z := (⟨"java/lang/Long", "longValue", "()J"⟩ : MethodName)) hown (mvT hZ (hw _ (List.mem_of_getElem? (i := 42) rfl))) (mvT hZ (hw _ (List.mem_of_getElem? (i := 43) rfl))) (notFace_of_selects (args := #[]) (mvT hZ (hw _ (List.mem_of_getElem? (i := 45) rfl)))) (mvT hZ (hw _ (List.mem_of_getElem? (i := 45) rfl))) (mvT hZ (hw _ (List.mem_of_getElem? (i := 44) rfl))) (by decide) (backOf (W := 0) (rm7 l Z a0 hw [] ro1_42 x0_4 T42.heap n0 Zs42 Fro1_42_value) hZ (hw _ (List.mem_of_getElem? (i := 46) rfl)) (hw _ (List.mem_of_getElem? (i := 2) rfl)) (by decide) (by decide)) q52a q52c (g := (mkF m 128 #[.val (.long x0_0), .second, .val (.long x0_1), .second, .val (.long x0_2), .second, .val (.long x0_3), .second, .val (.long x0_4), .second, .val (.int x0_5), .val (.int (1 : Int32)), .val (.int (0 : Int32)), .val .null, .val (.ref b39), .val (.ref ro0_42), .val (.ref ro1_42), .unset] [(.ref ro1_42)])) rfl (by rw [hml]; rfl) (Steps.refl _) (argsL := []) (rest := []) (lenOf pd_6 rfl) rfl (by show 2 * 0 + _ ≤ _; exact Nat.le_of_eq rfl) (hb hby at_128) (fun _ _ => ⟨rfl, e50, (by decide : 3 + 0 ≤ _), (by decide : 9 + 0 ≤ _)⟩)
      dsimp only [Pt.U, Pt.locs, Pt.cells, Pt.slots] at X52 l52 y52 z52 st52 hQ52
      subst l52 y52 z52
      obtain ⟨hv52, N52q, e52⟩ := hQ52
      have N52 := Fr.app N50 N52q
      have hf52 : f7 ro1_42 x0_4 = x0_4 := rfl
      rw [hf52] at hv52
      subst hv52
      obtain ⟨fs, hr, hrun, hended, hW, hsame⟩ := X52.leave (v := some (.int (1 : Int32))) (fun h => by rw [Bd.returns] at h; cases h)
      refine ⟨_, _, pre0 _ (sg1 _ (sg37 _ (sg41 _ (sg43 _ (sg45 _ (sg47 _ (sg49 _ (sg51 _ (sg53 _ ?_))))))))), hrun, hended, _, _, rfl, ?_, ⟨_, rfl⟩, hW, hsame.mono (by decide) (by decide)⟩
      · show Steps p.tables e below (T50.setTop (mkF m 128 #[.val (.long x0_0), .second, .val (.long x0_1), .second, .val (.long x0_2), .second, .val (.long x0_3), .second, .val (.long x0_4), .second, .val (.int x0_5), .val (.int (1 : Int32)), .val (.int (0 : Int32)), .val .null, .val (.ref b39), .val (.ref ro0_42), .val (.ref ro1_42), .unset] [(.ref ro1_42)])) _
        refine st52.trans ?_
        show Steps p.tables e below (T52.setTop (mkF m 131 #[.val (.long x0_0), .second, .val (.long x0_1), .second, .val (.long x0_2), .second, .val (.long x0_3), .second, .val (.long x0_4), .second, .val (.int x0_5), .val (.int (1 : Int32)), .val (.int (0 : Int32)), .val .null, .val (.ref b39), .val (.ref ro0_42), .val (.ref ro1_42), .unset] [(.long x0_4)])) _
        refine XS.lload X52.here hx rfl (hb hby at_131) rfl ?_
        show Steps p.tables e below (T52.setTop (mkF m 133 #[.val (.long x0_0), .second, .val (.long x0_1), .second, .val (.long x0_2), .second, .val (.long x0_3), .second, .val (.long x0_4), .second, .val (.int x0_5), .val (.int (1 : Int32)), .val (.int (0 : Int32)), .val .null, .val (.ref b39), .val (.ref ro0_42), .val (.ref ro1_42), .unset] [(.long x0_4), (.long x0_4)])) _
        refine XS.lcmp X52.here hx rfl (hb hby at_133) rfl ?_
        show Steps p.tables e below (T52.setTop (mkF m 134 #[.val (.long x0_0), .second, .val (.long x0_1), .second, .val (.long x0_2), .second, .val (.long x0_3), .second, .val (.long x0_4), .second, .val (.int x0_5), .val (.int (1 : Int32)), .val (.int (0 : Int32)), .val .null, .val (.ref b39), .val (.ref ro0_42), .val (.ref ro1_42), .unset] [(.int (lcmpW x0_4 x0_4))])) _
        refine XS.ifNo X52.here hx rfl (hb hby at_134) rfl ((if0 _ _).trans (teq ((lw_eq _ _).mpr (rfl : x0_4 = x0_4))).2) ?_
        show Steps p.tables e below (T52.setTop (mkF m 137 #[.val (.long x0_0), .second, .val (.long x0_1), .second, .val (.long x0_2), .second, .val (.long x0_3), .second, .val (.long x0_4), .second, .val (.int x0_5), .val (.int (1 : Int32)), .val (.int (0 : Int32)), .val .null, .val (.ref b39), .val (.ref ro0_42), .val (.ref ro1_42), .unset] [])) _
        refine XS.iconst X52.here hx rfl (hb hby at_137) ?_
        show Steps p.tables e below (T52.setTop (mkF m 138 #[.val (.long x0_0), .second, .val (.long x0_1), .second, .val (.long x0_2), .second, .val (.long x0_3), .second, .val (.long x0_4), .second, .val (.int x0_5), .val (.int (1 : Int32)), .val (.int (0 : Int32)), .val .null, .val (.ref b39), .val (.ref ro0_42), .val (.ref ro1_42), .unset] [(.int (1 : Int32))])) _
        refine XS.goto X52.here hx rfl (pc0 := 138) (pc' := 142) rfl (hb hby at_138) (by decide) (by decide) ?_
        show Steps p.tables e below (T52.setTop (mkF m 142 #[.val (.long x0_0), .second, .val (.long x0_1), .second, .val (.long x0_2), .second, .val (.long x0_3), .second, .val (.long x0_4), .second, .val (.int x0_5), .val (.int (1 : Int32)), .val (.int (0 : Int32)), .val .null, .val (.ref b39), .val (.ref ro0_42), .val (.ref ro1_42), .unset] [(.int (1 : Int32))])) _
        exact retN X52 hx (t := .boolean) Bd.returns (by simp) (hb hby at_142) hr
      · show Q0 Z x0_0 x0_1 x0_2 x0_3 x0_4 x0_5 cA cl h0 n0 _ T52.heap _
        rw [e52]
        exact ⟨rfl, N52⟩
    · have sg55 : ∀ t, Steps p.tables e below (s₁.setTop (mkF m 35 #[.val (.long x0_0), .second, .val (.long x0_1), .second, .val (.long x0_2), .second, .val (.long x0_3), .second, .val (.long x0_4), .second, .val (.int x0_5), .val (.int (1 : Int32)), .val (.int (1 : Int32)), .unset, .unset, .unset, .unset, .unset] [(.long x0_3)])) t → Steps p.tables e below (s₁.setTop (mkF m 18 #[.val (.long x0_0), .second, .val (.long x0_1), .second, .val (.long x0_2), .second, .val (.long x0_3), .second, .val (.long x0_4), .second, .val (.int x0_5), .val (.int (1 : Int32)), .unset, .unset, .unset, .unset, .unset, .unset] [(.int (x0_5 &&& (2 : Int32)))])) t := fun t kt => by
        show Steps p.tables e below (s₁.setTop (mkF m 18 #[.val (.long x0_0), .second, .val (.long x0_1), .second, .val (.long x0_2), .second, .val (.long x0_3), .second, .val (.long x0_4), .second, .val (.int x0_5), .val (.int (1 : Int32)), .unset, .unset, .unset, .unset, .unset, .unset] [(.int (x0_5 &&& (2 : Int32)))])) _
        refine XS.ifNo X0.here hx rfl (hb hby at_18) rfl ((if0 _ _).trans (feq hc18_38).1) ?_
        show Steps p.tables e below (s₁.setTop (mkF m 21 #[.val (.long x0_0), .second, .val (.long x0_1), .second, .val (.long x0_2), .second, .val (.long x0_3), .second, .val (.long x0_4), .second, .val (.int x0_5), .val (.int (1 : Int32)), .unset, .unset, .unset, .unset, .unset, .unset] [])) _
        refine XS.iconst X0.here hx rfl (hb hby at_21) ?_
        show Steps p.tables e below (s₁.setTop (mkF m 22 #[.val (.long x0_0), .second, .val (.long x0_1), .second, .val (.long x0_2), .second, .val (.long x0_3), .second, .val (.long x0_4), .second, .val (.int x0_5), .val (.int (1 : Int32)), .unset, .unset, .unset, .unset, .unset, .unset] [(.int (1 : Int32))])) _
        refine XS.goto X0.here hx rfl (pc0 := 22) (pc' := 26) rfl (hb hby at_22) (by decide) (by decide) ?_
        show Steps p.tables e below (s₁.setTop (mkF m 26 #[.val (.long x0_0), .second, .val (.long x0_1), .second, .val (.long x0_2), .second, .val (.long x0_3), .second, .val (.long x0_4), .second, .val (.int x0_5), .val (.int (1 : Int32)), .unset, .unset, .unset, .unset, .unset, .unset] [(.int (1 : Int32))])) _
        refine XS.istore X0.here hx rfl (hb hby at_26) rfl (l' := #[.val (.long x0_0), .second, .val (.long x0_1), .second, .val (.long x0_2), .second, .val (.long x0_3), .second, .val (.long x0_4), .second, .val (.int x0_5), .val (.int (1 : Int32)), .val (.int (1 : Int32)), .unset, .unset, .unset, .unset, .unset]) rfl ?_
        show Steps p.tables e below (s₁.setTop (mkF m 28 #[.val (.long x0_0), .second, .val (.long x0_1), .second, .val (.long x0_2), .second, .val (.long x0_3), .second, .val (.long x0_4), .second, .val (.int x0_5), .val (.int (1 : Int32)), .val (.int (1 : Int32)), .unset, .unset, .unset, .unset, .unset] [])) _
        refine XS.iload X0.here hx rfl (hb hby at_28) rfl ?_
        show Steps p.tables e below (s₁.setTop (mkF m 30 #[.val (.long x0_0), .second, .val (.long x0_1), .second, .val (.long x0_2), .second, .val (.long x0_3), .second, .val (.long x0_4), .second, .val (.int x0_5), .val (.int (1 : Int32)), .val (.int (1 : Int32)), .unset, .unset, .unset, .unset, .unset] [(.int (1 : Int32))])) _
        refine XS.ifNo X0.here hx rfl (hb hby at_30) rfl ((if0 _ _).trans (feq (by decide : ¬ ((1 : Int32) = (0 : Int32)))).1) ?_
        show Steps p.tables e below (s₁.setTop (mkF m 33 #[.val (.long x0_0), .second, .val (.long x0_1), .second, .val (.long x0_2), .second, .val (.long x0_3), .second, .val (.long x0_4), .second, .val (.int x0_5), .val (.int (1 : Int32)), .val (.int (1 : Int32)), .unset, .unset, .unset, .unset, .unset] [])) _
        refine XS.lload X0.here hx rfl (hb hby at_33) rfl ?_
        exact kt
      obtain ⟨v54, _, ⟨T54, L54, k54, n54⟩, -, X54, ⟨Lc54, hQ54, l54, y54, z54⟩, st54⟩ := Jvm.LawKit.callS X0 hx (y := (⟨"java/lang/Long", "valueOf", "(J)Ljava/lang/Long;"⟩ : MethodName)) hown (mvT hZ (hw _ (List.mem_of_getElem? (i := 0) rfl))) (mvT hZ (hw _ (List.mem_of_getElem? (i := 1) rfl))) (mvT hZ (hw _ (List.mem_of_getElem? (i := 2) rfl))) (mvT hZ (hw _ (List.mem_of_getElem? (i := 3) rfl))) (by decide) (backOf (W := 0) (rm1 l Z a0 hw [] x0_3 cA cl h0 n0 Z0 O0 JC SC) hZ (hw _ (List.mem_of_getElem? (i := 3) rfl)) (hw _ (List.mem_of_getElem? (i := 2) rfl)) (by decide) (by decide)) (g := (mkF m 35 #[.val (.long x0_0), .second, .val (.long x0_1), .second, .val (.long x0_2), .second, .val (.long x0_3), .second, .val (.long x0_4), .second, .val (.int x0_5), .val (.int (1 : Int32)), .val (.int (1 : Int32)), .unset, .unset, .unset, .unset, .unset] [(.long x0_3)])) rfl (by rw [hml]; rfl) (argsL := [(.long x0_3)]) (rest := []) (lenOf pd_3 rfl) rfl (by show 2 * 0 + _ ≤ _; exact Nat.le_of_eq rfl) (hb hby at_35) (fun _ _ => ⟨rfl, e0, (by decide : 0 + 1 ≤ _), (by decide : 0 + 1 ≤ _)⟩)
      dsimp only [Pt.U, Pt.locs, Pt.cells, Pt.slots] at X54 l54 y54 z54 st54 hQ54
      subst l54 y54 z54
      obtain ⟨r54, rfl, N54q, K54, Ex54, Fq54⟩ := hQ54
      have N54 := Fr.app N0 N54q
      have Zs54 : n0 ≤ T54.heap.size := Nat.le_trans Z0 K54.1
      have Ol54 : Old Z n0 T54.heap := (O0).keep K54 all0
      obtain ⟨T56, h56, X56, e56, E56, A56, D56, -, st56⟩ := newO X54 hx hZ hown (hw _ (List.mem_of_getElem? (i := 8) rfl)) (hw _ (List.mem_of_getElem? (i := 9) rfl)) (hw _ (List.mem_of_getElem? (i := 10) rfl)) rfl (g := (mkF m 44 #[.val (.long x0_0), .second, .val (.long x0_1), .second, .val (.long x0_2), .second, .val (.long x0_3), .second, .val (.long x0_4), .second, .val (.int x0_5), .val (.int (1 : Int32)), .val (.int (1 : Int32)), .val (.ref r54), .unset, .unset, .unset, .unset] [])) rfl (hb hby at_44) (by decide) (by decide)
      obtain ⟨b56, g56⟩ : ∃ z, z = T54.heap.size := ⟨_, rfl⟩
      rw [← g56] at A56 D56 st56
      have g_b56 : n0 ≤ b56 := Nat.le_trans Zs54 (Nat.le_of_eq g56.symm)
      have ne_r54_b56 : r54 ≠ b56 := Nat.ne_of_lt (Nat.lt_of_lt_of_le Ex54.lt (Nat.le_of_eq g56.symm))
      have Zs56 : n0 ≤ h56.size := Nat.le_trans Zs54 E56.1
      have Ol56 : Old Z n0 h56 := (Ol54).ext E56
      have F_attempts_b56 : Fld Z h56 b56 "com/example/redeliver/redeliver/EndpointCounters" "attempts" "J" (.long (0 : Int64)) := D56 (Or.inr (hw _ (List.mem_of_getElem? (i := 23) rfl))) (ty := .long) (by decide)
      have F_failures_b56 : Fld Z h56 b56 "com/example/redeliver/redeliver/EndpointCounters" "failures" "J" (.long (0 : Int64)) := D56 (Or.inr (hw _ (List.mem_of_getElem? (i := 25) rfl))) (ty := .long) (by decide)
      have F_consecutiveFailures_b56 : Fld Z h56 b56 "com/example/redeliver/redeliver/EndpointCounters" "consecutiveFailures" "J" (.long (0 : Int64)) := D56 (Or.inr (hw _ (List.mem_of_getElem? (i := 27) rfl))) (ty := .long) (by decide)
      have F_lastSuccessAt_b56 : Fld Z h56 b56 "com/example/redeliver/redeliver/EndpointCounters" "lastSuccessAt" "Ljava/lang/Long;" .null := D56 (Or.inr (hw _ (List.mem_of_getElem? (i := 29) rfl))) (ty := (.object "java/lang/Long")) (by decide)
      have sg58 : ∀ t, Steps p.tables e below (T56.setTop (mkF m 54 #[.val (.long x0_0), .second, .val (.long x0_1), .second, .val (.long x0_2), .second, .val (.long x0_3), .second, .val (.long x0_4), .second, .val (.int x0_5), .val (.int (1 : Int32)), .val (.int (1 : Int32)), .val (.ref r54), .unset, .unset, .unset, .unset] [(.ref r54), (.long x0_2), (.long x0_1), (.long x0_0), (.ref b56), (.ref b56)])) t → Steps p.tables e below (s₁.setTop (mkF m 35 #[.val (.long x0_0), .second, .val (.long x0_1), .second, .val (.long x0_2), .second, .val (.long x0_3), .second, .val (.long x0_4), .second, .val (.int x0_5), .val (.int (1 : Int32)), .val (.int (1 : Int32)), .unset, .unset, .unset, .unset, .unset] [(.long x0_3)])) t := fun t kt => by
        show Steps p.tables e below (s₁.setTop (mkF m 35 #[.val (.long x0_0), .second, .val (.long x0_1), .second, .val (.long x0_2), .second, .val (.long x0_3), .second, .val (.long x0_4), .second, .val (.int x0_5), .val (.int (1 : Int32)), .val (.int (1 : Int32)), .unset, .unset, .unset, .unset, .unset] [(.long x0_3)])) _
        refine st54 _ ?_
        show Steps p.tables e below (T54.setTop (mkF m 38 #[.val (.long x0_0), .second, .val (.long x0_1), .second, .val (.long x0_2), .second, .val (.long x0_3), .second, .val (.long x0_4), .second, .val (.int x0_5), .val (.int (1 : Int32)), .val (.int (1 : Int32)), .unset, .unset, .unset, .unset, .unset] [(.ref r54)])) _
        refine XS.goto X54.here hx rfl (pc0 := 38) (pc' := 42) rfl (hb hby at_38) (by decide) (by decide) ?_
        show Steps p.tables e below (T54.setTop (mkF m 42 #[.val (.long x0_0), .second, .val (.long x0_1), .second, .val (.long x0_2), .second, .val (.long x0_3), .second, .val (.long x0_4), .second, .val (.int x0_5), .val (.int (1 : Int32)), .val (.int (1 : Int32)), .unset, .unset, .unset, .unset, .unset] [(.ref r54)])) _
        refine XS.astore X54.here hx rfl (hb hby at_42) rfl rfl (l' := #[.val (.long x0_0), .second, .val (.long x0_1), .second, .val (.long x0_2), .second, .val (.long x0_3), .second, .val (.long x0_4), .second, .val (.int x0_5), .val (.int (1 : Int32)), .val (.int (1 : Int32)), .val (.ref r54), .unset, .unset, .unset, .unset]) rfl ?_
        show Steps p.tables e below (T54.setTop (mkF m 44 #[.val (.long x0_0), .second, .val (.long x0_1), .second, .val (.long x0_2), .second, .val (.long x0_3), .second, .val (.long x0_4), .second, .val (.int x0_5), .val (.int (1 : Int32)), .val (.int (1 : Int32)), .val (.ref r54), .unset, .unset, .unset, .unset] [])) _
        refine st56 _ ?_
        show Steps p.tables e below (T56.setTop (mkF m 47 #[.val (.long x0_0), .second, .val (.long x0_1), .second, .val (.long x0_2), .second, .val (.long x0_3), .second, .val (.long x0_4), .second, .val (.int x0_5), .val (.int (1 : Int32)), .val (.int (1 : Int32)), .val (.ref r54), .unset, .unset, .unset, .unset] [(.ref b56)])) _
        refine XS.dup X56.here hx rfl (hb hby at_47) rfl rfl ?_
        show Steps p.tables e below (T56.setTop (mkF m 48 #[.val (.long x0_0), .second, .val (.long x0_1), .second, .val (.long x0_2), .second, .val (.long x0_3), .second, .val (.long x0_4), .second, .val (.int x0_5), .val (.int (1 : Int32)), .val (.int (1 : Int32)), .val (.ref r54), .unset, .unset, .unset, .unset] [(.ref b56), (.ref b56)])) _
        refine XS.lloadN X56.here hx rfl (hb hby at_48) rfl ?_
        show Steps p.tables e below (T56.setTop (mkF m 49 #[.val (.long x0_0), .second, .val (.long x0_1), .second, .val (.long x0_2), .second, .val (.long x0_3), .second, .val (.long x0_4), .second, .val (.int x0_5), .val (.int (1 : Int32)), .val (.int (1 : Int32)), .val (.ref r54), .unset, .unset, .unset, .unset] [(.long x0_0), (.ref b56), (.ref b56)])) _
        refine XS.lloadN X56.here hx rfl (hb hby at_49) rfl ?_
        show Steps p.tables e below (T56.setTop (mkF m 50 #[.val (.long x0_0), .second, .val (.long x0_1), .second, .val (.long x0_2), .second, .val (.long x0_3), .second, .val (.long x0_4), .second, .val (.int x0_5), .val (.int (1 : Int32)), .val (.int (1 : Int32)), .val (.ref r54), .unset, .unset, .unset, .unset] [(.long x0_1), (.long x0_0), (.ref b56), (.ref b56)])) _
        refine XS.lload X56.here hx rfl (hb hby at_50) rfl ?_
        show Steps p.tables e below (T56.setTop (mkF m 52 #[.val (.long x0_0), .second, .val (.long x0_1), .second, .val (.long x0_2), .second, .val (.long x0_3), .second, .val (.long x0_4), .second, .val (.int x0_5), .val (.int (1 : Int32)), .val (.int (1 : Int32)), .val (.ref r54), .unset, .unset, .unset, .unset] [(.long x0_2), (.long x0_1), (.long x0_0), (.ref b56), (.ref b56)])) _
        refine XS.aload X56.here hx rfl (hb hby at_52) rfl rfl ?_
        exact kt
      obtain ⟨v57, _, ⟨T57, L57, k57, n57⟩, -, X57, ⟨Lc57, hQ57, l57, y57, z57⟩, st57⟩ := X56.specialBack hx (y := (⟨"com/example/redeliver/redeliver/EndpointCounters", "<init>", "(JJJLjava/lang/Long;)V"⟩ : MethodName)) rfl hown (mvT hZ (hw _ (List.mem_of_getElem? (i := 11) rfl))) (mvT hZ (hw _ (List.mem_of_getElem? (i := 12) rfl))) (mvT hZ (hw _ (List.mem_of_getElem? (i := 13) rfl))) (by decide) (backOf (W := 1) (rmcr l Z a0 hw [] b56 x0_0 x0_1 x0_2 r54 h56 n0 Zs56 A56 g_b56 F_attempts_b56 F_failures_b56 F_consecutiveFailures_b56 F_lastSuccessAt_b56) hZ (hw _ (List.mem_of_getElem? (i := 13) rfl)) (hw _ (List.mem_of_getElem? (i := 10) rfl)) (by decide) (by decide)) (g := (mkF m 54 #[.val (.long x0_0), .second, .val (.long x0_1), .second, .val (.long x0_2), .second, .val (.long x0_3), .second, .val (.long x0_4), .second, .val (.int x0_5), .val (.int (1 : Int32)), .val (.int (1 : Int32)), .val (.ref r54), .unset, .unset, .unset, .unset] [(.ref r54), (.long x0_2), (.long x0_1), (.long x0_0), (.ref b56), (.ref b56)])) rfl (by rw [hml]; rfl) (Steps.refl _) (a := b56) (argsL := [(.long x0_0), (.long x0_1), (.long x0_2), (.ref r54)]) (rest := [(.ref b56)]) (lenOf pd_2 rfl) rfl (by show 2 * 0 + _ ≤ _; exact Nat.le_of_eq rfl) (hb hby at_54) (fun _ _ => ⟨rfl, e56, (by decide : 2 + 0 ≤ _), (by decide : 5 + 0 ≤ _)⟩)
      dsimp only [Pt.U, Pt.locs, Pt.cells, Pt.slots] at X57 l57 y57 z57 st57 hQ57
      subst l57 y57 z57
      obtain ⟨rfl, N57q, K57, Ex57, Fq57_attempts, Fq57_failures, Fq57_consecutiveFailures, Fq57_lastSuccessAt⟩ := hQ57
      have N57 := Fr.app N54 N57q
      have Zs57 : n0 ≤ T57.heap.size := Nat.le_trans Zs56 K57.1
      have Ol57 : Old Z n0 T57.heap := (Ol56).keep K57 (allS g_b56 all0)
      have sg60 : ∀ t, Steps p.tables e below (T57.setTop (mkF m 65 #[.val (.long x0_0), .second, .val (.long x0_1), .second, .val (.long x0_2), .second, .val (.long x0_3), .second, .val (.long x0_4), .second, .val (.int x0_5), .val (.int (1 : Int32)), .val (.int (1 : Int32)), .val (.ref r54), .val (.ref b56), .unset, .unset, .unset] [(.long x0_4), (.int (1 : Int32)), (.ref b56)])) t → Steps p.tables e below (T56.setTop (mkF m 54 #[.val (.long x0_0), .second, .val (.long x0_1), .second, .val (.long x0_2), .second, .val (.long x0_3), .second, .val (.long x0_4), .second, .val (.int x0_5), .val (.int (1 : Int32)), .val (.int (1 : Int32)), .val (.ref r54), .unset, .unset, .unset, .unset] [(.ref r54), (.long x0_2), (.long x0_1), (.long x0_0), (.ref b56), (.ref b56)])) t := fun t kt => by
        show Steps p.tables e below (T56.setTop (mkF m 54 #[.val (.long x0_0), .second, .val (.long x0_1), .second, .val (.long x0_2), .second, .val (.long x0_3), .second, .val (.long x0_4), .second, .val (.int x0_5), .val (.int (1 : Int32)), .val (.int (1 : Int32)), .val (.ref r54), .unset, .unset, .unset, .unset] [(.ref r54), (.long x0_2), (.long x0_1), (.long x0_0), (.ref b56), (.ref b56)])) _
        refine st57.trans ?_
        show Steps p.tables e below (T57.setTop (mkF m 57 #[.val (.long x0_0), .second, .val (.long x0_1), .second, .val (.long x0_2), .second, .val (.long x0_3), .second, .val (.long x0_4), .second, .val (.int x0_5), .val (.int (1 : Int32)), .val (.int (1 : Int32)), .val (.ref r54), .unset, .unset, .unset, .unset] [(.ref b56)])) _
        refine XS.astore X57.here hx rfl (hb hby at_57) rfl rfl (l' := #[.val (.long x0_0), .second, .val (.long x0_1), .second, .val (.long x0_2), .second, .val (.long x0_3), .second, .val (.long x0_4), .second, .val (.int x0_5), .val (.int (1 : Int32)), .val (.int (1 : Int32)), .val (.ref r54), .val (.ref b56), .unset, .unset, .unset]) rfl ?_
        show Steps p.tables e below (T57.setTop (mkF m 59 #[.val (.long x0_0), .second, .val (.long x0_1), .second, .val (.long x0_2), .second, .val (.long x0_3), .second, .val (.long x0_4), .second, .val (.int x0_5), .val (.int (1 : Int32)), .val (.int (1 : Int32)), .val (.ref r54), .val (.ref b56), .unset, .unset, .unset] [])) _
        refine XS.aload X57.here hx rfl (hb hby at_59) rfl rfl ?_
        show Steps p.tables e below (T57.setTop (mkF m 61 #[.val (.long x0_0), .second, .val (.long x0_1), .second, .val (.long x0_2), .second, .val (.long x0_3), .second, .val (.long x0_4), .second, .val (.int x0_5), .val (.int (1 : Int32)), .val (.int (1 : Int32)), .val (.ref r54), .val (.ref b56), .unset, .unset, .unset] [(.ref b56)])) _
        refine XS.iload X57.here hx rfl (hb hby at_61) rfl ?_
        show Steps p.tables e below (T57.setTop (mkF m 63 #[.val (.long x0_0), .second, .val (.long x0_1), .second, .val (.long x0_2), .second, .val (.long x0_3), .second, .val (.long x0_4), .second, .val (.int x0_5), .val (.int (1 : Int32)), .val (.int (1 : Int32)), .val (.ref r54), .val (.ref b56), .unset, .unset, .unset] [(.int (1 : Int32)), (.ref b56)])) _
        refine XS.lload X57.here hx rfl (hb hby at_63) rfl ?_
        exact kt
      obtain ⟨cq59, kq59, q59a, q59b, q59c⟩ := isOf hZ rfl Ex57
      obtain ⟨v59, _, ⟨T59, L59, k59, n59⟩, -, X59, ⟨Lc59, hQ59, l59, y59, z59⟩, st59⟩ := X57.virtualBack hx (y := (⟨"com/example/redeliver/redeliver/EndpointCounters", "after", "(ZJ)Lcom/example/redeliver/redeliver/EndpointCounters;"⟩ : MethodName)) (z := (⟨"com/example/redeliver/redeliver/EndpointCounters", "after", "(ZJ)Lcom/example/redeliver/redeliver/EndpointCounters;"⟩ : MethodName)) hown (mvT hZ (hw _ (List.mem_of_getElem? (i := 30) rfl))) (mvT hZ (hw _ (List.mem_of_getElem? (i := 31) rfl))) (notFace_of_selects (args := #[]) (mvT hZ (hw _ (List.mem_of_getElem? (i := 33) rfl)))) (mvT hZ (hw _ (List.mem_of_getElem? (i := 33) rfl))) (mvT hZ (hw _ (List.mem_of_getElem? (i := 32) rfl))) (by decide) (backOf (W := 0) (rmas l Z a0 hw [] b56 x0_4 x0_0 x0_1 x0_2 r54 cA cl T57.heap n0 Zs57 Ex57 Fq57_attempts Fq57_failures Fq57_consecutiveFailures Fq57_lastSuccessAt Ol57 JC SC) hZ (hw _ (List.mem_of_getElem? (i := 34) rfl)) (hw _ (List.mem_of_getElem? (i := 10) rfl)) (by decide) (by decide)) q59a q59c (g := (mkF m 65 #[.val (.long x0_0), .second, .val (.long x0_1), .second, .val (.long x0_2), .second, .val (.long x0_3), .second, .val (.long x0_4), .second, .val (.int x0_5), .val (.int (1 : Int32)), .val (.int (1 : Int32)), .val (.ref r54), .val (.ref b56), .unset, .unset, .unset] [(.long x0_4), (.int (1 : Int32)), (.ref b56)])) rfl (by rw [hml]; rfl) (Steps.refl _) (argsL := [(.int (1 : Int32)), (.long x0_4)]) (rest := []) (lenOf pd_4 rfl) rfl (by show 2 * 0 + _ ≤ _; exact Nat.le_of_eq rfl) (hb hby at_65) (fun _ _ => ⟨rfl, rfl, (by decide : 2 + 2 ≤ _), (by decide : 5 + 5 ≤ _)⟩)
      dsimp only [Pt.U, Pt.locs, Pt.cells, Pt.slots] at X59 l59 y59 z59 st59 hQ59
      subst l59 y59 z59
      obtain ⟨ro0_59, ro1_59, rfl, N59q, K59, Ero0_59, Ero1_59, Fro0_59_attempts, Fro0_59_failures, Fro0_59_consecutiveFailures, Fro0_59_lastSuccessAt, Fro1_59_value⟩ := hQ59
      have N59 := Fr.app N57 N59q
      have Zs59 : n0 ≤ T59.heap.size := Nat.le_trans Zs57 K59.1
      have Ol59 : Old Z n0 T59.heap := (Ol57).keep K59 all0
      have sg62 : ∀ t, Steps p.tables e below (T59.setTop (mkF m 79 #[.val (.long x0_0), .second, .val (.long x0_1), .second, .val (.long x0_2), .second, .val (.long x0_3), .second, .val (.long x0_4), .second, .val (.int x0_5), .val (.int (1 : Int32)), .val (.int (1 : Int32)), .val (.ref r54), .val (.ref b56), .val (.ref ro0_59), .unset, .unset] [(.ref ro0_59)])) t → Steps p.tables e below (T57.setTop (mkF m 65 #[.val (.long x0_0), .second, .val (.long x0_1), .second, .val (.long x0_2), .second, .val (.long x0_3), .second, .val (.long x0_4), .second, .val (.int x0_5), .val (.int (1 : Int32)), .val (.int (1 : Int32)), .val (.ref r54), .val (.ref b56), .unset, .unset, .unset] [(.long x0_4), (.int (1 : Int32)), (.ref b56)])) t := fun t kt => by
        show Steps p.tables e below (T57.setTop (mkF m 65 #[.val (.long x0_0), .second, .val (.long x0_1), .second, .val (.long x0_2), .second, .val (.long x0_3), .second, .val (.long x0_4), .second, .val (.int x0_5), .val (.int (1 : Int32)), .val (.int (1 : Int32)), .val (.ref r54), .val (.ref b56), .unset, .unset, .unset] [(.long x0_4), (.int (1 : Int32)), (.ref b56)])) _
        refine st59.trans ?_
        show Steps p.tables e below (T59.setTop (mkF m 68 #[.val (.long x0_0), .second, .val (.long x0_1), .second, .val (.long x0_2), .second, .val (.long x0_3), .second, .val (.long x0_4), .second, .val (.int x0_5), .val (.int (1 : Int32)), .val (.int (1 : Int32)), .val (.ref r54), .val (.ref b56), .unset, .unset, .unset] [(.ref ro0_59)])) _
        refine XS.astore X59.here hx rfl (hb hby at_68) rfl rfl (l' := #[.val (.long x0_0), .second, .val (.long x0_1), .second, .val (.long x0_2), .second, .val (.long x0_3), .second, .val (.long x0_4), .second, .val (.int x0_5), .val (.int (1 : Int32)), .val (.int (1 : Int32)), .val (.ref r54), .val (.ref b56), .val (.ref ro0_59), .unset, .unset]) rfl ?_
        show Steps p.tables e below (T59.setTop (mkF m 70 #[.val (.long x0_0), .second, .val (.long x0_1), .second, .val (.long x0_2), .second, .val (.long x0_3), .second, .val (.long x0_4), .second, .val (.int x0_5), .val (.int (1 : Int32)), .val (.int (1 : Int32)), .val (.ref r54), .val (.ref b56), .val (.ref ro0_59), .unset, .unset] [])) _
        refine XS.aload X59.here hx rfl (hb hby at_70) rfl rfl ?_
        show Steps p.tables e below (T59.setTop (mkF m 72 #[.val (.long x0_0), .second, .val (.long x0_1), .second, .val (.long x0_2), .second, .val (.long x0_3), .second, .val (.long x0_4), .second, .val (.int x0_5), .val (.int (1 : Int32)), .val (.int (1 : Int32)), .val (.ref r54), .val (.ref b56), .val (.ref ro0_59), .unset, .unset] [(.ref ro0_59)])) _
        refine XS.ifnonnullYes X59.here hx rfl (pc0 := 72) (pc' := 77) rfl (hb hby at_72) rfl (by decide) (by decide) ?_
        show Steps p.tables e below (T59.setTop (mkF m 77 #[.val (.long x0_0), .second, .val (.long x0_1), .second, .val (.long x0_2), .second, .val (.long x0_3), .second, .val (.long x0_4), .second, .val (.int x0_5), .val (.int (1 : Int32)), .val (.int (1 : Int32)), .val (.ref r54), .val (.ref b56), .val (.ref ro0_59), .unset, .unset] [])) _
        refine XS.aload X59.here hx rfl (hb hby at_77) rfl rfl ?_
        exact kt
      obtain ⟨cq61, kq61, q61a, q61b, q61c⟩ := isOf hZ rfl Ero0_59
      obtain ⟨v61, _, ⟨T61, L61, k61, n61⟩, -, X61, ⟨Lc61, hQ61, l61, y61, z61⟩, st61⟩ := X59.virtualBack hx (y := (⟨"com/example/redeliver/redeliver/EndpointCounters", "lastSuccessAt", "()Ljava/lang/Long;"⟩ : MethodName)) (z := (⟨"com/example/redeliver/redeliver/EndpointCounters", "lastSuccessAt", "()Ljava/lang/Long;"⟩ : MethodName)) hown (mvT hZ (hw _ (List.mem_of_getElem? (i := 37) rfl))) (mvT hZ (hw _ (List.mem_of_getElem? (i := 38) rfl))) (notFace_of_selects (args := #[]) (mvT hZ (hw _ (List.mem_of_getElem? (i := 40) rfl)))) (mvT hZ (hw _ (List.mem_of_getElem? (i := 40) rfl))) (mvT hZ (hw _ (List.mem_of_getElem? (i := 39) rfl))) (by decide) (backOf (W := 0) (rmlr l Z a0 hw [] ro0_59 ro1_59 T59.heap n0 Zs59 Fro0_59_lastSuccessAt) hZ (hw _ (List.mem_of_getElem? (i := 41) rfl)) (hw _ (List.mem_of_getElem? (i := 10) rfl)) (by decide) (by decide)) q61a q61c (g := (mkF m 79 #[.val (.long x0_0), .second, .val (.long x0_1), .second, .val (.long x0_2), .second, .val (.long x0_3), .second, .val (.long x0_4), .second, .val (.int x0_5), .val (.int (1 : Int32)), .val (.int (1 : Int32)), .val (.ref r54), .val (.ref b56), .val (.ref ro0_59), .unset, .unset] [(.ref ro0_59)])) rfl (by rw [hml]; rfl) (Steps.refl _) (argsL := []) (rest := []) (lenOf pd_5 rfl) rfl (by show 2 * 0 + _ ≤ _; exact Nat.le_of_eq rfl) (hb hby at_79) (fun _ _ => ⟨rfl, rfl, (by decide : 4 + 0 ≤ _), (by decide : 10 + 0 ≤ _)⟩)
      dsimp only [Pt.U, Pt.locs, Pt.cells, Pt.slots] at X61 l61 y61 z61 st61 hQ61
      subst l61 y61 z61
      obtain ⟨hv61, N61q, e61⟩ := hQ61
      have N61 := Fr.app N59 N61q
      have hf61 : flr ro0_59 ro1_59 = ro1_59 := rfl
      rw [hf61] at hv61
      subst hv61
      have sg64 : ∀ t, Steps p.tables e below (T61.setTop (mkF m 91 #[.val (.long x0_0), .second, .val (.long x0_1), .second, .val (.long x0_2), .second, .val (.long x0_3), .second, .val (.long x0_4), .second, .val (.int x0_5), .val (.int (1 : Int32)), .val (.int (1 : Int32)), .val (.ref r54), .val (.ref b56), .val (.ref ro0_59), .val (.ref ro1_59), .unset] [(.ref ro0_59)])) t → Steps p.tables e below (T59.setTop (mkF m 79 #[.val (.long x0_0), .second, .val (.long x0_1), .second, .val (.long x0_2), .second, .val (.long x0_3), .second, .val (.long x0_4), .second, .val (.int x0_5), .val (.int (1 : Int32)), .val (.int (1 : Int32)), .val (.ref r54), .val (.ref b56), .val (.ref ro0_59), .unset, .unset] [(.ref ro0_59)])) t := fun t kt => by
        show Steps p.tables e below (T59.setTop (mkF m 79 #[.val (.long x0_0), .second, .val (.long x0_1), .second, .val (.long x0_2), .second, .val (.long x0_3), .second, .val (.long x0_4), .second, .val (.int x0_5), .val (.int (1 : Int32)), .val (.int (1 : Int32)), .val (.ref r54), .val (.ref b56), .val (.ref ro0_59), .unset, .unset] [(.ref ro0_59)])) _
        refine st61.trans ?_
        show Steps p.tables e below (T61.setTop (mkF m 82 #[.val (.long x0_0), .second, .val (.long x0_1), .second, .val (.long x0_2), .second, .val (.long x0_3), .second, .val (.long x0_4), .second, .val (.int x0_5), .val (.int (1 : Int32)), .val (.int (1 : Int32)), .val (.ref r54), .val (.ref b56), .val (.ref ro0_59), .unset, .unset] [(.ref ro1_59)])) _
        refine XS.astore X61.here hx rfl (hb hby at_82) rfl rfl (l' := #[.val (.long x0_0), .second, .val (.long x0_1), .second, .val (.long x0_2), .second, .val (.long x0_3), .second, .val (.long x0_4), .second, .val (.int x0_5), .val (.int (1 : Int32)), .val (.int (1 : Int32)), .val (.ref r54), .val (.ref b56), .val (.ref ro0_59), .val (.ref ro1_59), .unset]) rfl ?_
        show Steps p.tables e below (T61.setTop (mkF m 84 #[.val (.long x0_0), .second, .val (.long x0_1), .second, .val (.long x0_2), .second, .val (.long x0_3), .second, .val (.long x0_4), .second, .val (.int x0_5), .val (.int (1 : Int32)), .val (.int (1 : Int32)), .val (.ref r54), .val (.ref b56), .val (.ref ro0_59), .val (.ref ro1_59), .unset] [])) _
        refine XS.iload X61.here hx rfl (hb hby at_84) rfl ?_
        show Steps p.tables e below (T61.setTop (mkF m 86 #[.val (.long x0_0), .second, .val (.long x0_1), .second, .val (.long x0_2), .second, .val (.long x0_3), .second, .val (.long x0_4), .second, .val (.int x0_5), .val (.int (1 : Int32)), .val (.int (1 : Int32)), .val (.ref r54), .val (.ref b56), .val (.ref ro0_59), .val (.ref ro1_59), .unset] [(.int (1 : Int32))])) _
        refine XS.ifNo X61.here hx rfl (hb hby at_86) rfl ((if0 _ _).trans (feq (by decide : ¬ ((1 : Int32) = (0 : Int32)))).1) ?_
        show Steps p.tables e below (T61.setTop (mkF m 89 #[.val (.long x0_0), .second, .val (.long x0_1), .second, .val (.long x0_2), .second, .val (.long x0_3), .second, .val (.long x0_4), .second, .val (.int x0_5), .val (.int (1 : Int32)), .val (.int (1 : Int32)), .val (.ref r54), .val (.ref b56), .val (.ref ro0_59), .val (.ref ro1_59), .unset] [])) _
        refine XS.aload X61.here hx rfl (hb hby at_89) rfl rfl ?_
        exact kt
      obtain ⟨cq63, kq63, q63a, q63b, q63c⟩ := isOf hZ e61 Ero0_59
      obtain ⟨v63, _, ⟨T63, L63, k63, n63⟩, -, X63, ⟨Lc63, hQ63, l63, y63, z63⟩, st63⟩ := X61.virtualBack hx (y := (⟨"com/example/redeliver/redeliver/EndpointCounters", "attempts", "()J"⟩ : MethodName)) (z := (⟨"com/example/redeliver/redeliver/EndpointCounters", "attempts", "()J"⟩ : MethodName)) hown (mvT hZ (hw _ (List.mem_of_getElem? (i := 49) rfl))) (mvT hZ (hw _ (List.mem_of_getElem? (i := 50) rfl))) (notFace_of_selects (args := #[]) (mvT hZ (hw _ (List.mem_of_getElem? (i := 52) rfl)))) (mvT hZ (hw _ (List.mem_of_getElem? (i := 52) rfl))) (mvT hZ (hw _ (List.mem_of_getElem? (i := 51) rfl))) (by decide) (backOf (W := 0) (rm8 l Z a0 hw [] ro0_59 (x0_0 + (1 : Int64)) T59.heap n0 Zs59 Fro0_59_attempts) hZ (hw _ (List.mem_of_getElem? (i := 53) rfl)) (hw _ (List.mem_of_getElem? (i := 10) rfl)) (by decide) (by decide)) q63a q63c (g := (mkF m 91 #[.val (.long x0_0), .second, .val (.long x0_1), .second, .val (.long x0_2), .second, .val (.long x0_3), .second, .val (.long x0_4), .second, .val (.int x0_5), .val (.int (1 : Int32)), .val (.int (1 : Int32)), .val (.ref r54), .val (.ref b56), .val (.ref ro0_59), .val (.ref ro1_59), .unset] [(.ref ro0_59)])) rfl (by rw [hml]; rfl) (Steps.refl _) (argsL := []) (rest := []) (lenOf pd_6 rfl) rfl (by show 2 * 0 + _ ≤ _; exact Nat.le_of_eq rfl) (hb hby at_91) (fun _ _ => ⟨rfl, e61, (by decide : 4 + 0 ≤ _), (by decide : 10 + 0 ≤ _)⟩)
      dsimp only [Pt.U, Pt.locs, Pt.cells, Pt.slots] at X63 l63 y63 z63 st63 hQ63
      subst l63 y63 z63
      obtain ⟨hv63, N63q, e63⟩ := hQ63
      have N63 := Fr.app N61 N63q
      have hf63 : f8 ro0_59 (x0_0 + (1 : Int64)) = (x0_0 + (1 : Int64)) := rfl
      rw [hf63] at hv63
      subst hv63
      have sg66 : ∀ t, Steps p.tables e below (T63.setTop (mkF m 103 #[.val (.long x0_0), .second, .val (.long x0_1), .second, .val (.long x0_2), .second, .val (.long x0_3), .second, .val (.long x0_4), .second, .val (.int x0_5), .val (.int (1 : Int32)), .val (.int (1 : Int32)), .val (.ref r54), .val (.ref b56), .val (.ref ro0_59), .val (.ref ro1_59), .unset] [(.ref ro0_59)])) t → Steps p.tables e below (T61.setTop (mkF m 91 #[.val (.long x0_0), .second, .val (.long x0_1), .second, .val (.long x0_2), .second, .val (.long x0_3), .second, .val (.long x0_4), .second, .val (.int x0_5), .val (.int (1 : Int32)), .val (.int (1 : Int32)), .val (.ref r54), .val (.ref b56), .val (.ref ro0_59), .val (.ref ro1_59), .unset] [(.ref ro0_59)])) t := fun t kt => by
        show Steps p.tables e below (T61.setTop (mkF m 91 #[.val (.long x0_0), .second, .val (.long x0_1), .second, .val (.long x0_2), .second, .val (.long x0_3), .second, .val (.long x0_4), .second, .val (.int x0_5), .val (.int (1 : Int32)), .val (.int (1 : Int32)), .val (.ref r54), .val (.ref b56), .val (.ref ro0_59), .val (.ref ro1_59), .unset] [(.ref ro0_59)])) _
        refine st63.trans ?_
        show Steps p.tables e below (T63.setTop (mkF m 94 #[.val (.long x0_0), .second, .val (.long x0_1), .second, .val (.long x0_2), .second, .val (.long x0_3), .second, .val (.long x0_4), .second, .val (.int x0_5), .val (.int (1 : Int32)), .val (.int (1 : Int32)), .val (.ref r54), .val (.ref b56), .val (.ref ro0_59), .val (.ref ro1_59), .unset] [(.long (x0_0 + (1 : Int64)))])) _
        refine XS.lloadN X63.here hx rfl (hb hby at_94) rfl ?_
        show Steps p.tables e below (T63.setTop (mkF m 95 #[.val (.long x0_0), .second, .val (.long x0_1), .second, .val (.long x0_2), .second, .val (.long x0_3), .second, .val (.long x0_4), .second, .val (.int x0_5), .val (.int (1 : Int32)), .val (.int (1 : Int32)), .val (.ref r54), .val (.ref b56), .val (.ref ro0_59), .val (.ref ro1_59), .unset] [(.long x0_0), (.long (x0_0 + (1 : Int64)))])) _
        refine XS.lconst X63.here hx rfl (hb hby at_95) ?_
        show Steps p.tables e below (T63.setTop (mkF m 96 #[.val (.long x0_0), .second, .val (.long x0_1), .second, .val (.long x0_2), .second, .val (.long x0_3), .second, .val (.long x0_4), .second, .val (.int x0_5), .val (.int (1 : Int32)), .val (.int (1 : Int32)), .val (.ref r54), .val (.ref b56), .val (.ref ro0_59), .val (.ref ro1_59), .unset] [(.long (1 : Int64)), (.long x0_0), (.long (x0_0 + (1 : Int64)))])) _
        refine XS.ladd X63.here hx rfl (hb hby at_96) rfl ?_
        show Steps p.tables e below (T63.setTop (mkF m 97 #[.val (.long x0_0), .second, .val (.long x0_1), .second, .val (.long x0_2), .second, .val (.long x0_3), .second, .val (.long x0_4), .second, .val (.int x0_5), .val (.int (1 : Int32)), .val (.int (1 : Int32)), .val (.ref r54), .val (.ref b56), .val (.ref ro0_59), .val (.ref ro1_59), .unset] [(.long (x0_0 + (1 : Int64))), (.long (x0_0 + (1 : Int64)))])) _
        refine XS.lcmp X63.here hx rfl (hb hby at_97) rfl ?_
        show Steps p.tables e below (T63.setTop (mkF m 98 #[.val (.long x0_0), .second, .val (.long x0_1), .second, .val (.long x0_2), .second, .val (.long x0_3), .second, .val (.long x0_4), .second, .val (.int x0_5), .val (.int (1 : Int32)), .val (.int (1 : Int32)), .val (.ref r54), .val (.ref b56), .val (.ref ro0_59), .val (.ref ro1_59), .unset] [(.int (lcmpW (x0_0 + (1 : Int64)) (x0_0 + (1 : Int64))))])) _
        refine XS.ifNo X63.here hx rfl (hb hby at_98) rfl ((if0 _ _).trans (teq ((lw_eq _ _).mpr (rfl : (x0_0 + (1 : Int64)) = (x0_0 + (1 : Int64))))).2) ?_
        show Steps p.tables e below (T63.setTop (mkF m 101 #[.val (.long x0_0), .second, .val (.long x0_1), .second, .val (.long x0_2), .second, .val (.long x0_3), .second, .val (.long x0_4), .second, .val (.int x0_5), .val (.int (1 : Int32)), .val (.int (1 : Int32)), .val (.ref r54), .val (.ref b56), .val (.ref ro0_59), .val (.ref ro1_59), .unset] [])) _
        refine XS.aload X63.here hx rfl (hb hby at_101) rfl rfl ?_
        exact kt
      obtain ⟨cq65, kq65, q65a, q65b, q65c⟩ := isOf hZ e63 Ero0_59
      obtain ⟨v65, _, ⟨T65, L65, k65, n65⟩, -, X65, ⟨Lc65, hQ65, l65, y65, z65⟩, st65⟩ := X63.virtualBack hx (y := (⟨"com/example/redeliver/redeliver/EndpointCounters", "failures", "()J"⟩ : MethodName)) (z := (⟨"com/example/redeliver/redeliver/EndpointCounters", "failures", "()J"⟩ : MethodName)) hown (mvT hZ (hw _ (List.mem_of_getElem? (i := 54) rfl))) (mvT hZ (hw _ (List.mem_of_getElem? (i := 55) rfl))) (notFace_of_selects (args := #[]) (mvT hZ (hw _ (List.mem_of_getElem? (i := 57) rfl)))) (mvT hZ (hw _ (List.mem_of_getElem? (i := 57) rfl))) (mvT hZ (hw _ (List.mem_of_getElem? (i := 56) rfl))) (by decide) (backOf (W := 0) (rm9 l Z a0 hw [] ro0_59 x0_1 T59.heap n0 Zs59 Fro0_59_failures) hZ (hw _ (List.mem_of_getElem? (i := 58) rfl)) (hw _ (List.mem_of_getElem? (i := 10) rfl)) (by decide) (by decide)) q65a q65c (g := (mkF m 103 #[.val (.long x0_0), .second, .val (.long x0_1), .second, .val (.long x0_2), .second, .val (.long x0_3), .second, .val (.long x0_4), .second, .val (.int x0_5), .val (.int (1 : Int32)), .val (.int (1 : Int32)), .val (.ref r54), .val (.ref b56), .val (.ref ro0_59), .val (.ref ro1_59), .unset] [(.ref ro0_59)])) rfl (by rw [hml]; rfl) (Steps.refl _) (argsL := []) (rest := []) (lenOf pd_6 rfl) rfl (by show 2 * 0 + _ ≤ _; exact Nat.le_of_eq rfl) (hb hby at_103) (fun _ _ => ⟨rfl, e63, (by decide : 4 + 0 ≤ _), (by decide : 10 + 0 ≤ _)⟩)
      dsimp only [Pt.U, Pt.locs, Pt.cells, Pt.slots] at X65 l65 y65 z65 st65 hQ65
      subst l65 y65 z65
      obtain ⟨hv65, N65q, e65⟩ := hQ65
      have N65 := Fr.app N63 N65q
      have hf65 : f9 ro0_59 x0_1 = x0_1 := rfl
      rw [hf65] at hv65
      subst hv65
      have sg68 : ∀ t, Steps p.tables e below (T65.setTop (mkF m 113 #[.val (.long x0_0), .second, .val (.long x0_1), .second, .val (.long x0_2), .second, .val (.long x0_3), .second, .val (.long x0_4), .second, .val (.int x0_5), .val (.int (1 : Int32)), .val (.int (1 : Int32)), .val (.ref r54), .val (.ref b56), .val (.ref ro0_59), .val (.ref ro1_59), .unset] [(.ref ro0_59)])) t → Steps p.tables e below (T63.setTop (mkF m 103 #[.val (.long x0_0), .second, .val (.long x0_1), .second, .val (.long x0_2), .second, .val (.long x0_3), .second, .val (.long x0_4), .second, .val (.int x0_5), .val (.int (1 : Int32)), .val (.int (1 : Int32)), .val (.ref r54), .val (.ref b56), .val (.ref ro0_59), .val (.ref ro1_59), .unset] [(.ref ro0_59)])) t := fun t kt => by
        show Steps p.tables e below (T63.setTop (mkF m 103 #[.val (.long x0_0), .second, .val (.long x0_1), .second, .val (.long x0_2), .second, .val (.long x0_3), .second, .val (.long x0_4), .second, .val (.int x0_5), .val (.int (1 : Int32)), .val (.int (1 : Int32)), .val (.ref r54), .val (.ref b56), .val (.ref ro0_59), .val (.ref ro1_59), .unset] [(.ref ro0_59)])) _
        refine st65.trans ?_
        show Steps p.tables e below (T65.setTop (mkF m 106 #[.val (.long x0_0), .second, .val (.long x0_1), .second, .val (.long x0_2), .second, .val (.long x0_3), .second, .val (.long x0_4), .second, .val (.int x0_5), .val (.int (1 : Int32)), .val (.int (1 : Int32)), .val (.ref r54), .val (.ref b56), .val (.ref ro0_59), .val (.ref ro1_59), .unset] [(.long x0_1)])) _
        refine XS.lloadN X65.here hx rfl (hb hby at_106) rfl ?_
        show Steps p.tables e below (T65.setTop (mkF m 107 #[.val (.long x0_0), .second, .val (.long x0_1), .second, .val (.long x0_2), .second, .val (.long x0_3), .second, .val (.long x0_4), .second, .val (.int x0_5), .val (.int (1 : Int32)), .val (.int (1 : Int32)), .val (.ref r54), .val (.ref b56), .val (.ref ro0_59), .val (.ref ro1_59), .unset] [(.long x0_1), (.long x0_1)])) _
        refine XS.lcmp X65.here hx rfl (hb hby at_107) rfl ?_
        show Steps p.tables e below (T65.setTop (mkF m 108 #[.val (.long x0_0), .second, .val (.long x0_1), .second, .val (.long x0_2), .second, .val (.long x0_3), .second, .val (.long x0_4), .second, .val (.int x0_5), .val (.int (1 : Int32)), .val (.int (1 : Int32)), .val (.ref r54), .val (.ref b56), .val (.ref ro0_59), .val (.ref ro1_59), .unset] [(.int (lcmpW x0_1 x0_1))])) _
        refine XS.ifNo X65.here hx rfl (hb hby at_108) rfl ((if0 _ _).trans (teq ((lw_eq _ _).mpr (rfl : x0_1 = x0_1))).2) ?_
        show Steps p.tables e below (T65.setTop (mkF m 111 #[.val (.long x0_0), .second, .val (.long x0_1), .second, .val (.long x0_2), .second, .val (.long x0_3), .second, .val (.long x0_4), .second, .val (.int x0_5), .val (.int (1 : Int32)), .val (.int (1 : Int32)), .val (.ref r54), .val (.ref b56), .val (.ref ro0_59), .val (.ref ro1_59), .unset] [])) _
        refine XS.aload X65.here hx rfl (hb hby at_111) rfl rfl ?_
        exact kt
      obtain ⟨cq67, kq67, q67a, q67b, q67c⟩ := isOf hZ e65 Ero0_59
      obtain ⟨v67, _, ⟨T67, L67, k67, n67⟩, -, X67, ⟨Lc67, hQ67, l67, y67, z67⟩, st67⟩ := X65.virtualBack hx (y := (⟨"com/example/redeliver/redeliver/EndpointCounters", "consecutiveFailures", "()J"⟩ : MethodName)) (z := (⟨"com/example/redeliver/redeliver/EndpointCounters", "consecutiveFailures", "()J"⟩ : MethodName)) hown (mvT hZ (hw _ (List.mem_of_getElem? (i := 59) rfl))) (mvT hZ (hw _ (List.mem_of_getElem? (i := 60) rfl))) (notFace_of_selects (args := #[]) (mvT hZ (hw _ (List.mem_of_getElem? (i := 62) rfl)))) (mvT hZ (hw _ (List.mem_of_getElem? (i := 62) rfl))) (mvT hZ (hw _ (List.mem_of_getElem? (i := 61) rfl))) (by decide) (backOf (W := 0) (rm10 l Z a0 hw [] ro0_59 (0 : Int64) T59.heap n0 Zs59 Fro0_59_consecutiveFailures) hZ (hw _ (List.mem_of_getElem? (i := 63) rfl)) (hw _ (List.mem_of_getElem? (i := 10) rfl)) (by decide) (by decide)) q67a q67c (g := (mkF m 113 #[.val (.long x0_0), .second, .val (.long x0_1), .second, .val (.long x0_2), .second, .val (.long x0_3), .second, .val (.long x0_4), .second, .val (.int x0_5), .val (.int (1 : Int32)), .val (.int (1 : Int32)), .val (.ref r54), .val (.ref b56), .val (.ref ro0_59), .val (.ref ro1_59), .unset] [(.ref ro0_59)])) rfl (by rw [hml]; rfl) (Steps.refl _) (argsL := []) (rest := []) (lenOf pd_6 rfl) rfl (by show 2 * 0 + _ ≤ _; exact Nat.le_of_eq rfl) (hb hby at_113) (fun _ _ => ⟨rfl, e65, (by decide : 4 + 0 ≤ _), (by decide : 10 + 0 ≤ _)⟩)
      dsimp only [Pt.U, Pt.locs, Pt.cells, Pt.slots] at X67 l67 y67 z67 st67 hQ67
      subst l67 y67 z67
      obtain ⟨hv67, N67q, e67⟩ := hQ67
      have N67 := Fr.app N65 N67q
      have hf67 : f10 ro0_59 (0 : Int64) = (0 : Int64) := rfl
      rw [hf67] at hv67
      subst hv67
      have sg70 : ∀ t, Steps p.tables e below (T67.setTop (mkF m 128 #[.val (.long x0_0), .second, .val (.long x0_1), .second, .val (.long x0_2), .second, .val (.long x0_3), .second, .val (.long x0_4), .second, .val (.int x0_5), .val (.int (1 : Int32)), .val (.int (1 : Int32)), .val (.ref r54), .val (.ref b56), .val (.ref ro0_59), .val (.ref ro1_59), .unset] [(.ref ro1_59)])) t → Steps p.tables e below (T65.setTop (mkF m 113 #[.val (.long x0_0), .second, .val (.long x0_1), .second, .val (.long x0_2), .second, .val (.long x0_3), .second, .val (.long x0_4), .second, .val (.int x0_5), .val (.int (1 : Int32)), .val (.int (1 : Int32)), .val (.ref r54), .val (.ref b56), .val (.ref ro0_59), .val (.ref ro1_59), .unset] [(.ref ro0_59)])) t := fun t kt => by
        show Steps p.tables e below (T65.setTop (mkF m 113 #[.val (.long x0_0), .second, .val (.long x0_1), .second, .val (.long x0_2), .second, .val (.long x0_3), .second, .val (.long x0_4), .second, .val (.int x0_5), .val (.int (1 : Int32)), .val (.int (1 : Int32)), .val (.ref r54), .val (.ref b56), .val (.ref ro0_59), .val (.ref ro1_59), .unset] [(.ref ro0_59)])) _
        refine st67.trans ?_
        show Steps p.tables e below (T67.setTop (mkF m 116 #[.val (.long x0_0), .second, .val (.long x0_1), .second, .val (.long x0_2), .second, .val (.long x0_3), .second, .val (.long x0_4), .second, .val (.int x0_5), .val (.int (1 : Int32)), .val (.int (1 : Int32)), .val (.ref r54), .val (.ref b56), .val (.ref ro0_59), .val (.ref ro1_59), .unset] [(.long (0 : Int64))])) _
        refine XS.lconst X67.here hx rfl (hb hby at_116) ?_
        show Steps p.tables e below (T67.setTop (mkF m 117 #[.val (.long x0_0), .second, .val (.long x0_1), .second, .val (.long x0_2), .second, .val (.long x0_3), .second, .val (.long x0_4), .second, .val (.int x0_5), .val (.int (1 : Int32)), .val (.int (1 : Int32)), .val (.ref r54), .val (.ref b56), .val (.ref ro0_59), .val (.ref ro1_59), .unset] [(.long (0 : Int64)), (.long (0 : Int64))])) _
        refine XS.lcmp X67.here hx rfl (hb hby at_117) rfl ?_
        show Steps p.tables e below (T67.setTop (mkF m 118 #[.val (.long x0_0), .second, .val (.long x0_1), .second, .val (.long x0_2), .second, .val (.long x0_3), .second, .val (.long x0_4), .second, .val (.int x0_5), .val (.int (1 : Int32)), .val (.int (1 : Int32)), .val (.ref r54), .val (.ref b56), .val (.ref ro0_59), .val (.ref ro1_59), .unset] [(.int (lcmpW (0 : Int64) (0 : Int64)))])) _
        refine XS.ifNo X67.here hx rfl (hb hby at_118) rfl ((if0 _ _).trans (teq ((lw_eq _ _).mpr (by decide : ((0 : Int64) = (0 : Int64))))).2) ?_
        show Steps p.tables e below (T67.setTop (mkF m 121 #[.val (.long x0_0), .second, .val (.long x0_1), .second, .val (.long x0_2), .second, .val (.long x0_3), .second, .val (.long x0_4), .second, .val (.int x0_5), .val (.int (1 : Int32)), .val (.int (1 : Int32)), .val (.ref r54), .val (.ref b56), .val (.ref ro0_59), .val (.ref ro1_59), .unset] [])) _
        refine XS.aload X67.here hx rfl (hb hby at_121) rfl rfl ?_
        show Steps p.tables e below (T67.setTop (mkF m 123 #[.val (.long x0_0), .second, .val (.long x0_1), .second, .val (.long x0_2), .second, .val (.long x0_3), .second, .val (.long x0_4), .second, .val (.int x0_5), .val (.int (1 : Int32)), .val (.int (1 : Int32)), .val (.ref r54), .val (.ref b56), .val (.ref ro0_59), .val (.ref ro1_59), .unset] [(.ref ro1_59)])) _
        refine XS.ifnullNo X67.here hx rfl (hb hby at_123) rfl ?_
        show Steps p.tables e below (T67.setTop (mkF m 126 #[.val (.long x0_0), .second, .val (.long x0_1), .second, .val (.long x0_2), .second, .val (.long x0_3), .second, .val (.long x0_4), .second, .val (.int x0_5), .val (.int (1 : Int32)), .val (.int (1 : Int32)), .val (.ref r54), .val (.ref b56), .val (.ref ro0_59), .val (.ref ro1_59), .unset] [])) _
        refine XS.aload X67.here hx rfl (hb hby at_126) rfl rfl ?_
        exact kt
      obtain ⟨cq69, kq69, q69a, q69b, q69c⟩ := isOf hZ e67 Ero1_59
      obtain ⟨v69, _, ⟨T69, L69, k69, n69⟩, -, X69, ⟨Lc69, hQ69, l69, y69, z69⟩, st69⟩ := X67.virtualBack hx (y := (⟨"java/lang/Long", "longValue", "()J"⟩ : MethodName)) (z := (⟨"java/lang/Long", "longValue", "()J"⟩ : MethodName)) hown (mvT hZ (hw _ (List.mem_of_getElem? (i := 42) rfl))) (mvT hZ (hw _ (List.mem_of_getElem? (i := 43) rfl))) (notFace_of_selects (args := #[]) (mvT hZ (hw _ (List.mem_of_getElem? (i := 45) rfl)))) (mvT hZ (hw _ (List.mem_of_getElem? (i := 45) rfl))) (mvT hZ (hw _ (List.mem_of_getElem? (i := 44) rfl))) (by decide) (backOf (W := 0) (rm7 l Z a0 hw [] ro1_59 x0_4 T59.heap n0 Zs59 Fro1_59_value) hZ (hw _ (List.mem_of_getElem? (i := 46) rfl)) (hw _ (List.mem_of_getElem? (i := 2) rfl)) (by decide) (by decide)) q69a q69c (g := (mkF m 128 #[.val (.long x0_0), .second, .val (.long x0_1), .second, .val (.long x0_2), .second, .val (.long x0_3), .second, .val (.long x0_4), .second, .val (.int x0_5), .val (.int (1 : Int32)), .val (.int (1 : Int32)), .val (.ref r54), .val (.ref b56), .val (.ref ro0_59), .val (.ref ro1_59), .unset] [(.ref ro1_59)])) rfl (by rw [hml]; rfl) (Steps.refl _) (argsL := []) (rest := []) (lenOf pd_6 rfl) rfl (by show 2 * 0 + _ ≤ _; exact Nat.le_of_eq rfl) (hb hby at_128) (fun _ _ => ⟨rfl, e67, (by decide : 4 + 0 ≤ _), (by decide : 10 + 0 ≤ _)⟩)
      dsimp only [Pt.U, Pt.locs, Pt.cells, Pt.slots] at X69 l69 y69 z69 st69 hQ69
      subst l69 y69 z69
      obtain ⟨hv69, N69q, e69⟩ := hQ69
      have N69 := Fr.app N67 N69q
      have hf69 : f7 ro1_59 x0_4 = x0_4 := rfl
      rw [hf69] at hv69
      subst hv69
      obtain ⟨fs, hr, hrun, hended, hW, hsame⟩ := X69.leave (v := some (.int (1 : Int32))) (fun h => by rw [Bd.returns] at h; cases h)
      refine ⟨_, _, pre0 _ (sg1 _ (sg37 _ (sg55 _ (sg58 _ (sg60 _ (sg62 _ (sg64 _ (sg66 _ (sg68 _ (sg70 _ ?_)))))))))), hrun, hended, _, _, rfl, ?_, ⟨_, rfl⟩, hW, hsame.mono (by decide) (by decide)⟩
      · show Steps p.tables e below (T67.setTop (mkF m 128 #[.val (.long x0_0), .second, .val (.long x0_1), .second, .val (.long x0_2), .second, .val (.long x0_3), .second, .val (.long x0_4), .second, .val (.int x0_5), .val (.int (1 : Int32)), .val (.int (1 : Int32)), .val (.ref r54), .val (.ref b56), .val (.ref ro0_59), .val (.ref ro1_59), .unset] [(.ref ro1_59)])) _
        refine st69.trans ?_
        show Steps p.tables e below (T69.setTop (mkF m 131 #[.val (.long x0_0), .second, .val (.long x0_1), .second, .val (.long x0_2), .second, .val (.long x0_3), .second, .val (.long x0_4), .second, .val (.int x0_5), .val (.int (1 : Int32)), .val (.int (1 : Int32)), .val (.ref r54), .val (.ref b56), .val (.ref ro0_59), .val (.ref ro1_59), .unset] [(.long x0_4)])) _
        refine XS.lload X69.here hx rfl (hb hby at_131) rfl ?_
        show Steps p.tables e below (T69.setTop (mkF m 133 #[.val (.long x0_0), .second, .val (.long x0_1), .second, .val (.long x0_2), .second, .val (.long x0_3), .second, .val (.long x0_4), .second, .val (.int x0_5), .val (.int (1 : Int32)), .val (.int (1 : Int32)), .val (.ref r54), .val (.ref b56), .val (.ref ro0_59), .val (.ref ro1_59), .unset] [(.long x0_4), (.long x0_4)])) _
        refine XS.lcmp X69.here hx rfl (hb hby at_133) rfl ?_
        show Steps p.tables e below (T69.setTop (mkF m 134 #[.val (.long x0_0), .second, .val (.long x0_1), .second, .val (.long x0_2), .second, .val (.long x0_3), .second, .val (.long x0_4), .second, .val (.int x0_5), .val (.int (1 : Int32)), .val (.int (1 : Int32)), .val (.ref r54), .val (.ref b56), .val (.ref ro0_59), .val (.ref ro1_59), .unset] [(.int (lcmpW x0_4 x0_4))])) _
        refine XS.ifNo X69.here hx rfl (hb hby at_134) rfl ((if0 _ _).trans (teq ((lw_eq _ _).mpr (rfl : x0_4 = x0_4))).2) ?_
        show Steps p.tables e below (T69.setTop (mkF m 137 #[.val (.long x0_0), .second, .val (.long x0_1), .second, .val (.long x0_2), .second, .val (.long x0_3), .second, .val (.long x0_4), .second, .val (.int x0_5), .val (.int (1 : Int32)), .val (.int (1 : Int32)), .val (.ref r54), .val (.ref b56), .val (.ref ro0_59), .val (.ref ro1_59), .unset] [])) _
        refine XS.iconst X69.here hx rfl (hb hby at_137) ?_
        show Steps p.tables e below (T69.setTop (mkF m 138 #[.val (.long x0_0), .second, .val (.long x0_1), .second, .val (.long x0_2), .second, .val (.long x0_3), .second, .val (.long x0_4), .second, .val (.int x0_5), .val (.int (1 : Int32)), .val (.int (1 : Int32)), .val (.ref r54), .val (.ref b56), .val (.ref ro0_59), .val (.ref ro1_59), .unset] [(.int (1 : Int32))])) _
        refine XS.goto X69.here hx rfl (pc0 := 138) (pc' := 142) rfl (hb hby at_138) (by decide) (by decide) ?_
        show Steps p.tables e below (T69.setTop (mkF m 142 #[.val (.long x0_0), .second, .val (.long x0_1), .second, .val (.long x0_2), .second, .val (.long x0_3), .second, .val (.long x0_4), .second, .val (.int x0_5), .val (.int (1 : Int32)), .val (.int (1 : Int32)), .val (.ref r54), .val (.ref b56), .val (.ref ro0_59), .val (.ref ro1_59), .unset] [(.int (1 : Int32))])) _
        exact retN X69 hx (t := .boolean) Bd.returns (by simp) (hb hby at_142) hr
      · show Q0 Z x0_0 x0_1 x0_2 x0_3 x0_4 x0_5 cA cl h0 n0 _ T69.heap _
        rw [e69]
        exact ⟨rfl, N69⟩
set_option maxRecDepth 65536 in
set_option maxHeartbeats 40000000 in
theorem comes_1 {Post : Tables → Env → Array Value → State → Outcome → State → Prop} (hpost : ∀ tb e args s v u, (limb_1_1.after args s (.returned v) u = true ∧ limb_1_2.after args s (.returned v) u = true ∧ True) → FrameEnd s (.returned v) u (Jvm.fieldLocs frame_1_writes args s ++ Jvm.arrayLocs frame_1_arrays args s ++ Jvm.staticLocs frame_1_statics s) 16 128 → Post tb e args s (.returned v) u) :
    ArmFor flags0 classFile x code maxLocals ret World_1 tables_1 room_1 Calls_1 rest_1 Pre_1 Post := by
  intro l hfl _ _ p e ha hc hk s m args below hf hA hF happ hP
  obtain ⟨hcalls, hrest, hpre⟩ := hP
  obtain ⟨-, -, -, hnamed, -, -, -, hat⟩ := (Spec.applies_iff hf).mp happ
  obtain ⟨hg, hn⟩ := and_e (Cond.before_iff.mp (show (Jvm.Cond.and given_1 narrow_1).before args s = true from hpre))
  obtain ⟨g1, g2⟩ := and_e hg
  obtain ⟨g3, g4⟩ := and_e g2
  obtain ⟨g5, g6⟩ := and_e g4
  obtain ⟨g7, g8⟩ := and_e g6
  obtain ⟨g9, g10⟩ := and_e g8
  obtain ⟨g11, g12⟩ := and_e g10
  obtain ⟨w0, w1, w2, w3, w4, w5, rfl⟩ : ∃ w0 w1 w2 w3 w4 w5 : Value, args = #[w0, w1, w2, w3, w4, w5] := by
    have hs : args.size = 6 := by simpa [Cond.value, given_1] using g1
    obtain ⟨L⟩ := args
    match L, hs with
    | [w0, w1, w2, w3, w4, w5], _ => exact ⟨w0, w1, w2, w3, w4, w5, rfl⟩
  have hw := fun d (hd : d ∈ tables_1) => atoms_spec (ws := Jvm.Cond.code x code maxLocals ret :: tables_1) hat d (List.mem_cons_of_mem _ hd)
  have hfit : Fit s := fun {y c} hc i hi => by
    obtain ⟨ha, rfl⟩ := Array.getElem?_eq_some_iff.mp hc
    have q := List.all_eq_true.mp ((Array.all_eq_true_iff_forall_mem.mp hF) _ (Array.getElem_mem ha)) i (List.mem_range.mpr hi)
    simpa [Array.getElem?_eq_getElem hi] using q
  obtain ⟨hsets, hown0⟩ := atoms_of _ (rest_1_c_eq ▸ (show rest_1_c.before _ s = true from hrest))
  obtain ⟨i0, ei0⟩ := isL_v g3
  obtain rfl : w0 = (.long i0) := Option.some.inj ei0
  obtain ⟨i1, ei1⟩ := isL_v g5
  obtain rfl : w1 = (.long i1) := Option.some.inj ei1
  obtain ⟨i2, ei2⟩ := isL_v g7
  obtain rfl : w2 = (.long i2) := Option.some.inj ei2
  obtain ⟨i3, ei3⟩ := isL_v g9
  obtain rfl : w3 = (.long i3) := Option.some.inj ei3
  obtain ⟨i4, ei4⟩ := isL_v g11
  obtain rfl : w4 = (.long i4) := Option.some.inj ei4
  obtain ⟨i5, ei5⟩ := is_v g12
  obtain rfl : w5 = (.int i5) := Option.some.inj ei5
  have ha4 := Cond.before_iff.mp (hsets _ (List.mem_of_getElem? (i := 2) rfl))
  obtain ⟨cA, evc⟩ := arr_v ha4
  obtain ⟨cl, AR⟩ := Arr.start evc ha4
  have hlen := own_eqI (Cond.before_iff.mp (hsets _ (List.mem_of_getElem? (i := 4) rfl)))
  obtain ⟨hl1, hl2⟩ := own_len evc AR hlen
  have SC : Sta s s.heap "java/lang/Long$LongCache" "cache" "[Ljava/lang/Long;" (.ref cA) := Sta.start evc (Or.inr ⟨(hw _ (List.mem_of_getElem? (i := 7) rfl)), (hsets _ (List.mem_of_getElem? (i := 0) rfl))⟩)
  have JC : Bxs s cA cl "java/lang/Long" "J" 256 (fun j => .long (j - 128).toInt64) := Bxs.start (fun _ => evc) AR hl1 hl2 (by decide) (Cond.before_iff.mp (hsets _ (List.mem_of_getElem? (i := 5) rfl))) (fun X j hj h => eqv_l (i2l_at (own_sub hj)) h)
  obtain ⟨n, o, h1, h2, h3, _, L, rfl, ⟨rfl, N⟩, hq⟩ := rm0 l s _ hw tables_1 i0 i1 i2 i3 i4 i5 cA cl s.heap s.heap.size (Nat.le_refl _) (Old.start s) JC SC p e ha hc hk s m _ below hf ((Spec.applies_iff_loose hf).mp happ).1 ⟨rfl, State.Warmed39.refl s, rfl⟩ trivial
  refine ⟨n, _, h1, h2, h3, hpost _ _ _ _ _ _ ⟨Cond.after_iff.mpr rfl, Cond.after_iff.mpr (eq_i res_at (Term.int_eval (1)) rfl), trivial⟩ ⟨hq.1, hq.2.1, (hq.2.2.sift fun y hy => Or.inr (N y hy)).mono (by decide) (by decide)⟩⟩
theorem main_1_1 : Claimed_1_1 := comes_1 fun _ _ _ _ _ _ h hF => ⟨h.1, hF⟩
theorem main_1_2 : Claimed_1_2 := comes_1 fun _ _ _ _ _ _ h hF => ⟨h.2.1, hF⟩
end Jvm.Pilot.@@N@@
namespace Jvm.Pilot.@@N@@
open Jvm Jvm.ClassFile Sem Op Lib Jvm.Free Jvm.Stand Jvm.Pilot.@@N@@.Jvm.D
/-! MADE BY PROGRAM (witnessworld.py) out of the Statement's table words and the real class files: 17 classes; the members and pool entries that the words name. The judged class is class 1, her method 1. -/
namespace start1
open Jvm.ClassFile
def u (s : String) : CpInfo := .utf8 (stringToUtf16 s)
/-- a pool by its gaps: so many unusable entries, then the entry; so many at the end -/
def gap : Nat → List CpInfo → List CpInfo
  | 0, r => r
  | n + 1, r => .unusable :: gap n r
def poolList (es : List (Nat × CpInfo)) (last : Nat) : List CpInfo := es.foldr (fun e r => gap e.1 (e.2 :: r)) (gap last [])
def pool (es : List (Nat × CpInfo)) (last : Nat) : Array CpInfo := ⟨poolList es last⟩
def fileOf (pool : Array CpInfo) (this : Nat) (attrs : Array Attribute := #[]) (ms : Array MethodInfo := #[]) (fl : Nat := 33) (sup : Nat := 0) (ifs : Array Nat := #[]) (fds : Array FieldInfo := #[]) : ClassFile where
  minorVersion := 0
  majorVersion := 65
  constantPool := pool
  accessFlags := fl
  thisClass := this
  superClass := sup
  interfaces := ifs
  fields := fds
  methods := ms
  attributes := attrs
def plain (name : String) (sup : Option ClassId) : Class where
  name := name
  kind := .ordinary
  loader := none
  accessFlags := 33
  super := sup
  interfaces := #[]
  cf := none
  fields := #[]
  methods := #[]
  instanceTypes := #[]
  staticTypes := #[]
  resolved := #[]
  callSites := []
  init := .initialized
  statics := none
  mirror := none

def pool0 : Array CpInfo := pool [(5, u "<init>"), (0, u "()V"), (1, .class_ 10), (1, u "java/lang/Object")] 113

def k0c0 : Code := { maxStack := 0, maxLocals := 1, code := object_method_1_code, exceptionTable := #[], attributes := #[] }
def k0m0 : Method := { name := "<init>", desc := "()V", sig := { parameters := [], returnType := none }, accessFlags := 1, code := some k0c0 }
/-- java/lang/Object -/
def k0 : Class := { plain "java/lang/Object" none with
  accessFlags := 33
  interfaces := #[]
  cf := some (fileOf pool0 8 #[] #[{ accessFlags := 1, nameIndex := 5, descriptorIndex := 6, attributes := #[] }] 33 0 #[] #[])
  fields := #[]
  methods := #[k0m0]
  instanceTypes := #[]
  staticTypes := #[]
  resolved := Array.replicate 124 none
  statics := none }

def pool1 : Array CpInfo := pool [(2, .class_ 4), (1, u "java/lang/Object"), (0, u "<init>"), (0, u "()V"), (0, .methodref 8 9), (0, .class_ 10), (0, .nameAndType 11 12), (0, u "java/lang/Long"), (0, u "valueOf"), (0, u "(J)Ljava/lang/Long;"), (0, .class_ 14), (0, u "com/example/redeliver/redeliver/EndpointCounters"), (0, .methodref 13 16), (0, .nameAndType 5 17), (0, u "(JJJLjava/lang/Long;)V"), (0, .methodref 13 19), (0, .nameAndType 20 21), (0, u "after"), (0, u "(ZJ)Lcom/example/redeliver/redeliver/EndpointCounters;"), (0, .methodref 13 23), (0, .nameAndType 24 25), (0, u "lastSuccessAt"), (0, u "()Ljava/lang/Long;"), (0, .methodref 13 27), (0, .nameAndType 28 29), (0, u "attempts"), (0, u "()J"), (0, .methodref 13 31), (0, .nameAndType 32 29), (0, u "failures"), (0, .methodref 13 34), (0, .nameAndType 35 29), (0, u "consecutiveFailures"), (0, .methodref 8 37), (0, .nameAndType 38 29), (0, u "longValue"), (0, .class_ 40), (0, u "com/example/redeliver/redeliver/EndpointCountersAfterPinLaw"), (2, u "law"), (0, u "(JJJJJI)Z")] 3

def k1m0 : Method := { name := "<init>", desc := "()V", sig := { parameters := [], returnType := none }, accessFlags := 1, code := none }
def k1c1 : Code := { maxStack := 9, maxLocals := 18, code := code, exceptionTable := #[], attributes := #[] }
def k1m1 : Method := { name := "law", desc := "(JJJJJI)Z", sig := { parameters := [.long, .long, .long, .long, .long, .int], returnType := some .boolean }, accessFlags := 9, code := some k1c1 }
/-- com/example/redeliver/redeliver/EndpointCountersAfterPinLaw -/
def k1 : Class := { plain "com/example/redeliver/redeliver/EndpointCountersAfterPinLaw" (some 0) with
  accessFlags := 49
  interfaces := #[]
  cf := some (fileOf pool1 39 #[] #[{ accessFlags := 1, nameIndex := 5, descriptorIndex := 6, attributes := #[] }, { accessFlags := 9, nameIndex := 43, descriptorIndex := 44, attributes := #[] }] 49 2 #[] #[])
  fields := #[]
  methods := #[k1m0, k1m1]
  instanceTypes := #[]
  staticTypes := #[]
  resolved := Array.replicate 48 none
  statics := none }

def pool2 : Array CpInfo := pool [(1, .class_ 2), (0, u "java/io/Serializable"), (0, .class_ 4), (0, u "java/lang/Object")] 2

/-- java/io/Serializable -/
def k2 : Class := { plain "java/io/Serializable" (some 0) with
  accessFlags := 1537
  interfaces := #[]
  cf := some (fileOf pool2 1 #[] #[] 1537 3 #[] #[])
  fields := #[]
  methods := #[]
  instanceTypes := #[]
  staticTypes := #[]
  resolved := Array.replicate 7 none
  statics := none }

def pool3 : Array CpInfo := pool [(1, .methodref 2 3), (0, .class_ 4), (0, .nameAndType 5 6), (0, u "java/lang/Object"), (0, u "<init>"), (0, u "()V"), (1, .class_ 10), (1, u "java/lang/Number"), (2, .class_ 14), (0, u "java/io/Serializable"), (0, u "serialVersionUID"), (0, u "J")] 20

def k3c0 : Code := { maxStack := 1, maxLocals := 1, code := jdk_18_method_1_code, exceptionTable := #[], attributes := #[] }
def k3m0 : Method := { name := "<init>", desc := "()V", sig := { parameters := [], returnType := none }, accessFlags := 1, code := some k3c0 }
/-- java/lang/Number -/
def k3 : Class := { plain "java/lang/Number" (some 0) with
  accessFlags := 1057
  interfaces := #[2]
  cf := some (fileOf pool3 8 #[] #[{ accessFlags := 1, nameIndex := 5, descriptorIndex := 6, attributes := #[] }] 1057 2 #[13] #[{ accessFlags := 26, nameIndex := 15, descriptorIndex := 16, attributes := #[] }])
  fields := #[{ name := "serialVersionUID", type := .long, accessFlags := 26, slot := 0, constantValue := 0 }]
  methods := #[k3m0]
  instanceTypes := #[]
  staticTypes := #[.long]
  resolved := Array.replicate 37 none
  statics := none }

def pool4 : Array CpInfo := pool [(1, .class_ 2), (0, u "java/lang/Comparable"), (0, .class_ 4), (0, u "java/lang/Object")] 7

/-- java/lang/Comparable -/
def k4 : Class := { plain "java/lang/Comparable" (some 0) with
  accessFlags := 1537
  interfaces := #[]
  cf := some (fileOf pool4 1 #[] #[] 1537 3 #[] #[])
  fields := #[]
  methods := #[]
  instanceTypes := #[]
  staticTypes := #[]
  resolved := Array.replicate 12 none
  statics := none }

def pool5 : Array CpInfo := pool [(1, .class_ 2), (0, u "java/lang/constant/Constable"), (0, .class_ 4), (0, u "java/lang/Object")] 6

/-- java/lang/constant/Constable -/
def k5 : Class := { plain "java/lang/constant/Constable" (some 0) with
  accessFlags := 1537
  interfaces := #[]
  cf := some (fileOf pool5 1 #[] #[] 1537 3 #[] #[])
  fields := #[]
  methods := #[]
  instanceTypes := #[]
  staticTypes := #[]
  resolved := Array.replicate 11 none
  statics := none }

def pool6 : Array CpInfo := pool [(1, .class_ 2), (0, u "java/lang/constant/ConstantDesc"), (0, .class_ 4), (0, u "java/lang/Object")] 32

/-- java/lang/constant/ConstantDesc -/
def k6 : Class := { plain "java/lang/constant/ConstantDesc" (some 0) with
  accessFlags := 1537
  interfaces := #[]
  cf := some (fileOf pool6 1 #[] #[] 1537 3 #[] #[])
  fields := #[]
  methods := #[]
  instanceTypes := #[]
  staticTypes := #[]
  resolved := Array.replicate 37 none
  statics := none }

def pool7 : Array CpInfo := pool [(1, .class_ 2), (0, u "java/lang/Long"), (55, .nameAndType 59 60), (0, u "<init>"), (0, u "()V"), (24, u "valueOf"), (143, u "(J)Ljava/lang/Long;"), (0, .long 18446744073709551488), (1, .long 127), (1, .fieldref 235 236), (0, .class_ 237), (0, .nameAndType 238 239), (0, u "java/lang/Long$LongCache"), (0, u "cache"), (0, u "[Ljava/lang/Long;"), (0, .methodref 1 241), (0, .nameAndType 59 242), (0, u "(J)V"), (27, .methodref 271 58), (0, .class_ 272), (0, u "java/lang/Number"), (0, .fieldref 1 274), (0, .nameAndType 275 276), (0, u "value"), (0, u "J"), (5, u "longValue"), (0, u "()J"), (77, u "TYPE"), (0, u "Ljava/lang/Class;"), (0, .class_ 364), (0, u "java/lang/Comparable"), (0, .class_ 366), (0, u "java/lang/constant/Constable"), (0, .class_ 368), (0, u "java/lang/constant/ConstantDesc"), (0, u "MIN_VALUE"), (1, u "MAX_VALUE"), (4, u "SIZE"), (0, u "I"), (1, u "BYTES"), (1, u "serialVersionUID")] 142

def k7c0 : Code := { maxStack := 4, maxLocals := 3, code := jdk_35_method_24_code, exceptionTable := #[], attributes := #[] }
def k7m0 : Method := { name := "valueOf", desc := "(J)Ljava/lang/Long;", sig := { parameters := [.long], returnType := some (.object "java/lang/Long") }, accessFlags := 9, code := some k7c0 }
def k7c1 : Code := { maxStack := 3, maxLocals := 3, code := jdk_35_method_26_code, exceptionTable := #[], attributes := #[] }
def k7m1 : Method := { name := "<init>", desc := "(J)V", sig := { parameters := [.long], returnType := none }, accessFlags := 1, code := some k7c1 }
def k7c2 : Code := { maxStack := 2, maxLocals := 1, code := jdk_35_method_31_code, exceptionTable := #[], attributes := #[] }
def k7m2 : Method := { name := "longValue", desc := "()J", sig := { parameters := [], returnType := some .long }, accessFlags := 1, code := some k7c2 }
/-- java/lang/Long -/
def k7 : Class := { plain "java/lang/Long" (some 3) with
  accessFlags := 49
  interfaces := #[4, 5, 6]
  cf := some (fileOf pool7 1 #[.nestMembers #[235]] #[{ accessFlags := 9, nameIndex := 85, descriptorIndex := 229, attributes := #[] }, { accessFlags := 1, nameIndex := 59, descriptorIndex := 242, attributes := #[] }, { accessFlags := 1, nameIndex := 282, descriptorIndex := 283, attributes := #[] }] 49 271 #[363, 365, 367] #[{ accessFlags := 25, nameIndex := 369, descriptorIndex := 276, attributes := #[] }, { accessFlags := 25, nameIndex := 371, descriptorIndex := 276, attributes := #[] }, { accessFlags := 25, nameIndex := 361, descriptorIndex := 362, attributes := #[] }, { accessFlags := 18, nameIndex := 275, descriptorIndex := 276, attributes := #[] }, { accessFlags := 25, nameIndex := 376, descriptorIndex := 377, attributes := #[] }, { accessFlags := 25, nameIndex := 379, descriptorIndex := 377, attributes := #[] }, { accessFlags := 26, nameIndex := 381, descriptorIndex := 276, attributes := #[] }])
  fields := #[{ name := "MIN_VALUE", type := .long, accessFlags := 25, slot := 0, constantValue := 0 }, { name := "MAX_VALUE", type := .long, accessFlags := 25, slot := 1, constantValue := 0 }, { name := "TYPE", type := (.object "java/lang/Class"), accessFlags := 25, slot := 2, constantValue := 0 }, { name := "value", type := .long, accessFlags := 18, slot := 0, constantValue := 0 }, { name := "SIZE", type := .int, accessFlags := 25, slot := 3, constantValue := 0 }, { name := "BYTES", type := .int, accessFlags := 25, slot := 4, constantValue := 0 }, { name := "serialVersionUID", type := .long, accessFlags := 26, slot := 5, constantValue := 0 }]
  methods := #[k7m0, k7m1, k7m2]
  instanceTypes := #[.long]
  staticTypes := #[.long, .long, (.object "java/lang/Class"), .int, .int, .long]
  resolved := Array.replicate 524 none
  statics := none }

def pool8 : Array CpInfo := pool [(2, .class_ 4), (1, u "java/lang/Object"), (0, u "<init>"), (0, u "()V"), (0, .class_ 8), (0, u "java/lang/Long"), (7, .class_ 18), (1, u "java/lang/Long$LongCache"), (0, u "$assertionsDisabled"), (0, u "Z"), (8, u "archivedCache"), (0, u "[Ljava/lang/Long;"), (7, u "cache")] 24

def k8m0 : Method := { name := "<init>", desc := "()V", sig := { parameters := [], returnType := none }, accessFlags := 2, code := none }
/-- java/lang/Long$LongCache -/
def k8 : Class := { plain "java/lang/Long$LongCache" (some 0) with
  accessFlags := 48
  interfaces := #[]
  cf := some (fileOf pool8 16 #[.nestHost 7] #[{ accessFlags := 2, nameIndex := 5, descriptorIndex := 6, attributes := #[] }] 48 2 #[] #[{ accessFlags := 24, nameIndex := 38, descriptorIndex := 30, attributes := #[] }, { accessFlags := 8, nameIndex := 29, descriptorIndex := 30, attributes := #[] }, { accessFlags := 4120, nameIndex := 19, descriptorIndex := 20, attributes := #[] }])
  fields := #[{ name := "cache", type := (.array (.object "java/lang/Long")), accessFlags := 24, slot := 0, constantValue := 0 }, { name := "archivedCache", type := (.array (.object "java/lang/Long")), accessFlags := 8, slot := 1, constantValue := 0 }, { name := "$assertionsDisabled", type := .boolean, accessFlags := 4120, slot := 2, constantValue := 0 }]
  methods := #[k8m0]
  instanceTypes := #[]
  staticTypes := #[(.array (.object "java/lang/Long")), (.array (.object "java/lang/Long")), .boolean]
  resolved := Array.replicate 63 none
  statics := some 0 }

def pool9 : Array CpInfo := pool [(1, .methodref 2 3), (0, .class_ 4), (0, .nameAndType 5 6), (0, u "java/lang/Object"), (0, u "<init>"), (0, u "()V"), (0, .class_ 8), (0, u "java/lang/Record")] 13

def k9c0 : Code := { maxStack := 1, maxLocals := 1, code := jdk_30_method_1_code, exceptionTable := #[], attributes := #[] }
def k9m0 : Method := { name := "<init>", desc := "()V", sig := { parameters := [], returnType := none }, accessFlags := 4, code := some k9c0 }
/-- java/lang/Record -/
def k9 : Class := { plain "java/lang/Record" (some 0) with
  accessFlags := 1057
  interfaces := #[]
  cf := some (fileOf pool9 7 #[] #[{ accessFlags := 4, nameIndex := 5, descriptorIndex := 6, attributes := #[] }] 1057 2 #[] #[])
  fields := #[]
  methods := #[k9m0]
  instanceTypes := #[]
  staticTypes := #[]
  resolved := Array.replicate 22 none
  statics := none }

def pool10 : Array CpInfo := pool [(1, .methodref 2 3), (0, .class_ 4), (0, .nameAndType 5 6), (0, u "java/lang/Record"), (0, u "<init>"), (0, u "()V"), (0, .fieldref 8 9), (0, .class_ 10), (0, .nameAndType 11 12), (0, u "com/example/redeliver/redeliver/EndpointCounters"), (0, u "attempts"), (0, u "J"), (0, .fieldref 8 14), (0, .nameAndType 15 12), (0, u "failures"), (0, .fieldref 8 17), (0, .nameAndType 18 12), (0, u "consecutiveFailures"), (0, .fieldref 8 20), (0, .nameAndType 21 22), (0, u "lastSuccessAt"), (0, u "Ljava/lang/Long;"), (0, .methodref 24 25), (0, .class_ 26), (0, .nameAndType 27 28), (0, u "java/lang/Long"), (0, u "valueOf"), (0, u "(J)Ljava/lang/Long;"), (0, .methodref 8 30), (0, .nameAndType 5 31), (0, u "(JJJLjava/lang/Long;)V"), (14, u "NONE"), (0, u "Lcom/example/redeliver/redeliver/EndpointCounters;"), (3, u "after"), (0, u "(ZJ)Lcom/example/redeliver/redeliver/EndpointCounters;"), (6, u "()J"), (0, u "()Ljava/lang/Long;")] 24

def k10c0 : Code := { maxStack := 3, maxLocals := 8, code := prog_3_method_1_code, exceptionTable := #[], attributes := #[] }
def k10m0 : Method := { name := "<init>", desc := "(JJJLjava/lang/Long;)V", sig := { parameters := [.long, .long, .long, (.object "java/lang/Long")], returnType := none }, accessFlags := 0, code := some k10c0 }
def k10c1 : Code := { maxStack := 10, maxLocals := 4, code := prog_3_method_2_code, exceptionTable := #[], attributes := #[] }
def k10m1 : Method := { name := "after", desc := "(ZJ)Lcom/example/redeliver/redeliver/EndpointCounters;", sig := { parameters := [.boolean, .long], returnType := some (.object "com/example/redeliver/redeliver/EndpointCounters") }, accessFlags := 0, code := some k10c1 }
def k10c2 : Code := { maxStack := 2, maxLocals := 1, code := prog_3_method_7_code, exceptionTable := #[], attributes := #[] }
def k10m2 : Method := { name := "attempts", desc := "()J", sig := { parameters := [], returnType := some .long }, accessFlags := 1, code := some k10c2 }
def k10c3 : Code := { maxStack := 2, maxLocals := 1, code := prog_3_method_8_code, exceptionTable := #[], attributes := #[] }
def k10m3 : Method := { name := "failures", desc := "()J", sig := { parameters := [], returnType := some .long }, accessFlags := 1, code := some k10c3 }
def k10c4 : Code := { maxStack := 2, maxLocals := 1, code := prog_3_method_9_code, exceptionTable := #[], attributes := #[] }
def k10m4 : Method := { name := "consecutiveFailures", desc := "()J", sig := { parameters := [], returnType := some .long }, accessFlags := 1, code := some k10c4 }
def k10c5 : Code := { maxStack := 1, maxLocals := 1, code := prog_3_method_10_code, exceptionTable := #[], attributes := #[] }
def k10m5 : Method := { name := "lastSuccessAt", desc := "()Ljava/lang/Long;", sig := { parameters := [], returnType := some (.object "java/lang/Long") }, accessFlags := 1, code := some k10c5 }
/-- com/example/redeliver/redeliver/EndpointCounters -/
def k10 : Class := { plain "com/example/redeliver/redeliver/EndpointCounters" (some 9) with
  accessFlags := 48
  interfaces := #[]
  cf := some (fileOf pool10 8 #[] #[{ accessFlags := 0, nameIndex := 5, descriptorIndex := 31, attributes := #[] }, { accessFlags := 0, nameIndex := 51, descriptorIndex := 52, attributes := #[] }, { accessFlags := 1, nameIndex := 11, descriptorIndex := 59, attributes := #[] }, { accessFlags := 1, nameIndex := 15, descriptorIndex := 59, attributes := #[] }, { accessFlags := 1, nameIndex := 18, descriptorIndex := 59, attributes := #[] }, { accessFlags := 1, nameIndex := 21, descriptorIndex := 60, attributes := #[] }] 48 2 #[] #[{ accessFlags := 18, nameIndex := 11, descriptorIndex := 12, attributes := #[] }, { accessFlags := 18, nameIndex := 15, descriptorIndex := 12, attributes := #[] }, { accessFlags := 18, nameIndex := 18, descriptorIndex := 12, attributes := #[] }, { accessFlags := 18, nameIndex := 21, descriptorIndex := 22, attributes := #[] }, { accessFlags := 24, nameIndex := 46, descriptorIndex := 47, attributes := #[] }])
  fields := #[{ name := "attempts", type := .long, accessFlags := 18, slot := 0, constantValue := 0 }, { name := "failures", type := .long, accessFlags := 18, slot := 1, constantValue := 0 }, { name := "consecutiveFailures", type := .long, accessFlags := 18, slot := 2, constantValue := 0 }, { name := "lastSuccessAt", type := (.object "java/lang/Long"), accessFlags := 18, slot := 3, constantValue := 0 }, { name := "NONE", type := (.object "com/example/redeliver/redeliver/EndpointCounters"), accessFlags := 24, slot := 0, constantValue := 0 }]
  methods := #[k10m0, k10m1, k10m2, k10m3, k10m4, k10m5]
  instanceTypes := #[.long, .long, .long, (.object "java/lang/Long")]
  staticTypes := #[(.object "com/example/redeliver/redeliver/EndpointCounters")]
  resolved := Array.replicate 85 none
  statics := none }

def pool11 : Array CpInfo := pool [(1, u "java/lang/Cloneable"), (0, .class_ 1), (0, u "java/lang/Object"), (0, .class_ 3)] 3

/-- java/lang/Cloneable -/
def k11 : Class := { plain "java/lang/Cloneable" (some 0) with
  accessFlags := 1537
  interfaces := #[]
  cf := some (fileOf pool11 2 #[] #[] 1537 4 #[] #[])
  fields := #[]
  methods := #[]
  instanceTypes := #[]
  staticTypes := #[]
  resolved := Array.replicate 8 none
  statics := none }

/-- the primitive byte -/
def k12 : Class := { plain "byte" none with kind := .primitive 'B', accessFlags := 0x411 }
/-- [B -/
def k13 : Class := { plain "[B" (some 0) with kind := .array 12 .byte, interfaces := #[11, 2], accessFlags := 1041 }

/-- the primitive int -/
def k14 : Class := { plain "int" none with kind := .primitive 'I', accessFlags := 0x411 }
/-- [I -/
def k15 : Class := { plain "[I" (some 0) with kind := .array 14 .int, interfaces := #[11, 2], accessFlags := 1041 }

/-- [Ljava/lang/Long; -/
def k16 : Class := { plain "[Ljava/lang/Long;" (some 0) with kind := .array 7 (.object "java/lang/Long"), interfaces := #[11, 2], accessFlags := 1041 }

def heap : Heap := #[{ cls := 8, slots := #[.ref 1, .null, .int 0], vm := .statics 8 },
  { cls := 16, slots := #[.ref 2, .ref 3, .ref 4, .ref 5, .ref 6, .ref 7, .ref 8, .ref 9, .ref 10, .ref 11, .ref 12, .ref 13, .ref 14, .ref 15, .ref 16, .ref 17, .ref 18, .ref 19, .ref 20, .ref 21, .ref 22, .ref 23, .ref 24, .ref 25, .ref 26, .ref 27, .ref 28, .ref 29, .ref 30, .ref 31, .ref 32, .ref 33, .ref 34, .ref 35, .ref 36, .ref 37, .ref 38, .ref 39, .ref 40, .ref 41, .ref 42, .ref 43, .ref 44, .ref 45, .ref 46, .ref 47, .ref 48, .ref 49, .ref 50, .ref 51, .ref 52, .ref 53, .ref 54, .ref 55, .ref 56, .ref 57, .ref 58, .ref 59, .ref 60, .ref 61, .ref 62, .ref 63, .ref 64, .ref 65, .ref 66, .ref 67, .ref 68, .ref 69, .ref 70, .ref 71, .ref 72, .ref 73, .ref 74, .ref 75, .ref 76, .ref 77, .ref 78, .ref 79, .ref 80, .ref 81, .ref 82, .ref 83, .ref 84, .ref 85, .ref 86, .ref 87, .ref 88, .ref 89, .ref 90, .ref 91, .ref 92, .ref 93, .ref 94, .ref 95, .ref 96, .ref 97, .ref 98, .ref 99, .ref 100, .ref 101, .ref 102, .ref 103, .ref 104, .ref 105, .ref 106, .ref 107, .ref 108, .ref 109, .ref 110, .ref 111, .ref 112, .ref 113, .ref 114, .ref 115, .ref 116, .ref 117, .ref 118, .ref 119, .ref 120, .ref 121, .ref 122, .ref 123, .ref 124, .ref 125, .ref 126, .ref 127, .ref 128, .ref 129, .ref 130, .ref 131, .ref 132, .ref 133, .ref 134, .ref 135, .ref 136, .ref 137, .ref 138, .ref 139, .ref 140, .ref 141, .ref 142, .ref 143, .ref 144, .ref 145, .ref 146, .ref 147, .ref 148, .ref 149, .ref 150, .ref 151, .ref 152, .ref 153, .ref 154, .ref 155, .ref 156, .ref 157, .ref 158, .ref 159, .ref 160, .ref 161, .ref 162, .ref 163, .ref 164, .ref 165, .ref 166, .ref 167, .ref 168, .ref 169, .ref 170, .ref 171, .ref 172, .ref 173, .ref 174, .ref 175, .ref 176, .ref 177, .ref 178, .ref 179, .ref 180, .ref 181, .ref 182, .ref 183, .ref 184, .ref 185, .ref 186, .ref 187, .ref 188, .ref 189, .ref 190, .ref 191, .ref 192, .ref 193, .ref 194, .ref 195, .ref 196, .ref 197, .ref 198, .ref 199, .ref 200, .ref 201, .ref 202, .ref 203, .ref 204, .ref 205, .ref 206, .ref 207, .ref 208, .ref 209, .ref 210, .ref 211, .ref 212, .ref 213, .ref 214, .ref 215, .ref 216, .ref 217, .ref 218, .ref 219, .ref 220, .ref 221, .ref 222, .ref 223, .ref 224, .ref 225, .ref 226, .ref 227, .ref 228, .ref 229, .ref 230, .ref 231, .ref 232, .ref 233, .ref 234, .ref 235, .ref 236, .ref 237, .ref 238, .ref 239, .ref 240, .ref 241, .ref 242, .ref 243, .ref 244, .ref 245, .ref 246, .ref 247, .ref 248, .ref 249, .ref 250, .ref 251, .ref 252, .ref 253, .ref 254, .ref 255, .ref 256, .ref 257], vm := .none },
  { cls := 7, slots := #[.long (-128)], vm := .none },
  { cls := 7, slots := #[.long (-127)], vm := .none },
  { cls := 7, slots := #[.long (-126)], vm := .none },
  { cls := 7, slots := #[.long (-125)], vm := .none },
  { cls := 7, slots := #[.long (-124)], vm := .none },
  { cls := 7, slots := #[.long (-123)], vm := .none },
  { cls := 7, slots := #[.long (-122)], vm := .none },
  { cls := 7, slots := #[.long (-121)], vm := .none },
  { cls := 7, slots := #[.long (-120)], vm := .none },
  { cls := 7, slots := #[.long (-119)], vm := .none },
  { cls := 7, slots := #[.long (-118)], vm := .none },
  { cls := 7, slots := #[.long (-117)], vm := .none },
  { cls := 7, slots := #[.long (-116)], vm := .none },
  { cls := 7, slots := #[.long (-115)], vm := .none },
  { cls := 7, slots := #[.long (-114)], vm := .none },
  { cls := 7, slots := #[.long (-113)], vm := .none },
  { cls := 7, slots := #[.long (-112)], vm := .none },
  { cls := 7, slots := #[.long (-111)], vm := .none },
  { cls := 7, slots := #[.long (-110)], vm := .none },
  { cls := 7, slots := #[.long (-109)], vm := .none },
  { cls := 7, slots := #[.long (-108)], vm := .none },
  { cls := 7, slots := #[.long (-107)], vm := .none },
  { cls := 7, slots := #[.long (-106)], vm := .none },
  { cls := 7, slots := #[.long (-105)], vm := .none },
  { cls := 7, slots := #[.long (-104)], vm := .none },
  { cls := 7, slots := #[.long (-103)], vm := .none },
  { cls := 7, slots := #[.long (-102)], vm := .none },
  { cls := 7, slots := #[.long (-101)], vm := .none },
  { cls := 7, slots := #[.long (-100)], vm := .none },
  { cls := 7, slots := #[.long (-99)], vm := .none },
  { cls := 7, slots := #[.long (-98)], vm := .none },
  { cls := 7, slots := #[.long (-97)], vm := .none },
  { cls := 7, slots := #[.long (-96)], vm := .none },
  { cls := 7, slots := #[.long (-95)], vm := .none },
  { cls := 7, slots := #[.long (-94)], vm := .none },
  { cls := 7, slots := #[.long (-93)], vm := .none },
  { cls := 7, slots := #[.long (-92)], vm := .none },
  { cls := 7, slots := #[.long (-91)], vm := .none },
  { cls := 7, slots := #[.long (-90)], vm := .none },
  { cls := 7, slots := #[.long (-89)], vm := .none },
  { cls := 7, slots := #[.long (-88)], vm := .none },
  { cls := 7, slots := #[.long (-87)], vm := .none },
  { cls := 7, slots := #[.long (-86)], vm := .none },
  { cls := 7, slots := #[.long (-85)], vm := .none },
  { cls := 7, slots := #[.long (-84)], vm := .none },
  { cls := 7, slots := #[.long (-83)], vm := .none },
  { cls := 7, slots := #[.long (-82)], vm := .none },
  { cls := 7, slots := #[.long (-81)], vm := .none },
  { cls := 7, slots := #[.long (-80)], vm := .none },
  { cls := 7, slots := #[.long (-79)], vm := .none },
  { cls := 7, slots := #[.long (-78)], vm := .none },
  { cls := 7, slots := #[.long (-77)], vm := .none },
  { cls := 7, slots := #[.long (-76)], vm := .none },
  { cls := 7, slots := #[.long (-75)], vm := .none },
  { cls := 7, slots := #[.long (-74)], vm := .none },
  { cls := 7, slots := #[.long (-73)], vm := .none },
  { cls := 7, slots := #[.long (-72)], vm := .none },
  { cls := 7, slots := #[.long (-71)], vm := .none },
  { cls := 7, slots := #[.long (-70)], vm := .none },
  { cls := 7, slots := #[.long (-69)], vm := .none },
  { cls := 7, slots := #[.long (-68)], vm := .none },
  { cls := 7, slots := #[.long (-67)], vm := .none },
  { cls := 7, slots := #[.long (-66)], vm := .none },
  { cls := 7, slots := #[.long (-65)], vm := .none },
  { cls := 7, slots := #[.long (-64)], vm := .none },
  { cls := 7, slots := #[.long (-63)], vm := .none },
  { cls := 7, slots := #[.long (-62)], vm := .none },
  { cls := 7, slots := #[.long (-61)], vm := .none },
  { cls := 7, slots := #[.long (-60)], vm := .none },
  { cls := 7, slots := #[.long (-59)], vm := .none },
  { cls := 7, slots := #[.long (-58)], vm := .none },
  { cls := 7, slots := #[.long (-57)], vm := .none },
  { cls := 7, slots := #[.long (-56)], vm := .none },
  { cls := 7, slots := #[.long (-55)], vm := .none },
  { cls := 7, slots := #[.long (-54)], vm := .none },
  { cls := 7, slots := #[.long (-53)], vm := .none },
  { cls := 7, slots := #[.long (-52)], vm := .none },
  { cls := 7, slots := #[.long (-51)], vm := .none },
  { cls := 7, slots := #[.long (-50)], vm := .none },
  { cls := 7, slots := #[.long (-49)], vm := .none },
  { cls := 7, slots := #[.long (-48)], vm := .none },
  { cls := 7, slots := #[.long (-47)], vm := .none },
  { cls := 7, slots := #[.long (-46)], vm := .none },
  { cls := 7, slots := #[.long (-45)], vm := .none },
  { cls := 7, slots := #[.long (-44)], vm := .none },
  { cls := 7, slots := #[.long (-43)], vm := .none },
  { cls := 7, slots := #[.long (-42)], vm := .none },
  { cls := 7, slots := #[.long (-41)], vm := .none },
  { cls := 7, slots := #[.long (-40)], vm := .none },
  { cls := 7, slots := #[.long (-39)], vm := .none },
  { cls := 7, slots := #[.long (-38)], vm := .none },
  { cls := 7, slots := #[.long (-37)], vm := .none },
  { cls := 7, slots := #[.long (-36)], vm := .none },
  { cls := 7, slots := #[.long (-35)], vm := .none },
  { cls := 7, slots := #[.long (-34)], vm := .none },
  { cls := 7, slots := #[.long (-33)], vm := .none },
  { cls := 7, slots := #[.long (-32)], vm := .none },
  { cls := 7, slots := #[.long (-31)], vm := .none },
  { cls := 7, slots := #[.long (-30)], vm := .none },
  { cls := 7, slots := #[.long (-29)], vm := .none },
  { cls := 7, slots := #[.long (-28)], vm := .none },
  { cls := 7, slots := #[.long (-27)], vm := .none },
  { cls := 7, slots := #[.long (-26)], vm := .none },
  { cls := 7, slots := #[.long (-25)], vm := .none },
  { cls := 7, slots := #[.long (-24)], vm := .none },
  { cls := 7, slots := #[.long (-23)], vm := .none },
  { cls := 7, slots := #[.long (-22)], vm := .none },
  { cls := 7, slots := #[.long (-21)], vm := .none },
  { cls := 7, slots := #[.long (-20)], vm := .none },
  { cls := 7, slots := #[.long (-19)], vm := .none },
  { cls := 7, slots := #[.long (-18)], vm := .none },
  { cls := 7, slots := #[.long (-17)], vm := .none },
  { cls := 7, slots := #[.long (-16)], vm := .none },
  { cls := 7, slots := #[.long (-15)], vm := .none },
  { cls := 7, slots := #[.long (-14)], vm := .none },
  { cls := 7, slots := #[.long (-13)], vm := .none },
  { cls := 7, slots := #[.long (-12)], vm := .none },
  { cls := 7, slots := #[.long (-11)], vm := .none },
  { cls := 7, slots := #[.long (-10)], vm := .none },
  { cls := 7, slots := #[.long (-9)], vm := .none },
  { cls := 7, slots := #[.long (-8)], vm := .none },
  { cls := 7, slots := #[.long (-7)], vm := .none },
  { cls := 7, slots := #[.long (-6)], vm := .none },
  { cls := 7, slots := #[.long (-5)], vm := .none },
  { cls := 7, slots := #[.long (-4)], vm := .none },
  { cls := 7, slots := #[.long (-3)], vm := .none },
  { cls := 7, slots := #[.long (-2)], vm := .none },
  { cls := 7, slots := #[.long (-1)], vm := .none },
  { cls := 7, slots := #[.long (0)], vm := .none },
  { cls := 7, slots := #[.long (1)], vm := .none },
  { cls := 7, slots := #[.long (2)], vm := .none },
  { cls := 7, slots := #[.long (3)], vm := .none },
  { cls := 7, slots := #[.long (4)], vm := .none },
  { cls := 7, slots := #[.long (5)], vm := .none },
  { cls := 7, slots := #[.long (6)], vm := .none },
  { cls := 7, slots := #[.long (7)], vm := .none },
  { cls := 7, slots := #[.long (8)], vm := .none },
  { cls := 7, slots := #[.long (9)], vm := .none },
  { cls := 7, slots := #[.long (10)], vm := .none },
  { cls := 7, slots := #[.long (11)], vm := .none },
  { cls := 7, slots := #[.long (12)], vm := .none },
  { cls := 7, slots := #[.long (13)], vm := .none },
  { cls := 7, slots := #[.long (14)], vm := .none },
  { cls := 7, slots := #[.long (15)], vm := .none },
  { cls := 7, slots := #[.long (16)], vm := .none },
  { cls := 7, slots := #[.long (17)], vm := .none },
  { cls := 7, slots := #[.long (18)], vm := .none },
  { cls := 7, slots := #[.long (19)], vm := .none },
  { cls := 7, slots := #[.long (20)], vm := .none },
  { cls := 7, slots := #[.long (21)], vm := .none },
  { cls := 7, slots := #[.long (22)], vm := .none },
  { cls := 7, slots := #[.long (23)], vm := .none },
  { cls := 7, slots := #[.long (24)], vm := .none },
  { cls := 7, slots := #[.long (25)], vm := .none },
  { cls := 7, slots := #[.long (26)], vm := .none },
  { cls := 7, slots := #[.long (27)], vm := .none },
  { cls := 7, slots := #[.long (28)], vm := .none },
  { cls := 7, slots := #[.long (29)], vm := .none },
  { cls := 7, slots := #[.long (30)], vm := .none },
  { cls := 7, slots := #[.long (31)], vm := .none },
  { cls := 7, slots := #[.long (32)], vm := .none },
  { cls := 7, slots := #[.long (33)], vm := .none },
  { cls := 7, slots := #[.long (34)], vm := .none },
  { cls := 7, slots := #[.long (35)], vm := .none },
  { cls := 7, slots := #[.long (36)], vm := .none },
  { cls := 7, slots := #[.long (37)], vm := .none },
  { cls := 7, slots := #[.long (38)], vm := .none },
  { cls := 7, slots := #[.long (39)], vm := .none },
  { cls := 7, slots := #[.long (40)], vm := .none },
  { cls := 7, slots := #[.long (41)], vm := .none },
  { cls := 7, slots := #[.long (42)], vm := .none },
  { cls := 7, slots := #[.long (43)], vm := .none },
  { cls := 7, slots := #[.long (44)], vm := .none },
  { cls := 7, slots := #[.long (45)], vm := .none },
  { cls := 7, slots := #[.long (46)], vm := .none },
  { cls := 7, slots := #[.long (47)], vm := .none },
  { cls := 7, slots := #[.long (48)], vm := .none },
  { cls := 7, slots := #[.long (49)], vm := .none },
  { cls := 7, slots := #[.long (50)], vm := .none },
  { cls := 7, slots := #[.long (51)], vm := .none },
  { cls := 7, slots := #[.long (52)], vm := .none },
  { cls := 7, slots := #[.long (53)], vm := .none },
  { cls := 7, slots := #[.long (54)], vm := .none },
  { cls := 7, slots := #[.long (55)], vm := .none },
  { cls := 7, slots := #[.long (56)], vm := .none },
  { cls := 7, slots := #[.long (57)], vm := .none },
  { cls := 7, slots := #[.long (58)], vm := .none },
  { cls := 7, slots := #[.long (59)], vm := .none },
  { cls := 7, slots := #[.long (60)], vm := .none },
  { cls := 7, slots := #[.long (61)], vm := .none },
  { cls := 7, slots := #[.long (62)], vm := .none },
  { cls := 7, slots := #[.long (63)], vm := .none },
  { cls := 7, slots := #[.long (64)], vm := .none },
  { cls := 7, slots := #[.long (65)], vm := .none },
  { cls := 7, slots := #[.long (66)], vm := .none },
  { cls := 7, slots := #[.long (67)], vm := .none },
  { cls := 7, slots := #[.long (68)], vm := .none },
  { cls := 7, slots := #[.long (69)], vm := .none },
  { cls := 7, slots := #[.long (70)], vm := .none },
  { cls := 7, slots := #[.long (71)], vm := .none },
  { cls := 7, slots := #[.long (72)], vm := .none },
  { cls := 7, slots := #[.long (73)], vm := .none },
  { cls := 7, slots := #[.long (74)], vm := .none },
  { cls := 7, slots := #[.long (75)], vm := .none },
  { cls := 7, slots := #[.long (76)], vm := .none },
  { cls := 7, slots := #[.long (77)], vm := .none },
  { cls := 7, slots := #[.long (78)], vm := .none },
  { cls := 7, slots := #[.long (79)], vm := .none },
  { cls := 7, slots := #[.long (80)], vm := .none },
  { cls := 7, slots := #[.long (81)], vm := .none },
  { cls := 7, slots := #[.long (82)], vm := .none },
  { cls := 7, slots := #[.long (83)], vm := .none },
  { cls := 7, slots := #[.long (84)], vm := .none },
  { cls := 7, slots := #[.long (85)], vm := .none },
  { cls := 7, slots := #[.long (86)], vm := .none },
  { cls := 7, slots := #[.long (87)], vm := .none },
  { cls := 7, slots := #[.long (88)], vm := .none },
  { cls := 7, slots := #[.long (89)], vm := .none },
  { cls := 7, slots := #[.long (90)], vm := .none },
  { cls := 7, slots := #[.long (91)], vm := .none },
  { cls := 7, slots := #[.long (92)], vm := .none },
  { cls := 7, slots := #[.long (93)], vm := .none },
  { cls := 7, slots := #[.long (94)], vm := .none },
  { cls := 7, slots := #[.long (95)], vm := .none },
  { cls := 7, slots := #[.long (96)], vm := .none },
  { cls := 7, slots := #[.long (97)], vm := .none },
  { cls := 7, slots := #[.long (98)], vm := .none },
  { cls := 7, slots := #[.long (99)], vm := .none },
  { cls := 7, slots := #[.long (100)], vm := .none },
  { cls := 7, slots := #[.long (101)], vm := .none },
  { cls := 7, slots := #[.long (102)], vm := .none },
  { cls := 7, slots := #[.long (103)], vm := .none },
  { cls := 7, slots := #[.long (104)], vm := .none },
  { cls := 7, slots := #[.long (105)], vm := .none },
  { cls := 7, slots := #[.long (106)], vm := .none },
  { cls := 7, slots := #[.long (107)], vm := .none },
  { cls := 7, slots := #[.long (108)], vm := .none },
  { cls := 7, slots := #[.long (109)], vm := .none },
  { cls := 7, slots := #[.long (110)], vm := .none },
  { cls := 7, slots := #[.long (111)], vm := .none },
  { cls := 7, slots := #[.long (112)], vm := .none },
  { cls := 7, slots := #[.long (113)], vm := .none },
  { cls := 7, slots := #[.long (114)], vm := .none },
  { cls := 7, slots := #[.long (115)], vm := .none },
  { cls := 7, slots := #[.long (116)], vm := .none },
  { cls := 7, slots := #[.long (117)], vm := .none },
  { cls := 7, slots := #[.long (118)], vm := .none },
  { cls := 7, slots := #[.long (119)], vm := .none },
  { cls := 7, slots := #[.long (120)], vm := .none },
  { cls := 7, slots := #[.long (121)], vm := .none },
  { cls := 7, slots := #[.long (122)], vm := .none },
  { cls := 7, slots := #[.long (123)], vm := .none },
  { cls := 7, slots := #[.long (124)], vm := .none },
  { cls := 7, slots := #[.long (125)], vm := .none },
  { cls := 7, slots := #[.long (126)], vm := .none },
  { cls := 7, slots := #[.long (127)], vm := .none }]
def classes : Array Class := #[k0, k1, k2, k3, k4, k5, k6, k7, k8, k9, k10, k11, k12, k13, k14, k15, k16]
def interned : List (Array UInt16 × Addr) := []
def slotsUsed : Nat := 515
def theMethod : MethodId := ⟨1, 1⟩
def args0 : Array Value := #[.long 5, .long 7, .long 3, .long 11, .long 2, .int 9]
def aboutOver (below : List Frame) : State where
  vm := { classes := classes, interned := interned.toArray }
  heap := heap
  slotsUsed := slotsUsed
  threads := #[{ frames := .invoking theMethod args0 :: below }]
def below0 : List Frame := [.native { method := ⟨0, 0⟩, args := #[] }]
def about1 : State := aboutOver below0
def p0 : Program := .bare "" "" ""
def e0 : Env := launch0.env 0 0 0
theorem w_frames : about1.frames = Frame.invoking theMethod args0 :: below0 := rfl
set_option maxRecDepth 65536 in
theorem w_args : argsFit about1.vm theMethod args0 = true := by decide +kernel
set_option maxRecDepth 65536 in
theorem w_heap : heapFits about1 = true := by decide +kernel
set_option maxRecDepth 65536 in
theorem w_runnable : about1.curStatus? = some .runnable := by decide +kernel
set_option maxRecDepth 65536 in
theorem w_alone : about1.alone = true := by decide +kernel
set_option maxRecDepth 65536 in
theorem w_named : about1.methodNamed? x = some theMethod := by decide +kernel
set_option maxRecDepth 65536 in
theorem w_hears : about1.hears theMethod below0 = true := by decide +kernel
set_option maxRecDepth 65536 in
theorem w_ripe : about1.ripe theMethod args0 below0 = true := by decide +kernel
theorem w_running : about1.status = .running := rfl
set_option maxRecDepth 65536 in
theorem w_room : about1.hasRoom e0.platform room_1 = true :=
  launch0.hasRoom_least _ room_1 (by decide +kernel) (by decide +kernel) (by decide +kernel) (by decide +kernel) (by decide +kernel) (by decide +kernel)
theorem allAtoms_all (ts : List Jvm.Cond) (a : Array Jvm.Value) (st : Jvm.State) : (allAtoms ts).before a st = ts.all (fun c => c.before a st) := by
  induction ts with
  | nil => rfl
  | cons c t ih =>
    show (Jvm.Cond.and c (allAtoms t)).before a st = _
    rw [Jvm.Cond.before_and, ih, List.all_cons]
def words1 : List Jvm.Cond := Jvm.Cond.code x code maxLocals ret :: tables_1
/-- a 'code' word, met by the world's own term for the bytes: nothing is compared byte by byte -/
theorem code_word {y : MethodName} {bytes : ByteArray} {mx : Nat} {rt : Option FieldType} {a : Array Value} {s : State} {m : MethodId} {meth : Method} {c : Code} (h1 : s.methodNamed? y = some m) (h2 : s.vm.method? m = some meth) (h3 : meth.code = some c) (h4 : c.code = bytes)
    (h5 : (c.maxLocals == mx && c.exceptionTable.isEmpty && decide (c.maxStack ≤ mostOperands) && decide (meth.sig.returnType = rt) && !meth.locks && decide (parseMethodDescriptor y.desc = some meth.sig)) = true) : (Jvm.Cond.code y bytes mx rt).before a s = true := by
  simp only [Bool.and_eq_true, beq_iff_eq, Bool.not_eq_true', decide_eq_true_eq] at h5
  obtain ⟨⟨⟨⟨⟨g1, g2⟩, g3⟩, g4⟩, g5⟩, g6⟩ := h5
  simp [Cond.before, Cond.holds, Cond.value, h1, h2, h3, h4, g1, g2, g3, g4, g5, g6]
def isCode : Jvm.Cond → Bool
  | .code _ _ _ _ => true
  | _ => false
theorem all_split {L : List Jvm.Cond} {P : Jvm.Cond → Bool} (h1 : L.all (fun c => isCode c || P c) = true) (h2 : ∀ c ∈ L.filter isCode, P c = true) : L.all P = true := by
  refine List.all_eq_true.mpr fun c hc => ?_
  have h := List.all_eq_true.mp h1 c hc
  rcases Bool.eq_false_or_eq_true (isCode c) with hi | hi
  · exact h2 c (List.mem_filter.mpr ⟨hc, hi⟩)
  · simpa [hi] using h
set_option maxRecDepth 65536 in
theorem w_c0 : (Jvm.Cond.code x code maxLocals ret).before args0 about1 = true := code_word (m := ⟨1, 1⟩) (meth := k1m1) (c := k1c1) (by decide +kernel) rfl rfl rfl (by decide +kernel)
set_option maxRecDepth 65536 in
theorem w_c1 : (Jvm.Cond.code ({ cls := "java/lang/Long", name := "valueOf", desc := "(J)Ljava/lang/Long;" } : Jvm.MethodName) jdk_35_method_24_code (3 : Nat) (Option.some (Jvm.ClassFile.FieldType.object "java/lang/Long"))).before args0 about1 = true := code_word (m := ⟨7, 0⟩) (meth := k7m0) (c := k7c0) (by decide +kernel) rfl rfl rfl (by decide +kernel)
set_option maxRecDepth 65536 in
theorem w_c2 : (Jvm.Cond.code ({ cls := "com/example/redeliver/redeliver/EndpointCounters", name := "<init>", desc := "(JJJLjava/lang/Long;)V" } : Jvm.MethodName) prog_3_method_1_code (8 : Nat) (Option.none : Option Jvm.ClassFile.FieldType)).before args0 about1 = true := code_word (m := ⟨10, 0⟩) (meth := k10m0) (c := k10c0) (by decide +kernel) rfl rfl rfl (by decide +kernel)
set_option maxRecDepth 65536 in
theorem w_c3 : (Jvm.Cond.code ({ cls := "java/lang/Record", name := "<init>", desc := "()V" } : Jvm.MethodName) jdk_30_method_1_code (1 : Nat) (Option.none : Option Jvm.ClassFile.FieldType)).before args0 about1 = true := code_word (m := ⟨9, 0⟩) (meth := k9m0) (c := k9c0) (by decide +kernel) rfl rfl rfl (by decide +kernel)
set_option maxRecDepth 65536 in
theorem w_c4 : (Jvm.Cond.code ({ cls := "java/lang/Object", name := "<init>", desc := "()V" } : Jvm.MethodName) object_method_1_code (1 : Nat) (Option.none : Option Jvm.ClassFile.FieldType)).before args0 about1 = true := code_word (m := ⟨0, 0⟩) (meth := k0m0) (c := k0c0) (by decide +kernel) rfl rfl rfl (by decide +kernel)
set_option maxRecDepth 65536 in
theorem w_c5 : (Jvm.Cond.code ({ cls := "com/example/redeliver/redeliver/EndpointCounters", name := "after", desc := "(ZJ)Lcom/example/redeliver/redeliver/EndpointCounters;" } : Jvm.MethodName) prog_3_method_2_code (4 : Nat) (Option.some (Jvm.ClassFile.FieldType.object "com/example/redeliver/redeliver/EndpointCounters"))).before args0 about1 = true := code_word (m := ⟨10, 1⟩) (meth := k10m1) (c := k10c1) (by decide +kernel) rfl rfl rfl (by decide +kernel)
set_option maxRecDepth 65536 in
theorem w_c6 : (Jvm.Cond.code ({ cls := "com/example/redeliver/redeliver/EndpointCounters", name := "lastSuccessAt", desc := "()Ljava/lang/Long;" } : Jvm.MethodName) prog_3_method_10_code (1 : Nat) (Option.some (Jvm.ClassFile.FieldType.object "java/lang/Long"))).before args0 about1 = true := code_word (m := ⟨10, 5⟩) (meth := k10m5) (c := k10c5) (by decide +kernel) rfl rfl rfl (by decide +kernel)
set_option maxRecDepth 65536 in
theorem w_c7 : (Jvm.Cond.code ({ cls := "java/lang/Long", name := "longValue", desc := "()J" } : Jvm.MethodName) jdk_35_method_31_code (1 : Nat) (Option.some Jvm.ClassFile.FieldType.long)).before args0 about1 = true := code_word (m := ⟨7, 2⟩) (meth := k7m2) (c := k7c2) (by decide +kernel) rfl rfl rfl (by decide +kernel)
set_option maxRecDepth 65536 in
theorem w_c8 : (Jvm.Cond.code ({ cls := "com/example/redeliver/redeliver/EndpointCounters", name := "attempts", desc := "()J" } : Jvm.MethodName) prog_3_method_7_code (1 : Nat) (Option.some Jvm.ClassFile.FieldType.long)).before args0 about1 = true := code_word (m := ⟨10, 2⟩) (meth := k10m2) (c := k10c2) (by decide +kernel) rfl rfl rfl (by decide +kernel)
set_option maxRecDepth 65536 in
theorem w_c9 : (Jvm.Cond.code ({ cls := "com/example/redeliver/redeliver/EndpointCounters", name := "failures", desc := "()J" } : Jvm.MethodName) prog_3_method_8_code (1 : Nat) (Option.some Jvm.ClassFile.FieldType.long)).before args0 about1 = true := code_word (m := ⟨10, 3⟩) (meth := k10m3) (c := k10c3) (by decide +kernel) rfl rfl rfl (by decide +kernel)
set_option maxRecDepth 65536 in
theorem w_c10 : (Jvm.Cond.code ({ cls := "com/example/redeliver/redeliver/EndpointCounters", name := "consecutiveFailures", desc := "()J" } : Jvm.MethodName) prog_3_method_9_code (1 : Nat) (Option.some Jvm.ClassFile.FieldType.long)).before args0 about1 = true := code_word (m := ⟨10, 4⟩) (meth := k10m4) (c := k10c4) (by decide +kernel) rfl rfl rfl (by decide +kernel)
set_option maxRecDepth 65536 in
theorem w_c11 : (Jvm.Cond.code ({ cls := "java/lang/Long", name := "<init>", desc := "(J)V" } : Jvm.MethodName) jdk_35_method_26_code (3 : Nat) (Option.none : Option Jvm.ClassFile.FieldType)).before args0 about1 = true := code_word (m := ⟨7, 1⟩) (meth := k7m1) (c := k7c1) (by decide +kernel) rfl rfl rfl (by decide +kernel)
set_option maxRecDepth 65536 in
theorem w_c12 : (Jvm.Cond.code ({ cls := "java/lang/Number", name := "<init>", desc := "()V" } : Jvm.MethodName) jdk_18_method_1_code (1 : Nat) (Option.none : Option Jvm.ClassFile.FieldType)).before args0 about1 = true := code_word (m := ⟨3, 0⟩) (meth := k3m0) (c := k3c0) (by decide +kernel) rfl rfl rfl (by decide +kernel)
def codes1 : List Jvm.Cond := [Jvm.Cond.code x code maxLocals ret, Jvm.Cond.code ({ cls := "java/lang/Long", name := "valueOf", desc := "(J)Ljava/lang/Long;" } : Jvm.MethodName) jdk_35_method_24_code (3 : Nat) (Option.some (Jvm.ClassFile.FieldType.object "java/lang/Long")), Jvm.Cond.code ({ cls := "com/example/redeliver/redeliver/EndpointCounters", name := "<init>", desc := "(JJJLjava/lang/Long;)V" } : Jvm.MethodName) prog_3_method_1_code (8 : Nat) (Option.none : Option Jvm.ClassFile.FieldType), Jvm.Cond.code ({ cls := "java/lang/Record", name := "<init>", desc := "()V" } : Jvm.MethodName) jdk_30_method_1_code (1 : Nat) (Option.none : Option Jvm.ClassFile.FieldType), Jvm.Cond.code ({ cls := "java/lang/Object", name := "<init>", desc := "()V" } : Jvm.MethodName) object_method_1_code (1 : Nat) (Option.none : Option Jvm.ClassFile.FieldType), Jvm.Cond.code ({ cls := "com/example/redeliver/redeliver/EndpointCounters", name := "after", desc := "(ZJ)Lcom/example/redeliver/redeliver/EndpointCounters;" } : Jvm.MethodName) prog_3_method_2_code (4 : Nat) (Option.some (Jvm.ClassFile.FieldType.object "com/example/redeliver/redeliver/EndpointCounters")), Jvm.Cond.code ({ cls := "com/example/redeliver/redeliver/EndpointCounters", name := "lastSuccessAt", desc := "()Ljava/lang/Long;" } : Jvm.MethodName) prog_3_method_10_code (1 : Nat) (Option.some (Jvm.ClassFile.FieldType.object "java/lang/Long")), Jvm.Cond.code ({ cls := "java/lang/Long", name := "longValue", desc := "()J" } : Jvm.MethodName) jdk_35_method_31_code (1 : Nat) (Option.some Jvm.ClassFile.FieldType.long), Jvm.Cond.code ({ cls := "com/example/redeliver/redeliver/EndpointCounters", name := "attempts", desc := "()J" } : Jvm.MethodName) prog_3_method_7_code (1 : Nat) (Option.some Jvm.ClassFile.FieldType.long), Jvm.Cond.code ({ cls := "com/example/redeliver/redeliver/EndpointCounters", name := "failures", desc := "()J" } : Jvm.MethodName) prog_3_method_8_code (1 : Nat) (Option.some Jvm.ClassFile.FieldType.long), Jvm.Cond.code ({ cls := "com/example/redeliver/redeliver/EndpointCounters", name := "consecutiveFailures", desc := "()J" } : Jvm.MethodName) prog_3_method_9_code (1 : Nat) (Option.some Jvm.ClassFile.FieldType.long), Jvm.Cond.code ({ cls := "java/lang/Long", name := "<init>", desc := "(J)V" } : Jvm.MethodName) jdk_35_method_26_code (3 : Nat) (Option.none : Option Jvm.ClassFile.FieldType), Jvm.Cond.code ({ cls := "java/lang/Number", name := "<init>", desc := "()V" } : Jvm.MethodName) jdk_18_method_1_code (1 : Nat) (Option.none : Option Jvm.ClassFile.FieldType)]
set_option maxRecDepth 65536 in
theorem codes_eq : words1.filter isCode = codes1 := rfl
theorem w_codes : ∀ c ∈ words1.filter isCode, c.before args0 about1 = true := by
  rw [codes_eq]
  intro c hc
  simp only [codes1, List.mem_cons, List.not_mem_nil, or_false] at hc
  rcases hc with rfl | rfl | rfl | rfl | rfl | rfl | rfl | rfl | rfl | rfl | rfl | rfl | rfl
  · exact w_c0
  · exact w_c1
  · exact w_c2
  · exact w_c3
  · exact w_c4
  · exact w_c5
  · exact w_c6
  · exact w_c7
  · exact w_c8
  · exact w_c9
  · exact w_c10
  · exact w_c11
  · exact w_c12
set_option maxRecDepth 65536 in
theorem w_t1 : (words1.take 24).all (fun c => isCode c || c.before args0 about1) = true := by decide +kernel
set_option maxRecDepth 65536 in
theorem w_t2 : ((words1.drop 24).take 24).all (fun c => isCode c || c.before args0 about1) = true := by decide +kernel
set_option maxRecDepth 65536 in
theorem w_t3 : (((words1.drop 24).drop 24).take 24).all (fun c => isCode c || c.before args0 about1) = true := by decide +kernel
set_option maxRecDepth 65536 in
theorem w_t4 : (((words1.drop 24).drop 24).drop 24).all (fun c => isCode c || c.before args0 about1) = true := by decide +kernel
theorem w_tables : (allAtoms (Jvm.Cond.code x code maxLocals ret :: tables_1)).before args0 about1 = true := by
  rw [allAtoms_all]
  show words1.all (fun c => c.before args0 about1) = true
  refine all_split ?_ w_codes
  rw [← List.take_append_drop 24 words1, List.all_append, w_t1, ← List.take_append_drop 24 (words1.drop 24), List.all_append, w_t2, ← List.take_append_drop 24 ((words1.drop 24).drop 24), List.all_append, w_t3, w_t4]
  rfl
set_option maxRecDepth 65536 in
theorem w_rest : rest_1_c.before args0 about1 = true := by decide +kernel
set_option maxRecDepth 65536 in
theorem w_case : (Jvm.Cond.and given_1 narrow_1).before args0 about1 = true := by decide +kernel
theorem w_applies : (headSpec (Jvm.Cond.code x code maxLocals ret :: tables_1) room_1).applies x e0.platform about1 = true :=
  (Spec.applies_iff w_frames).mpr ⟨w_running, w_runnable, w_alone, w_named, w_hears, w_ripe, w_room, w_tables⟩
theorem atStart : AtStart classFile x code maxLocals ret World_1 tables_1 room_1 Calls_1 rest_1 Pre_1 launch0 p0 e0 about1 theMethod args0 below0 :=
  ⟨lists_1, trivial, launch0.admits_env _ _ _, launch0.least_env, fairChoices_fair.cas, fairChoices_fair.clock, w_frames, w_args, w_heap, w_applies, trivial, w_rest, w_case⟩
end start1
theorem witness_1 : WitnessClaimed_1 := ⟨start1.p0, start1.e0, start1.about1, start1.theMethod, start1.args0, start1.below0, start1.atStart⟩
end Jvm.Pilot.@@N@@
