import JvmDerived
import JvmDerived.Pilot.@@N@@Statement
import JvmDerived.Pilot.@@N@@Code
set_option linter.unusedVariables false
set_option linter.unusedSimpArgs false
@@BLOCK:NumsL.lean.txt@@
@@BLOCK:Masks.lean.txt@@
namespace Jvm.RoadKit
open Sem ClassFile Op Lib Jvm.Stand Jvm.Free Jvm.LawKit
section New
variable {p : Program} {l : Launch} {e : Env} {R : Room} {s : State} {m : MethodId} {args : Array Value} {below : List Frame} {meth : Method} {c : Code} {T : State} {locs : List Loc} {cells slots : Nat}
theorem retI (X : Stand p l e R s m args below meth c T locs cells slots) (hx : p.tables.exec = Jvm.exec) {pc : Nat} {Ls : Array Slot} {z : Int32} {rest : List Value} (hret : meth.sig.returnType = some .int) (hd : decode c.code pc = .ok (.ireturn, 1)) {fs : List Frame}
    (hl : ∀ (f : JFrame) (acts : List Action), f.method = m → f.locked = none → f.entered = [] → (doReturn e (T.setTop f) acts (some (.int z))).1 = T.setFrames fs) : Steps p.tables e below (T.setTop (mkF m pc Ls (.int z :: rest))) (T.setFrames fs) := by
  have hm' : T.vm.method? m = some meth := X.method'
  have hn : narrow .int (.int z) = .int z := rfl
  show Steps p.tables e below (T.setTop { method := m, pc := pc, locals := Ls, stack := _ :: rest, locked := none }) _
  jvm_step X.here [X.here.top, hx, hd, hm', hret, hn]
  first | (intro acts; rw [hl _ acts rfl rfl rfl]) | rw [hl _ _ rfl rfl rfl]
  exact Steps.refl _
end New
end Jvm.RoadKit
namespace Jvm.Pilot.@@N@@
open Jvm Jvm.ClassFile Sem Op Lib Jvm.Free Jvm.Stand Jvm.LawKit Jvm.RoadKit Bundle Jvm.Pilot.@@N@@.Jvm.D
theorem own_lrem (x y : Int64) : x - (x / y) * y = x % y := Int64.toInt_inj.mp (by rw [Jvm.Kit.i64_rem, Int64.toInt_mod])
theorem lremM {p : Program} {l : Launch} {e : Env} {R : Room} {s : State} {m : MethodId} {args : Array Value} {below : List Frame} {meth : Method} {c : Code} {T : State} {locs : List Loc} {cells slots : Nat} {g : JFrame} {target : State} (X : Stand p l e R s m args below meth c T locs cells slots) (hx : p.tables.exec = Jvm.exec) (hg : g.method = m) {x y : Int64} {rest : List Value} (hd : decode c.code g.pc = .ok (.lrem, 1)) (hs : g.stack = .long y :: .long x :: rest) (hy : y ≠ 0)
    (hr : Steps p.tables e below (T.setTop { g with pc := g.pc + 1, stack := .long (x % y) :: rest }) target) : Steps p.tables e below (T.setTop g) target := by
  exact XS.lrem X.here hx hg hd hs hy (by rw [own_lrem]; exact hr)
theorem own_eqI {args : Array Value} {s : State} {t : Jvm.Term} {n : Int32} (h : (Jvm.Cond.eq t (.int n)).value args s none s [] = some true) : t.eval args s none [] s = some (.int n) := by
  obtain ⟨x, y, hx, hy, k1, k2⟩ := cmp_v (Or.inl h)
  obtain rfl : y = .int n := Option.some.inj (hy.symm.trans (Term.int_eval n))
  obtain ⟨z, rfl⟩ := k2
  have q : z = n := by simpa [Jvm.Cond.value, hx, hy] using h
  rw [hx, q]

theorem own_dead3 (i : Int32) (h : 0 ≤ i.toInt ∧ i.toInt ≤ 2) (h0 : ¬ i = (0 : Int32)) (h1 : ¬ i = (1 : Int32)) (h2 : ¬ i = (2 : Int32)) : False := by
  rw [← Int32.toInt_inj] at h0 h1 h2
  rw [show (0 : Int32).toInt = 0 from rfl] at h0
  rw [show (1 : Int32).toInt = 1 from rfl] at h1
  rw [show (2 : Int32).toInt = 2 from rfl] at h2
  omega

theorem own_wS {Z : State} {a0 : Array Value} (hw : ∀ d ∈ tables_1, d.before a0 Z = true) : ∀ a ∈ Bundle.stringAtoms, a.before a0 Z = true := by
  intro a ha
  simp only [Bundle.stringAtoms, List.mem_cons, List.not_mem_nil, or_false] at ha
  rcases ha with rfl | rfl | rfl | rfl | rfl | rfl | rfl
  · exact (hw _ (List.mem_of_getElem? (i := 31) rfl))
  · exact (hw _ (List.mem_of_getElem? (i := 32) rfl))
  · exact (hw _ (List.mem_of_getElem? (i := 33) rfl))
  · exact (hw _ (List.mem_of_getElem? (i := 34) rfl))
  · exact (hw _ (List.mem_of_getElem? (i := 35) rfl))
  · exact (hw _ (List.mem_of_getElem? (i := 36) rfl))
  · exact (hw _ (List.mem_of_getElem? (i := 37) rfl))
theorem own_ext {h h' : Heap} (K : Keep h h' []) : Ext h h' := ⟨K.1, fun a c q => K.2.1 a c q nin0⟩


def World (Z : State) (h : Heap) (w_TRUE w_FALSE w_UNKNOWN : Addr) : Prop :=
  Sta Z h "com/example/graticule/graticule/filter/TruthValue" "TRUE" "Lcom/example/graticule/graticule/filter/TruthValue;" (.ref w_TRUE) ∧
  Sta Z h "com/example/graticule/graticule/filter/TruthValue" "FALSE" "Lcom/example/graticule/graticule/filter/TruthValue;" (.ref w_FALSE) ∧
  Sta Z h "com/example/graticule/graticule/filter/TruthValue" "UNKNOWN" "Lcom/example/graticule/graticule/filter/TruthValue;" (.ref w_UNKNOWN) ∧
  Exa Z h w_TRUE "com/example/graticule/graticule/filter/TruthValue" ∧
  Exa Z h w_FALSE "com/example/graticule/graticule/filter/TruthValue" ∧
  Exa Z h w_UNKNOWN "com/example/graticule/graticule/filter/TruthValue" ∧
  Fld Z h w_TRUE "java/lang/Enum" "ordinal" "I" (.int (0 : Int32)) ∧
  Fld Z h w_FALSE "java/lang/Enum" "ordinal" "I" (.int (1 : Int32)) ∧
  Fld Z h w_UNKNOWN "java/lang/Enum" "ordinal" "I" (.int (2 : Int32))
theorem World.ext {Z : State} {h h' : Heap} {w_TRUE w_FALSE w_UNKNOWN : Addr} (E : Ext h h') (W : World Z h w_TRUE w_FALSE w_UNKNOWN) : World Z h' w_TRUE w_FALSE w_UNKNOWN :=
  ⟨Sta.ext E W.1, Sta.ext E W.2.1, Sta.ext E W.2.2.1, Exa.ext E W.2.2.2.1, Exa.ext E W.2.2.2.2.1, Exa.ext E W.2.2.2.2.2.1, Fld.ext E W.2.2.2.2.2.2.1, Fld.ext E W.2.2.2.2.2.2.2.1, Fld.ext E W.2.2.2.2.2.2.2.2⟩
theorem d1_0 : decode prog_9_method_4_code 0 = .ok (.iload_n 0, 1) := by decide +kernel
theorem d1_1 : decode prog_9_method_4_code 1 = .ok (.ifCond .eq 9, 3) := by decide +kernel
theorem d1_4 : decode prog_9_method_4_code 4 = .ok (.getstatic 3, 3) := by decide +kernel
theorem d1_7 : decode prog_9_method_4_code 7 = .ok (.goto 6, 3) := by decide +kernel
theorem d1_10 : decode prog_9_method_4_code 10 = .ok (.getstatic 7, 3) := by decide +kernel
theorem d1_13 : decode prog_9_method_4_code 13 = .ok (.areturn, 1) := by decide +kernel
theorem pn_0 : plainName "com/example/graticule/graticule/filter/TruthValue" = true := by first | (simp [plainName, overriddenIn]; done) | decide +kernel
theorem ef_1 (m : MethodId) (x1_0 : Int32) : entryFrame m #[(.int x1_0)] 1 = mkF m 0 #[.val (.int x1_0)] [] := by first | (simp [entryFrame, mkF, argsToLocals, Value.category]; done) | rfl
def f1 (x1_0 : Int32) (w_TRUE w_FALSE w_UNKNOWN : Addr) : Addr := if x1_0 = (0 : Int32) then w_FALSE else w_TRUE
def Q1 (Z : State) (x1_0 : Int32) (w_TRUE w_FALSE w_UNKNOWN : Addr) (h0 : Heap) (n0 : Nat) (v : Option Value) (h : Heap) (L : List Loc) : Prop := v = some (.ref (f1 x1_0 w_TRUE w_FALSE w_UNKNOWN)) ∧ Fr n0 L ∧ h = h0
set_option maxRecDepth 65536 in
set_option maxHeartbeats 40000000 in
theorem rm1 (l : Launch) (Z : State) (a0 : Array Value) (hw : ∀ d ∈ tables_1, d.before a0 Z = true) (ws : List Jvm.Cond) (x1_0 : Int32) (w_TRUE w_FALSE w_UNKNOWN : Addr) (h0 : Heap) (n0 : Nat) (Z0 : n0 ≤ h0.size) (W : World Z h0 w_TRUE w_FALSE w_UNKNOWN) :
    MetFree l (⟨"com/example/graticule/graticule/filter/TruthValue", "of", "(Z)Lcom/example/graticule/graticule/filter/TruthValue;"⟩ : MethodName) (head1 (Jvm.Cond.code (⟨"com/example/graticule/graticule/filter/TruthValue", "of", "(Z)Lcom/example/graticule/graticule/filter/TruthValue;"⟩ : MethodName) prog_9_method_4_code 1 (some (.object "com/example/graticule/graticule/filter/TruthValue")) :: ws) ({ frames := 0, cells := 0, slots := 0, locals := 0 } : Room)) (fun a U => a = #[(.int x1_0)] ∧ Z.Warmed39 U.vm ∧ U.heap = h0) (fun _ _ _ _ _ => True) (fun _ U o U' => ∃ v L, o = .returned v ∧ Q1 Z x1_0 w_TRUE w_FALSE w_UNKNOWN h0 n0 v U'.heap L ∧ FrameEnd U o U' L ({ frames := 0, cells := 0, slots := 0, locals := 0 } : Room).cells ({ frames := 0, cells := 0, slots := 0, locals := 0 } : Room).slots) := by
  refine MetFree.of_bodySF (plainFor_of_name pn_0) hisR ?_
  intro p e s m args below meth c s₁ Bd hml0 hP hK
  obtain ⟨rfl, hZ, hh⟩ := hP
  have hx := Bd.exec
  have hby := Bd.bytes
  have hml : c.maxLocals = 1 := hml0
  have hown : s.vm.findClass "com/example/graticule/graticule/filter/TruthValue" = some m.cls := findClass_of_methodNamed Bd.named
  have hnm := (name_of_methodNamed Bd.named Bd.method).1
  have X0 : Stand p l e ({ frames := 0, cells := 0, slots := 0, locals := 0 } : Room) s m #[(.int x1_0)] below meth c s₁ [] 0 0 := Stand.of_body Bd
  have e0 : s₁.heap = h0 := by rw [← hh, Bd.state]; rfl
  have N0 := Fr.nil n0
  have pre0 : ∀ t, Steps p.tables e below (s₁.setTop (mkF m 0 #[.val (.int x1_0)] [])) t → Steps p.tables e below (s₁.setTop (entryFrame m #[(.int x1_0)] 1)) t := fun t k => castTop (ef_1 m x1_0) k
  have sg1 : ∀ t, Steps p.tables e below (s₁.setTop (mkF m 1 #[.val (.int x1_0)] [(.int x1_0)])) t → Steps p.tables e below (s₁.setTop (mkF m 0 #[.val (.int x1_0)] [])) t := fun t kt => by
    show Steps p.tables e below (s₁.setTop (mkF m 0 #[.val (.int x1_0)] [])) _
    refine XS.iloadN X0.here hx rfl (hb hby d1_0) rfl ?_
    exact kt
  by_cases hc1_2 : x1_0 = (0 : Int32)
  · obtain ⟨T3, X3, e3, st3⟩ := getS2 X0 hx hZ hown (host := "") (Or.inl (hw _ (List.mem_of_getElem? (i := 4) rfl))) Via.refl e0 (W.2.1) (g := (mkF m 10 #[.val (.int x1_0)] [])) rfl (hb hby d1_10)
    obtain ⟨fs, hr, hrun, hended, hW, hsame⟩ := X3.leave (v := some (.ref w_FALSE)) (fun h => by rw [Bd.returns] at h; cases h)
    refine ⟨_, _, pre0 _ (sg1 _ ?_), hrun, hended, _, _, rfl, ?_, ⟨_, rfl⟩, hW, hsame.mono (by decide) (by decide)⟩
    · show Steps p.tables e below (s₁.setTop (mkF m 1 #[.val (.int x1_0)] [(.int x1_0)])) _
      refine XS.ifYes X0.here hx rfl (pc0 := 1) (pc' := 10) rfl (hb hby d1_1) rfl ((if0 _ _).trans (teq hc1_2).1) (by decide) (by decide) ?_
      show Steps p.tables e below (s₁.setTop (mkF m 10 #[.val (.int x1_0)] [])) _
      refine st3 _ ?_
      show Steps p.tables e below (T3.setTop (mkF m 13 #[.val (.int x1_0)] [(.ref w_FALSE)])) _
      exact retOut X3 hx Bd.returns rfl (Or.inr (Or.inr (Or.inr (Or.inr ⟨rfl, rfl, rfl⟩)))) (hb hby d1_13) hr
    · exact ⟨congrArg (fun z => some (Value.ref z)) (show w_FALSE = f1 x1_0 w_TRUE w_FALSE w_UNKNOWN from by unfold f1; rw [if_pos hc1_2]), N0, e3⟩
  · obtain ⟨T4, X4, e4, st4⟩ := getS2 X0 hx hZ hown (host := "") (Or.inl (hw _ (List.mem_of_getElem? (i := 8) rfl))) Via.refl e0 (W.1) (g := (mkF m 4 #[.val (.int x1_0)] [])) rfl (hb hby d1_4)
    obtain ⟨fs, hr, hrun, hended, hW, hsame⟩ := X4.leave (v := some (.ref w_TRUE)) (fun h => by rw [Bd.returns] at h; cases h)
    refine ⟨_, _, pre0 _ (sg1 _ ?_), hrun, hended, _, _, rfl, ?_, ⟨_, rfl⟩, hW, hsame.mono (by decide) (by decide)⟩
    · show Steps p.tables e below (s₁.setTop (mkF m 1 #[.val (.int x1_0)] [(.int x1_0)])) _
      refine XS.ifNo X0.here hx rfl (hb hby d1_1) rfl ((if0 _ _).trans (feq hc1_2).1) ?_
      show Steps p.tables e below (s₁.setTop (mkF m 4 #[.val (.int x1_0)] [])) _
      refine st4 _ ?_
      show Steps p.tables e below (T4.setTop (mkF m 7 #[.val (.int x1_0)] [(.ref w_TRUE)])) _
      refine XS.goto X4.here hx rfl (pc0 := 7) (pc' := 13) rfl (hb hby d1_7) (by decide) (by decide) ?_
      show Steps p.tables e below (T4.setTop (mkF m 13 #[.val (.int x1_0)] [(.ref w_TRUE)])) _
      exact retOut X4 hx Bd.returns rfl (Or.inr (Or.inr (Or.inr (Or.inr ⟨rfl, rfl, rfl⟩)))) (hb hby d1_13) hr
    · exact ⟨congrArg (fun z => some (Value.ref z)) (show w_TRUE = f1 x1_0 w_TRUE w_FALSE w_UNKNOWN from by unfold f1; rw [if_neg hc1_2]), N0, e4⟩
theorem d3_0 : decode jdk_37_method_2_code 0 = .ok (.aload_n 0, 1) := by decide +kernel
theorem d3_1 : decode jdk_37_method_2_code 1 = .ok (.getfield 7, 3) := by decide +kernel
theorem d3_4 : decode jdk_37_method_2_code 4 = .ok (.ireturn, 1) := by decide +kernel
theorem pn_1 : plainName "java/lang/Enum" = true := by first | (simp [plainName, overriddenIn]; done) | decide +kernel
theorem ef_3 (m : MethodId) (x3_0 : Addr) : entryFrame m #[(.ref x3_0)] 1 = mkF m 0 #[.val (.ref x3_0)] [] := by first | (simp [entryFrame, mkF, argsToLocals, Value.category]; done) | rfl
def f3 (x3_0 : Addr) (w_TRUE w_FALSE w_UNKNOWN : Addr) (oi : Int32) : Int32 := oi
def Q3 (Z : State) (x3_0 : Addr) (w_TRUE w_FALSE w_UNKNOWN : Addr) (oi : Int32) (h0 : Heap) (n0 : Nat) (v : Option Value) (h : Heap) (L : List Loc) : Prop := v = some (.int (f3 x3_0 w_TRUE w_FALSE w_UNKNOWN oi)) ∧ Fr n0 L ∧ h = h0
set_option maxRecDepth 65536 in
set_option maxHeartbeats 40000000 in
theorem rm3 (l : Launch) (Z : State) (a0 : Array Value) (hw : ∀ d ∈ tables_1, d.before a0 Z = true) (ws : List Jvm.Cond) (x3_0 : Addr) (w_TRUE w_FALSE w_UNKNOWN : Addr) (oi : Int32) (h0 : Heap) (n0 : Nat) (Z0 : n0 ≤ h0.size) (W : World Z h0 w_TRUE w_FALSE w_UNKNOWN) (Ford : Fld Z h0 x3_0 "java/lang/Enum" "ordinal" "I" (.int oi)) :
    MetFree l (⟨"java/lang/Enum", "ordinal", "()I"⟩ : MethodName) (head1 (Jvm.Cond.code (⟨"java/lang/Enum", "ordinal", "()I"⟩ : MethodName) jdk_37_method_2_code 1 (some .int) :: ws) ({ frames := 0, cells := 0, slots := 0, locals := 0 } : Room)) (fun a U => a = #[(.ref x3_0)] ∧ Z.Warmed39 U.vm ∧ U.heap = h0) (fun _ _ _ _ _ => True) (fun _ U o U' => ∃ v L, o = .returned v ∧ Q3 Z x3_0 w_TRUE w_FALSE w_UNKNOWN oi h0 n0 v U'.heap L ∧ FrameEnd U o U' L ({ frames := 0, cells := 0, slots := 0, locals := 0 } : Room).cells ({ frames := 0, cells := 0, slots := 0, locals := 0 } : Room).slots) := by
  refine MetFree.of_bodySF (plainFor_of_name pn_1) hisR ?_
  intro p e s m args below meth c s₁ Bd hml0 hP hK
  obtain ⟨rfl, hZ, hh⟩ := hP
  have hx := Bd.exec
  have hby := Bd.bytes
  have hml : c.maxLocals = 1 := hml0
  have hown : s.vm.findClass "java/lang/Enum" = some m.cls := findClass_of_methodNamed Bd.named
  have hnm := (name_of_methodNamed Bd.named Bd.method).1
  have X0 : Stand p l e ({ frames := 0, cells := 0, slots := 0, locals := 0 } : Room) s m #[(.ref x3_0)] below meth c s₁ [] 0 0 := Stand.of_body Bd
  have e0 : s₁.heap = h0 := by rw [← hh, Bd.state]; rfl
  have N0 := Fr.nil n0
  have pre0 : ∀ t, Steps p.tables e below (s₁.setTop (mkF m 0 #[.val (.ref x3_0)] [])) t → Steps p.tables e below (s₁.setTop (entryFrame m #[(.ref x3_0)] 1)) t := fun t k => castTop (ef_3 m x3_0) k
  obtain ⟨T1, X1, e1, st1⟩ := getF X0 hx hZ hown (host := "") (Or.inl (hw _ (List.mem_of_getElem? (i := 23) rfl))) Via.refl e0 Ford (g := (mkF m 1 #[.val (.ref x3_0)] [(.ref x3_0)])) rfl rfl (hb hby d3_1)
  obtain ⟨fs, hr, hrun, hended, hW, hsame⟩ := X1.leave (v := some (.int oi)) (fun h => by rw [Bd.returns] at h; cases h)
  refine ⟨_, _, pre0 _ (?_), hrun, hended, _, _, rfl, ?_, ⟨_, rfl⟩, hW, hsame.mono (by decide) (by decide)⟩
  · show Steps p.tables e below (s₁.setTop (mkF m 0 #[.val (.ref x3_0)] [])) _
    refine XS.aloadN X0.here hx rfl (hb hby d3_0) rfl rfl ?_
    show Steps p.tables e below (s₁.setTop (mkF m 1 #[.val (.ref x3_0)] [(.ref x3_0)])) _
    refine st1 _ ?_
    show Steps p.tables e below (T1.setTop (mkF m 4 #[.val (.ref x3_0)] [(.int oi)])) _
    exact retI X1 hx Bd.returns (hb hby d3_4) hr
  · exact ⟨rfl, N0, e1⟩
theorem pd_0 : parseMethodDescriptor "()I" = some ⟨[], some .int⟩ := by decide +kernel
theorem d2_0 : decode prog_9_method_5_code 0 = .ok (.aload_n 0, 1) := by decide +kernel
theorem d2_1 : decode prog_9_method_5_code 1 = .ok (.invokevirtual 32, 3) := by decide +kernel
theorem d2_4 : decode prog_9_method_5_code 4 = .ok (.tableswitch 28 0 2 #[38, 44, 50], 28) := by decide +kernel
theorem d2_42 : decode prog_9_method_5_code 42 = .ok (.getstatic 7, 3) := by decide +kernel
theorem d2_45 : decode prog_9_method_5_code 45 = .ok (.goto 12, 3) := by decide +kernel
theorem d2_48 : decode prog_9_method_5_code 48 = .ok (.getstatic 3, 3) := by decide +kernel
theorem d2_51 : decode prog_9_method_5_code 51 = .ok (.goto 6, 3) := by decide +kernel
theorem d2_54 : decode prog_9_method_5_code 54 = .ok (.getstatic 10, 3) := by decide +kernel
theorem d2_57 : decode prog_9_method_5_code 57 = .ok (.areturn, 1) := by decide +kernel
theorem ef_2 (m : MethodId) (x2_0 : Addr) : entryFrame m #[(.ref x2_0)] 1 = mkF m 0 #[.val (.ref x2_0)] [] := by first | (simp [entryFrame, mkF, argsToLocals, Value.category]; done) | rfl
def f2 (x2_0 : Addr) (w_TRUE w_FALSE w_UNKNOWN : Addr) (oi : Int32) : Addr := if oi = (0 : Int32) then w_FALSE else if oi = (1 : Int32) then w_TRUE else if oi = (2 : Int32) then w_UNKNOWN else default
def Q2 (Z : State) (x2_0 : Addr) (w_TRUE w_FALSE w_UNKNOWN : Addr) (oi : Int32) (h0 : Heap) (n0 : Nat) (v : Option Value) (h : Heap) (L : List Loc) : Prop := v = some (.ref (f2 x2_0 w_TRUE w_FALSE w_UNKNOWN oi)) ∧ Fr n0 L ∧ h = h0
set_option maxRecDepth 65536 in
set_option maxHeartbeats 40000000 in
theorem rm2 (l : Launch) (Z : State) (a0 : Array Value) (hw : ∀ d ∈ tables_1, d.before a0 Z = true) (ws : List Jvm.Cond) (x2_0 : Addr) (w_TRUE w_FALSE w_UNKNOWN : Addr) (oi : Int32) (h0 : Heap) (n0 : Nat) (Z0 : n0 ≤ h0.size) (W : World Z h0 w_TRUE w_FALSE w_UNKNOWN) (Ford : Fld Z h0 x2_0 "java/lang/Enum" "ordinal" "I" (.int oi)) (Exa0 : Exa Z h0 x2_0 "com/example/graticule/graticule/filter/TruthValue") (hoi : 0 ≤ oi.toInt ∧ oi.toInt ≤ 2) :
    MetFree l (⟨"com/example/graticule/graticule/filter/TruthValue", "not", "()Lcom/example/graticule/graticule/filter/TruthValue;"⟩ : MethodName) (head1 (Jvm.Cond.code (⟨"com/example/graticule/graticule/filter/TruthValue", "not", "()Lcom/example/graticule/graticule/filter/TruthValue;"⟩ : MethodName) prog_9_method_5_code 1 (some (.object "com/example/graticule/graticule/filter/TruthValue")) :: ws) ({ frames := 1, cells := 0, slots := 0, locals := 12 } : Room)) (fun a U => a = #[(.ref x2_0)] ∧ Z.Warmed39 U.vm ∧ U.heap = h0) (fun _ _ _ _ _ => True) (fun _ U o U' => ∃ v L, o = .returned v ∧ Q2 Z x2_0 w_TRUE w_FALSE w_UNKNOWN oi h0 n0 v U'.heap L ∧ FrameEnd U o U' L ({ frames := 1, cells := 0, slots := 0, locals := 12 } : Room).cells ({ frames := 1, cells := 0, slots := 0, locals := 12 } : Room).slots) := by
  refine MetFree.of_bodySF (plainFor_of_name pn_0) hisR ?_
  intro p e s m args below meth c s₁ Bd hml0 hP hK
  obtain ⟨rfl, hZ, hh⟩ := hP
  have hx := Bd.exec
  have hby := Bd.bytes
  have hml : c.maxLocals = 1 := hml0
  have hown : s.vm.findClass "com/example/graticule/graticule/filter/TruthValue" = some m.cls := findClass_of_methodNamed Bd.named
  have hnm := (name_of_methodNamed Bd.named Bd.method).1
  have X0 : Stand p l e ({ frames := 1, cells := 0, slots := 0, locals := 12 } : Room) s m #[(.ref x2_0)] below meth c s₁ [] 0 0 := Stand.of_body Bd
  have e0 : s₁.heap = h0 := by rw [← hh, Bd.state]; rfl
  have N0 := Fr.nil n0
  have pre0 : ∀ t, Steps p.tables e below (s₁.setTop (mkF m 0 #[.val (.ref x2_0)] [])) t → Steps p.tables e below (s₁.setTop (entryFrame m #[(.ref x2_0)] 1)) t := fun t k => castTop (ef_2 m x2_0) k
  have sg2 : ∀ t, Steps p.tables e below (s₁.setTop (mkF m 1 #[.val (.ref x2_0)] [(.ref x2_0)])) t → Steps p.tables e below (s₁.setTop (mkF m 0 #[.val (.ref x2_0)] [])) t := fun t kt => by
    show Steps p.tables e below (s₁.setTop (mkF m 0 #[.val (.ref x2_0)] [])) _
    refine XS.aloadN X0.here hx rfl (hb hby d2_0) rfl rfl ?_
    exact kt
  obtain ⟨cq1, kq1, q1a, q1b, q1c⟩ := isOf hZ e0 Exa0
  obtain ⟨v1, _, ⟨T1, L1, k1, n1⟩, -, X1, ⟨Lc1, hQ1, l1, y1, z1⟩, st1⟩ := X0.virtualBackUp hx (owner := "java/lang/Enum") (x := (⟨"com/example/graticule/graticule/filter/TruthValue", "ordinal", "()I"⟩ : MethodName)) (y := (⟨"java/lang/Enum", "ordinal", "()I"⟩ : MethodName)) hown (mvT hZ (hw _ (List.mem_of_getElem? (i := 16) rfl))) (mvT hZ (hw _ (List.mem_of_getElem? (i := 17) rfl))) (mvT hZ (hw _ (List.mem_of_getElem? (i := 18) rfl))) (by decide) (mvT hZ (hw _ (List.mem_of_getElem? (i := 20) rfl))) (mvT hZ (hw _ (List.mem_of_getElem? (i := 19) rfl))) (backOf (W := 0) (rm3 l Z a0 hw [] x2_0 w_TRUE w_FALSE w_UNKNOWN oi h0 n0 Z0 W Ford) hZ (hw _ (List.mem_of_getElem? (i := 22) rfl)) (hw _ (List.mem_of_getElem? (i := 21) rfl)) (by decide) (by decide)) q1a q1c (g := (mkF m 1 #[.val (.ref x2_0)] [(.ref x2_0)])) rfl (by rw [hml]; rfl) (Steps.refl _) (argsL := []) (rest := []) (lenOf pd_0 rfl) rfl (by show 2 * 0 + _ ≤ _; exact Nat.le_of_eq rfl) (hb hby d2_1) (fun _ _ => ⟨rfl, e0, (by decide : 0 + 0 ≤ _), (by decide : 0 + 0 ≤ _)⟩)
  dsimp only [Pt.U, Pt.locs, Pt.cells, Pt.slots] at X1 l1 y1 z1 st1 hQ1
  subst l1 y1 z1
  obtain ⟨hv1, N1q, e1⟩ := hQ1
  have N1 := Fr.app N0 N1q
  have hf1 : f3 x2_0 w_TRUE w_FALSE w_UNKNOWN oi = oi := rfl
  rw [hf1] at hv1
  subst hv1
  have sg3 : ∀ t, Steps p.tables e below (T1.setTop (mkF m 4 #[.val (.ref x2_0)] [(.int oi)])) t → Steps p.tables e below (s₁.setTop (mkF m 1 #[.val (.ref x2_0)] [(.ref x2_0)])) t := fun t kt => by
    show Steps p.tables e below (s₁.setTop (mkF m 1 #[.val (.ref x2_0)] [(.ref x2_0)])) _
    refine st1.trans ?_
    exact kt
  by_cases hc4_4 : oi = (0 : Int32)
  · obtain ⟨T5, X5, e5, st5⟩ := getS2 X1 hx hZ hown (host := "") (Or.inl (hw _ (List.mem_of_getElem? (i := 4) rfl))) Via.refl e1 (W.2.1) (g := (mkF m 42 #[.val (.ref x2_0)] [])) rfl (hb hby d2_42)
    obtain ⟨fs, hr, hrun, hended, hW, hsame⟩ := X5.leave (v := some (.ref w_FALSE)) (fun h => by rw [Bd.returns] at h; cases h)
    refine ⟨_, _, pre0 _ (sg2 _ (sg3 _ ?_)), hrun, hended, _, _, rfl, ?_, ⟨_, rfl⟩, hW, hsame.mono (by decide) (by decide)⟩
    · show Steps p.tables e below (T1.setTop (mkF m 4 #[.val (.ref x2_0)] [(.int oi)])) _
      refine XS.tswIn X1.here hx rfl (pc0 := 4) (pc' := 42) rfl (hb hby d2_4) rfl (by rw [hc4_4]; decide) (by rw [hc4_4]; rfl) (by decide) (by decide) ?_
      show Steps p.tables e below (T1.setTop (mkF m 42 #[.val (.ref x2_0)] [])) _
      refine st5 _ ?_
      show Steps p.tables e below (T5.setTop (mkF m 45 #[.val (.ref x2_0)] [(.ref w_FALSE)])) _
      refine XS.goto X5.here hx rfl (pc0 := 45) (pc' := 57) rfl (hb hby d2_45) (by decide) (by decide) ?_
      show Steps p.tables e below (T5.setTop (mkF m 57 #[.val (.ref x2_0)] [(.ref w_FALSE)])) _
      exact retOut X5 hx Bd.returns rfl (Or.inr (Or.inr (Or.inr (Or.inr ⟨rfl, rfl, rfl⟩)))) (hb hby d2_57) hr
    · exact ⟨congrArg (fun z => some (Value.ref z)) (show w_FALSE = f2 x2_0 w_TRUE w_FALSE w_UNKNOWN oi from by unfold f2; rw [if_pos hc4_4]), N1, e5⟩
  · by_cases hc4_6 : oi = (1 : Int32)
    · obtain ⟨T7, X7, e7, st7⟩ := getS2 X1 hx hZ hown (host := "") (Or.inl (hw _ (List.mem_of_getElem? (i := 8) rfl))) Via.refl e1 (W.1) (g := (mkF m 48 #[.val (.ref x2_0)] [])) rfl (hb hby d2_48)
      obtain ⟨fs, hr, hrun, hended, hW, hsame⟩ := X7.leave (v := some (.ref w_TRUE)) (fun h => by rw [Bd.returns] at h; cases h)
      refine ⟨_, _, pre0 _ (sg2 _ (sg3 _ ?_)), hrun, hended, _, _, rfl, ?_, ⟨_, rfl⟩, hW, hsame.mono (by decide) (by decide)⟩
      · show Steps p.tables e below (T1.setTop (mkF m 4 #[.val (.ref x2_0)] [(.int oi)])) _
        refine XS.tswIn X1.here hx rfl (pc0 := 4) (pc' := 48) rfl (hb hby d2_4) rfl (by rw [hc4_6]; decide) (by rw [hc4_6]; rfl) (by decide) (by decide) ?_
        show Steps p.tables e below (T1.setTop (mkF m 48 #[.val (.ref x2_0)] [])) _
        refine st7 _ ?_
        show Steps p.tables e below (T7.setTop (mkF m 51 #[.val (.ref x2_0)] [(.ref w_TRUE)])) _
        refine XS.goto X7.here hx rfl (pc0 := 51) (pc' := 57) rfl (hb hby d2_51) (by decide) (by decide) ?_
        show Steps p.tables e below (T7.setTop (mkF m 57 #[.val (.ref x2_0)] [(.ref w_TRUE)])) _
        exact retOut X7 hx Bd.returns rfl (Or.inr (Or.inr (Or.inr (Or.inr ⟨rfl, rfl, rfl⟩)))) (hb hby d2_57) hr
      · exact ⟨congrArg (fun z => some (Value.ref z)) (show w_TRUE = f2 x2_0 w_TRUE w_FALSE w_UNKNOWN oi from by unfold f2; rw [if_neg hc4_4, if_pos hc4_6]), N1, e7⟩
    · by_cases hc4_8 : oi = (2 : Int32)
      · obtain ⟨T9, X9, e9, st9⟩ := getS2 X1 hx hZ hown (host := "") (Or.inl (hw _ (List.mem_of_getElem? (i := 47) rfl))) Via.refl e1 (W.2.2.1) (g := (mkF m 54 #[.val (.ref x2_0)] [])) rfl (hb hby d2_54)
        obtain ⟨fs, hr, hrun, hended, hW, hsame⟩ := X9.leave (v := some (.ref w_UNKNOWN)) (fun h => by rw [Bd.returns] at h; cases h)
        refine ⟨_, _, pre0 _ (sg2 _ (sg3 _ ?_)), hrun, hended, _, _, rfl, ?_, ⟨_, rfl⟩, hW, hsame.mono (by decide) (by decide)⟩
        · show Steps p.tables e below (T1.setTop (mkF m 4 #[.val (.ref x2_0)] [(.int oi)])) _
          refine XS.tswIn X1.here hx rfl (pc0 := 4) (pc' := 54) rfl (hb hby d2_4) rfl (by rw [hc4_8]; decide) (by rw [hc4_8]; rfl) (by decide) (by decide) ?_
          show Steps p.tables e below (T1.setTop (mkF m 54 #[.val (.ref x2_0)] [])) _
          refine st9 _ ?_
          show Steps p.tables e below (T9.setTop (mkF m 57 #[.val (.ref x2_0)] [(.ref w_UNKNOWN)])) _
          exact retOut X9 hx Bd.returns rfl (Or.inr (Or.inr (Or.inr (Or.inr ⟨rfl, rfl, rfl⟩)))) (hb hby d2_57) hr
        · exact ⟨congrArg (fun z => some (Value.ref z)) (show w_UNKNOWN = f2 x2_0 w_TRUE w_FALSE w_UNKNOWN oi from by unfold f2; rw [if_neg hc4_4, if_neg hc4_6, if_pos hc4_8]), N1, e9⟩
      · exact (own_dead3 oi hoi hc4_4 hc4_6 hc4_8).elim
theorem d5_0 : decode jdk_31_method_11_code 0 = .ok (.aload_n 0, 1) := by decide +kernel
theorem d5_1 : decode jdk_31_method_11_code 1 = .ok (.ifnonnull 12, 3) := by decide +kernel
theorem d5_13 : decode jdk_31_method_11_code 13 = .ok (.aload_n 0, 1) := by decide +kernel
theorem d5_14 : decode jdk_31_method_11_code 14 = .ok (.areturn, 1) := by decide +kernel
theorem pn_2 : plainName "java/util/Objects" = true := by first | (simp [plainName, overriddenIn]; done) | decide +kernel
theorem ef_5 (m : MethodId) (x5_0 : Addr) (x5_1 : Addr) : entryFrame m #[(.ref x5_0), (.ref x5_1)] 2 = mkF m 0 #[.val (.ref x5_0), .val (.ref x5_1)] [] := by first | (simp [entryFrame, mkF, argsToLocals, Value.category]; done) | rfl
def f5 (x5_0 : Addr) (x5_1 : Addr) (w_TRUE w_FALSE w_UNKNOWN : Addr) : Addr := x5_0
def Q5 (Z : State) (x5_0 : Addr) (x5_1 : Addr) (w_TRUE w_FALSE w_UNKNOWN : Addr) (h0 : Heap) (n0 : Nat) (v : Option Value) (h : Heap) (L : List Loc) : Prop := v = some (.ref (f5 x5_0 x5_1 w_TRUE w_FALSE w_UNKNOWN)) ∧ Fr n0 L ∧ h = h0
set_option maxRecDepth 65536 in
set_option maxHeartbeats 40000000 in
theorem rm5 (l : Launch) (Z : State) (a0 : Array Value) (hw : ∀ d ∈ tables_1, d.before a0 Z = true) (ws : List Jvm.Cond) (x5_0 : Addr) (x5_1 : Addr) (w_TRUE w_FALSE w_UNKNOWN : Addr) (h0 : Heap) (n0 : Nat) (Z0 : n0 ≤ h0.size) (W : World Z h0 w_TRUE w_FALSE w_UNKNOWN) :
    MetFree l (⟨"java/util/Objects", "requireNonNull", "(Ljava/lang/Object;Ljava/lang/String;)Ljava/lang/Object;"⟩ : MethodName) (head1 (Jvm.Cond.code (⟨"java/util/Objects", "requireNonNull", "(Ljava/lang/Object;Ljava/lang/String;)Ljava/lang/Object;"⟩ : MethodName) jdk_31_method_11_code 2 (some (.object "java/lang/Object")) :: ws) ({ frames := 0, cells := 0, slots := 0, locals := 0 } : Room)) (fun a U => a = #[(.ref x5_0), (.ref x5_1)] ∧ Z.Warmed39 U.vm ∧ U.heap = h0) (fun _ _ _ _ _ => True) (fun _ U o U' => ∃ v L, o = .returned v ∧ Q5 Z x5_0 x5_1 w_TRUE w_FALSE w_UNKNOWN h0 n0 v U'.heap L ∧ FrameEnd U o U' L ({ frames := 0, cells := 0, slots := 0, locals := 0 } : Room).cells ({ frames := 0, cells := 0, slots := 0, locals := 0 } : Room).slots) := by
  refine MetFree.of_bodySF (plainFor_of_name pn_2) hisR ?_
  intro p e s m args below meth c s₁ Bd hml0 hP hK
  obtain ⟨rfl, hZ, hh⟩ := hP
  have hx := Bd.exec
  have hby := Bd.bytes
  have hml : c.maxLocals = 2 := hml0
  have hown : s.vm.findClass "java/util/Objects" = some m.cls := findClass_of_methodNamed Bd.named
  have hnm := (name_of_methodNamed Bd.named Bd.method).1
  have X0 : Stand p l e ({ frames := 0, cells := 0, slots := 0, locals := 0 } : Room) s m #[(.ref x5_0), (.ref x5_1)] below meth c s₁ [] 0 0 := Stand.of_body Bd
  have e0 : s₁.heap = h0 := by rw [← hh, Bd.state]; rfl
  have N0 := Fr.nil n0
  have pre0 : ∀ t, Steps p.tables e below (s₁.setTop (mkF m 0 #[.val (.ref x5_0), .val (.ref x5_1)] [])) t → Steps p.tables e below (s₁.setTop (entryFrame m #[(.ref x5_0), (.ref x5_1)] 2)) t := fun t k => castTop (ef_5 m x5_0 x5_1) k
  obtain ⟨fs, hr, hrun, hended, hW, hsame⟩ := X0.leave (v := some (.ref x5_0)) (fun h => by rw [Bd.returns] at h; cases h)
  refine ⟨_, _, pre0 _ (?_), hrun, hended, _, _, rfl, ?_, ⟨_, rfl⟩, hW, hsame.mono (by decide) (by decide)⟩
  · show Steps p.tables e below (s₁.setTop (mkF m 0 #[.val (.ref x5_0), .val (.ref x5_1)] [])) _
    refine XS.aloadN X0.here hx rfl (hb hby d5_0) rfl rfl ?_
    show Steps p.tables e below (s₁.setTop (mkF m 1 #[.val (.ref x5_0), .val (.ref x5_1)] [(.ref x5_0)])) _
    refine XS.ifnonnullYes X0.here hx rfl (pc0 := 1) (pc' := 13) rfl (hb hby d5_1) rfl (by decide) (by decide) ?_
    show Steps p.tables e below (s₁.setTop (mkF m 13 #[.val (.ref x5_0), .val (.ref x5_1)] [])) _
    refine XS.aloadN X0.here hx rfl (hb hby d5_13) rfl rfl ?_
    show Steps p.tables e below (s₁.setTop (mkF m 14 #[.val (.ref x5_0), .val (.ref x5_1)] [(.ref x5_0)])) _
    exact retOut X0 hx Bd.returns rfl (Or.inr (Or.inr (Or.inr (Or.inr ⟨rfl, rfl, rfl⟩)))) (hb hby d5_14) hr
  · exact ⟨rfl, N0, e0⟩
theorem pd_1 : parseMethodDescriptor "(Ljava/lang/Object;Ljava/lang/String;)Ljava/lang/Object;" = some ⟨[(.object "java/lang/Object"), (.object "java/lang/String")], some (.object "java/lang/Object")⟩ := by decide +kernel
theorem d4_0 : decode prog_9_method_6_code 0 = .ok (.aload_n 1, 1) := by decide +kernel
theorem d4_1 : decode prog_9_method_6_code 1 = .ok (.ldc 41, 2) := by decide +kernel
theorem d4_3 : decode prog_9_method_6_code 3 = .ok (.invokestatic 43, 3) := by decide +kernel
theorem d4_6 : decode prog_9_method_6_code 6 = .ok (.pop, 1) := by decide +kernel
theorem d4_7 : decode prog_9_method_6_code 7 = .ok (.aload_n 0, 1) := by decide +kernel
theorem d4_8 : decode prog_9_method_6_code 8 = .ok (.getstatic 7, 3) := by decide +kernel
theorem d4_11 : decode prog_9_method_6_code 11 = .ok (.if_acmp .eq 10, 3) := by decide +kernel
theorem d4_14 : decode prog_9_method_6_code 14 = .ok (.aload_n 1, 1) := by decide +kernel
theorem d4_15 : decode prog_9_method_6_code 15 = .ok (.getstatic 7, 3) := by decide +kernel
theorem d4_18 : decode prog_9_method_6_code 18 = .ok (.if_acmp .ne 7, 3) := by decide +kernel
theorem d4_21 : decode prog_9_method_6_code 21 = .ok (.getstatic 7, 3) := by decide +kernel
theorem d4_24 : decode prog_9_method_6_code 24 = .ok (.areturn, 1) := by decide +kernel
theorem d4_25 : decode prog_9_method_6_code 25 = .ok (.aload_n 0, 1) := by decide +kernel
theorem d4_26 : decode prog_9_method_6_code 26 = .ok (.getstatic 10, 3) := by decide +kernel
theorem d4_29 : decode prog_9_method_6_code 29 = .ok (.if_acmp .eq 10, 3) := by decide +kernel
theorem d4_32 : decode prog_9_method_6_code 32 = .ok (.aload_n 1, 1) := by decide +kernel
theorem d4_33 : decode prog_9_method_6_code 33 = .ok (.getstatic 10, 3) := by decide +kernel
theorem d4_36 : decode prog_9_method_6_code 36 = .ok (.if_acmp .ne 9, 3) := by decide +kernel
theorem d4_39 : decode prog_9_method_6_code 39 = .ok (.getstatic 10, 3) := by decide +kernel
theorem d4_42 : decode prog_9_method_6_code 42 = .ok (.goto 6, 3) := by decide +kernel
theorem d4_45 : decode prog_9_method_6_code 45 = .ok (.getstatic 3, 3) := by decide +kernel
theorem d4_48 : decode prog_9_method_6_code 48 = .ok (.areturn, 1) := by decide +kernel
theorem ef_4 (m : MethodId) (x4_0 : Addr) (x4_1 : Addr) : entryFrame m #[(.ref x4_0), (.ref x4_1)] 2 = mkF m 0 #[.val (.ref x4_0), .val (.ref x4_1)] [] := by first | (simp [entryFrame, mkF, argsToLocals, Value.category]; done) | rfl
def f4 (x4_0 : Addr) (x4_1 : Addr) (w_TRUE w_FALSE w_UNKNOWN : Addr) : Addr := if x4_0 = w_FALSE then w_FALSE else if x4_1 = w_FALSE then w_FALSE else if x4_0 = w_UNKNOWN then w_UNKNOWN else if x4_1 = w_UNKNOWN then w_UNKNOWN else w_TRUE
def Q4 (Z : State) (x4_0 : Addr) (x4_1 : Addr) (w_TRUE w_FALSE w_UNKNOWN : Addr) (h0 : Heap) (n0 : Nat) (v : Option Value) (h : Heap) (L : List Loc) : Prop := v = some (.ref (f4 x4_0 x4_1 w_TRUE w_FALSE w_UNKNOWN)) ∧ Fr n0 L ∧ Keep h0 h []
set_option maxRecDepth 65536 in
set_option maxHeartbeats 40000000 in
theorem rm4 (l : Launch) (Z : State) (a0 : Array Value) (hw : ∀ d ∈ tables_1, d.before a0 Z = true) (ws : List Jvm.Cond) (x4_0 : Addr) (x4_1 : Addr) (w_TRUE w_FALSE w_UNKNOWN : Addr) (h0 : Heap) (n0 : Nat) (Z0 : n0 ≤ h0.size) (W : World Z h0 w_TRUE w_FALSE w_UNKNOWN) :
    MetFree l (⟨"com/example/graticule/graticule/filter/TruthValue", "and", "(Lcom/example/graticule/graticule/filter/TruthValue;)Lcom/example/graticule/graticule/filter/TruthValue;"⟩ : MethodName) (head1 (Jvm.Cond.code (⟨"com/example/graticule/graticule/filter/TruthValue", "and", "(Lcom/example/graticule/graticule/filter/TruthValue;)Lcom/example/graticule/graticule/filter/TruthValue;"⟩ : MethodName) prog_9_method_6_code 2 (some (.object "com/example/graticule/graticule/filter/TruthValue")) :: ws) ({ frames := 1, cells := 2, slots := 24, locals := 13 } : Room)) (fun a U => a = #[(.ref x4_0), (.ref x4_1)] ∧ Z.Warmed39 U.vm ∧ U.heap = h0) (fun _ _ _ _ _ => True) (fun _ U o U' => ∃ v L, o = .returned v ∧ Q4 Z x4_0 x4_1 w_TRUE w_FALSE w_UNKNOWN h0 n0 v U'.heap L ∧ ReturnedEndW U o U' L ({ frames := 1, cells := 2, slots := 24, locals := 13 } : Room).cells ({ frames := 1, cells := 2, slots := 24, locals := 13 } : Room).slots) := by
  refine MetFree.of_bodySF (plainFor_of_name pn_0) hisR ?_
  intro p e s m args below meth c s₁ Bd hml0 hP hK
  obtain ⟨rfl, hZ, hh⟩ := hP
  have hx := Bd.exec
  have hby := Bd.bytes
  have hml : c.maxLocals = 2 := hml0
  have hown : s.vm.findClass "com/example/graticule/graticule/filter/TruthValue" = some m.cls := findClass_of_methodNamed Bd.named
  have hnm := (name_of_methodNamed Bd.named Bd.method).1
  have X0 : Stand p l e ({ frames := 1, cells := 2, slots := 24, locals := 13 } : Room) s m #[(.ref x4_0), (.ref x4_1)] below meth c s₁ [] 0 0 := Stand.of_body Bd
  have e0 : s₁.heap = h0 := by rw [← hh, Bd.state]; rfl
  have N0 := Fr.nil n0
  have pre0 : ∀ t, Steps p.tables e below (s₁.setTop (mkF m 0 #[.val (.ref x4_0), .val (.ref x4_1)] [])) t → Steps p.tables e below (s₁.setTop (entryFrame m #[(.ref x4_0), (.ref x4_1)] 2)) t := fun t k => castTop (ef_4 m x4_0 x4_1) k
  have hS0 : s.Since s.vm h0.size := (State.WarmedH.refl s).since _
  have hk0 : h0.size ≤ h0.size := Nat.le_refl _
  have sg1 : ∀ t, Steps p.tables e below (s₁.setTop (mkF m 1 #[.val (.ref x4_0), .val (.ref x4_1)] [(.ref x4_1)])) t → Steps p.tables e below (s₁.setTop (mkF m 0 #[.val (.ref x4_0), .val (.ref x4_1)] [])) t := fun t kt => by
    show Steps p.tables e below (s₁.setTop (mkF m 0 #[.val (.ref x4_0), .val (.ref x4_1)] [])) _
    refine XS.aloadN X0.here hx rfl (hb hby d4_0) rfl rfl ?_
    exact kt
  obtain ⟨a2, T2, h2, k2, X2, e2, E2, hS2, hk2, hZ, hown, st2⟩ := ldcS (s := s) (vm0 := s.vm) X0 hx hZ hown (hw _ (List.mem_of_getElem? (i := 30) rfl)) (own_wS hw) e0 hS0 hk0 (g := (mkF m 1 #[.val (.ref x4_0), .val (.ref x4_1)] [(.ref x4_1)])) rfl (hb hby d4_1) (n := 20) (by decide) (by decide) (by decide) (by decide)
  have Zs2 : n0 ≤ h2.size := Nat.le_trans Z0 E2.1
  have KC2 : Keep h0 h2 [] := (Keep.refl h0 []).ext E2
  have sg4 : ∀ t, Steps p.tables e below (T2.setTop (mkF m 3 #[.val (.ref x4_0), .val (.ref x4_1)] [(.ref a2), (.ref x4_1)])) t → Steps p.tables e below (s₁.setTop (mkF m 1 #[.val (.ref x4_0), .val (.ref x4_1)] [(.ref x4_1)])) t := fun t kt => by
    show Steps p.tables e below (s₁.setTop (mkF m 1 #[.val (.ref x4_0), .val (.ref x4_1)] [(.ref x4_1)])) _
    refine st2 _ ?_
    exact kt
  obtain ⟨v3, _, ⟨T3, L3, k3, n3⟩, -, X3, ⟨Lc3, hQ3, l3, y3, z3⟩, st3⟩ := Jvm.LawKit.callS X2 hx (y := (⟨"java/util/Objects", "requireNonNull", "(Ljava/lang/Object;Ljava/lang/String;)Ljava/lang/Object;"⟩ : MethodName)) hown (mvT hZ (hw _ (List.mem_of_getElem? (i := 38) rfl))) (mvT hZ (hw _ (List.mem_of_getElem? (i := 39) rfl))) (mvT hZ (hw _ (List.mem_of_getElem? (i := 40) rfl))) (mvT hZ (hw _ (List.mem_of_getElem? (i := 41) rfl))) (by decide) (backOf (W := 0) (rm5 l Z a0 hw [] x4_1 a2 w_TRUE w_FALSE w_UNKNOWN h2 n0 Zs2 (World.ext (own_ext KC2) W)) hZ (hw _ (List.mem_of_getElem? (i := 41) rfl)) (hw _ (List.mem_of_getElem? (i := 40) rfl)) (by decide) (by decide)) (g := (mkF m 3 #[.val (.ref x4_0), .val (.ref x4_1)] [(.ref a2), (.ref x4_1)])) rfl (by rw [hml]; rfl) (argsL := [(.ref x4_1), (.ref a2)]) (rest := []) (lenOf pd_1 rfl) rfl (by show 2 * 0 + _ ≤ _; exact Nat.le_of_eq rfl) (hb hby d4_3) (fun _ _ => ⟨rfl, e2, (by decide : 2 + 0 ≤ _), (by decide : 24 + 0 ≤ _)⟩)
  dsimp only [Pt.U, Pt.locs, Pt.cells, Pt.slots] at X3 l3 y3 z3 st3 hQ3
  subst l3 y3 z3
  obtain ⟨hv3, N3q, e3⟩ := hQ3
  have N3 := Fr.app N0 N3q
  have hf3 : f5 x4_1 a2 w_TRUE w_FALSE w_UNKNOWN = x4_1 := rfl
  rw [hf3] at hv3
  subst hv3
  obtain ⟨T5, X5, e5, st5⟩ := getS2 X3 hx hZ hown (host := "") (Or.inl (hw _ (List.mem_of_getElem? (i := 4) rfl))) Via.refl e3 ((World.ext (own_ext KC2) W).2.1) (g := (mkF m 8 #[.val (.ref x4_0), .val (.ref x4_1)] [(.ref x4_0)])) rfl (hb hby d4_8)
  have sg6 : ∀ t, Steps p.tables e below (T5.setTop (mkF m 11 #[.val (.ref x4_0), .val (.ref x4_1)] [(.ref w_FALSE), (.ref x4_0)])) t → Steps p.tables e below (T2.setTop (mkF m 3 #[.val (.ref x4_0), .val (.ref x4_1)] [(.ref a2), (.ref x4_1)])) t := fun t kt => by
    show Steps p.tables e below (T2.setTop (mkF m 3 #[.val (.ref x4_0), .val (.ref x4_1)] [(.ref a2), (.ref x4_1)])) _
    refine st3 _ ?_
    show Steps p.tables e below (T3.setTop (mkF m 6 #[.val (.ref x4_0), .val (.ref x4_1)] [(.ref x4_1)])) _
    refine XS.pop X3.here hx rfl (hb hby d4_6) rfl rfl ?_
    show Steps p.tables e below (T3.setTop (mkF m 7 #[.val (.ref x4_0), .val (.ref x4_1)] [])) _
    refine XS.aloadN X3.here hx rfl (hb hby d4_7) rfl rfl ?_
    show Steps p.tables e below (T3.setTop (mkF m 8 #[.val (.ref x4_0), .val (.ref x4_1)] [(.ref x4_0)])) _
    refine st5 _ ?_
    exact kt
  by_cases hc11_7 : x4_0 = w_FALSE
  · obtain ⟨T8, X8, e8, st8⟩ := getS2 X5 hx hZ hown (host := "") (Or.inl (hw _ (List.mem_of_getElem? (i := 4) rfl))) Via.refl e5 ((World.ext (own_ext KC2) W).2.1) (g := (mkF m 21 #[.val (.ref x4_0), .val (.ref x4_1)] [])) rfl (hb hby d4_21)
    obtain ⟨fs, hr, hrun, hended, hRW⟩ := Stand.leaveW (s := s) (vm₁ := T2.vm) X8 hS2 (by rw [e8]; exact hk2) (v := some (.ref w_FALSE)) (fun h => by rw [Bd.returns] at h; cases h)
    refine ⟨_, _, pre0 _ (sg1 _ (sg4 _ (sg6 _ ?_))), hrun, hended, _, _, rfl, ?_, hRW.1, hRW.2.1, hRW.2.2.1, hRW.2.2.2.mono (by decide) (by decide)⟩
    · show Steps p.tables e below (T5.setTop (mkF m 11 #[.val (.ref x4_0), .val (.ref x4_1)] [(.ref w_FALSE), (.ref x4_0)])) _
      refine Jvm.RoadKit.acmp (g := (mkF m 11 #[.val (.ref x4_0), .val (.ref x4_1)] [(.ref w_FALSE), (.ref x4_0)])) X5 hx rfl rfl rfl (pc0 := 11) (pc' := 21) (same := true) rfl (hb hby d4_11) rfl (decide_eq_true (congrArg Value.ref hc11_7)) (by decide) (by decide) ?_
      show Steps p.tables e below (T5.setTop (mkF m 21 #[.val (.ref x4_0), .val (.ref x4_1)] [])) _
      refine st8 _ ?_
      show Steps p.tables e below (T8.setTop (mkF m 24 #[.val (.ref x4_0), .val (.ref x4_1)] [(.ref w_FALSE)])) _
      exact retOut X8 hx Bd.returns rfl (Or.inr (Or.inr (Or.inr (Or.inr ⟨rfl, rfl, rfl⟩)))) (hb hby d4_24) hr
    · show Q4 Z x4_0 x4_1 w_TRUE w_FALSE w_UNKNOWN h0 n0 _ T8.heap _
      rw [e8]
      exact ⟨congrArg (fun z => some (Value.ref z)) (show w_FALSE = f4 x4_0 x4_1 w_TRUE w_FALSE w_UNKNOWN from by unfold f4; rw [if_pos hc11_7]), N3, KC2⟩
  · obtain ⟨T9, X9, e9, st9⟩ := getS2 X5 hx hZ hown (host := "") (Or.inl (hw _ (List.mem_of_getElem? (i := 4) rfl))) Via.refl e5 ((World.ext (own_ext KC2) W).2.1) (g := (mkF m 15 #[.val (.ref x4_0), .val (.ref x4_1)] [(.ref x4_1)])) rfl (hb hby d4_15)
    have sg10 : ∀ t, Steps p.tables e below (T9.setTop (mkF m 18 #[.val (.ref x4_0), .val (.ref x4_1)] [(.ref w_FALSE), (.ref x4_1)])) t → Steps p.tables e below (T5.setTop (mkF m 11 #[.val (.ref x4_0), .val (.ref x4_1)] [(.ref w_FALSE), (.ref x4_0)])) t := fun t kt => by
      show Steps p.tables e below (T5.setTop (mkF m 11 #[.val (.ref x4_0), .val (.ref x4_1)] [(.ref w_FALSE), (.ref x4_0)])) _
      refine Jvm.RoadKit.acmp (g := (mkF m 11 #[.val (.ref x4_0), .val (.ref x4_1)] [(.ref w_FALSE), (.ref x4_0)])) X5 hx rfl rfl rfl (pc0 := 11) (pc' := 14) (same := false) rfl (hb hby d4_11) rfl (decide_eq_false fun q => hc11_7 (Value.ref.inj q)) (by decide) (by decide) ?_
      show Steps p.tables e below (T5.setTop (mkF m 14 #[.val (.ref x4_0), .val (.ref x4_1)] [])) _
      refine XS.aloadN X5.here hx rfl (hb hby d4_14) rfl rfl ?_
      show Steps p.tables e below (T5.setTop (mkF m 15 #[.val (.ref x4_0), .val (.ref x4_1)] [(.ref x4_1)])) _
      refine st9 _ ?_
      exact kt
    by_cases hc18_11 : x4_1 = w_FALSE
    · obtain ⟨T12, X12, e12, st12⟩ := getS2 X9 hx hZ hown (host := "") (Or.inl (hw _ (List.mem_of_getElem? (i := 4) rfl))) Via.refl e9 ((World.ext (own_ext KC2) W).2.1) (g := (mkF m 21 #[.val (.ref x4_0), .val (.ref x4_1)] [])) rfl (hb hby d4_21)
      obtain ⟨fs, hr, hrun, hended, hRW⟩ := Stand.leaveW (s := s) (vm₁ := T2.vm) X12 hS2 (by rw [e12]; exact hk2) (v := some (.ref w_FALSE)) (fun h => by rw [Bd.returns] at h; cases h)
      refine ⟨_, _, pre0 _ (sg1 _ (sg4 _ (sg6 _ (sg10 _ ?_)))), hrun, hended, _, _, rfl, ?_, hRW.1, hRW.2.1, hRW.2.2.1, hRW.2.2.2.mono (by decide) (by decide)⟩
      · show Steps p.tables e below (T9.setTop (mkF m 18 #[.val (.ref x4_0), .val (.ref x4_1)] [(.ref w_FALSE), (.ref x4_1)])) _
        refine Jvm.RoadKit.acmp (g := (mkF m 18 #[.val (.ref x4_0), .val (.ref x4_1)] [(.ref w_FALSE), (.ref x4_1)])) X9 hx rfl rfl rfl (pc0 := 18) (pc' := 21) (same := true) rfl (hb hby d4_18) rfl (decide_eq_true (congrArg Value.ref hc18_11)) (by decide) (by decide) ?_
        show Steps p.tables e below (T9.setTop (mkF m 21 #[.val (.ref x4_0), .val (.ref x4_1)] [])) _
        refine st12 _ ?_
        show Steps p.tables e below (T12.setTop (mkF m 24 #[.val (.ref x4_0), .val (.ref x4_1)] [(.ref w_FALSE)])) _
        exact retOut X12 hx Bd.returns rfl (Or.inr (Or.inr (Or.inr (Or.inr ⟨rfl, rfl, rfl⟩)))) (hb hby d4_24) hr
      · show Q4 Z x4_0 x4_1 w_TRUE w_FALSE w_UNKNOWN h0 n0 _ T12.heap _
        rw [e12]
        exact ⟨congrArg (fun z => some (Value.ref z)) (show w_FALSE = f4 x4_0 x4_1 w_TRUE w_FALSE w_UNKNOWN from by unfold f4; rw [if_neg hc11_7, if_pos hc18_11]), N3, KC2⟩
    · obtain ⟨T13, X13, e13, st13⟩ := getS2 X9 hx hZ hown (host := "") (Or.inl (hw _ (List.mem_of_getElem? (i := 47) rfl))) Via.refl e9 ((World.ext (own_ext KC2) W).2.2.1) (g := (mkF m 26 #[.val (.ref x4_0), .val (.ref x4_1)] [(.ref x4_0)])) rfl (hb hby d4_26)
      have sg14 : ∀ t, Steps p.tables e below (T13.setTop (mkF m 29 #[.val (.ref x4_0), .val (.ref x4_1)] [(.ref w_UNKNOWN), (.ref x4_0)])) t → Steps p.tables e below (T9.setTop (mkF m 18 #[.val (.ref x4_0), .val (.ref x4_1)] [(.ref w_FALSE), (.ref x4_1)])) t := fun t kt => by
        show Steps p.tables e below (T9.setTop (mkF m 18 #[.val (.ref x4_0), .val (.ref x4_1)] [(.ref w_FALSE), (.ref x4_1)])) _
        refine Jvm.RoadKit.acmp (g := (mkF m 18 #[.val (.ref x4_0), .val (.ref x4_1)] [(.ref w_FALSE), (.ref x4_1)])) X9 hx rfl rfl rfl (pc0 := 18) (pc' := 25) (same := false) rfl (hb hby d4_18) rfl (decide_eq_false fun q => hc18_11 (Value.ref.inj q)) (by decide) (by decide) ?_
        show Steps p.tables e below (T9.setTop (mkF m 25 #[.val (.ref x4_0), .val (.ref x4_1)] [])) _
        refine XS.aloadN X9.here hx rfl (hb hby d4_25) rfl rfl ?_
        show Steps p.tables e below (T9.setTop (mkF m 26 #[.val (.ref x4_0), .val (.ref x4_1)] [(.ref x4_0)])) _
        refine st13 _ ?_
        exact kt
      by_cases hc29_15 : x4_0 = w_UNKNOWN
      · obtain ⟨T16, X16, e16, st16⟩ := getS2 X13 hx hZ hown (host := "") (Or.inl (hw _ (List.mem_of_getElem? (i := 47) rfl))) Via.refl e13 ((World.ext (own_ext KC2) W).2.2.1) (g := (mkF m 39 #[.val (.ref x4_0), .val (.ref x4_1)] [])) rfl (hb hby d4_39)
        obtain ⟨fs, hr, hrun, hended, hRW⟩ := Stand.leaveW (s := s) (vm₁ := T2.vm) X16 hS2 (by rw [e16]; exact hk2) (v := some (.ref w_UNKNOWN)) (fun h => by rw [Bd.returns] at h; cases h)
        refine ⟨_, _, pre0 _ (sg1 _ (sg4 _ (sg6 _ (sg10 _ (sg14 _ ?_))))), hrun, hended, _, _, rfl, ?_, hRW.1, hRW.2.1, hRW.2.2.1, hRW.2.2.2.mono (by decide) (by decide)⟩
        · show Steps p.tables e below (T13.setTop (mkF m 29 #[.val (.ref x4_0), .val (.ref x4_1)] [(.ref w_UNKNOWN), (.ref x4_0)])) _
          refine Jvm.RoadKit.acmp (g := (mkF m 29 #[.val (.ref x4_0), .val (.ref x4_1)] [(.ref w_UNKNOWN), (.ref x4_0)])) X13 hx rfl rfl rfl (pc0 := 29) (pc' := 39) (same := true) rfl (hb hby d4_29) rfl (decide_eq_true (congrArg Value.ref hc29_15)) (by decide) (by decide) ?_
          show Steps p.tables e below (T13.setTop (mkF m 39 #[.val (.ref x4_0), .val (.ref x4_1)] [])) _
          refine st16 _ ?_
          show Steps p.tables e below (T16.setTop (mkF m 42 #[.val (.ref x4_0), .val (.ref x4_1)] [(.ref w_UNKNOWN)])) _
          refine XS.goto X16.here hx rfl (pc0 := 42) (pc' := 48) rfl (hb hby d4_42) (by decide) (by decide) ?_
          show Steps p.tables e below (T16.setTop (mkF m 48 #[.val (.ref x4_0), .val (.ref x4_1)] [(.ref w_UNKNOWN)])) _
          exact retOut X16 hx Bd.returns rfl (Or.inr (Or.inr (Or.inr (Or.inr ⟨rfl, rfl, rfl⟩)))) (hb hby d4_48) hr
        · show Q4 Z x4_0 x4_1 w_TRUE w_FALSE w_UNKNOWN h0 n0 _ T16.heap _
          rw [e16]
          exact ⟨congrArg (fun z => some (Value.ref z)) (show w_UNKNOWN = f4 x4_0 x4_1 w_TRUE w_FALSE w_UNKNOWN from by unfold f4; rw [if_neg hc11_7, if_neg hc18_11, if_pos hc29_15]), N3, KC2⟩
      · obtain ⟨T17, X17, e17, st17⟩ := getS2 X13 hx hZ hown (host := "") (Or.inl (hw _ (List.mem_of_getElem? (i := 47) rfl))) Via.refl e13 ((World.ext (own_ext KC2) W).2.2.1) (g := (mkF m 33 #[.val (.ref x4_0), .val (.ref x4_1)] [(.ref x4_1)])) rfl (hb hby d4_33)
        have sg18 : ∀ t, Steps p.tables e below (T17.setTop (mkF m 36 #[.val (.ref x4_0), .val (.ref x4_1)] [(.ref w_UNKNOWN), (.ref x4_1)])) t → Steps p.tables e below (T13.setTop (mkF m 29 #[.val (.ref x4_0), .val (.ref x4_1)] [(.ref w_UNKNOWN), (.ref x4_0)])) t := fun t kt => by
          show Steps p.tables e below (T13.setTop (mkF m 29 #[.val (.ref x4_0), .val (.ref x4_1)] [(.ref w_UNKNOWN), (.ref x4_0)])) _
          refine Jvm.RoadKit.acmp (g := (mkF m 29 #[.val (.ref x4_0), .val (.ref x4_1)] [(.ref w_UNKNOWN), (.ref x4_0)])) X13 hx rfl rfl rfl (pc0 := 29) (pc' := 32) (same := false) rfl (hb hby d4_29) rfl (decide_eq_false fun q => hc29_15 (Value.ref.inj q)) (by decide) (by decide) ?_
          show Steps p.tables e below (T13.setTop (mkF m 32 #[.val (.ref x4_0), .val (.ref x4_1)] [])) _
          refine XS.aloadN X13.here hx rfl (hb hby d4_32) rfl rfl ?_
          show Steps p.tables e below (T13.setTop (mkF m 33 #[.val (.ref x4_0), .val (.ref x4_1)] [(.ref x4_1)])) _
          refine st17 _ ?_
          exact kt
        by_cases hc36_19 : x4_1 = w_UNKNOWN
        · obtain ⟨T20, X20, e20, st20⟩ := getS2 X17 hx hZ hown (host := "") (Or.inl (hw _ (List.mem_of_getElem? (i := 47) rfl))) Via.refl e17 ((World.ext (own_ext KC2) W).2.2.1) (g := (mkF m 39 #[.val (.ref x4_0), .val (.ref x4_1)] [])) rfl (hb hby d4_39)
          obtain ⟨fs, hr, hrun, hended, hRW⟩ := Stand.leaveW (s := s) (vm₁ := T2.vm) X20 hS2 (by rw [e20]; exact hk2) (v := some (.ref w_UNKNOWN)) (fun h => by rw [Bd.returns] at h; cases h)
          refine ⟨_, _, pre0 _ (sg1 _ (sg4 _ (sg6 _ (sg10 _ (sg14 _ (sg18 _ ?_)))))), hrun, hended, _, _, rfl, ?_, hRW.1, hRW.2.1, hRW.2.2.1, hRW.2.2.2.mono (by decide) (by decide)⟩
          · show Steps p.tables e below (T17.setTop (mkF m 36 #[.val (.ref x4_0), .val (.ref x4_1)] [(.ref w_UNKNOWN), (.ref x4_1)])) _
            refine Jvm.RoadKit.acmp (g := (mkF m 36 #[.val (.ref x4_0), .val (.ref x4_1)] [(.ref w_UNKNOWN), (.ref x4_1)])) X17 hx rfl rfl rfl (pc0 := 36) (pc' := 39) (same := true) rfl (hb hby d4_36) rfl (decide_eq_true (congrArg Value.ref hc36_19)) (by decide) (by decide) ?_
            show Steps p.tables e below (T17.setTop (mkF m 39 #[.val (.ref x4_0), .val (.ref x4_1)] [])) _
            refine st20 _ ?_
            show Steps p.tables e below (T20.setTop (mkF m 42 #[.val (.ref x4_0), .val (.ref x4_1)] [(.ref w_UNKNOWN)])) _
            refine XS.goto X20.here hx rfl (pc0 := 42) (pc' := 48) rfl (hb hby d4_42) (by decide) (by decide) ?_
            show Steps p.tables e below (T20.setTop (mkF m 48 #[.val (.ref x4_0), .val (.ref x4_1)] [(.ref w_UNKNOWN)])) _
            exact retOut X20 hx Bd.returns rfl (Or.inr (Or.inr (Or.inr (Or.inr ⟨rfl, rfl, rfl⟩)))) (hb hby d4_48) hr
          · show Q4 Z x4_0 x4_1 w_TRUE w_FALSE w_UNKNOWN h0 n0 _ T20.heap _
            rw [e20]
            exact ⟨congrArg (fun z => some (Value.ref z)) (show w_UNKNOWN = f4 x4_0 x4_1 w_TRUE w_FALSE w_UNKNOWN from by unfold f4; rw [if_neg hc11_7, if_neg hc18_11, if_neg hc29_15, if_pos hc36_19]), N3, KC2⟩
        · obtain ⟨T21, X21, e21, st21⟩ := getS2 X17 hx hZ hown (host := "") (Or.inl (hw _ (List.mem_of_getElem? (i := 8) rfl))) Via.refl e17 ((World.ext (own_ext KC2) W).1) (g := (mkF m 45 #[.val (.ref x4_0), .val (.ref x4_1)] [])) rfl (hb hby d4_45)
          obtain ⟨fs, hr, hrun, hended, hRW⟩ := Stand.leaveW (s := s) (vm₁ := T2.vm) X21 hS2 (by rw [e21]; exact hk2) (v := some (.ref w_TRUE)) (fun h => by rw [Bd.returns] at h; cases h)
          refine ⟨_, _, pre0 _ (sg1 _ (sg4 _ (sg6 _ (sg10 _ (sg14 _ (sg18 _ ?_)))))), hrun, hended, _, _, rfl, ?_, hRW.1, hRW.2.1, hRW.2.2.1, hRW.2.2.2.mono (by decide) (by decide)⟩
          · show Steps p.tables e below (T17.setTop (mkF m 36 #[.val (.ref x4_0), .val (.ref x4_1)] [(.ref w_UNKNOWN), (.ref x4_1)])) _
            refine Jvm.RoadKit.acmp (g := (mkF m 36 #[.val (.ref x4_0), .val (.ref x4_1)] [(.ref w_UNKNOWN), (.ref x4_1)])) X17 hx rfl rfl rfl (pc0 := 36) (pc' := 45) (same := false) rfl (hb hby d4_36) rfl (decide_eq_false fun q => hc36_19 (Value.ref.inj q)) (by decide) (by decide) ?_
            show Steps p.tables e below (T17.setTop (mkF m 45 #[.val (.ref x4_0), .val (.ref x4_1)] [])) _
            refine st21 _ ?_
            show Steps p.tables e below (T21.setTop (mkF m 48 #[.val (.ref x4_0), .val (.ref x4_1)] [(.ref w_TRUE)])) _
            exact retOut X21 hx Bd.returns rfl (Or.inr (Or.inr (Or.inr (Or.inr ⟨rfl, rfl, rfl⟩)))) (hb hby d4_48) hr
          · show Q4 Z x4_0 x4_1 w_TRUE w_FALSE w_UNKNOWN h0 n0 _ T21.heap _
            rw [e21]
            exact ⟨congrArg (fun z => some (Value.ref z)) (show w_TRUE = f4 x4_0 x4_1 w_TRUE w_FALSE w_UNKNOWN from by unfold f4; rw [if_neg hc11_7, if_neg hc18_11, if_neg hc29_15, if_neg hc36_19]), N3, KC2⟩
theorem d6_0 : decode prog_9_method_7_code 0 = .ok (.aload_n 1, 1) := by decide +kernel
theorem d6_1 : decode prog_9_method_7_code 1 = .ok (.ldc 41, 2) := by decide +kernel
theorem d6_3 : decode prog_9_method_7_code 3 = .ok (.invokestatic 43, 3) := by decide +kernel
theorem d6_6 : decode prog_9_method_7_code 6 = .ok (.pop, 1) := by decide +kernel
theorem d6_7 : decode prog_9_method_7_code 7 = .ok (.aload_n 0, 1) := by decide +kernel
theorem d6_8 : decode prog_9_method_7_code 8 = .ok (.getstatic 3, 3) := by decide +kernel
theorem d6_11 : decode prog_9_method_7_code 11 = .ok (.if_acmp .eq 10, 3) := by decide +kernel
theorem d6_14 : decode prog_9_method_7_code 14 = .ok (.aload_n 1, 1) := by decide +kernel
theorem d6_15 : decode prog_9_method_7_code 15 = .ok (.getstatic 3, 3) := by decide +kernel
theorem d6_18 : decode prog_9_method_7_code 18 = .ok (.if_acmp .ne 7, 3) := by decide +kernel
theorem d6_21 : decode prog_9_method_7_code 21 = .ok (.getstatic 3, 3) := by decide +kernel
theorem d6_24 : decode prog_9_method_7_code 24 = .ok (.areturn, 1) := by decide +kernel
theorem d6_25 : decode prog_9_method_7_code 25 = .ok (.aload_n 0, 1) := by decide +kernel
theorem d6_26 : decode prog_9_method_7_code 26 = .ok (.getstatic 10, 3) := by decide +kernel
theorem d6_29 : decode prog_9_method_7_code 29 = .ok (.if_acmp .eq 10, 3) := by decide +kernel
theorem d6_32 : decode prog_9_method_7_code 32 = .ok (.aload_n 1, 1) := by decide +kernel
theorem d6_33 : decode prog_9_method_7_code 33 = .ok (.getstatic 10, 3) := by decide +kernel
theorem d6_36 : decode prog_9_method_7_code 36 = .ok (.if_acmp .ne 9, 3) := by decide +kernel
theorem d6_39 : decode prog_9_method_7_code 39 = .ok (.getstatic 10, 3) := by decide +kernel
theorem d6_42 : decode prog_9_method_7_code 42 = .ok (.goto 6, 3) := by decide +kernel
theorem d6_45 : decode prog_9_method_7_code 45 = .ok (.getstatic 7, 3) := by decide +kernel
theorem d6_48 : decode prog_9_method_7_code 48 = .ok (.areturn, 1) := by decide +kernel
theorem ef_6 (m : MethodId) (x6_0 : Addr) (x6_1 : Addr) : entryFrame m #[(.ref x6_0), (.ref x6_1)] 2 = mkF m 0 #[.val (.ref x6_0), .val (.ref x6_1)] [] := by first | (simp [entryFrame, mkF, argsToLocals, Value.category]; done) | rfl
def f6 (x6_0 : Addr) (x6_1 : Addr) (w_TRUE w_FALSE w_UNKNOWN : Addr) : Addr := if x6_0 = w_TRUE then w_TRUE else if x6_1 = w_TRUE then w_TRUE else if x6_0 = w_UNKNOWN then w_UNKNOWN else if x6_1 = w_UNKNOWN then w_UNKNOWN else w_FALSE
def Q6 (Z : State) (x6_0 : Addr) (x6_1 : Addr) (w_TRUE w_FALSE w_UNKNOWN : Addr) (h0 : Heap) (n0 : Nat) (v : Option Value) (h : Heap) (L : List Loc) : Prop := v = some (.ref (f6 x6_0 x6_1 w_TRUE w_FALSE w_UNKNOWN)) ∧ Fr n0 L ∧ Keep h0 h []
set_option maxRecDepth 65536 in
set_option maxHeartbeats 40000000 in
theorem rm6 (l : Launch) (Z : State) (a0 : Array Value) (hw : ∀ d ∈ tables_1, d.before a0 Z = true) (ws : List Jvm.Cond) (x6_0 : Addr) (x6_1 : Addr) (w_TRUE w_FALSE w_UNKNOWN : Addr) (h0 : Heap) (n0 : Nat) (Z0 : n0 ≤ h0.size) (W : World Z h0 w_TRUE w_FALSE w_UNKNOWN) :
    MetFree l (⟨"com/example/graticule/graticule/filter/TruthValue", "or", "(Lcom/example/graticule/graticule/filter/TruthValue;)Lcom/example/graticule/graticule/filter/TruthValue;"⟩ : MethodName) (head1 (Jvm.Cond.code (⟨"com/example/graticule/graticule/filter/TruthValue", "or", "(Lcom/example/graticule/graticule/filter/TruthValue;)Lcom/example/graticule/graticule/filter/TruthValue;"⟩ : MethodName) prog_9_method_7_code 2 (some (.object "com/example/graticule/graticule/filter/TruthValue")) :: ws) ({ frames := 1, cells := 2, slots := 24, locals := 13 } : Room)) (fun a U => a = #[(.ref x6_0), (.ref x6_1)] ∧ Z.Warmed39 U.vm ∧ U.heap = h0) (fun _ _ _ _ _ => True) (fun _ U o U' => ∃ v L, o = .returned v ∧ Q6 Z x6_0 x6_1 w_TRUE w_FALSE w_UNKNOWN h0 n0 v U'.heap L ∧ ReturnedEndW U o U' L ({ frames := 1, cells := 2, slots := 24, locals := 13 } : Room).cells ({ frames := 1, cells := 2, slots := 24, locals := 13 } : Room).slots) := by
  refine MetFree.of_bodySF (plainFor_of_name pn_0) hisR ?_
  intro p e s m args below meth c s₁ Bd hml0 hP hK
  obtain ⟨rfl, hZ, hh⟩ := hP
  have hx := Bd.exec
  have hby := Bd.bytes
  have hml : c.maxLocals = 2 := hml0
  have hown : s.vm.findClass "com/example/graticule/graticule/filter/TruthValue" = some m.cls := findClass_of_methodNamed Bd.named
  have hnm := (name_of_methodNamed Bd.named Bd.method).1
  have X0 : Stand p l e ({ frames := 1, cells := 2, slots := 24, locals := 13 } : Room) s m #[(.ref x6_0), (.ref x6_1)] below meth c s₁ [] 0 0 := Stand.of_body Bd
  have e0 : s₁.heap = h0 := by rw [← hh, Bd.state]; rfl
  have N0 := Fr.nil n0
  have pre0 : ∀ t, Steps p.tables e below (s₁.setTop (mkF m 0 #[.val (.ref x6_0), .val (.ref x6_1)] [])) t → Steps p.tables e below (s₁.setTop (entryFrame m #[(.ref x6_0), (.ref x6_1)] 2)) t := fun t k => castTop (ef_6 m x6_0 x6_1) k
  have hS0 : s.Since s.vm h0.size := (State.WarmedH.refl s).since _
  have hk0 : h0.size ≤ h0.size := Nat.le_refl _
  have sg1 : ∀ t, Steps p.tables e below (s₁.setTop (mkF m 1 #[.val (.ref x6_0), .val (.ref x6_1)] [(.ref x6_1)])) t → Steps p.tables e below (s₁.setTop (mkF m 0 #[.val (.ref x6_0), .val (.ref x6_1)] [])) t := fun t kt => by
    show Steps p.tables e below (s₁.setTop (mkF m 0 #[.val (.ref x6_0), .val (.ref x6_1)] [])) _
    refine XS.aloadN X0.here hx rfl (hb hby d6_0) rfl rfl ?_
    exact kt
  obtain ⟨a2, T2, h2, k2, X2, e2, E2, hS2, hk2, hZ, hown, st2⟩ := ldcS (s := s) (vm0 := s.vm) X0 hx hZ hown (hw _ (List.mem_of_getElem? (i := 30) rfl)) (own_wS hw) e0 hS0 hk0 (g := (mkF m 1 #[.val (.ref x6_0), .val (.ref x6_1)] [(.ref x6_1)])) rfl (hb hby d6_1) (n := 20) (by decide) (by decide) (by decide) (by decide)
  have Zs2 : n0 ≤ h2.size := Nat.le_trans Z0 E2.1
  have KC2 : Keep h0 h2 [] := (Keep.refl h0 []).ext E2
  have sg4 : ∀ t, Steps p.tables e below (T2.setTop (mkF m 3 #[.val (.ref x6_0), .val (.ref x6_1)] [(.ref a2), (.ref x6_1)])) t → Steps p.tables e below (s₁.setTop (mkF m 1 #[.val (.ref x6_0), .val (.ref x6_1)] [(.ref x6_1)])) t := fun t kt => by
    show Steps p.tables e below (s₁.setTop (mkF m 1 #[.val (.ref x6_0), .val (.ref x6_1)] [(.ref x6_1)])) _
    refine st2 _ ?_
    exact kt
  obtain ⟨v3, _, ⟨T3, L3, k3, n3⟩, -, X3, ⟨Lc3, hQ3, l3, y3, z3⟩, st3⟩ := Jvm.LawKit.callS X2 hx (y := (⟨"java/util/Objects", "requireNonNull", "(Ljava/lang/Object;Ljava/lang/String;)Ljava/lang/Object;"⟩ : MethodName)) hown (mvT hZ (hw _ (List.mem_of_getElem? (i := 38) rfl))) (mvT hZ (hw _ (List.mem_of_getElem? (i := 39) rfl))) (mvT hZ (hw _ (List.mem_of_getElem? (i := 40) rfl))) (mvT hZ (hw _ (List.mem_of_getElem? (i := 41) rfl))) (by decide) (backOf (W := 0) (rm5 l Z a0 hw [] x6_1 a2 w_TRUE w_FALSE w_UNKNOWN h2 n0 Zs2 (World.ext (own_ext KC2) W)) hZ (hw _ (List.mem_of_getElem? (i := 41) rfl)) (hw _ (List.mem_of_getElem? (i := 40) rfl)) (by decide) (by decide)) (g := (mkF m 3 #[.val (.ref x6_0), .val (.ref x6_1)] [(.ref a2), (.ref x6_1)])) rfl (by rw [hml]; rfl) (argsL := [(.ref x6_1), (.ref a2)]) (rest := []) (lenOf pd_1 rfl) rfl (by show 2 * 0 + _ ≤ _; exact Nat.le_of_eq rfl) (hb hby d6_3) (fun _ _ => ⟨rfl, e2, (by decide : 2 + 0 ≤ _), (by decide : 24 + 0 ≤ _)⟩)
  dsimp only [Pt.U, Pt.locs, Pt.cells, Pt.slots] at X3 l3 y3 z3 st3 hQ3
  subst l3 y3 z3
  obtain ⟨hv3, N3q, e3⟩ := hQ3
  have N3 := Fr.app N0 N3q
  have hf3 : f5 x6_1 a2 w_TRUE w_FALSE w_UNKNOWN = x6_1 := rfl
  rw [hf3] at hv3
  subst hv3
  obtain ⟨T5, X5, e5, st5⟩ := getS2 X3 hx hZ hown (host := "") (Or.inl (hw _ (List.mem_of_getElem? (i := 8) rfl))) Via.refl e3 ((World.ext (own_ext KC2) W).1) (g := (mkF m 8 #[.val (.ref x6_0), .val (.ref x6_1)] [(.ref x6_0)])) rfl (hb hby d6_8)
  have sg6 : ∀ t, Steps p.tables e below (T5.setTop (mkF m 11 #[.val (.ref x6_0), .val (.ref x6_1)] [(.ref w_TRUE), (.ref x6_0)])) t → Steps p.tables e below (T2.setTop (mkF m 3 #[.val (.ref x6_0), .val (.ref x6_1)] [(.ref a2), (.ref x6_1)])) t := fun t kt => by
    show Steps p.tables e below (T2.setTop (mkF m 3 #[.val (.ref x6_0), .val (.ref x6_1)] [(.ref a2), (.ref x6_1)])) _
    refine st3 _ ?_
    show Steps p.tables e below (T3.setTop (mkF m 6 #[.val (.ref x6_0), .val (.ref x6_1)] [(.ref x6_1)])) _
    refine XS.pop X3.here hx rfl (hb hby d6_6) rfl rfl ?_
    show Steps p.tables e below (T3.setTop (mkF m 7 #[.val (.ref x6_0), .val (.ref x6_1)] [])) _
    refine XS.aloadN X3.here hx rfl (hb hby d6_7) rfl rfl ?_
    show Steps p.tables e below (T3.setTop (mkF m 8 #[.val (.ref x6_0), .val (.ref x6_1)] [(.ref x6_0)])) _
    refine st5 _ ?_
    exact kt
  by_cases hc11_7 : x6_0 = w_TRUE
  · obtain ⟨T8, X8, e8, st8⟩ := getS2 X5 hx hZ hown (host := "") (Or.inl (hw _ (List.mem_of_getElem? (i := 8) rfl))) Via.refl e5 ((World.ext (own_ext KC2) W).1) (g := (mkF m 21 #[.val (.ref x6_0), .val (.ref x6_1)] [])) rfl (hb hby d6_21)
    obtain ⟨fs, hr, hrun, hended, hRW⟩ := Stand.leaveW (s := s) (vm₁ := T2.vm) X8 hS2 (by rw [e8]; exact hk2) (v := some (.ref w_TRUE)) (fun h => by rw [Bd.returns] at h; cases h)
    refine ⟨_, _, pre0 _ (sg1 _ (sg4 _ (sg6 _ ?_))), hrun, hended, _, _, rfl, ?_, hRW.1, hRW.2.1, hRW.2.2.1, hRW.2.2.2.mono (by decide) (by decide)⟩
    · show Steps p.tables e below (T5.setTop (mkF m 11 #[.val (.ref x6_0), .val (.ref x6_1)] [(.ref w_TRUE), (.ref x6_0)])) _
      refine Jvm.RoadKit.acmp (g := (mkF m 11 #[.val (.ref x6_0), .val (.ref x6_1)] [(.ref w_TRUE), (.ref x6_0)])) X5 hx rfl rfl rfl (pc0 := 11) (pc' := 21) (same := true) rfl (hb hby d6_11) rfl (decide_eq_true (congrArg Value.ref hc11_7)) (by decide) (by decide) ?_
      show Steps p.tables e below (T5.setTop (mkF m 21 #[.val (.ref x6_0), .val (.ref x6_1)] [])) _
      refine st8 _ ?_
      show Steps p.tables e below (T8.setTop (mkF m 24 #[.val (.ref x6_0), .val (.ref x6_1)] [(.ref w_TRUE)])) _
      exact retOut X8 hx Bd.returns rfl (Or.inr (Or.inr (Or.inr (Or.inr ⟨rfl, rfl, rfl⟩)))) (hb hby d6_24) hr
    · show Q6 Z x6_0 x6_1 w_TRUE w_FALSE w_UNKNOWN h0 n0 _ T8.heap _
      rw [e8]
      exact ⟨congrArg (fun z => some (Value.ref z)) (show w_TRUE = f6 x6_0 x6_1 w_TRUE w_FALSE w_UNKNOWN from by unfold f6; rw [if_pos hc11_7]), N3, KC2⟩
  · obtain ⟨T9, X9, e9, st9⟩ := getS2 X5 hx hZ hown (host := "") (Or.inl (hw _ (List.mem_of_getElem? (i := 8) rfl))) Via.refl e5 ((World.ext (own_ext KC2) W).1) (g := (mkF m 15 #[.val (.ref x6_0), .val (.ref x6_1)] [(.ref x6_1)])) rfl (hb hby d6_15)
    have sg10 : ∀ t, Steps p.tables e below (T9.setTop (mkF m 18 #[.val (.ref x6_0), .val (.ref x6_1)] [(.ref w_TRUE), (.ref x6_1)])) t → Steps p.tables e below (T5.setTop (mkF m 11 #[.val (.ref x6_0), .val (.ref x6_1)] [(.ref w_TRUE), (.ref x6_0)])) t := fun t kt => by
      show Steps p.tables e below (T5.setTop (mkF m 11 #[.val (.ref x6_0), .val (.ref x6_1)] [(.ref w_TRUE), (.ref x6_0)])) _
      refine Jvm.RoadKit.acmp (g := (mkF m 11 #[.val (.ref x6_0), .val (.ref x6_1)] [(.ref w_TRUE), (.ref x6_0)])) X5 hx rfl rfl rfl (pc0 := 11) (pc' := 14) (same := false) rfl (hb hby d6_11) rfl (decide_eq_false fun q => hc11_7 (Value.ref.inj q)) (by decide) (by decide) ?_
      show Steps p.tables e below (T5.setTop (mkF m 14 #[.val (.ref x6_0), .val (.ref x6_1)] [])) _
      refine XS.aloadN X5.here hx rfl (hb hby d6_14) rfl rfl ?_
      show Steps p.tables e below (T5.setTop (mkF m 15 #[.val (.ref x6_0), .val (.ref x6_1)] [(.ref x6_1)])) _
      refine st9 _ ?_
      exact kt
    by_cases hc18_11 : x6_1 = w_TRUE
    · obtain ⟨T12, X12, e12, st12⟩ := getS2 X9 hx hZ hown (host := "") (Or.inl (hw _ (List.mem_of_getElem? (i := 8) rfl))) Via.refl e9 ((World.ext (own_ext KC2) W).1) (g := (mkF m 21 #[.val (.ref x6_0), .val (.ref x6_1)] [])) rfl (hb hby d6_21)
      obtain ⟨fs, hr, hrun, hended, hRW⟩ := Stand.leaveW (s := s) (vm₁ := T2.vm) X12 hS2 (by rw [e12]; exact hk2) (v := some (.ref w_TRUE)) (fun h => by rw [Bd.returns] at h; cases h)
      refine ⟨_, _, pre0 _ (sg1 _ (sg4 _ (sg6 _ (sg10 _ ?_)))), hrun, hended, _, _, rfl, ?_, hRW.1, hRW.2.1, hRW.2.2.1, hRW.2.2.2.mono (by decide) (by decide)⟩
      · show Steps p.tables e below (T9.setTop (mkF m 18 #[.val (.ref x6_0), .val (.ref x6_1)] [(.ref w_TRUE), (.ref x6_1)])) _
        refine Jvm.RoadKit.acmp (g := (mkF m 18 #[.val (.ref x6_0), .val (.ref x6_1)] [(.ref w_TRUE), (.ref x6_1)])) X9 hx rfl rfl rfl (pc0 := 18) (pc' := 21) (same := true) rfl (hb hby d6_18) rfl (decide_eq_true (congrArg Value.ref hc18_11)) (by decide) (by decide) ?_
        show Steps p.tables e below (T9.setTop (mkF m 21 #[.val (.ref x6_0), .val (.ref x6_1)] [])) _
        refine st12 _ ?_
        show Steps p.tables e below (T12.setTop (mkF m 24 #[.val (.ref x6_0), .val (.ref x6_1)] [(.ref w_TRUE)])) _
        exact retOut X12 hx Bd.returns rfl (Or.inr (Or.inr (Or.inr (Or.inr ⟨rfl, rfl, rfl⟩)))) (hb hby d6_24) hr
      · show Q6 Z x6_0 x6_1 w_TRUE w_FALSE w_UNKNOWN h0 n0 _ T12.heap _
        rw [e12]
        exact ⟨congrArg (fun z => some (Value.ref z)) (show w_TRUE = f6 x6_0 x6_1 w_TRUE w_FALSE w_UNKNOWN from by unfold f6; rw [if_neg hc11_7, if_pos hc18_11]), N3, KC2⟩
    · obtain ⟨T13, X13, e13, st13⟩ := getS2 X9 hx hZ hown (host := "") (Or.inl (hw _ (List.mem_of_getElem? (i := 47) rfl))) Via.refl e9 ((World.ext (own_ext KC2) W).2.2.1) (g := (mkF m 26 #[.val (.ref x6_0), .val (.ref x6_1)] [(.ref x6_0)])) rfl (hb hby d6_26)
      have sg14 : ∀ t, Steps p.tables e below (T13.setTop (mkF m 29 #[.val (.ref x6_0), .val (.ref x6_1)] [(.ref w_UNKNOWN), (.ref x6_0)])) t → Steps p.tables e below (T9.setTop (mkF m 18 #[.val (.ref x6_0), .val (.ref x6_1)] [(.ref w_TRUE), (.ref x6_1)])) t := fun t kt => by
        show Steps p.tables e below (T9.setTop (mkF m 18 #[.val (.ref x6_0), .val (.ref x6_1)] [(.ref w_TRUE), (.ref x6_1)])) _
        refine Jvm.RoadKit.acmp (g := (mkF m 18 #[.val (.ref x6_0), .val (.ref x6_1)] [(.ref w_TRUE), (.ref x6_1)])) X9 hx rfl rfl rfl (pc0 := 18) (pc' := 25) (same := false) rfl (hb hby d6_18) rfl (decide_eq_false fun q => hc18_11 (Value.ref.inj q)) (by decide) (by decide) ?_
        show Steps p.tables e below (T9.setTop (mkF m 25 #[.val (.ref x6_0), .val (.ref x6_1)] [])) _
        refine XS.aloadN X9.here hx rfl (hb hby d6_25) rfl rfl ?_
        show Steps p.tables e below (T9.setTop (mkF m 26 #[.val (.ref x6_0), .val (.ref x6_1)] [(.ref x6_0)])) _
        refine st13 _ ?_
        exact kt
      by_cases hc29_15 : x6_0 = w_UNKNOWN
      · obtain ⟨T16, X16, e16, st16⟩ := getS2 X13 hx hZ hown (host := "") (Or.inl (hw _ (List.mem_of_getElem? (i := 47) rfl))) Via.refl e13 ((World.ext (own_ext KC2) W).2.2.1) (g := (mkF m 39 #[.val (.ref x6_0), .val (.ref x6_1)] [])) rfl (hb hby d6_39)
        obtain ⟨fs, hr, hrun, hended, hRW⟩ := Stand.leaveW (s := s) (vm₁ := T2.vm) X16 hS2 (by rw [e16]; exact hk2) (v := some (.ref w_UNKNOWN)) (fun h => by rw [Bd.returns] at h; cases h)
        refine ⟨_, _, pre0 _ (sg1 _ (sg4 _ (sg6 _ (sg10 _ (sg14 _ ?_))))), hrun, hended, _, _, rfl, ?_, hRW.1, hRW.2.1, hRW.2.2.1, hRW.2.2.2.mono (by decide) (by decide)⟩
        · show Steps p.tables e below (T13.setTop (mkF m 29 #[.val (.ref x6_0), .val (.ref x6_1)] [(.ref w_UNKNOWN), (.ref x6_0)])) _
          refine Jvm.RoadKit.acmp (g := (mkF m 29 #[.val (.ref x6_0), .val (.ref x6_1)] [(.ref w_UNKNOWN), (.ref x6_0)])) X13 hx rfl rfl rfl (pc0 := 29) (pc' := 39) (same := true) rfl (hb hby d6_29) rfl (decide_eq_true (congrArg Value.ref hc29_15)) (by decide) (by decide) ?_
          show Steps p.tables e below (T13.setTop (mkF m 39 #[.val (.ref x6_0), .val (.ref x6_1)] [])) _
          refine st16 _ ?_
          show Steps p.tables e below (T16.setTop (mkF m 42 #[.val (.ref x6_0), .val (.ref x6_1)] [(.ref w_UNKNOWN)])) _
          refine XS.goto X16.here hx rfl (pc0 := 42) (pc' := 48) rfl (hb hby d6_42) (by decide) (by decide) ?_
          show Steps p.tables e below (T16.setTop (mkF m 48 #[.val (.ref x6_0), .val (.ref x6_1)] [(.ref w_UNKNOWN)])) _
          exact retOut X16 hx Bd.returns rfl (Or.inr (Or.inr (Or.inr (Or.inr ⟨rfl, rfl, rfl⟩)))) (hb hby d6_48) hr
        · show Q6 Z x6_0 x6_1 w_TRUE w_FALSE w_UNKNOWN h0 n0 _ T16.heap _
          rw [e16]
          exact ⟨congrArg (fun z => some (Value.ref z)) (show w_UNKNOWN = f6 x6_0 x6_1 w_TRUE w_FALSE w_UNKNOWN from by unfold f6; rw [if_neg hc11_7, if_neg hc18_11, if_pos hc29_15]), N3, KC2⟩
      · obtain ⟨T17, X17, e17, st17⟩ := getS2 X13 hx hZ hown (host := "") (Or.inl (hw _ (List.mem_of_getElem? (i := 47) rfl))) Via.refl e13 ((World.ext (own_ext KC2) W).2.2.1) (g := (mkF m 33 #[.val (.ref x6_0), .val (.ref x6_1)] [(.ref x6_1)])) rfl (hb hby d6_33)
        have sg18 : ∀ t, Steps p.tables e below (T17.setTop (mkF m 36 #[.val (.ref x6_0), .val (.ref x6_1)] [(.ref w_UNKNOWN), (.ref x6_1)])) t → Steps p.tables e below (T13.setTop (mkF m 29 #[.val (.ref x6_0), .val (.ref x6_1)] [(.ref w_UNKNOWN), (.ref x6_0)])) t := fun t kt => by
          show Steps p.tables e below (T13.setTop (mkF m 29 #[.val (.ref x6_0), .val (.ref x6_1)] [(.ref w_UNKNOWN), (.ref x6_0)])) _
          refine Jvm.RoadKit.acmp (g := (mkF m 29 #[.val (.ref x6_0), .val (.ref x6_1)] [(.ref w_UNKNOWN), (.ref x6_0)])) X13 hx rfl rfl rfl (pc0 := 29) (pc' := 32) (same := false) rfl (hb hby d6_29) rfl (decide_eq_false fun q => hc29_15 (Value.ref.inj q)) (by decide) (by decide) ?_
          show Steps p.tables e below (T13.setTop (mkF m 32 #[.val (.ref x6_0), .val (.ref x6_1)] [])) _
          refine XS.aloadN X13.here hx rfl (hb hby d6_32) rfl rfl ?_
          show Steps p.tables e below (T13.setTop (mkF m 33 #[.val (.ref x6_0), .val (.ref x6_1)] [(.ref x6_1)])) _
          refine st17 _ ?_
          exact kt
        by_cases hc36_19 : x6_1 = w_UNKNOWN
        · obtain ⟨T20, X20, e20, st20⟩ := getS2 X17 hx hZ hown (host := "") (Or.inl (hw _ (List.mem_of_getElem? (i := 47) rfl))) Via.refl e17 ((World.ext (own_ext KC2) W).2.2.1) (g := (mkF m 39 #[.val (.ref x6_0), .val (.ref x6_1)] [])) rfl (hb hby d6_39)
          obtain ⟨fs, hr, hrun, hended, hRW⟩ := Stand.leaveW (s := s) (vm₁ := T2.vm) X20 hS2 (by rw [e20]; exact hk2) (v := some (.ref w_UNKNOWN)) (fun h => by rw [Bd.returns] at h; cases h)
          refine ⟨_, _, pre0 _ (sg1 _ (sg4 _ (sg6 _ (sg10 _ (sg14 _ (sg18 _ ?_)))))), hrun, hended, _, _, rfl, ?_, hRW.1, hRW.2.1, hRW.2.2.1, hRW.2.2.2.mono (by decide) (by decide)⟩
          · show Steps p.tables e below (T17.setTop (mkF m 36 #[.val (.ref x6_0), .val (.ref x6_1)] [(.ref w_UNKNOWN), (.ref x6_1)])) _
            refine Jvm.RoadKit.acmp (g := (mkF m 36 #[.val (.ref x6_0), .val (.ref x6_1)] [(.ref w_UNKNOWN), (.ref x6_1)])) X17 hx rfl rfl rfl (pc0 := 36) (pc' := 39) (same := true) rfl (hb hby d6_36) rfl (decide_eq_true (congrArg Value.ref hc36_19)) (by decide) (by decide) ?_
            show Steps p.tables e below (T17.setTop (mkF m 39 #[.val (.ref x6_0), .val (.ref x6_1)] [])) _
            refine st20 _ ?_
            show Steps p.tables e below (T20.setTop (mkF m 42 #[.val (.ref x6_0), .val (.ref x6_1)] [(.ref w_UNKNOWN)])) _
            refine XS.goto X20.here hx rfl (pc0 := 42) (pc' := 48) rfl (hb hby d6_42) (by decide) (by decide) ?_
            show Steps p.tables e below (T20.setTop (mkF m 48 #[.val (.ref x6_0), .val (.ref x6_1)] [(.ref w_UNKNOWN)])) _
            exact retOut X20 hx Bd.returns rfl (Or.inr (Or.inr (Or.inr (Or.inr ⟨rfl, rfl, rfl⟩)))) (hb hby d6_48) hr
          · show Q6 Z x6_0 x6_1 w_TRUE w_FALSE w_UNKNOWN h0 n0 _ T20.heap _
            rw [e20]
            exact ⟨congrArg (fun z => some (Value.ref z)) (show w_UNKNOWN = f6 x6_0 x6_1 w_TRUE w_FALSE w_UNKNOWN from by unfold f6; rw [if_neg hc11_7, if_neg hc18_11, if_neg hc29_15, if_pos hc36_19]), N3, KC2⟩
        · obtain ⟨T21, X21, e21, st21⟩ := getS2 X17 hx hZ hown (host := "") (Or.inl (hw _ (List.mem_of_getElem? (i := 4) rfl))) Via.refl e17 ((World.ext (own_ext KC2) W).2.1) (g := (mkF m 45 #[.val (.ref x6_0), .val (.ref x6_1)] [])) rfl (hb hby d6_45)
          obtain ⟨fs, hr, hrun, hended, hRW⟩ := Stand.leaveW (s := s) (vm₁ := T2.vm) X21 hS2 (by rw [e21]; exact hk2) (v := some (.ref w_FALSE)) (fun h => by rw [Bd.returns] at h; cases h)
          refine ⟨_, _, pre0 _ (sg1 _ (sg4 _ (sg6 _ (sg10 _ (sg14 _ (sg18 _ ?_)))))), hrun, hended, _, _, rfl, ?_, hRW.1, hRW.2.1, hRW.2.2.1, hRW.2.2.2.mono (by decide) (by decide)⟩
          · show Steps p.tables e below (T17.setTop (mkF m 36 #[.val (.ref x6_0), .val (.ref x6_1)] [(.ref w_UNKNOWN), (.ref x6_1)])) _
            refine Jvm.RoadKit.acmp (g := (mkF m 36 #[.val (.ref x6_0), .val (.ref x6_1)] [(.ref w_UNKNOWN), (.ref x6_1)])) X17 hx rfl rfl rfl (pc0 := 36) (pc' := 45) (same := false) rfl (hb hby d6_36) rfl (decide_eq_false fun q => hc36_19 (Value.ref.inj q)) (by decide) (by decide) ?_
            show Steps p.tables e below (T17.setTop (mkF m 45 #[.val (.ref x6_0), .val (.ref x6_1)] [])) _
            refine st21 _ ?_
            show Steps p.tables e below (T21.setTop (mkF m 48 #[.val (.ref x6_0), .val (.ref x6_1)] [(.ref w_FALSE)])) _
            exact retOut X21 hx Bd.returns rfl (Or.inr (Or.inr (Or.inr (Or.inr ⟨rfl, rfl, rfl⟩)))) (hb hby d6_48) hr
          · show Q6 Z x6_0 x6_1 w_TRUE w_FALSE w_UNKNOWN h0 n0 _ T21.heap _
            rw [e21]
            exact ⟨congrArg (fun z => some (Value.ref z)) (show w_FALSE = f6 x6_0 x6_1 w_TRUE w_FALSE w_UNKNOWN from by unfold f6; rw [if_neg hc11_7, if_neg hc18_11, if_neg hc29_15, if_neg hc36_19]), N3, KC2⟩
theorem pd_2 : parseMethodDescriptor "(Z)Lcom/example/graticule/graticule/filter/TruthValue;" = some ⟨[.boolean], some (.object "com/example/graticule/graticule/filter/TruthValue")⟩ := by decide +kernel
theorem pd_3 : parseMethodDescriptor "()Lcom/example/graticule/graticule/filter/TruthValue;" = some ⟨[], some (.object "com/example/graticule/graticule/filter/TruthValue")⟩ := by decide +kernel
theorem pd_4 : parseMethodDescriptor "(Lcom/example/graticule/graticule/filter/TruthValue;)Lcom/example/graticule/graticule/filter/TruthValue;" = some ⟨[(.object "com/example/graticule/graticule/filter/TruthValue")], some (.object "com/example/graticule/graticule/filter/TruthValue")⟩ := by decide +kernel
theorem pn_3 : plainName "com/example/graticule/graticule/filter/TruthValueOfPinLaw" = true := by first | (simp [plainName, overriddenIn]; done) | decide +kernel
theorem ef_0 (m : MethodId) (x0_0 : Int32) : entryFrame m #[(.int x0_0)] maxLocals = mkF m 0 #[.val (.int x0_0), .unset, .unset, .unset, .unset] [] := by first | (simp [entryFrame, mkF, argsToLocals, Value.category, maxLocals]; done) | rfl
def Q0 (Z : State) (x0_0 : Int32) (w_TRUE w_FALSE w_UNKNOWN : Addr) (h0 : Heap) (n0 : Nat) (v : Option Value) (h : Heap) (L : List Loc) : Prop := v = some (.int 1) ∧ Fr n0 L
set_option maxRecDepth 65536 in
set_option maxHeartbeats 40000000 in
theorem rm0 (l : Launch) (Z : State) (a0 : Array Value) (hw : ∀ d ∈ tables_1, d.before a0 Z = true) (ws : List Jvm.Cond) (x0_0 : Int32) (w_TRUE w_FALSE w_UNKNOWN : Addr) (h0 : Heap) (n0 : Nat) (Z0 : n0 ≤ h0.size) (W : World Z Z.heap w_TRUE w_FALSE w_UNKNOWN) (O0 : Old Z n0 h0) :
    MetFree l x (head1 (Jvm.Cond.code x code maxLocals ret :: ws) room_1) (fun a U => a = #[(.int x0_0)] ∧ Z.Warmed39 U.vm ∧ U.heap = h0) (fun _ _ _ _ _ => True) (fun _ U o U' => ∃ v L, o = .returned v ∧ Q0 Z x0_0 w_TRUE w_FALSE w_UNKNOWN h0 n0 v U'.heap L ∧ ReturnedEndW U o U' L room_1.cells room_1.slots) := by
  refine MetFree.of_bodySF (plainFor_of_name pn_3) hisR ?_
  intro p e s m args below meth c s₁ Bd hml0 hP hK
  obtain ⟨rfl, hZ, hh⟩ := hP
  have hx := Bd.exec
  have hby := Bd.bytes
  have hml : c.maxLocals = 5 := hml0
  have hown : s.vm.findClass "com/example/graticule/graticule/filter/TruthValueOfPinLaw" = some m.cls := findClass_of_methodNamed Bd.named
  have hnm := (name_of_methodNamed Bd.named Bd.method).1
  have X0 : Stand p l e room_1 s m #[(.int x0_0)] below meth c s₁ [] 0 0 := Stand.of_body Bd
  have e0 : s₁.heap = h0 := by rw [← hh, Bd.state]; rfl
  have N0 := Fr.nil n0
  have pre0 : ∀ t, Steps p.tables e below (s₁.setTop (mkF m 0 #[.val (.int x0_0), .unset, .unset, .unset, .unset] [])) t → Steps p.tables e below (s₁.setTop (entryFrame m #[(.int x0_0)] maxLocals)) t := fun t k => castTop (ef_0 m x0_0) k
  have hS0 : s.Since s.vm h0.size := (State.WarmedH.refl s).since _
  have hk0 : h0.size ≤ h0.size := Nat.le_refl _
  have sg1 : ∀ t, Steps p.tables e below (s₁.setTop (mkF m 3 #[.val (.int x0_0), .unset, .unset, .unset, .unset] [(.int (x0_0 &&& (1 : Int32)))])) t → Steps p.tables e below (s₁.setTop (mkF m 0 #[.val (.int x0_0), .unset, .unset, .unset, .unset] [])) t := fun t kt => by
    show Steps p.tables e below (s₁.setTop (mkF m 0 #[.val (.int x0_0), .unset, .unset, .unset, .unset] [])) _
    refine XS.iloadN X0.here hx rfl (hb hby at_0) rfl ?_
    show Steps p.tables e below (s₁.setTop (mkF m 1 #[.val (.int x0_0), .unset, .unset, .unset, .unset] [(.int x0_0)])) _
    refine XS.iconst X0.here hx rfl (hb hby at_1) ?_
    show Steps p.tables e below (s₁.setTop (mkF m 2 #[.val (.int x0_0), .unset, .unset, .unset, .unset] [(.int (1 : Int32)), (.int x0_0)])) _
    refine XS.iand X0.here hx rfl (hb hby at_2) rfl ?_
    exact kt
  by_cases hc3_2 : (x0_0 &&& (1 : Int32)) = (0 : Int32)
  · have sg3 : ∀ t, Steps p.tables e below (s₁.setTop (mkF m 15 #[.val (.int x0_0), .val (.int (0 : Int32)), .unset, .unset, .unset] [(.int (x0_0 &&& (2 : Int32)))])) t → Steps p.tables e below (s₁.setTop (mkF m 3 #[.val (.int x0_0), .unset, .unset, .unset, .unset] [(.int (x0_0 &&& (1 : Int32)))])) t := fun t kt => by
      show Steps p.tables e below (s₁.setTop (mkF m 3 #[.val (.int x0_0), .unset, .unset, .unset, .unset] [(.int (x0_0 &&& (1 : Int32)))])) _
      refine XS.ifYes X0.here hx rfl (pc0 := 3) (pc' := 10) rfl (hb hby at_3) rfl ((if0 _ _).trans (teq hc3_2).1) (by decide) (by decide) ?_
      show Steps p.tables e below (s₁.setTop (mkF m 10 #[.val (.int x0_0), .unset, .unset, .unset, .unset] [])) _
      refine XS.iconst X0.here hx rfl (hb hby at_10) ?_
      show Steps p.tables e below (s₁.setTop (mkF m 11 #[.val (.int x0_0), .unset, .unset, .unset, .unset] [(.int (0 : Int32))])) _
      refine XS.istoreN X0.here hx rfl (hb hby at_11) rfl (l' := #[.val (.int x0_0), .val (.int (0 : Int32)), .unset, .unset, .unset]) rfl ?_
      show Steps p.tables e below (s₁.setTop (mkF m 12 #[.val (.int x0_0), .val (.int (0 : Int32)), .unset, .unset, .unset] [])) _
      refine XS.iloadN X0.here hx rfl (hb hby at_12) rfl ?_
      show Steps p.tables e below (s₁.setTop (mkF m 13 #[.val (.int x0_0), .val (.int (0 : Int32)), .unset, .unset, .unset] [(.int x0_0)])) _
      refine XS.iconst X0.here hx rfl (hb hby at_13) ?_
      show Steps p.tables e below (s₁.setTop (mkF m 14 #[.val (.int x0_0), .val (.int (0 : Int32)), .unset, .unset, .unset] [(.int (2 : Int32)), (.int x0_0)])) _
      refine XS.iand X0.here hx rfl (hb hby at_14) rfl ?_
      exact kt
    by_cases hc15_4 : (x0_0 &&& (2 : Int32)) = (0 : Int32)
    · have sg6 : ∀ t, Steps p.tables e below (s₁.setTop (mkF m 25 #[.val (.int x0_0), .val (.int (0 : Int32)), .val (.int (0 : Int32)), .unset, .unset] [(.int (0 : Int32))])) t → Steps p.tables e below (s₁.setTop (mkF m 15 #[.val (.int x0_0), .val (.int (0 : Int32)), .unset, .unset, .unset] [(.int (x0_0 &&& (2 : Int32)))])) t := fun t kt => by
        show Steps p.tables e below (s₁.setTop (mkF m 15 #[.val (.int x0_0), .val (.int (0 : Int32)), .unset, .unset, .unset] [(.int (x0_0 &&& (2 : Int32)))])) _
        refine XS.ifYes X0.here hx rfl (pc0 := 15) (pc' := 22) rfl (hb hby at_15) rfl ((if0 _ _).trans (teq hc15_4).1) (by decide) (by decide) ?_
        show Steps p.tables e below (s₁.setTop (mkF m 22 #[.val (.int x0_0), .val (.int (0 : Int32)), .unset, .unset, .unset] [])) _
        refine XS.iconst X0.here hx rfl (hb hby at_22) ?_
        show Steps p.tables e below (s₁.setTop (mkF m 23 #[.val (.int x0_0), .val (.int (0 : Int32)), .unset, .unset, .unset] [(.int (0 : Int32))])) _
        refine XS.istoreN X0.here hx rfl (hb hby at_23) rfl (l' := #[.val (.int x0_0), .val (.int (0 : Int32)), .val (.int (0 : Int32)), .unset, .unset]) rfl ?_
        show Steps p.tables e below (s₁.setTop (mkF m 24 #[.val (.int x0_0), .val (.int (0 : Int32)), .val (.int (0 : Int32)), .unset, .unset] [])) _
        refine XS.iloadN X0.here hx rfl (hb hby at_24) rfl ?_
        exact kt
      obtain ⟨v5, _, ⟨T5, L5, k5, n5⟩, -, X5, ⟨Lc5, hQ5, l5, y5, z5⟩, st5⟩ := Jvm.LawKit.callS X0 hx (y := (⟨"com/example/graticule/graticule/filter/TruthValue", "of", "(Z)Lcom/example/graticule/graticule/filter/TruthValue;"⟩ : MethodName)) hown (mvT hZ (hw _ (List.mem_of_getElem? (i := 0) rfl))) (mvT hZ (hw _ (List.mem_of_getElem? (i := 1) rfl))) (mvT hZ (hw _ (List.mem_of_getElem? (i := 2) rfl))) (mvT hZ (hw _ (List.mem_of_getElem? (i := 3) rfl))) (by decide) (backOf (W := 0) (rm1 l Z a0 hw [] (0 : Int32) w_TRUE w_FALSE w_UNKNOWN h0 n0 Z0 (World.ext O0.2 W)) hZ (hw _ (List.mem_of_getElem? (i := 3) rfl)) (hw _ (List.mem_of_getElem? (i := 2) rfl)) (by decide) (by decide)) (g := (mkF m 25 #[.val (.int x0_0), .val (.int (0 : Int32)), .val (.int (0 : Int32)), .unset, .unset] [(.int (0 : Int32))])) rfl (by rw [hml]; rfl) (argsL := [(.int (0 : Int32))]) (rest := []) (lenOf pd_2 rfl) rfl (by show 2 * 0 + _ ≤ _; exact Nat.le_of_eq rfl) (hb hby at_25) (fun _ _ => ⟨rfl, e0, (by decide : 0 + 0 ≤ _), (by decide : 0 + 0 ≤ _)⟩)
      dsimp only [Pt.U, Pt.locs, Pt.cells, Pt.slots] at X5 l5 y5 z5 st5 hQ5
      subst l5 y5 z5
      obtain ⟨hv5, N5q, e5⟩ := hQ5
      have N5 := Fr.app N0 N5q
      have hf5 : f1 (0 : Int32) w_TRUE w_FALSE w_UNKNOWN = w_FALSE := by unfold f1; rw [if_pos (by decide : ((0 : Int32) = (0 : Int32)))]
      rw [hf5] at hv5
      subst hv5
      have sg8 : ∀ t, Steps p.tables e below (T5.setTop (mkF m 30 #[.val (.int x0_0), .val (.int (0 : Int32)), .val (.int (0 : Int32)), .val (.ref w_FALSE), .unset] [(.int (0 : Int32))])) t → Steps p.tables e below (s₁.setTop (mkF m 25 #[.val (.int x0_0), .val (.int (0 : Int32)), .val (.int (0 : Int32)), .unset, .unset] [(.int (0 : Int32))])) t := fun t kt => by
        show Steps p.tables e below (s₁.setTop (mkF m 25 #[.val (.int x0_0), .val (.int (0 : Int32)), .val (.int (0 : Int32)), .unset, .unset] [(.int (0 : Int32))])) _
        refine st5 _ ?_
        show Steps p.tables e below (T5.setTop (mkF m 28 #[.val (.int x0_0), .val (.int (0 : Int32)), .val (.int (0 : Int32)), .unset, .unset] [(.ref w_FALSE)])) _
        refine XS.astoreN X5.here hx rfl (hb hby at_28) rfl rfl (l' := #[.val (.int x0_0), .val (.int (0 : Int32)), .val (.int (0 : Int32)), .val (.ref w_FALSE), .unset]) rfl ?_
        show Steps p.tables e below (T5.setTop (mkF m 29 #[.val (.int x0_0), .val (.int (0 : Int32)), .val (.int (0 : Int32)), .val (.ref w_FALSE), .unset] [])) _
        refine XS.iloadN X5.here hx rfl (hb hby at_29) rfl ?_
        exact kt
      obtain ⟨v7, _, ⟨T7, L7, k7, n7⟩, -, X7, ⟨Lc7, hQ7, l7, y7, z7⟩, st7⟩ := Jvm.LawKit.callS X5 hx (y := (⟨"com/example/graticule/graticule/filter/TruthValue", "of", "(Z)Lcom/example/graticule/graticule/filter/TruthValue;"⟩ : MethodName)) hown (mvT hZ (hw _ (List.mem_of_getElem? (i := 0) rfl))) (mvT hZ (hw _ (List.mem_of_getElem? (i := 1) rfl))) (mvT hZ (hw _ (List.mem_of_getElem? (i := 2) rfl))) (mvT hZ (hw _ (List.mem_of_getElem? (i := 3) rfl))) (by decide) (backOf (W := 0) (rm1 l Z a0 hw [] (0 : Int32) w_TRUE w_FALSE w_UNKNOWN h0 n0 Z0 (World.ext O0.2 W)) hZ (hw _ (List.mem_of_getElem? (i := 3) rfl)) (hw _ (List.mem_of_getElem? (i := 2) rfl)) (by decide) (by decide)) (g := (mkF m 30 #[.val (.int x0_0), .val (.int (0 : Int32)), .val (.int (0 : Int32)), .val (.ref w_FALSE), .unset] [(.int (0 : Int32))])) rfl (by rw [hml]; rfl) (argsL := [(.int (0 : Int32))]) (rest := []) (lenOf pd_2 rfl) rfl (by show 2 * 0 + _ ≤ _; exact Nat.le_of_eq rfl) (hb hby at_30) (fun _ _ => ⟨rfl, e5, (by decide : 0 + 0 ≤ _), (by decide : 0 + 0 ≤ _)⟩)
      dsimp only [Pt.U, Pt.locs, Pt.cells, Pt.slots] at X7 l7 y7 z7 st7 hQ7
      subst l7 y7 z7
      obtain ⟨hv7, N7q, e7⟩ := hQ7
      have N7 := Fr.app N5 N7q
      have hf7 : f1 (0 : Int32) w_TRUE w_FALSE w_UNKNOWN = w_FALSE := by unfold f1; rw [if_pos (by decide : ((0 : Int32) = (0 : Int32)))]
      rw [hf7] at hv7
      subst hv7
      obtain ⟨T9, X9, e9, st9⟩ := getS2 X7 hx hZ hown (host := "") (Or.inl (hw _ (List.mem_of_getElem? (i := 6) rfl))) Via.refl e7 ((World.ext O0.2 W).2.2.1) (g := (mkF m 36 #[.val (.int x0_0), .val (.int (0 : Int32)), .val (.int (0 : Int32)), .val (.ref w_FALSE), .val (.ref w_FALSE)] [(.ref w_FALSE)])) rfl (hb hby at_36)
      obtain ⟨T10, X10, e10, st10⟩ := getS2 X9 hx hZ hown (host := "") (Or.inl (hw _ (List.mem_of_getElem? (i := 6) rfl))) Via.refl e9 ((World.ext O0.2 W).2.2.1) (g := (mkF m 44 #[.val (.int x0_0), .val (.int (0 : Int32)), .val (.int (0 : Int32)), .val (.ref w_FALSE), .val (.ref w_FALSE)] [(.ref w_FALSE)])) rfl (hb hby at_44)
      have sg12 : ∀ t, Steps p.tables e below (T10.setTop (mkF m 53 #[.val (.int x0_0), .val (.int (0 : Int32)), .val (.int (0 : Int32)), .val (.ref w_FALSE), .val (.ref w_FALSE)] [(.int (1 : Int32))])) t → Steps p.tables e below (T5.setTop (mkF m 30 #[.val (.int x0_0), .val (.int (0 : Int32)), .val (.int (0 : Int32)), .val (.ref w_FALSE), .unset] [(.int (0 : Int32))])) t := fun t kt => by
        show Steps p.tables e below (T5.setTop (mkF m 30 #[.val (.int x0_0), .val (.int (0 : Int32)), .val (.int (0 : Int32)), .val (.ref w_FALSE), .unset] [(.int (0 : Int32))])) _
        refine st7 _ ?_
        show Steps p.tables e below (T7.setTop (mkF m 33 #[.val (.int x0_0), .val (.int (0 : Int32)), .val (.int (0 : Int32)), .val (.ref w_FALSE), .unset] [(.ref w_FALSE)])) _
        refine XS.astore X7.here hx rfl (hb hby at_33) rfl rfl (l' := #[.val (.int x0_0), .val (.int (0 : Int32)), .val (.int (0 : Int32)), .val (.ref w_FALSE), .val (.ref w_FALSE)]) rfl ?_
        show Steps p.tables e below (T7.setTop (mkF m 35 #[.val (.int x0_0), .val (.int (0 : Int32)), .val (.int (0 : Int32)), .val (.ref w_FALSE), .val (.ref w_FALSE)] [])) _
        refine XS.aloadN X7.here hx rfl (hb hby at_35) rfl rfl ?_
        show Steps p.tables e below (T7.setTop (mkF m 36 #[.val (.int x0_0), .val (.int (0 : Int32)), .val (.int (0 : Int32)), .val (.ref w_FALSE), .val (.ref w_FALSE)] [(.ref w_FALSE)])) _
        refine st9 _ ?_
        show Steps p.tables e below (T9.setTop (mkF m 39 #[.val (.int x0_0), .val (.int (0 : Int32)), .val (.int (0 : Int32)), .val (.ref w_FALSE), .val (.ref w_FALSE)] [(.ref w_UNKNOWN), (.ref w_FALSE)])) _
        refine Jvm.RoadKit.acmp (g := (mkF m 39 #[.val (.int x0_0), .val (.int (0 : Int32)), .val (.int (0 : Int32)), .val (.ref w_FALSE), .val (.ref w_FALSE)] [(.ref w_UNKNOWN), (.ref w_FALSE)])) X9 hx rfl rfl rfl (pc0 := 39) (pc' := 42) (same := false) rfl (hb hby at_39) rfl (decide_eq_false fun q => (Fld.ne ((World.ext O0.2 W).2.2.2.2.2.2.2.1) ((World.ext O0.2 W).2.2.2.2.2.2.2.2) (by decide) : ¬ (w_FALSE = w_UNKNOWN)) (Value.ref.inj q)) (by decide) (by decide) ?_
        show Steps p.tables e below (T9.setTop (mkF m 42 #[.val (.int x0_0), .val (.int (0 : Int32)), .val (.int (0 : Int32)), .val (.ref w_FALSE), .val (.ref w_FALSE)] [])) _
        refine XS.aload X9.here hx rfl (hb hby at_42) rfl rfl ?_
        show Steps p.tables e below (T9.setTop (mkF m 44 #[.val (.int x0_0), .val (.int (0 : Int32)), .val (.int (0 : Int32)), .val (.ref w_FALSE), .val (.ref w_FALSE)] [(.ref w_FALSE)])) _
        refine st10 _ ?_
        show Steps p.tables e below (T10.setTop (mkF m 47 #[.val (.int x0_0), .val (.int (0 : Int32)), .val (.int (0 : Int32)), .val (.ref w_FALSE), .val (.ref w_FALSE)] [(.ref w_UNKNOWN), (.ref w_FALSE)])) _
        refine Jvm.RoadKit.acmp (g := (mkF m 47 #[.val (.int x0_0), .val (.int (0 : Int32)), .val (.int (0 : Int32)), .val (.ref w_FALSE), .val (.ref w_FALSE)] [(.ref w_UNKNOWN), (.ref w_FALSE)])) X10 hx rfl rfl rfl (pc0 := 47) (pc' := 52) (same := false) rfl (hb hby at_47) rfl (decide_eq_false fun q => (Fld.ne ((World.ext O0.2 W).2.2.2.2.2.2.2.1) ((World.ext O0.2 W).2.2.2.2.2.2.2.2) (by decide) : ¬ (w_FALSE = w_UNKNOWN)) (Value.ref.inj q)) (by decide) (by decide) ?_
        show Steps p.tables e below (T10.setTop (mkF m 52 #[.val (.int x0_0), .val (.int (0 : Int32)), .val (.int (0 : Int32)), .val (.ref w_FALSE), .val (.ref w_FALSE)] [])) _
        refine XS.iconst X10.here hx rfl (hb hby at_52) ?_
        exact kt
      obtain ⟨v11, _, ⟨T11, L11, k11, n11⟩, -, X11, ⟨Lc11, hQ11, l11, y11, z11⟩, st11⟩ := Jvm.LawKit.callS X10 hx (y := (⟨"com/example/graticule/graticule/filter/TruthValue", "of", "(Z)Lcom/example/graticule/graticule/filter/TruthValue;"⟩ : MethodName)) hown (mvT hZ (hw _ (List.mem_of_getElem? (i := 0) rfl))) (mvT hZ (hw _ (List.mem_of_getElem? (i := 1) rfl))) (mvT hZ (hw _ (List.mem_of_getElem? (i := 2) rfl))) (mvT hZ (hw _ (List.mem_of_getElem? (i := 3) rfl))) (by decide) (backOf (W := 0) (rm1 l Z a0 hw [] (1 : Int32) w_TRUE w_FALSE w_UNKNOWN h0 n0 Z0 (World.ext O0.2 W)) hZ (hw _ (List.mem_of_getElem? (i := 3) rfl)) (hw _ (List.mem_of_getElem? (i := 2) rfl)) (by decide) (by decide)) (g := (mkF m 53 #[.val (.int x0_0), .val (.int (0 : Int32)), .val (.int (0 : Int32)), .val (.ref w_FALSE), .val (.ref w_FALSE)] [(.int (1 : Int32))])) rfl (by rw [hml]; rfl) (argsL := [(.int (1 : Int32))]) (rest := []) (lenOf pd_2 rfl) rfl (by show 2 * 0 + _ ≤ _; exact Nat.le_of_eq rfl) (hb hby at_53) (fun _ _ => ⟨rfl, e10, (by decide : 0 + 0 ≤ _), (by decide : 0 + 0 ≤ _)⟩)
      dsimp only [Pt.U, Pt.locs, Pt.cells, Pt.slots] at X11 l11 y11 z11 st11 hQ11
      subst l11 y11 z11
      obtain ⟨hv11, N11q, e11⟩ := hQ11
      have N11 := Fr.app N7 N11q
      have hf11 : f1 (1 : Int32) w_TRUE w_FALSE w_UNKNOWN = w_TRUE := by unfold f1; rw [if_neg (by decide : ¬ ((1 : Int32) = (0 : Int32)))]
      rw [hf11] at hv11
      subst hv11
      obtain ⟨T13, X13, e13, st13⟩ := getS2 X11 hx hZ hown (host := "") (Or.inl (hw _ (List.mem_of_getElem? (i := 10) rfl))) Via.refl e11 ((World.ext O0.2 W).1) (g := (mkF m 56 #[.val (.int x0_0), .val (.int (0 : Int32)), .val (.int (0 : Int32)), .val (.ref w_FALSE), .val (.ref w_FALSE)] [(.ref w_TRUE)])) rfl (hb hby at_56)
      have sg15 : ∀ t, Steps p.tables e below (T13.setTop (mkF m 65 #[.val (.int x0_0), .val (.int (0 : Int32)), .val (.int (0 : Int32)), .val (.ref w_FALSE), .val (.ref w_FALSE)] [(.ref w_FALSE)])) t → Steps p.tables e below (T10.setTop (mkF m 53 #[.val (.int x0_0), .val (.int (0 : Int32)), .val (.int (0 : Int32)), .val (.ref w_FALSE), .val (.ref w_FALSE)] [(.int (1 : Int32))])) t := fun t kt => by
        show Steps p.tables e below (T10.setTop (mkF m 53 #[.val (.int x0_0), .val (.int (0 : Int32)), .val (.int (0 : Int32)), .val (.ref w_FALSE), .val (.ref w_FALSE)] [(.int (1 : Int32))])) _
        refine st11 _ ?_
        show Steps p.tables e below (T11.setTop (mkF m 56 #[.val (.int x0_0), .val (.int (0 : Int32)), .val (.int (0 : Int32)), .val (.ref w_FALSE), .val (.ref w_FALSE)] [(.ref w_TRUE)])) _
        refine st13 _ ?_
        show Steps p.tables e below (T13.setTop (mkF m 59 #[.val (.int x0_0), .val (.int (0 : Int32)), .val (.int (0 : Int32)), .val (.ref w_FALSE), .val (.ref w_FALSE)] [(.ref w_TRUE), (.ref w_TRUE)])) _
        refine Jvm.RoadKit.acmp (g := (mkF m 59 #[.val (.int x0_0), .val (.int (0 : Int32)), .val (.int (0 : Int32)), .val (.ref w_FALSE), .val (.ref w_FALSE)] [(.ref w_TRUE), (.ref w_TRUE)])) X13 hx rfl rfl rfl (pc0 := 59) (pc' := 64) (same := true) rfl (hb hby at_59) rfl (decide_eq_true (congrArg Value.ref (rfl : w_TRUE = w_TRUE))) (by decide) (by decide) ?_
        show Steps p.tables e below (T13.setTop (mkF m 64 #[.val (.int x0_0), .val (.int (0 : Int32)), .val (.int (0 : Int32)), .val (.ref w_FALSE), .val (.ref w_FALSE)] [])) _
        refine XS.aloadN X13.here hx rfl (hb hby at_64) rfl rfl ?_
        exact kt
      obtain ⟨cq14, kq14, q14a, q14b, q14c⟩ := isOf hZ e13 ((World.ext O0.2 W).2.2.2.2.1)
      obtain ⟨v14, _, ⟨T14, L14, k14, n14⟩, -, X14, ⟨Lc14, hQ14, l14, y14, z14⟩, st14⟩ := X13.virtualBack hx (y := (⟨"com/example/graticule/graticule/filter/TruthValue", "not", "()Lcom/example/graticule/graticule/filter/TruthValue;"⟩ : MethodName)) (z := (⟨"com/example/graticule/graticule/filter/TruthValue", "not", "()Lcom/example/graticule/graticule/filter/TruthValue;"⟩ : MethodName)) hown (mvT hZ (hw _ (List.mem_of_getElem? (i := 11) rfl))) (mvT hZ (hw _ (List.mem_of_getElem? (i := 12) rfl))) (notFace_of_selects (args := #[]) (mvT hZ (hw _ (List.mem_of_getElem? (i := 14) rfl)))) (mvT hZ (hw _ (List.mem_of_getElem? (i := 14) rfl))) (mvT hZ (hw _ (List.mem_of_getElem? (i := 13) rfl))) (by decide) (backOf (W := 0) (rm2 l Z a0 hw [] w_FALSE w_TRUE w_FALSE w_UNKNOWN (1 : Int32) h0 n0 Z0 (World.ext O0.2 W) ((World.ext O0.2 W).2.2.2.2.2.2.2.1) ((World.ext O0.2 W).2.2.2.2.1) (by decide)) hZ (hw _ (List.mem_of_getElem? (i := 15) rfl)) (hw _ (List.mem_of_getElem? (i := 2) rfl)) (by decide) (by decide)) q14a q14c (g := (mkF m 65 #[.val (.int x0_0), .val (.int (0 : Int32)), .val (.int (0 : Int32)), .val (.ref w_FALSE), .val (.ref w_FALSE)] [(.ref w_FALSE)])) rfl (by rw [hml]; rfl) (Steps.refl _) (argsL := []) (rest := []) (lenOf pd_3 rfl) rfl (by show 2 * 0 + _ ≤ _; exact Nat.le_of_eq rfl) (hb hby at_65) (fun _ _ => ⟨rfl, e13, (by decide : 0 + 0 ≤ _), (by decide : 0 + 0 ≤ _)⟩)
      dsimp only [Pt.U, Pt.locs, Pt.cells, Pt.slots] at X14 l14 y14 z14 st14 hQ14
      subst l14 y14 z14
      obtain ⟨hv14, N14q, e14⟩ := hQ14
      have N14 := Fr.app N11 N14q
      have hf14 : f2 w_FALSE w_TRUE w_FALSE w_UNKNOWN (1 : Int32) = w_TRUE := by unfold f2; rw [if_neg (by decide : ¬ ((1 : Int32) = (0 : Int32))), if_pos (by decide : ((1 : Int32) = (1 : Int32)))]
      rw [hf14] at hv14
      subst hv14
      have sg17 : ∀ t, Steps p.tables e below (T14.setTop (mkF m 77 #[.val (.int x0_0), .val (.int (0 : Int32)), .val (.int (0 : Int32)), .val (.ref w_FALSE), .val (.ref w_FALSE)] [(.int (1 : Int32)), (.ref w_TRUE)])) t → Steps p.tables e below (T13.setTop (mkF m 65 #[.val (.int x0_0), .val (.int (0 : Int32)), .val (.int (0 : Int32)), .val (.ref w_FALSE), .val (.ref w_FALSE)] [(.ref w_FALSE)])) t := fun t kt => by
        show Steps p.tables e below (T13.setTop (mkF m 65 #[.val (.int x0_0), .val (.int (0 : Int32)), .val (.int (0 : Int32)), .val (.ref w_FALSE), .val (.ref w_FALSE)] [(.ref w_FALSE)])) _
        refine st14.trans ?_
        show Steps p.tables e below (T14.setTop (mkF m 68 #[.val (.int x0_0), .val (.int (0 : Int32)), .val (.int (0 : Int32)), .val (.ref w_FALSE), .val (.ref w_FALSE)] [(.ref w_TRUE)])) _
        refine XS.iloadN X14.here hx rfl (hb hby at_68) rfl ?_
        show Steps p.tables e below (T14.setTop (mkF m 69 #[.val (.int x0_0), .val (.int (0 : Int32)), .val (.int (0 : Int32)), .val (.ref w_FALSE), .val (.ref w_FALSE)] [(.int (0 : Int32)), (.ref w_TRUE)])) _
        refine XS.ifNo X14.here hx rfl (hb hby at_69) rfl ((if0 _ _).trans (teq (by decide : ((0 : Int32) = (0 : Int32)))).2) ?_
        show Steps p.tables e below (T14.setTop (mkF m 72 #[.val (.int x0_0), .val (.int (0 : Int32)), .val (.int (0 : Int32)), .val (.ref w_FALSE), .val (.ref w_FALSE)] [(.ref w_TRUE)])) _
        refine XS.iconst X14.here hx rfl (hb hby at_72) ?_
        show Steps p.tables e below (T14.setTop (mkF m 73 #[.val (.int x0_0), .val (.int (0 : Int32)), .val (.int (0 : Int32)), .val (.ref w_FALSE), .val (.ref w_FALSE)] [(.int (1 : Int32)), (.ref w_TRUE)])) _
        refine XS.goto X14.here hx rfl (pc0 := 73) (pc' := 77) rfl (hb hby at_73) (by decide) (by decide) ?_
        exact kt
      obtain ⟨v16, _, ⟨T16, L16, k16, n16⟩, -, X16, ⟨Lc16, hQ16, l16, y16, z16⟩, st16⟩ := Jvm.LawKit.callS X14 hx (y := (⟨"com/example/graticule/graticule/filter/TruthValue", "of", "(Z)Lcom/example/graticule/graticule/filter/TruthValue;"⟩ : MethodName)) hown (mvT hZ (hw _ (List.mem_of_getElem? (i := 0) rfl))) (mvT hZ (hw _ (List.mem_of_getElem? (i := 1) rfl))) (mvT hZ (hw _ (List.mem_of_getElem? (i := 2) rfl))) (mvT hZ (hw _ (List.mem_of_getElem? (i := 3) rfl))) (by decide) (backOf (W := 1) (rm1 l Z a0 hw [] (1 : Int32) w_TRUE w_FALSE w_UNKNOWN h0 n0 Z0 (World.ext O0.2 W)) hZ (hw _ (List.mem_of_getElem? (i := 3) rfl)) (hw _ (List.mem_of_getElem? (i := 2) rfl)) (by decide) (by decide)) (g := (mkF m 77 #[.val (.int x0_0), .val (.int (0 : Int32)), .val (.int (0 : Int32)), .val (.ref w_FALSE), .val (.ref w_FALSE)] [(.int (1 : Int32)), (.ref w_TRUE)])) rfl (by rw [hml]; rfl) (argsL := [(.int (1 : Int32))]) (rest := [(.ref w_TRUE)]) (lenOf pd_2 rfl) rfl (by show 2 * 0 + _ ≤ _; exact Nat.le_of_eq rfl) (hb hby at_77) (fun _ _ => ⟨rfl, e14, (by decide : 0 + 0 ≤ _), (by decide : 0 + 0 ≤ _)⟩)
      dsimp only [Pt.U, Pt.locs, Pt.cells, Pt.slots] at X16 l16 y16 z16 st16 hQ16
      subst l16 y16 z16
      obtain ⟨hv16, N16q, e16⟩ := hQ16
      have N16 := Fr.app N14 N16q
      have hf16 : f1 (1 : Int32) w_TRUE w_FALSE w_UNKNOWN = w_TRUE := by unfold f1; rw [if_neg (by decide : ¬ ((1 : Int32) = (0 : Int32)))]
      rw [hf16] at hv16
      subst hv16
      have sg19 : ∀ t, Steps p.tables e below (T16.setTop (mkF m 88 #[.val (.int x0_0), .val (.int (0 : Int32)), .val (.int (0 : Int32)), .val (.ref w_FALSE), .val (.ref w_FALSE)] [(.ref w_FALSE), (.ref w_FALSE)])) t → Steps p.tables e below (T14.setTop (mkF m 77 #[.val (.int x0_0), .val (.int (0 : Int32)), .val (.int (0 : Int32)), .val (.ref w_FALSE), .val (.ref w_FALSE)] [(.int (1 : Int32)), (.ref w_TRUE)])) t := fun t kt => by
        show Steps p.tables e below (T14.setTop (mkF m 77 #[.val (.int x0_0), .val (.int (0 : Int32)), .val (.int (0 : Int32)), .val (.ref w_FALSE), .val (.ref w_FALSE)] [(.int (1 : Int32)), (.ref w_TRUE)])) _
        refine st16 _ ?_
        show Steps p.tables e below (T16.setTop (mkF m 80 #[.val (.int x0_0), .val (.int (0 : Int32)), .val (.int (0 : Int32)), .val (.ref w_FALSE), .val (.ref w_FALSE)] [(.ref w_TRUE), (.ref w_TRUE)])) _
        refine Jvm.RoadKit.acmp (g := (mkF m 80 #[.val (.int x0_0), .val (.int (0 : Int32)), .val (.int (0 : Int32)), .val (.ref w_FALSE), .val (.ref w_FALSE)] [(.ref w_TRUE), (.ref w_TRUE)])) X16 hx rfl rfl rfl (pc0 := 80) (pc' := 85) (same := true) rfl (hb hby at_80) rfl (decide_eq_true (congrArg Value.ref (rfl : w_TRUE = w_TRUE))) (by decide) (by decide) ?_
        show Steps p.tables e below (T16.setTop (mkF m 85 #[.val (.int x0_0), .val (.int (0 : Int32)), .val (.int (0 : Int32)), .val (.ref w_FALSE), .val (.ref w_FALSE)] [])) _
        refine XS.aloadN X16.here hx rfl (hb hby at_85) rfl rfl ?_
        show Steps p.tables e below (T16.setTop (mkF m 86 #[.val (.int x0_0), .val (.int (0 : Int32)), .val (.int (0 : Int32)), .val (.ref w_FALSE), .val (.ref w_FALSE)] [(.ref w_FALSE)])) _
        refine XS.aload X16.here hx rfl (hb hby at_86) rfl rfl ?_
        exact kt
      obtain ⟨cq18, kq18, q18a, q18b, q18c⟩ := isOf hZ e16 ((World.ext O0.2 W).2.2.2.2.1)
      obtain ⟨v18, _, ⟨T18, L18, k18, n18⟩, -, X18, hSq18, hgq18, ⟨Lc18, hQ18, l18, y18, z18⟩, st18⟩ := X16.virtualBackS hx (y := (⟨"com/example/graticule/graticule/filter/TruthValue", "and", "(Lcom/example/graticule/graticule/filter/TruthValue;)Lcom/example/graticule/graticule/filter/TruthValue;"⟩ : MethodName)) (z := (⟨"com/example/graticule/graticule/filter/TruthValue", "and", "(Lcom/example/graticule/graticule/filter/TruthValue;)Lcom/example/graticule/graticule/filter/TruthValue;"⟩ : MethodName)) hown (mvT hZ (hw _ (List.mem_of_getElem? (i := 25) rfl))) (mvT hZ (hw _ (List.mem_of_getElem? (i := 26) rfl))) (notFace_of_selects (args := #[]) (mvT hZ (hw _ (List.mem_of_getElem? (i := 28) rfl)))) (mvT hZ (hw _ (List.mem_of_getElem? (i := 28) rfl))) (mvT hZ (hw _ (List.mem_of_getElem? (i := 27) rfl))) (by decide) (backOfS (W := 0) (rm4 l Z a0 hw [] w_FALSE w_FALSE w_TRUE w_FALSE w_UNKNOWN h0 n0 Z0 (World.ext O0.2 W)) hZ (hw _ (List.mem_of_getElem? (i := 29) rfl)) (hw _ (List.mem_of_getElem? (i := 2) rfl)) (by decide) (by decide)) q18a q18c (g := (mkF m 88 #[.val (.int x0_0), .val (.int (0 : Int32)), .val (.int (0 : Int32)), .val (.ref w_FALSE), .val (.ref w_FALSE)] [(.ref w_FALSE), (.ref w_FALSE)])) rfl (by rw [hml]; rfl) (Steps.refl _) (argsL := [(.ref w_FALSE)]) (rest := []) (lenOf pd_4 rfl) rfl (by show 2 * 0 + _ ≤ _; exact Nat.le_of_eq rfl) (hb hby at_88) (fun _ _ => ⟨rfl, e16, (by decide : 0 + 2 ≤ _), (by decide : 0 + 24 ≤ _)⟩)
      dsimp only [Pt.U, Pt.locs, Pt.cells, Pt.slots] at X18 l18 y18 z18 st18 hQ18 hSq18 hgq18
      subst l18 y18 z18
      obtain ⟨Xr18, hS18, hZ, hown⟩ := rebS (s := s) (vm0 := s.vm) hS0 (by rw [e16]; exact hk0) X18 hSq18 hgq18 hZ hown
      have hk18 : T18.heap.size ≤ T18.heap.size := Nat.le_refl _
      obtain ⟨hv18, N18q, K18⟩ := hQ18
      have N18 := Fr.app N16 N18q
      have Zs18 : n0 ≤ T18.heap.size := Nat.le_trans Z0 K18.1
      have Ol18 : Old Z n0 T18.heap := (O0).keep K18 all0
      have hf18 : f4 w_FALSE w_FALSE w_TRUE w_FALSE w_UNKNOWN = w_FALSE := by unfold f4; rw [if_pos (rfl : w_FALSE = w_FALSE)]
      rw [hf18] at hv18
      subst hv18
      have sg21 : ∀ t, Steps p.tables e below (T18.setTop (mkF m 104 #[.val (.int x0_0), .val (.int (0 : Int32)), .val (.int (0 : Int32)), .val (.ref w_FALSE), .val (.ref w_FALSE)] [(.int (0 : Int32)), (.ref w_FALSE)])) t → Steps p.tables e below (T16.setTop (mkF m 88 #[.val (.int x0_0), .val (.int (0 : Int32)), .val (.int (0 : Int32)), .val (.ref w_FALSE), .val (.ref w_FALSE)] [(.ref w_FALSE), (.ref w_FALSE)])) t := fun t kt => by
        show Steps p.tables e below (T16.setTop (mkF m 88 #[.val (.int x0_0), .val (.int (0 : Int32)), .val (.int (0 : Int32)), .val (.ref w_FALSE), .val (.ref w_FALSE)] [(.ref w_FALSE), (.ref w_FALSE)])) _
        refine st18.trans ?_
        show Steps p.tables e below (T18.setTop (mkF m 91 #[.val (.int x0_0), .val (.int (0 : Int32)), .val (.int (0 : Int32)), .val (.ref w_FALSE), .val (.ref w_FALSE)] [(.ref w_FALSE)])) _
        refine XS.iloadN Xr18.here hx rfl (hb hby at_91) rfl ?_
        show Steps p.tables e below (T18.setTop (mkF m 92 #[.val (.int x0_0), .val (.int (0 : Int32)), .val (.int (0 : Int32)), .val (.ref w_FALSE), .val (.ref w_FALSE)] [(.int (0 : Int32)), (.ref w_FALSE)])) _
        refine XS.ifYes Xr18.here hx rfl (pc0 := 92) (pc' := 103) rfl (hb hby at_92) rfl ((if0 _ _).trans (teq (by decide : ((0 : Int32) = (0 : Int32)))).1) (by decide) (by decide) ?_
        show Steps p.tables e below (T18.setTop (mkF m 103 #[.val (.int x0_0), .val (.int (0 : Int32)), .val (.int (0 : Int32)), .val (.ref w_FALSE), .val (.ref w_FALSE)] [(.ref w_FALSE)])) _
        refine XS.iconst Xr18.here hx rfl (hb hby at_103) ?_
        exact kt
      obtain ⟨v20, _, ⟨T20, L20, k20, n20⟩, -, X20, ⟨Lc20, hQ20, l20, y20, z20⟩, st20⟩ := Jvm.LawKit.callS Xr18 hx (y := (⟨"com/example/graticule/graticule/filter/TruthValue", "of", "(Z)Lcom/example/graticule/graticule/filter/TruthValue;"⟩ : MethodName)) hown (mvT hZ (hw _ (List.mem_of_getElem? (i := 0) rfl))) (mvT hZ (hw _ (List.mem_of_getElem? (i := 1) rfl))) (mvT hZ (hw _ (List.mem_of_getElem? (i := 2) rfl))) (mvT hZ (hw _ (List.mem_of_getElem? (i := 3) rfl))) (by decide) (backOf (W := 1) (rm1 l Z a0 hw [] (0 : Int32) w_TRUE w_FALSE w_UNKNOWN T18.heap n0 Zs18 (World.ext Ol18.2 W)) hZ (hw _ (List.mem_of_getElem? (i := 3) rfl)) (hw _ (List.mem_of_getElem? (i := 2) rfl)) (by decide) (by decide)) (g := (mkF m 104 #[.val (.int x0_0), .val (.int (0 : Int32)), .val (.int (0 : Int32)), .val (.ref w_FALSE), .val (.ref w_FALSE)] [(.int (0 : Int32)), (.ref w_FALSE)])) rfl (by rw [hml]; rfl) (argsL := [(.int (0 : Int32))]) (rest := [(.ref w_FALSE)]) (lenOf pd_2 rfl) rfl (by show 2 * 0 + _ ≤ _; exact Nat.le_of_eq rfl) (hb hby at_104) (fun _ _ => ⟨rfl, rfl, (by decide : 2 + 0 ≤ _), (by decide : 24 + 0 ≤ _)⟩)
      dsimp only [Pt.U, Pt.locs, Pt.cells, Pt.slots] at X20 l20 y20 z20 st20 hQ20
      subst l20 y20 z20
      obtain ⟨hv20, N20q, e20⟩ := hQ20
      have N20 := Fr.app N18 N20q
      have hf20 : f1 (0 : Int32) w_TRUE w_FALSE w_UNKNOWN = w_FALSE := by unfold f1; rw [if_pos (by decide : ((0 : Int32) = (0 : Int32)))]
      rw [hf20] at hv20
      subst hv20
      have sg23 : ∀ t, Steps p.tables e below (T20.setTop (mkF m 115 #[.val (.int x0_0), .val (.int (0 : Int32)), .val (.int (0 : Int32)), .val (.ref w_FALSE), .val (.ref w_FALSE)] [(.ref w_FALSE), (.ref w_FALSE)])) t → Steps p.tables e below (T18.setTop (mkF m 104 #[.val (.int x0_0), .val (.int (0 : Int32)), .val (.int (0 : Int32)), .val (.ref w_FALSE), .val (.ref w_FALSE)] [(.int (0 : Int32)), (.ref w_FALSE)])) t := fun t kt => by
        show Steps p.tables e below (T18.setTop (mkF m 104 #[.val (.int x0_0), .val (.int (0 : Int32)), .val (.int (0 : Int32)), .val (.ref w_FALSE), .val (.ref w_FALSE)] [(.int (0 : Int32)), (.ref w_FALSE)])) _
        refine st20 _ ?_
        show Steps p.tables e below (T20.setTop (mkF m 107 #[.val (.int x0_0), .val (.int (0 : Int32)), .val (.int (0 : Int32)), .val (.ref w_FALSE), .val (.ref w_FALSE)] [(.ref w_FALSE), (.ref w_FALSE)])) _
        refine Jvm.RoadKit.acmp (g := (mkF m 107 #[.val (.int x0_0), .val (.int (0 : Int32)), .val (.int (0 : Int32)), .val (.ref w_FALSE), .val (.ref w_FALSE)] [(.ref w_FALSE), (.ref w_FALSE)])) X20 hx rfl rfl rfl (pc0 := 107) (pc' := 112) (same := true) rfl (hb hby at_107) rfl (decide_eq_true (congrArg Value.ref (rfl : w_FALSE = w_FALSE))) (by decide) (by decide) ?_
        show Steps p.tables e below (T20.setTop (mkF m 112 #[.val (.int x0_0), .val (.int (0 : Int32)), .val (.int (0 : Int32)), .val (.ref w_FALSE), .val (.ref w_FALSE)] [])) _
        refine XS.aloadN X20.here hx rfl (hb hby at_112) rfl rfl ?_
        show Steps p.tables e below (T20.setTop (mkF m 113 #[.val (.int x0_0), .val (.int (0 : Int32)), .val (.int (0 : Int32)), .val (.ref w_FALSE), .val (.ref w_FALSE)] [(.ref w_FALSE)])) _
        refine XS.aload X20.here hx rfl (hb hby at_113) rfl rfl ?_
        exact kt
      obtain ⟨cq22, kq22, q22a, q22b, q22c⟩ := isOf hZ e20 ((World.ext Ol18.2 W).2.2.2.2.1)
      obtain ⟨v22, _, ⟨T22, L22, k22, n22⟩, -, X22, hSq22, hgq22, ⟨Lc22, hQ22, l22, y22, z22⟩, st22⟩ := X20.virtualBackS hx (y := (⟨"com/example/graticule/graticule/filter/TruthValue", "or", "(Lcom/example/graticule/graticule/filter/TruthValue;)Lcom/example/graticule/graticule/filter/TruthValue;"⟩ : MethodName)) (z := (⟨"com/example/graticule/graticule/filter/TruthValue", "or", "(Lcom/example/graticule/graticule/filter/TruthValue;)Lcom/example/graticule/graticule/filter/TruthValue;"⟩ : MethodName)) hown (mvT hZ (hw _ (List.mem_of_getElem? (i := 42) rfl))) (mvT hZ (hw _ (List.mem_of_getElem? (i := 43) rfl))) (notFace_of_selects (args := #[]) (mvT hZ (hw _ (List.mem_of_getElem? (i := 45) rfl)))) (mvT hZ (hw _ (List.mem_of_getElem? (i := 45) rfl))) (mvT hZ (hw _ (List.mem_of_getElem? (i := 44) rfl))) (by decide) (backOfS (W := 0) (rm6 l Z a0 hw [] w_FALSE w_FALSE w_TRUE w_FALSE w_UNKNOWN T18.heap n0 Zs18 (World.ext Ol18.2 W)) hZ (hw _ (List.mem_of_getElem? (i := 46) rfl)) (hw _ (List.mem_of_getElem? (i := 2) rfl)) (by decide) (by decide)) q22a q22c (g := (mkF m 115 #[.val (.int x0_0), .val (.int (0 : Int32)), .val (.int (0 : Int32)), .val (.ref w_FALSE), .val (.ref w_FALSE)] [(.ref w_FALSE), (.ref w_FALSE)])) rfl (by rw [hml]; rfl) (Steps.refl _) (argsL := [(.ref w_FALSE)]) (rest := []) (lenOf pd_4 rfl) rfl (by show 2 * 0 + _ ≤ _; exact Nat.le_of_eq rfl) (hb hby at_115) (fun _ _ => ⟨rfl, e20, (by decide : 2 + 2 ≤ _), (by decide : 24 + 24 ≤ _)⟩)
      dsimp only [Pt.U, Pt.locs, Pt.cells, Pt.slots] at X22 l22 y22 z22 st22 hQ22 hSq22 hgq22
      subst l22 y22 z22
      obtain ⟨Xr22, hS22, hZ, hown⟩ := rebS (s := s) (vm0 := T18.vm) hS18 (by rw [e20]; exact hk18) X22 hSq22 hgq22 hZ hown
      have hk22 : T22.heap.size ≤ T22.heap.size := Nat.le_refl _
      obtain ⟨hv22, N22q, K22⟩ := hQ22
      have N22 := Fr.app N20 N22q
      have Zs22 : n0 ≤ T22.heap.size := Nat.le_trans Zs18 K22.1
      have Ol22 : Old Z n0 T22.heap := (Ol18).keep K22 all0
      have hf22 : f6 w_FALSE w_FALSE w_TRUE w_FALSE w_UNKNOWN = w_FALSE := by unfold f6; rw [if_neg (Fld.ne ((World.ext Ol22.2 W).2.2.2.2.2.2.2.1) ((World.ext Ol22.2 W).2.2.2.2.2.2.1) (by decide) : ¬ (w_FALSE = w_TRUE)), if_neg (Fld.ne ((World.ext Ol22.2 W).2.2.2.2.2.2.2.1) ((World.ext Ol22.2 W).2.2.2.2.2.2.1) (by decide) : ¬ (w_FALSE = w_TRUE)), if_neg (Fld.ne ((World.ext Ol22.2 W).2.2.2.2.2.2.2.1) ((World.ext Ol22.2 W).2.2.2.2.2.2.2.2) (by decide) : ¬ (w_FALSE = w_UNKNOWN)), if_neg (Fld.ne ((World.ext Ol22.2 W).2.2.2.2.2.2.2.1) ((World.ext Ol22.2 W).2.2.2.2.2.2.2.2) (by decide) : ¬ (w_FALSE = w_UNKNOWN))]
      rw [hf22] at hv22
      subst hv22
      have sg25 : ∀ t, Steps p.tables e below (T22.setTop (mkF m 131 #[.val (.int x0_0), .val (.int (0 : Int32)), .val (.int (0 : Int32)), .val (.ref w_FALSE), .val (.ref w_FALSE)] [(.int (0 : Int32)), (.ref w_FALSE)])) t → Steps p.tables e below (T20.setTop (mkF m 115 #[.val (.int x0_0), .val (.int (0 : Int32)), .val (.int (0 : Int32)), .val (.ref w_FALSE), .val (.ref w_FALSE)] [(.ref w_FALSE), (.ref w_FALSE)])) t := fun t kt => by
        show Steps p.tables e below (T20.setTop (mkF m 115 #[.val (.int x0_0), .val (.int (0 : Int32)), .val (.int (0 : Int32)), .val (.ref w_FALSE), .val (.ref w_FALSE)] [(.ref w_FALSE), (.ref w_FALSE)])) _
        refine st22.trans ?_
        show Steps p.tables e below (T22.setTop (mkF m 118 #[.val (.int x0_0), .val (.int (0 : Int32)), .val (.int (0 : Int32)), .val (.ref w_FALSE), .val (.ref w_FALSE)] [(.ref w_FALSE)])) _
        refine XS.iloadN Xr22.here hx rfl (hb hby at_118) rfl ?_
        show Steps p.tables e below (T22.setTop (mkF m 119 #[.val (.int x0_0), .val (.int (0 : Int32)), .val (.int (0 : Int32)), .val (.ref w_FALSE), .val (.ref w_FALSE)] [(.int (0 : Int32)), (.ref w_FALSE)])) _
        refine XS.ifNo Xr22.here hx rfl (hb hby at_119) rfl ((if0 _ _).trans (teq (by decide : ((0 : Int32) = (0 : Int32)))).2) ?_
        show Steps p.tables e below (T22.setTop (mkF m 122 #[.val (.int x0_0), .val (.int (0 : Int32)), .val (.int (0 : Int32)), .val (.ref w_FALSE), .val (.ref w_FALSE)] [(.ref w_FALSE)])) _
        refine XS.iloadN Xr22.here hx rfl (hb hby at_122) rfl ?_
        show Steps p.tables e below (T22.setTop (mkF m 123 #[.val (.int x0_0), .val (.int (0 : Int32)), .val (.int (0 : Int32)), .val (.ref w_FALSE), .val (.ref w_FALSE)] [(.int (0 : Int32)), (.ref w_FALSE)])) _
        refine XS.ifYes Xr22.here hx rfl (pc0 := 123) (pc' := 130) rfl (hb hby at_123) rfl ((if0 _ _).trans (teq (by decide : ((0 : Int32) = (0 : Int32)))).1) (by decide) (by decide) ?_
        show Steps p.tables e below (T22.setTop (mkF m 130 #[.val (.int x0_0), .val (.int (0 : Int32)), .val (.int (0 : Int32)), .val (.ref w_FALSE), .val (.ref w_FALSE)] [(.ref w_FALSE)])) _
        refine XS.iconst Xr22.here hx rfl (hb hby at_130) ?_
        exact kt
      obtain ⟨v24, _, ⟨T24, L24, k24, n24⟩, -, X24, ⟨Lc24, hQ24, l24, y24, z24⟩, st24⟩ := Jvm.LawKit.callS Xr22 hx (y := (⟨"com/example/graticule/graticule/filter/TruthValue", "of", "(Z)Lcom/example/graticule/graticule/filter/TruthValue;"⟩ : MethodName)) hown (mvT hZ (hw _ (List.mem_of_getElem? (i := 0) rfl))) (mvT hZ (hw _ (List.mem_of_getElem? (i := 1) rfl))) (mvT hZ (hw _ (List.mem_of_getElem? (i := 2) rfl))) (mvT hZ (hw _ (List.mem_of_getElem? (i := 3) rfl))) (by decide) (backOf (W := 1) (rm1 l Z a0 hw [] (0 : Int32) w_TRUE w_FALSE w_UNKNOWN T22.heap n0 Zs22 (World.ext Ol22.2 W)) hZ (hw _ (List.mem_of_getElem? (i := 3) rfl)) (hw _ (List.mem_of_getElem? (i := 2) rfl)) (by decide) (by decide)) (g := (mkF m 131 #[.val (.int x0_0), .val (.int (0 : Int32)), .val (.int (0 : Int32)), .val (.ref w_FALSE), .val (.ref w_FALSE)] [(.int (0 : Int32)), (.ref w_FALSE)])) rfl (by rw [hml]; rfl) (argsL := [(.int (0 : Int32))]) (rest := [(.ref w_FALSE)]) (lenOf pd_2 rfl) rfl (by show 2 * 0 + _ ≤ _; exact Nat.le_of_eq rfl) (hb hby at_131) (fun _ _ => ⟨rfl, rfl, (by decide : 4 + 0 ≤ _), (by decide : 48 + 0 ≤ _)⟩)
      dsimp only [Pt.U, Pt.locs, Pt.cells, Pt.slots] at X24 l24 y24 z24 st24 hQ24
      subst l24 y24 z24
      obtain ⟨hv24, N24q, e24⟩ := hQ24
      have N24 := Fr.app N22 N24q
      have hf24 : f1 (0 : Int32) w_TRUE w_FALSE w_UNKNOWN = w_FALSE := by unfold f1; rw [if_pos (by decide : ((0 : Int32) = (0 : Int32)))]
      rw [hf24] at hv24
      subst hv24
      obtain ⟨fs, hr, hrun, hended, hRW⟩ := Stand.leaveW (s := s) (vm₁ := T22.vm) X24 hS22 (by rw [e24]; exact hk22) (v := some (.int (1 : Int32))) (fun h => by rw [Bd.returns] at h; cases h)
      refine ⟨_, _, pre0 _ (sg1 _ (sg3 _ (sg6 _ (sg8 _ (sg12 _ (sg15 _ (sg17 _ (sg19 _ (sg21 _ (sg23 _ (sg25 _ ?_))))))))))), hrun, hended, _, _, rfl, ?_, hRW.1, hRW.2.1, hRW.2.2.1, hRW.2.2.2.mono (by decide) (by decide)⟩
      · show Steps p.tables e below (T22.setTop (mkF m 131 #[.val (.int x0_0), .val (.int (0 : Int32)), .val (.int (0 : Int32)), .val (.ref w_FALSE), .val (.ref w_FALSE)] [(.int (0 : Int32)), (.ref w_FALSE)])) _
        refine st24 _ ?_
        show Steps p.tables e below (T24.setTop (mkF m 134 #[.val (.int x0_0), .val (.int (0 : Int32)), .val (.int (0 : Int32)), .val (.ref w_FALSE), .val (.ref w_FALSE)] [(.ref w_FALSE), (.ref w_FALSE)])) _
        refine Jvm.RoadKit.acmp (g := (mkF m 134 #[.val (.int x0_0), .val (.int (0 : Int32)), .val (.int (0 : Int32)), .val (.ref w_FALSE), .val (.ref w_FALSE)] [(.ref w_FALSE), (.ref w_FALSE)])) X24 hx rfl rfl rfl (pc0 := 134) (pc' := 137) (same := true) rfl (hb hby at_134) rfl (decide_eq_true (congrArg Value.ref (rfl : w_FALSE = w_FALSE))) (by decide) (by decide) ?_
        show Steps p.tables e below (T24.setTop (mkF m 137 #[.val (.int x0_0), .val (.int (0 : Int32)), .val (.int (0 : Int32)), .val (.ref w_FALSE), .val (.ref w_FALSE)] [])) _
        refine XS.iconst X24.here hx rfl (hb hby at_137) ?_
        show Steps p.tables e below (T24.setTop (mkF m 138 #[.val (.int x0_0), .val (.int (0 : Int32)), .val (.int (0 : Int32)), .val (.ref w_FALSE), .val (.ref w_FALSE)] [(.int (1 : Int32))])) _
        refine XS.goto X24.here hx rfl (pc0 := 138) (pc' := 142) rfl (hb hby at_138) (by decide) (by decide) ?_
        show Steps p.tables e below (T24.setTop (mkF m 142 #[.val (.int x0_0), .val (.int (0 : Int32)), .val (.int (0 : Int32)), .val (.ref w_FALSE), .val (.ref w_FALSE)] [(.int (1 : Int32))])) _
        exact retN X24 hx (t := .boolean) Bd.returns (by simp) (hb hby at_142) hr
      · show Q0 Z x0_0 w_TRUE w_FALSE w_UNKNOWN h0 n0 _ T24.heap _
        rw [e24]
        exact ⟨rfl, N24⟩
    · have sg27 : ∀ t, Steps p.tables e below (s₁.setTop (mkF m 25 #[.val (.int x0_0), .val (.int (0 : Int32)), .val (.int (1 : Int32)), .unset, .unset] [(.int (0 : Int32))])) t → Steps p.tables e below (s₁.setTop (mkF m 15 #[.val (.int x0_0), .val (.int (0 : Int32)), .unset, .unset, .unset] [(.int (x0_0 &&& (2 : Int32)))])) t := fun t kt => by
        show Steps p.tables e below (s₁.setTop (mkF m 15 #[.val (.int x0_0), .val (.int (0 : Int32)), .unset, .unset, .unset] [(.int (x0_0 &&& (2 : Int32)))])) _
        refine XS.ifNo X0.here hx rfl (hb hby at_15) rfl ((if0 _ _).trans (feq hc15_4).1) ?_
        show Steps p.tables e below (s₁.setTop (mkF m 18 #[.val (.int x0_0), .val (.int (0 : Int32)), .unset, .unset, .unset] [])) _
        refine XS.iconst X0.here hx rfl (hb hby at_18) ?_
        show Steps p.tables e below (s₁.setTop (mkF m 19 #[.val (.int x0_0), .val (.int (0 : Int32)), .unset, .unset, .unset] [(.int (1 : Int32))])) _
        refine XS.goto X0.here hx rfl (pc0 := 19) (pc' := 23) rfl (hb hby at_19) (by decide) (by decide) ?_
        show Steps p.tables e below (s₁.setTop (mkF m 23 #[.val (.int x0_0), .val (.int (0 : Int32)), .unset, .unset, .unset] [(.int (1 : Int32))])) _
        refine XS.istoreN X0.here hx rfl (hb hby at_23) rfl (l' := #[.val (.int x0_0), .val (.int (0 : Int32)), .val (.int (1 : Int32)), .unset, .unset]) rfl ?_
        show Steps p.tables e below (s₁.setTop (mkF m 24 #[.val (.int x0_0), .val (.int (0 : Int32)), .val (.int (1 : Int32)), .unset, .unset] [])) _
        refine XS.iloadN X0.here hx rfl (hb hby at_24) rfl ?_
        exact kt
      obtain ⟨v26, _, ⟨T26, L26, k26, n26⟩, -, X26, ⟨Lc26, hQ26, l26, y26, z26⟩, st26⟩ := Jvm.LawKit.callS X0 hx (y := (⟨"com/example/graticule/graticule/filter/TruthValue", "of", "(Z)Lcom/example/graticule/graticule/filter/TruthValue;"⟩ : MethodName)) hown (mvT hZ (hw _ (List.mem_of_getElem? (i := 0) rfl))) (mvT hZ (hw _ (List.mem_of_getElem? (i := 1) rfl))) (mvT hZ (hw _ (List.mem_of_getElem? (i := 2) rfl))) (mvT hZ (hw _ (List.mem_of_getElem? (i := 3) rfl))) (by decide) (backOf (W := 0) (rm1 l Z a0 hw [] (0 : Int32) w_TRUE w_FALSE w_UNKNOWN h0 n0 Z0 (World.ext O0.2 W)) hZ (hw _ (List.mem_of_getElem? (i := 3) rfl)) (hw _ (List.mem_of_getElem? (i := 2) rfl)) (by decide) (by decide)) (g := (mkF m 25 #[.val (.int x0_0), .val (.int (0 : Int32)), .val (.int (1 : Int32)), .unset, .unset] [(.int (0 : Int32))])) rfl (by rw [hml]; rfl) (argsL := [(.int (0 : Int32))]) (rest := []) (lenOf pd_2 rfl) rfl (by show 2 * 0 + _ ≤ _; exact Nat.le_of_eq rfl) (hb hby at_25) (fun _ _ => ⟨rfl, e0, (by decide : 0 + 0 ≤ _), (by decide : 0 + 0 ≤ _)⟩)
      dsimp only [Pt.U, Pt.locs, Pt.cells, Pt.slots] at X26 l26 y26 z26 st26 hQ26
      subst l26 y26 z26
      obtain ⟨hv26, N26q, e26⟩ := hQ26
      have N26 := Fr.app N0 N26q
      have hf26 : f1 (0 : Int32) w_TRUE w_FALSE w_UNKNOWN = w_FALSE := by unfold f1; rw [if_pos (by decide : ((0 : Int32) = (0 : Int32)))]
      rw [hf26] at hv26
      subst hv26
      have sg29 : ∀ t, Steps p.tables e below (T26.setTop (mkF m 30 #[.val (.int x0_0), .val (.int (0 : Int32)), .val (.int (1 : Int32)), .val (.ref w_FALSE), .unset] [(.int (1 : Int32))])) t → Steps p.tables e below (s₁.setTop (mkF m 25 #[.val (.int x0_0), .val (.int (0 : Int32)), .val (.int (1 : Int32)), .unset, .unset] [(.int (0 : Int32))])) t := fun t kt => by
        show Steps p.tables e below (s₁.setTop (mkF m 25 #[.val (.int x0_0), .val (.int (0 : Int32)), .val (.int (1 : Int32)), .unset, .unset] [(.int (0 : Int32))])) _
        refine st26 _ ?_
        show Steps p.tables e below (T26.setTop (mkF m 28 #[.val (.int x0_0), .val (.int (0 : Int32)), .val (.int (1 : Int32)), .unset, .unset] [(.ref w_FALSE)])) _
        refine XS.astoreN X26.here hx rfl (hb hby at_28) rfl rfl (l' := #[.val (.int x0_0), .val (.int (0 : Int32)), .val (.int (1 : Int32)), .val (.ref w_FALSE), .unset]) rfl ?_
        show Steps p.tables e below (T26.setTop (mkF m 29 #[.val (.int x0_0), .val (.int (0 : Int32)), .val (.int (1 : Int32)), .val (.ref w_FALSE), .unset] [])) _
        refine XS.iloadN X26.here hx rfl (hb hby at_29) rfl ?_
        exact kt
      obtain ⟨v28, _, ⟨T28, L28, k28, n28⟩, -, X28, ⟨Lc28, hQ28, l28, y28, z28⟩, st28⟩ := Jvm.LawKit.callS X26 hx (y := (⟨"com/example/graticule/graticule/filter/TruthValue", "of", "(Z)Lcom/example/graticule/graticule/filter/TruthValue;"⟩ : MethodName)) hown (mvT hZ (hw _ (List.mem_of_getElem? (i := 0) rfl))) (mvT hZ (hw _ (List.mem_of_getElem? (i := 1) rfl))) (mvT hZ (hw _ (List.mem_of_getElem? (i := 2) rfl))) (mvT hZ (hw _ (List.mem_of_getElem? (i := 3) rfl))) (by decide) (backOf (W := 0) (rm1 l Z a0 hw [] (1 : Int32) w_TRUE w_FALSE w_UNKNOWN h0 n0 Z0 (World.ext O0.2 W)) hZ (hw _ (List.mem_of_getElem? (i := 3) rfl)) (hw _ (List.mem_of_getElem? (i := 2) rfl)) (by decide) (by decide)) (g := (mkF m 30 #[.val (.int x0_0), .val (.int (0 : Int32)), .val (.int (1 : Int32)), .val (.ref w_FALSE), .unset] [(.int (1 : Int32))])) rfl (by rw [hml]; rfl) (argsL := [(.int (1 : Int32))]) (rest := []) (lenOf pd_2 rfl) rfl (by show 2 * 0 + _ ≤ _; exact Nat.le_of_eq rfl) (hb hby at_30) (fun _ _ => ⟨rfl, e26, (by decide : 0 + 0 ≤ _), (by decide : 0 + 0 ≤ _)⟩)
      dsimp only [Pt.U, Pt.locs, Pt.cells, Pt.slots] at X28 l28 y28 z28 st28 hQ28
      subst l28 y28 z28
      obtain ⟨hv28, N28q, e28⟩ := hQ28
      have N28 := Fr.app N26 N28q
      have hf28 : f1 (1 : Int32) w_TRUE w_FALSE w_UNKNOWN = w_TRUE := by unfold f1; rw [if_neg (by decide : ¬ ((1 : Int32) = (0 : Int32)))]
      rw [hf28] at hv28
      subst hv28
      obtain ⟨T30, X30, e30, st30⟩ := getS2 X28 hx hZ hown (host := "") (Or.inl (hw _ (List.mem_of_getElem? (i := 6) rfl))) Via.refl e28 ((World.ext O0.2 W).2.2.1) (g := (mkF m 36 #[.val (.int x0_0), .val (.int (0 : Int32)), .val (.int (1 : Int32)), .val (.ref w_FALSE), .val (.ref w_TRUE)] [(.ref w_FALSE)])) rfl (hb hby at_36)
      obtain ⟨T31, X31, e31, st31⟩ := getS2 X30 hx hZ hown (host := "") (Or.inl (hw _ (List.mem_of_getElem? (i := 6) rfl))) Via.refl e30 ((World.ext O0.2 W).2.2.1) (g := (mkF m 44 #[.val (.int x0_0), .val (.int (0 : Int32)), .val (.int (1 : Int32)), .val (.ref w_FALSE), .val (.ref w_TRUE)] [(.ref w_TRUE)])) rfl (hb hby at_44)
      have sg33 : ∀ t, Steps p.tables e below (T31.setTop (mkF m 53 #[.val (.int x0_0), .val (.int (0 : Int32)), .val (.int (1 : Int32)), .val (.ref w_FALSE), .val (.ref w_TRUE)] [(.int (1 : Int32))])) t → Steps p.tables e below (T26.setTop (mkF m 30 #[.val (.int x0_0), .val (.int (0 : Int32)), .val (.int (1 : Int32)), .val (.ref w_FALSE), .unset] [(.int (1 : Int32))])) t := fun t kt => by
        show Steps p.tables e below (T26.setTop (mkF m 30 #[.val (.int x0_0), .val (.int (0 : Int32)), .val (.int (1 : Int32)), .val (.ref w_FALSE), .unset] [(.int (1 : Int32))])) _
        refine st28 _ ?_
        show Steps p.tables e below (T28.setTop (mkF m 33 #[.val (.int x0_0), .val (.int (0 : Int32)), .val (.int (1 : Int32)), .val (.ref w_FALSE), .unset] [(.ref w_TRUE)])) _
        refine XS.astore X28.here hx rfl (hb hby at_33) rfl rfl (l' := #[.val (.int x0_0), .val (.int (0 : Int32)), .val (.int (1 : Int32)), .val (.ref w_FALSE), .val (.ref w_TRUE)]) rfl ?_
        show Steps p.tables e below (T28.setTop (mkF m 35 #[.val (.int x0_0), .val (.int (0 : Int32)), .val (.int (1 : Int32)), .val (.ref w_FALSE), .val (.ref w_TRUE)] [])) _
        refine XS.aloadN X28.here hx rfl (hb hby at_35) rfl rfl ?_
        show Steps p.tables e below (T28.setTop (mkF m 36 #[.val (.int x0_0), .val (.int (0 : Int32)), .val (.int (1 : Int32)), .val (.ref w_FALSE), .val (.ref w_TRUE)] [(.ref w_FALSE)])) _
        refine st30 _ ?_
        show Steps p.tables e below (T30.setTop (mkF m 39 #[.val (.int x0_0), .val (.int (0 : Int32)), .val (.int (1 : Int32)), .val (.ref w_FALSE), .val (.ref w_TRUE)] [(.ref w_UNKNOWN), (.ref w_FALSE)])) _
        refine Jvm.RoadKit.acmp (g := (mkF m 39 #[.val (.int x0_0), .val (.int (0 : Int32)), .val (.int (1 : Int32)), .val (.ref w_FALSE), .val (.ref w_TRUE)] [(.ref w_UNKNOWN), (.ref w_FALSE)])) X30 hx rfl rfl rfl (pc0 := 39) (pc' := 42) (same := false) rfl (hb hby at_39) rfl (decide_eq_false fun q => (Fld.ne ((World.ext O0.2 W).2.2.2.2.2.2.2.1) ((World.ext O0.2 W).2.2.2.2.2.2.2.2) (by decide) : ¬ (w_FALSE = w_UNKNOWN)) (Value.ref.inj q)) (by decide) (by decide) ?_
        show Steps p.tables e below (T30.setTop (mkF m 42 #[.val (.int x0_0), .val (.int (0 : Int32)), .val (.int (1 : Int32)), .val (.ref w_FALSE), .val (.ref w_TRUE)] [])) _
        refine XS.aload X30.here hx rfl (hb hby at_42) rfl rfl ?_
        show Steps p.tables e below (T30.setTop (mkF m 44 #[.val (.int x0_0), .val (.int (0 : Int32)), .val (.int (1 : Int32)), .val (.ref w_FALSE), .val (.ref w_TRUE)] [(.ref w_TRUE)])) _
        refine st31 _ ?_
        show Steps p.tables e below (T31.setTop (mkF m 47 #[.val (.int x0_0), .val (.int (0 : Int32)), .val (.int (1 : Int32)), .val (.ref w_FALSE), .val (.ref w_TRUE)] [(.ref w_UNKNOWN), (.ref w_TRUE)])) _
        refine Jvm.RoadKit.acmp (g := (mkF m 47 #[.val (.int x0_0), .val (.int (0 : Int32)), .val (.int (1 : Int32)), .val (.ref w_FALSE), .val (.ref w_TRUE)] [(.ref w_UNKNOWN), (.ref w_TRUE)])) X31 hx rfl rfl rfl (pc0 := 47) (pc' := 52) (same := false) rfl (hb hby at_47) rfl (decide_eq_false fun q => (Fld.ne ((World.ext O0.2 W).2.2.2.2.2.2.1) ((World.ext O0.2 W).2.2.2.2.2.2.2.2) (by decide) : ¬ (w_TRUE = w_UNKNOWN)) (Value.ref.inj q)) (by decide) (by decide) ?_
        show Steps p.tables e below (T31.setTop (mkF m 52 #[.val (.int x0_0), .val (.int (0 : Int32)), .val (.int (1 : Int32)), .val (.ref w_FALSE), .val (.ref w_TRUE)] [])) _
        refine XS.iconst X31.here hx rfl (hb hby at_52) ?_
        exact kt
      obtain ⟨v32, _, ⟨T32, L32, k32, n32⟩, -, X32, ⟨Lc32, hQ32, l32, y32, z32⟩, st32⟩ := Jvm.LawKit.callS X31 hx (y := (⟨"com/example/graticule/graticule/filter/TruthValue", "of", "(Z)Lcom/example/graticule/graticule/filter/TruthValue;"⟩ : MethodName)) hown (mvT hZ (hw _ (List.mem_of_getElem? (i := 0) rfl))) (mvT hZ (hw _ (List.mem_of_getElem? (i := 1) rfl))) (mvT hZ (hw _ (List.mem_of_getElem? (i := 2) rfl))) (mvT hZ (hw _ (List.mem_of_getElem? (i := 3) rfl))) (by decide) (backOf (W := 0) (rm1 l Z a0 hw [] (1 : Int32) w_TRUE w_FALSE w_UNKNOWN h0 n0 Z0 (World.ext O0.2 W)) hZ (hw _ (List.mem_of_getElem? (i := 3) rfl)) (hw _ (List.mem_of_getElem? (i := 2) rfl)) (by decide) (by decide)) (g := (mkF m 53 #[.val (.int x0_0), .val (.int (0 : Int32)), .val (.int (1 : Int32)), .val (.ref w_FALSE), .val (.ref w_TRUE)] [(.int (1 : Int32))])) rfl (by rw [hml]; rfl) (argsL := [(.int (1 : Int32))]) (rest := []) (lenOf pd_2 rfl) rfl (by show 2 * 0 + _ ≤ _; exact Nat.le_of_eq rfl) (hb hby at_53) (fun _ _ => ⟨rfl, e31, (by decide : 0 + 0 ≤ _), (by decide : 0 + 0 ≤ _)⟩)
      dsimp only [Pt.U, Pt.locs, Pt.cells, Pt.slots] at X32 l32 y32 z32 st32 hQ32
      subst l32 y32 z32
      obtain ⟨hv32, N32q, e32⟩ := hQ32
      have N32 := Fr.app N28 N32q
      have hf32 : f1 (1 : Int32) w_TRUE w_FALSE w_UNKNOWN = w_TRUE := by unfold f1; rw [if_neg (by decide : ¬ ((1 : Int32) = (0 : Int32)))]
      rw [hf32] at hv32
      subst hv32
      obtain ⟨T34, X34, e34, st34⟩ := getS2 X32 hx hZ hown (host := "") (Or.inl (hw _ (List.mem_of_getElem? (i := 10) rfl))) Via.refl e32 ((World.ext O0.2 W).1) (g := (mkF m 56 #[.val (.int x0_0), .val (.int (0 : Int32)), .val (.int (1 : Int32)), .val (.ref w_FALSE), .val (.ref w_TRUE)] [(.ref w_TRUE)])) rfl (hb hby at_56)
      have sg36 : ∀ t, Steps p.tables e below (T34.setTop (mkF m 65 #[.val (.int x0_0), .val (.int (0 : Int32)), .val (.int (1 : Int32)), .val (.ref w_FALSE), .val (.ref w_TRUE)] [(.ref w_FALSE)])) t → Steps p.tables e below (T31.setTop (mkF m 53 #[.val (.int x0_0), .val (.int (0 : Int32)), .val (.int (1 : Int32)), .val (.ref w_FALSE), .val (.ref w_TRUE)] [(.int (1 : Int32))])) t := fun t kt => by
        show Steps p.tables e below (T31.setTop (mkF m 53 #[.val (.int x0_0), .val (.int (0 : Int32)), .val (.int (1 : Int32)), .val (.ref w_FALSE), .val (.ref w_TRUE)] [(.int (1 : Int32))])) _
        refine st32 _ ?_
        show Steps p.tables e below (T32.setTop (mkF m 56 #[.val (.int x0_0), .val (.int (0 : Int32)), .val (.int (1 : Int32)), .val (.ref w_FALSE), .val (.ref w_TRUE)] [(.ref w_TRUE)])) _
        refine st34 _ ?_
        show Steps p.tables e below (T34.setTop (mkF m 59 #[.val (.int x0_0), .val (.int (0 : Int32)), .val (.int (1 : Int32)), .val (.ref w_FALSE), .val (.ref w_TRUE)] [(.ref w_TRUE), (.ref w_TRUE)])) _
        refine Jvm.RoadKit.acmp (g := (mkF m 59 #[.val (.int x0_0), .val (.int (0 : Int32)), .val (.int (1 : Int32)), .val (.ref w_FALSE), .val (.ref w_TRUE)] [(.ref w_TRUE), (.ref w_TRUE)])) X34 hx rfl rfl rfl (pc0 := 59) (pc' := 64) (same := true) rfl (hb hby at_59) rfl (decide_eq_true (congrArg Value.ref (rfl : w_TRUE = w_TRUE))) (by decide) (by decide) ?_
        show Steps p.tables e below (T34.setTop (mkF m 64 #[.val (.int x0_0), .val (.int (0 : Int32)), .val (.int (1 : Int32)), .val (.ref w_FALSE), .val (.ref w_TRUE)] [])) _
        refine XS.aloadN X34.here hx rfl (hb hby at_64) rfl rfl ?_
        exact kt
      obtain ⟨cq35, kq35, q35a, q35b, q35c⟩ := isOf hZ e34 ((World.ext O0.2 W).2.2.2.2.1)
      obtain ⟨v35, _, ⟨T35, L35, k35, n35⟩, -, X35, ⟨Lc35, hQ35, l35, y35, z35⟩, st35⟩ := X34.virtualBack hx (y := (⟨"com/example/graticule/graticule/filter/TruthValue", "not", "()Lcom/example/graticule/graticule/filter/TruthValue;"⟩ : MethodName)) (z := (⟨"com/example/graticule/graticule/filter/TruthValue", "not", "()Lcom/example/graticule/graticule/filter/TruthValue;"⟩ : MethodName)) hown (mvT hZ (hw _ (List.mem_of_getElem? (i := 11) rfl))) (mvT hZ (hw _ (List.mem_of_getElem? (i := 12) rfl))) (notFace_of_selects (args := #[]) (mvT hZ (hw _ (List.mem_of_getElem? (i := 14) rfl)))) (mvT hZ (hw _ (List.mem_of_getElem? (i := 14) rfl))) (mvT hZ (hw _ (List.mem_of_getElem? (i := 13) rfl))) (by decide) (backOf (W := 0) (rm2 l Z a0 hw [] w_FALSE w_TRUE w_FALSE w_UNKNOWN (1 : Int32) h0 n0 Z0 (World.ext O0.2 W) ((World.ext O0.2 W).2.2.2.2.2.2.2.1) ((World.ext O0.2 W).2.2.2.2.1) (by decide)) hZ (hw _ (List.mem_of_getElem? (i := 15) rfl)) (hw _ (List.mem_of_getElem? (i := 2) rfl)) (by decide) (by decide)) q35a q35c (g := (mkF m 65 #[.val (.int x0_0), .val (.int (0 : Int32)), .val (.int (1 : Int32)), .val (.ref w_FALSE), .val (.ref w_TRUE)] [(.ref w_FALSE)])) rfl (by rw [hml]; rfl) (Steps.refl _) (argsL := []) (rest := []) (lenOf pd_3 rfl) rfl (by show 2 * 0 + _ ≤ _; exact Nat.le_of_eq rfl) (hb hby at_65) (fun _ _ => ⟨rfl, e34, (by decide : 0 + 0 ≤ _), (by decide : 0 + 0 ≤ _)⟩)
      dsimp only [Pt.U, Pt.locs, Pt.cells, Pt.slots] at X35 l35 y35 z35 st35 hQ35
      subst l35 y35 z35
      obtain ⟨hv35, N35q, e35⟩ := hQ35
      have N35 := Fr.app N32 N35q
      have hf35 : f2 w_FALSE w_TRUE w_FALSE w_UNKNOWN (1 : Int32) = w_TRUE := by unfold f2; rw [if_neg (by decide : ¬ ((1 : Int32) = (0 : Int32))), if_pos (by decide : ((1 : Int32) = (1 : Int32)))]
      rw [hf35] at hv35
      subst hv35
      have sg38 : ∀ t, Steps p.tables e below (T35.setTop (mkF m 77 #[.val (.int x0_0), .val (.int (0 : Int32)), .val (.int (1 : Int32)), .val (.ref w_FALSE), .val (.ref w_TRUE)] [(.int (1 : Int32)), (.ref w_TRUE)])) t → Steps p.tables e below (T34.setTop (mkF m 65 #[.val (.int x0_0), .val (.int (0 : Int32)), .val (.int (1 : Int32)), .val (.ref w_FALSE), .val (.ref w_TRUE)] [(.ref w_FALSE)])) t := fun t kt => by
        show Steps p.tables e below (T34.setTop (mkF m 65 #[.val (.int x0_0), .val (.int (0 : Int32)), .val (.int (1 : Int32)), .val (.ref w_FALSE), .val (.ref w_TRUE)] [(.ref w_FALSE)])) _
        refine st35.trans ?_
        show Steps p.tables e below (T35.setTop (mkF m 68 #[.val (.int x0_0), .val (.int (0 : Int32)), .val (.int (1 : Int32)), .val (.ref w_FALSE), .val (.ref w_TRUE)] [(.ref w_TRUE)])) _
        refine XS.iloadN X35.here hx rfl (hb hby at_68) rfl ?_
        show Steps p.tables e below (T35.setTop (mkF m 69 #[.val (.int x0_0), .val (.int (0 : Int32)), .val (.int (1 : Int32)), .val (.ref w_FALSE), .val (.ref w_TRUE)] [(.int (0 : Int32)), (.ref w_TRUE)])) _
        refine XS.ifNo X35.here hx rfl (hb hby at_69) rfl ((if0 _ _).trans (teq (by decide : ((0 : Int32) = (0 : Int32)))).2) ?_
        show Steps p.tables e below (T35.setTop (mkF m 72 #[.val (.int x0_0), .val (.int (0 : Int32)), .val (.int (1 : Int32)), .val (.ref w_FALSE), .val (.ref w_TRUE)] [(.ref w_TRUE)])) _
        refine XS.iconst X35.here hx rfl (hb hby at_72) ?_
        show Steps p.tables e below (T35.setTop (mkF m 73 #[.val (.int x0_0), .val (.int (0 : Int32)), .val (.int (1 : Int32)), .val (.ref w_FALSE), .val (.ref w_TRUE)] [(.int (1 : Int32)), (.ref w_TRUE)])) _
        refine XS.goto X35.here hx rfl (pc0 := 73) (pc' := 77) rfl (hb hby at_73) (by decide) (by decide) ?_
        exact kt
      obtain ⟨v37, _, ⟨T37, L37, k37, n37⟩, -, X37, ⟨Lc37, hQ37, l37, y37, z37⟩, st37⟩ := Jvm.LawKit.callS X35 hx (y := (⟨"com/example/graticule/graticule/filter/TruthValue", "of", "(Z)Lcom/example/graticule/graticule/filter/TruthValue;"⟩ : MethodName)) hown (mvT hZ (hw _ (List.mem_of_getElem? (i := 0) rfl))) (mvT hZ (hw _ (List.mem_of_getElem? (i := 1) rfl))) (mvT hZ (hw _ (List.mem_of_getElem? (i := 2) rfl))) (mvT hZ (hw _ (List.mem_of_getElem? (i := 3) rfl))) (by decide) (backOf (W := 1) (rm1 l Z a0 hw [] (1 : Int32) w_TRUE w_FALSE w_UNKNOWN h0 n0 Z0 (World.ext O0.2 W)) hZ (hw _ (List.mem_of_getElem? (i := 3) rfl)) (hw _ (List.mem_of_getElem? (i := 2) rfl)) (by decide) (by decide)) (g := (mkF m 77 #[.val (.int x0_0), .val (.int (0 : Int32)), .val (.int (1 : Int32)), .val (.ref w_FALSE), .val (.ref w_TRUE)] [(.int (1 : Int32)), (.ref w_TRUE)])) rfl (by rw [hml]; rfl) (argsL := [(.int (1 : Int32))]) (rest := [(.ref w_TRUE)]) (lenOf pd_2 rfl) rfl (by show 2 * 0 + _ ≤ _; exact Nat.le_of_eq rfl) (hb hby at_77) (fun _ _ => ⟨rfl, e35, (by decide : 0 + 0 ≤ _), (by decide : 0 + 0 ≤ _)⟩)
      dsimp only [Pt.U, Pt.locs, Pt.cells, Pt.slots] at X37 l37 y37 z37 st37 hQ37
      subst l37 y37 z37
      obtain ⟨hv37, N37q, e37⟩ := hQ37
      have N37 := Fr.app N35 N37q
      have hf37 : f1 (1 : Int32) w_TRUE w_FALSE w_UNKNOWN = w_TRUE := by unfold f1; rw [if_neg (by decide : ¬ ((1 : Int32) = (0 : Int32)))]
      rw [hf37] at hv37
      subst hv37
      have sg40 : ∀ t, Steps p.tables e below (T37.setTop (mkF m 88 #[.val (.int x0_0), .val (.int (0 : Int32)), .val (.int (1 : Int32)), .val (.ref w_FALSE), .val (.ref w_TRUE)] [(.ref w_TRUE), (.ref w_FALSE)])) t → Steps p.tables e below (T35.setTop (mkF m 77 #[.val (.int x0_0), .val (.int (0 : Int32)), .val (.int (1 : Int32)), .val (.ref w_FALSE), .val (.ref w_TRUE)] [(.int (1 : Int32)), (.ref w_TRUE)])) t := fun t kt => by
        show Steps p.tables e below (T35.setTop (mkF m 77 #[.val (.int x0_0), .val (.int (0 : Int32)), .val (.int (1 : Int32)), .val (.ref w_FALSE), .val (.ref w_TRUE)] [(.int (1 : Int32)), (.ref w_TRUE)])) _
        refine st37 _ ?_
        show Steps p.tables e below (T37.setTop (mkF m 80 #[.val (.int x0_0), .val (.int (0 : Int32)), .val (.int (1 : Int32)), .val (.ref w_FALSE), .val (.ref w_TRUE)] [(.ref w_TRUE), (.ref w_TRUE)])) _
        refine Jvm.RoadKit.acmp (g := (mkF m 80 #[.val (.int x0_0), .val (.int (0 : Int32)), .val (.int (1 : Int32)), .val (.ref w_FALSE), .val (.ref w_TRUE)] [(.ref w_TRUE), (.ref w_TRUE)])) X37 hx rfl rfl rfl (pc0 := 80) (pc' := 85) (same := true) rfl (hb hby at_80) rfl (decide_eq_true (congrArg Value.ref (rfl : w_TRUE = w_TRUE))) (by decide) (by decide) ?_
        show Steps p.tables e below (T37.setTop (mkF m 85 #[.val (.int x0_0), .val (.int (0 : Int32)), .val (.int (1 : Int32)), .val (.ref w_FALSE), .val (.ref w_TRUE)] [])) _
        refine XS.aloadN X37.here hx rfl (hb hby at_85) rfl rfl ?_
        show Steps p.tables e below (T37.setTop (mkF m 86 #[.val (.int x0_0), .val (.int (0 : Int32)), .val (.int (1 : Int32)), .val (.ref w_FALSE), .val (.ref w_TRUE)] [(.ref w_FALSE)])) _
        refine XS.aload X37.here hx rfl (hb hby at_86) rfl rfl ?_
        exact kt
      obtain ⟨cq39, kq39, q39a, q39b, q39c⟩ := isOf hZ e37 ((World.ext O0.2 W).2.2.2.2.1)
      obtain ⟨v39, _, ⟨T39, L39, k39, n39⟩, -, X39, hSq39, hgq39, ⟨Lc39, hQ39, l39, y39, z39⟩, st39⟩ := X37.virtualBackS hx (y := (⟨"com/example/graticule/graticule/filter/TruthValue", "and", "(Lcom/example/graticule/graticule/filter/TruthValue;)Lcom/example/graticule/graticule/filter/TruthValue;"⟩ : MethodName)) (z := (⟨"com/example/graticule/graticule/filter/TruthValue", "and", "(Lcom/example/graticule/graticule/filter/TruthValue;)Lcom/example/graticule/graticule/filter/TruthValue;"⟩ : MethodName)) hown (mvT hZ (hw _ (List.mem_of_getElem? (i := 25) rfl))) (mvT hZ (hw _ (List.mem_of_getElem? (i := 26) rfl))) (notFace_of_selects (args := #[]) (mvT hZ (hw _ (List.mem_of_getElem? (i := 28) rfl)))) (mvT hZ (hw _ (List.mem_of_getElem? (i := 28) rfl))) (mvT hZ (hw _ (List.mem_of_getElem? (i := 27) rfl))) (by decide) (backOfS (W := 0) (rm4 l Z a0 hw [] w_FALSE w_TRUE w_TRUE w_FALSE w_UNKNOWN h0 n0 Z0 (World.ext O0.2 W)) hZ (hw _ (List.mem_of_getElem? (i := 29) rfl)) (hw _ (List.mem_of_getElem? (i := 2) rfl)) (by decide) (by decide)) q39a q39c (g := (mkF m 88 #[.val (.int x0_0), .val (.int (0 : Int32)), .val (.int (1 : Int32)), .val (.ref w_FALSE), .val (.ref w_TRUE)] [(.ref w_TRUE), (.ref w_FALSE)])) rfl (by rw [hml]; rfl) (Steps.refl _) (argsL := [(.ref w_TRUE)]) (rest := []) (lenOf pd_4 rfl) rfl (by show 2 * 0 + _ ≤ _; exact Nat.le_of_eq rfl) (hb hby at_88) (fun _ _ => ⟨rfl, e37, (by decide : 0 + 2 ≤ _), (by decide : 0 + 24 ≤ _)⟩)
      dsimp only [Pt.U, Pt.locs, Pt.cells, Pt.slots] at X39 l39 y39 z39 st39 hQ39 hSq39 hgq39
      subst l39 y39 z39
      obtain ⟨Xr39, hS39, hZ, hown⟩ := rebS (s := s) (vm0 := s.vm) hS0 (by rw [e37]; exact hk0) X39 hSq39 hgq39 hZ hown
      have hk39 : T39.heap.size ≤ T39.heap.size := Nat.le_refl _
      obtain ⟨hv39, N39q, K39⟩ := hQ39
      have N39 := Fr.app N37 N39q
      have Zs39 : n0 ≤ T39.heap.size := Nat.le_trans Z0 K39.1
      have Ol39 : Old Z n0 T39.heap := (O0).keep K39 all0
      have hf39 : f4 w_FALSE w_TRUE w_TRUE w_FALSE w_UNKNOWN = w_FALSE := by unfold f4; rw [if_pos (rfl : w_FALSE = w_FALSE)]
      rw [hf39] at hv39
      subst hv39
      have sg42 : ∀ t, Steps p.tables e below (T39.setTop (mkF m 104 #[.val (.int x0_0), .val (.int (0 : Int32)), .val (.int (1 : Int32)), .val (.ref w_FALSE), .val (.ref w_TRUE)] [(.int (0 : Int32)), (.ref w_FALSE)])) t → Steps p.tables e below (T37.setTop (mkF m 88 #[.val (.int x0_0), .val (.int (0 : Int32)), .val (.int (1 : Int32)), .val (.ref w_FALSE), .val (.ref w_TRUE)] [(.ref w_TRUE), (.ref w_FALSE)])) t := fun t kt => by
        show Steps p.tables e below (T37.setTop (mkF m 88 #[.val (.int x0_0), .val (.int (0 : Int32)), .val (.int (1 : Int32)), .val (.ref w_FALSE), .val (.ref w_TRUE)] [(.ref w_TRUE), (.ref w_FALSE)])) _
        refine st39.trans ?_
        show Steps p.tables e below (T39.setTop (mkF m 91 #[.val (.int x0_0), .val (.int (0 : Int32)), .val (.int (1 : Int32)), .val (.ref w_FALSE), .val (.ref w_TRUE)] [(.ref w_FALSE)])) _
        refine XS.iloadN Xr39.here hx rfl (hb hby at_91) rfl ?_
        show Steps p.tables e below (T39.setTop (mkF m 92 #[.val (.int x0_0), .val (.int (0 : Int32)), .val (.int (1 : Int32)), .val (.ref w_FALSE), .val (.ref w_TRUE)] [(.int (0 : Int32)), (.ref w_FALSE)])) _
        refine XS.ifYes Xr39.here hx rfl (pc0 := 92) (pc' := 103) rfl (hb hby at_92) rfl ((if0 _ _).trans (teq (by decide : ((0 : Int32) = (0 : Int32)))).1) (by decide) (by decide) ?_
        show Steps p.tables e below (T39.setTop (mkF m 103 #[.val (.int x0_0), .val (.int (0 : Int32)), .val (.int (1 : Int32)), .val (.ref w_FALSE), .val (.ref w_TRUE)] [(.ref w_FALSE)])) _
        refine XS.iconst Xr39.here hx rfl (hb hby at_103) ?_
        exact kt
      obtain ⟨v41, _, ⟨T41, L41, k41, n41⟩, -, X41, ⟨Lc41, hQ41, l41, y41, z41⟩, st41⟩ := Jvm.LawKit.callS Xr39 hx (y := (⟨"com/example/graticule/graticule/filter/TruthValue", "of", "(Z)Lcom/example/graticule/graticule/filter/TruthValue;"⟩ : MethodName)) hown (mvT hZ (hw _ (List.mem_of_getElem? (i := 0) rfl))) (mvT hZ (hw _ (List.mem_of_getElem? (i := 1) rfl))) (mvT hZ (hw _ (List.mem_of_getElem? (i := 2) rfl))) (mvT hZ (hw _ (List.mem_of_getElem? (i := 3) rfl))) (by decide) (backOf (W := 1) (rm1 l Z a0 hw [] (0 : Int32) w_TRUE w_FALSE w_UNKNOWN T39.heap n0 Zs39 (World.ext Ol39.2 W)) hZ (hw _ (List.mem_of_getElem? (i := 3) rfl)) (hw _ (List.mem_of_getElem? (i := 2) rfl)) (by decide) (by decide)) (g := (mkF m 104 #[.val (.int x0_0), .val (.int (0 : Int32)), .val (.int (1 : Int32)), .val (.ref w_FALSE), .val (.ref w_TRUE)] [(.int (0 : Int32)), (.ref w_FALSE)])) rfl (by rw [hml]; rfl) (argsL := [(.int (0 : Int32))]) (rest := [(.ref w_FALSE)]) (lenOf pd_2 rfl) rfl (by show 2 * 0 + _ ≤ _; exact Nat.le_of_eq rfl) (hb hby at_104) (fun _ _ => ⟨rfl, rfl, (by decide : 2 + 0 ≤ _), (by decide : 24 + 0 ≤ _)⟩)
      dsimp only [Pt.U, Pt.locs, Pt.cells, Pt.slots] at X41 l41 y41 z41 st41 hQ41
      subst l41 y41 z41
      obtain ⟨hv41, N41q, e41⟩ := hQ41
      have N41 := Fr.app N39 N41q
      have hf41 : f1 (0 : Int32) w_TRUE w_FALSE w_UNKNOWN = w_FALSE := by unfold f1; rw [if_pos (by decide : ((0 : Int32) = (0 : Int32)))]
      rw [hf41] at hv41
      subst hv41
      have sg44 : ∀ t, Steps p.tables e below (T41.setTop (mkF m 115 #[.val (.int x0_0), .val (.int (0 : Int32)), .val (.int (1 : Int32)), .val (.ref w_FALSE), .val (.ref w_TRUE)] [(.ref w_TRUE), (.ref w_FALSE)])) t → Steps p.tables e below (T39.setTop (mkF m 104 #[.val (.int x0_0), .val (.int (0 : Int32)), .val (.int (1 : Int32)), .val (.ref w_FALSE), .val (.ref w_TRUE)] [(.int (0 : Int32)), (.ref w_FALSE)])) t := fun t kt => by
        show Steps p.tables e below (T39.setTop (mkF m 104 #[.val (.int x0_0), .val (.int (0 : Int32)), .val (.int (1 : Int32)), .val (.ref w_FALSE), .val (.ref w_TRUE)] [(.int (0 : Int32)), (.ref w_FALSE)])) _
        refine st41 _ ?_
        show Steps p.tables e below (T41.setTop (mkF m 107 #[.val (.int x0_0), .val (.int (0 : Int32)), .val (.int (1 : Int32)), .val (.ref w_FALSE), .val (.ref w_TRUE)] [(.ref w_FALSE), (.ref w_FALSE)])) _
        refine Jvm.RoadKit.acmp (g := (mkF m 107 #[.val (.int x0_0), .val (.int (0 : Int32)), .val (.int (1 : Int32)), .val (.ref w_FALSE), .val (.ref w_TRUE)] [(.ref w_FALSE), (.ref w_FALSE)])) X41 hx rfl rfl rfl (pc0 := 107) (pc' := 112) (same := true) rfl (hb hby at_107) rfl (decide_eq_true (congrArg Value.ref (rfl : w_FALSE = w_FALSE))) (by decide) (by decide) ?_
        show Steps p.tables e below (T41.setTop (mkF m 112 #[.val (.int x0_0), .val (.int (0 : Int32)), .val (.int (1 : Int32)), .val (.ref w_FALSE), .val (.ref w_TRUE)] [])) _
        refine XS.aloadN X41.here hx rfl (hb hby at_112) rfl rfl ?_
        show Steps p.tables e below (T41.setTop (mkF m 113 #[.val (.int x0_0), .val (.int (0 : Int32)), .val (.int (1 : Int32)), .val (.ref w_FALSE), .val (.ref w_TRUE)] [(.ref w_FALSE)])) _
        refine XS.aload X41.here hx rfl (hb hby at_113) rfl rfl ?_
        exact kt
      obtain ⟨cq43, kq43, q43a, q43b, q43c⟩ := isOf hZ e41 ((World.ext Ol39.2 W).2.2.2.2.1)
      obtain ⟨v43, _, ⟨T43, L43, k43, n43⟩, -, X43, hSq43, hgq43, ⟨Lc43, hQ43, l43, y43, z43⟩, st43⟩ := X41.virtualBackS hx (y := (⟨"com/example/graticule/graticule/filter/TruthValue", "or", "(Lcom/example/graticule/graticule/filter/TruthValue;)Lcom/example/graticule/graticule/filter/TruthValue;"⟩ : MethodName)) (z := (⟨"com/example/graticule/graticule/filter/TruthValue", "or", "(Lcom/example/graticule/graticule/filter/TruthValue;)Lcom/example/graticule/graticule/filter/TruthValue;"⟩ : MethodName)) hown (mvT hZ (hw _ (List.mem_of_getElem? (i := 42) rfl))) (mvT hZ (hw _ (List.mem_of_getElem? (i := 43) rfl))) (notFace_of_selects (args := #[]) (mvT hZ (hw _ (List.mem_of_getElem? (i := 45) rfl)))) (mvT hZ (hw _ (List.mem_of_getElem? (i := 45) rfl))) (mvT hZ (hw _ (List.mem_of_getElem? (i := 44) rfl))) (by decide) (backOfS (W := 0) (rm6 l Z a0 hw [] w_FALSE w_TRUE w_TRUE w_FALSE w_UNKNOWN T39.heap n0 Zs39 (World.ext Ol39.2 W)) hZ (hw _ (List.mem_of_getElem? (i := 46) rfl)) (hw _ (List.mem_of_getElem? (i := 2) rfl)) (by decide) (by decide)) q43a q43c (g := (mkF m 115 #[.val (.int x0_0), .val (.int (0 : Int32)), .val (.int (1 : Int32)), .val (.ref w_FALSE), .val (.ref w_TRUE)] [(.ref w_TRUE), (.ref w_FALSE)])) rfl (by rw [hml]; rfl) (Steps.refl _) (argsL := [(.ref w_TRUE)]) (rest := []) (lenOf pd_4 rfl) rfl (by show 2 * 0 + _ ≤ _; exact Nat.le_of_eq rfl) (hb hby at_115) (fun _ _ => ⟨rfl, e41, (by decide : 2 + 2 ≤ _), (by decide : 24 + 24 ≤ _)⟩)
      dsimp only [Pt.U, Pt.locs, Pt.cells, Pt.slots] at X43 l43 y43 z43 st43 hQ43 hSq43 hgq43
      subst l43 y43 z43
      obtain ⟨Xr43, hS43, hZ, hown⟩ := rebS (s := s) (vm0 := T39.vm) hS39 (by rw [e41]; exact hk39) X43 hSq43 hgq43 hZ hown
      have hk43 : T43.heap.size ≤ T43.heap.size := Nat.le_refl _
      obtain ⟨hv43, N43q, K43⟩ := hQ43
      have N43 := Fr.app N41 N43q
      have Zs43 : n0 ≤ T43.heap.size := Nat.le_trans Zs39 K43.1
      have Ol43 : Old Z n0 T43.heap := (Ol39).keep K43 all0
      have hf43 : f6 w_FALSE w_TRUE w_TRUE w_FALSE w_UNKNOWN = w_TRUE := by unfold f6; rw [if_neg (Fld.ne ((World.ext Ol43.2 W).2.2.2.2.2.2.2.1) ((World.ext Ol43.2 W).2.2.2.2.2.2.1) (by decide) : ¬ (w_FALSE = w_TRUE)), if_pos (rfl : w_TRUE = w_TRUE)]
      rw [hf43] at hv43
      subst hv43
      have sg46 : ∀ t, Steps p.tables e below (T43.setTop (mkF m 131 #[.val (.int x0_0), .val (.int (0 : Int32)), .val (.int (1 : Int32)), .val (.ref w_FALSE), .val (.ref w_TRUE)] [(.int (1 : Int32)), (.ref w_TRUE)])) t → Steps p.tables e below (T41.setTop (mkF m 115 #[.val (.int x0_0), .val (.int (0 : Int32)), .val (.int (1 : Int32)), .val (.ref w_FALSE), .val (.ref w_TRUE)] [(.ref w_TRUE), (.ref w_FALSE)])) t := fun t kt => by
        show Steps p.tables e below (T41.setTop (mkF m 115 #[.val (.int x0_0), .val (.int (0 : Int32)), .val (.int (1 : Int32)), .val (.ref w_FALSE), .val (.ref w_TRUE)] [(.ref w_TRUE), (.ref w_FALSE)])) _
        refine st43.trans ?_
        show Steps p.tables e below (T43.setTop (mkF m 118 #[.val (.int x0_0), .val (.int (0 : Int32)), .val (.int (1 : Int32)), .val (.ref w_FALSE), .val (.ref w_TRUE)] [(.ref w_TRUE)])) _
        refine XS.iloadN Xr43.here hx rfl (hb hby at_118) rfl ?_
        show Steps p.tables e below (T43.setTop (mkF m 119 #[.val (.int x0_0), .val (.int (0 : Int32)), .val (.int (1 : Int32)), .val (.ref w_FALSE), .val (.ref w_TRUE)] [(.int (0 : Int32)), (.ref w_TRUE)])) _
        refine XS.ifNo Xr43.here hx rfl (hb hby at_119) rfl ((if0 _ _).trans (teq (by decide : ((0 : Int32) = (0 : Int32)))).2) ?_
        show Steps p.tables e below (T43.setTop (mkF m 122 #[.val (.int x0_0), .val (.int (0 : Int32)), .val (.int (1 : Int32)), .val (.ref w_FALSE), .val (.ref w_TRUE)] [(.ref w_TRUE)])) _
        refine XS.iloadN Xr43.here hx rfl (hb hby at_122) rfl ?_
        show Steps p.tables e below (T43.setTop (mkF m 123 #[.val (.int x0_0), .val (.int (0 : Int32)), .val (.int (1 : Int32)), .val (.ref w_FALSE), .val (.ref w_TRUE)] [(.int (1 : Int32)), (.ref w_TRUE)])) _
        refine XS.ifNo Xr43.here hx rfl (hb hby at_123) rfl ((if0 _ _).trans (feq (by decide : ¬ ((1 : Int32) = (0 : Int32)))).1) ?_
        show Steps p.tables e below (T43.setTop (mkF m 126 #[.val (.int x0_0), .val (.int (0 : Int32)), .val (.int (1 : Int32)), .val (.ref w_FALSE), .val (.ref w_TRUE)] [(.ref w_TRUE)])) _
        refine XS.iconst Xr43.here hx rfl (hb hby at_126) ?_
        show Steps p.tables e below (T43.setTop (mkF m 127 #[.val (.int x0_0), .val (.int (0 : Int32)), .val (.int (1 : Int32)), .val (.ref w_FALSE), .val (.ref w_TRUE)] [(.int (1 : Int32)), (.ref w_TRUE)])) _
        refine XS.goto Xr43.here hx rfl (pc0 := 127) (pc' := 131) rfl (hb hby at_127) (by decide) (by decide) ?_
        exact kt
      obtain ⟨v45, _, ⟨T45, L45, k45, n45⟩, -, X45, ⟨Lc45, hQ45, l45, y45, z45⟩, st45⟩ := Jvm.LawKit.callS Xr43 hx (y := (⟨"com/example/graticule/graticule/filter/TruthValue", "of", "(Z)Lcom/example/graticule/graticule/filter/TruthValue;"⟩ : MethodName)) hown (mvT hZ (hw _ (List.mem_of_getElem? (i := 0) rfl))) (mvT hZ (hw _ (List.mem_of_getElem? (i := 1) rfl))) (mvT hZ (hw _ (List.mem_of_getElem? (i := 2) rfl))) (mvT hZ (hw _ (List.mem_of_getElem? (i := 3) rfl))) (by decide) (backOf (W := 1) (rm1 l Z a0 hw [] (1 : Int32) w_TRUE w_FALSE w_UNKNOWN T43.heap n0 Zs43 (World.ext Ol43.2 W)) hZ (hw _ (List.mem_of_getElem? (i := 3) rfl)) (hw _ (List.mem_of_getElem? (i := 2) rfl)) (by decide) (by decide)) (g := (mkF m 131 #[.val (.int x0_0), .val (.int (0 : Int32)), .val (.int (1 : Int32)), .val (.ref w_FALSE), .val (.ref w_TRUE)] [(.int (1 : Int32)), (.ref w_TRUE)])) rfl (by rw [hml]; rfl) (argsL := [(.int (1 : Int32))]) (rest := [(.ref w_TRUE)]) (lenOf pd_2 rfl) rfl (by show 2 * 0 + _ ≤ _; exact Nat.le_of_eq rfl) (hb hby at_131) (fun _ _ => ⟨rfl, rfl, (by decide : 4 + 0 ≤ _), (by decide : 48 + 0 ≤ _)⟩)
      dsimp only [Pt.U, Pt.locs, Pt.cells, Pt.slots] at X45 l45 y45 z45 st45 hQ45
      subst l45 y45 z45
      obtain ⟨hv45, N45q, e45⟩ := hQ45
      have N45 := Fr.app N43 N45q
      have hf45 : f1 (1 : Int32) w_TRUE w_FALSE w_UNKNOWN = w_TRUE := by unfold f1; rw [if_neg (by decide : ¬ ((1 : Int32) = (0 : Int32)))]
      rw [hf45] at hv45
      subst hv45
      obtain ⟨fs, hr, hrun, hended, hRW⟩ := Stand.leaveW (s := s) (vm₁ := T43.vm) X45 hS43 (by rw [e45]; exact hk43) (v := some (.int (1 : Int32))) (fun h => by rw [Bd.returns] at h; cases h)
      refine ⟨_, _, pre0 _ (sg1 _ (sg3 _ (sg27 _ (sg29 _ (sg33 _ (sg36 _ (sg38 _ (sg40 _ (sg42 _ (sg44 _ (sg46 _ ?_))))))))))), hrun, hended, _, _, rfl, ?_, hRW.1, hRW.2.1, hRW.2.2.1, hRW.2.2.2.mono (by decide) (by decide)⟩
      · show Steps p.tables e below (T43.setTop (mkF m 131 #[.val (.int x0_0), .val (.int (0 : Int32)), .val (.int (1 : Int32)), .val (.ref w_FALSE), .val (.ref w_TRUE)] [(.int (1 : Int32)), (.ref w_TRUE)])) _
        refine st45 _ ?_
        show Steps p.tables e below (T45.setTop (mkF m 134 #[.val (.int x0_0), .val (.int (0 : Int32)), .val (.int (1 : Int32)), .val (.ref w_FALSE), .val (.ref w_TRUE)] [(.ref w_TRUE), (.ref w_TRUE)])) _
        refine Jvm.RoadKit.acmp (g := (mkF m 134 #[.val (.int x0_0), .val (.int (0 : Int32)), .val (.int (1 : Int32)), .val (.ref w_FALSE), .val (.ref w_TRUE)] [(.ref w_TRUE), (.ref w_TRUE)])) X45 hx rfl rfl rfl (pc0 := 134) (pc' := 137) (same := true) rfl (hb hby at_134) rfl (decide_eq_true (congrArg Value.ref (rfl : w_TRUE = w_TRUE))) (by decide) (by decide) ?_
        show Steps p.tables e below (T45.setTop (mkF m 137 #[.val (.int x0_0), .val (.int (0 : Int32)), .val (.int (1 : Int32)), .val (.ref w_FALSE), .val (.ref w_TRUE)] [])) _
        refine XS.iconst X45.here hx rfl (hb hby at_137) ?_
        show Steps p.tables e below (T45.setTop (mkF m 138 #[.val (.int x0_0), .val (.int (0 : Int32)), .val (.int (1 : Int32)), .val (.ref w_FALSE), .val (.ref w_TRUE)] [(.int (1 : Int32))])) _
        refine XS.goto X45.here hx rfl (pc0 := 138) (pc' := 142) rfl (hb hby at_138) (by decide) (by decide) ?_
        show Steps p.tables e below (T45.setTop (mkF m 142 #[.val (.int x0_0), .val (.int (0 : Int32)), .val (.int (1 : Int32)), .val (.ref w_FALSE), .val (.ref w_TRUE)] [(.int (1 : Int32))])) _
        exact retN X45 hx (t := .boolean) Bd.returns (by simp) (hb hby at_142) hr
      · show Q0 Z x0_0 w_TRUE w_FALSE w_UNKNOWN h0 n0 _ T45.heap _
        rw [e45]
        exact ⟨rfl, N45⟩
  · have sg47 : ∀ t, Steps p.tables e below (s₁.setTop (mkF m 15 #[.val (.int x0_0), .val (.int (1 : Int32)), .unset, .unset, .unset] [(.int (x0_0 &&& (2 : Int32)))])) t → Steps p.tables e below (s₁.setTop (mkF m 3 #[.val (.int x0_0), .unset, .unset, .unset, .unset] [(.int (x0_0 &&& (1 : Int32)))])) t := fun t kt => by
      show Steps p.tables e below (s₁.setTop (mkF m 3 #[.val (.int x0_0), .unset, .unset, .unset, .unset] [(.int (x0_0 &&& (1 : Int32)))])) _
      refine XS.ifNo X0.here hx rfl (hb hby at_3) rfl ((if0 _ _).trans (feq hc3_2).1) ?_
      show Steps p.tables e below (s₁.setTop (mkF m 6 #[.val (.int x0_0), .unset, .unset, .unset, .unset] [])) _
      refine XS.iconst X0.here hx rfl (hb hby at_6) ?_
      show Steps p.tables e below (s₁.setTop (mkF m 7 #[.val (.int x0_0), .unset, .unset, .unset, .unset] [(.int (1 : Int32))])) _
      refine XS.goto X0.here hx rfl (pc0 := 7) (pc' := 11) rfl (hb hby at_7) (by decide) (by decide) ?_
      show Steps p.tables e below (s₁.setTop (mkF m 11 #[.val (.int x0_0), .unset, .unset, .unset, .unset] [(.int (1 : Int32))])) _
      refine XS.istoreN X0.here hx rfl (hb hby at_11) rfl (l' := #[.val (.int x0_0), .val (.int (1 : Int32)), .unset, .unset, .unset]) rfl ?_
      show Steps p.tables e below (s₁.setTop (mkF m 12 #[.val (.int x0_0), .val (.int (1 : Int32)), .unset, .unset, .unset] [])) _
      refine XS.iloadN X0.here hx rfl (hb hby at_12) rfl ?_
      show Steps p.tables e below (s₁.setTop (mkF m 13 #[.val (.int x0_0), .val (.int (1 : Int32)), .unset, .unset, .unset] [(.int x0_0)])) _
      refine XS.iconst X0.here hx rfl (hb hby at_13) ?_
      show Steps p.tables e below (s₁.setTop (mkF m 14 #[.val (.int x0_0), .val (.int (1 : Int32)), .unset, .unset, .unset] [(.int (2 : Int32)), (.int x0_0)])) _
      refine XS.iand X0.here hx rfl (hb hby at_14) rfl ?_
      exact kt
    by_cases hc15_48 : (x0_0 &&& (2 : Int32)) = (0 : Int32)
    · have sg50 : ∀ t, Steps p.tables e below (s₁.setTop (mkF m 25 #[.val (.int x0_0), .val (.int (1 : Int32)), .val (.int (0 : Int32)), .unset, .unset] [(.int (1 : Int32))])) t → Steps p.tables e below (s₁.setTop (mkF m 15 #[.val (.int x0_0), .val (.int (1 : Int32)), .unset, .unset, .unset] [(.int (x0_0 &&& (2 : Int32)))])) t := fun t kt => by
        show Steps p.tables e below (s₁.setTop (mkF m 15 #[.val (.int x0_0), .val (.int (1 : Int32)), .unset, .unset, .unset] [(.int (x0_0 &&& (2 : Int32)))])) _
        refine XS.ifYes X0.here hx rfl (pc0 := 15) (pc' := 22) rfl (hb hby at_15) rfl ((if0 _ _).trans (teq hc15_48).1) (by decide) (by decide) ?_
        show Steps p.tables e below (s₁.setTop (mkF m 22 #[.val (.int x0_0), .val (.int (1 : Int32)), .unset, .unset, .unset] [])) _
        refine XS.iconst X0.here hx rfl (hb hby at_22) ?_
        show Steps p.tables e below (s₁.setTop (mkF m 23 #[.val (.int x0_0), .val (.int (1 : Int32)), .unset, .unset, .unset] [(.int (0 : Int32))])) _
        refine XS.istoreN X0.here hx rfl (hb hby at_23) rfl (l' := #[.val (.int x0_0), .val (.int (1 : Int32)), .val (.int (0 : Int32)), .unset, .unset]) rfl ?_
        show Steps p.tables e below (s₁.setTop (mkF m 24 #[.val (.int x0_0), .val (.int (1 : Int32)), .val (.int (0 : Int32)), .unset, .unset] [])) _
        refine XS.iloadN X0.here hx rfl (hb hby at_24) rfl ?_
        exact kt
      obtain ⟨v49, _, ⟨T49, L49, k49, n49⟩, -, X49, ⟨Lc49, hQ49, l49, y49, z49⟩, st49⟩ := Jvm.LawKit.callS X0 hx (y := (⟨"com/example/graticule/graticule/filter/TruthValue", "of", "(Z)Lcom/example/graticule/graticule/filter/TruthValue;"⟩ : MethodName)) hown (mvT hZ (hw _ (List.mem_of_getElem? (i := 0) rfl))) (mvT hZ (hw _ (List.mem_of_getElem? (i := 1) rfl))) (mvT hZ (hw _ (List.mem_of_getElem? (i := 2) rfl))) (mvT hZ (hw _ (List.mem_of_getElem? (i := 3) rfl))) (by decide) (backOf (W := 0) (rm1 l Z a0 hw [] (1 : Int32) w_TRUE w_FALSE w_UNKNOWN h0 n0 Z0 (World.ext O0.2 W)) hZ (hw _ (List.mem_of_getElem? (i := 3) rfl)) (hw _ (List.mem_of_getElem? (i := 2) rfl)) (by decide) (by decide)) (g := (mkF m 25 #[.val (.int x0_0), .val (.int (1 : Int32)), .val (.int (0 : Int32)), .unset, .unset] [(.int (1 : Int32))])) rfl (by rw [hml]; rfl) (argsL := [(.int (1 : Int32))]) (rest := []) (lenOf pd_2 rfl) rfl (by show 2 * 0 + _ ≤ _; exact Nat.le_of_eq rfl) (hb hby at_25) (fun _ _ => ⟨rfl, e0, (by decide : 0 + 0 ≤ _), (by decide : 0 + 0 ≤ _)⟩)
      dsimp only [Pt.U, Pt.locs, Pt.cells, Pt.slots] at X49 l49 y49 z49 st49 hQ49
      subst l49 y49 z49
      obtain ⟨hv49, N49q, e49⟩ := hQ49
      have N49 := Fr.app N0 N49q
      have hf49 : f1 (1 : Int32) w_TRUE w_FALSE w_UNKNOWN = w_TRUE := by unfold f1; rw [if_neg (by decide : ¬ ((1 : Int32) = (0 : Int32)))]
      rw [hf49] at hv49
      subst hv49
      have sg52 : ∀ t, Steps p.tables e below (T49.setTop (mkF m 30 #[.val (.int x0_0), .val (.int (1 : Int32)), .val (.int (0 : Int32)), .val (.ref w_TRUE), .unset] [(.int (0 : Int32))])) t → Steps p.tables e below (s₁.setTop (mkF m 25 #[.val (.int x0_0), .val (.int (1 : Int32)), .val (.int (0 : Int32)), .unset, .unset] [(.int (1 : Int32))])) t := fun t kt => by
        show Steps p.tables e below (s₁.setTop (mkF m 25 #[.val (.int x0_0), .val (.int (1 : Int32)), .val (.int (0 : Int32)), .unset, .unset] [(.int (1 : Int32))])) _
        refine st49 _ ?_
        show Steps p.tables e below (T49.setTop (mkF m 28 #[.val (.int x0_0), .val (.int (1 : Int32)), .val (.int (0 : Int32)), .unset, .unset] [(.ref w_TRUE)])) _
        refine XS.astoreN X49.here hx rfl (hb hby at_28) rfl rfl (l' := #[.val (.int x0_0), .val (.int (1 : Int32)), .val (.int (0 : Int32)), .val (.ref w_TRUE), .unset]) rfl ?_
        show Steps p.tables e below (T49.setTop (mkF m 29 #[.val (.int x0_0), .val (.int (1 : Int32)), .val (.int (0 : Int32)), .val (.ref w_TRUE), .unset] [])) _
        refine XS.iloadN X49.here hx rfl (hb hby at_29) rfl ?_
        exact kt
      obtain ⟨v51, _, ⟨T51, L51, k51, n51⟩, -, X51, ⟨Lc51, hQ51, l51, y51, z51⟩, st51⟩ := Jvm.LawKit.callS X49 hx (y := (⟨"com/example/graticule/graticule/filter/TruthValue", "of", "(Z)Lcom/example/graticule/graticule/filter/TruthValue;"⟩ : MethodName)) hown (mvT hZ (hw _ (List.mem_of_getElem? (i := 0) rfl))) (mvT hZ (hw _ (List.mem_of_getElem? (i := 1) rfl))) (mvT hZ (hw _ (List.mem_of_getElem? (i := 2) rfl))) (mvT hZ (hw _ (List.mem_of_getElem? (i := 3) rfl))) (by decide) (backOf (W := 0) (rm1 l Z a0 hw [] (0 : Int32) w_TRUE w_FALSE w_UNKNOWN h0 n0 Z0 (World.ext O0.2 W)) hZ (hw _ (List.mem_of_getElem? (i := 3) rfl)) (hw _ (List.mem_of_getElem? (i := 2) rfl)) (by decide) (by decide)) (g := (mkF m 30 #[.val (.int x0_0), .val (.int (1 : Int32)), .val (.int (0 : Int32)), .val (.ref w_TRUE), .unset] [(.int (0 : Int32))])) rfl (by rw [hml]; rfl) (argsL := [(.int (0 : Int32))]) (rest := []) (lenOf pd_2 rfl) rfl (by show 2 * 0 + _ ≤ _; exact Nat.le_of_eq rfl) (hb hby at_30) (fun _ _ => ⟨rfl, e49, (by decide : 0 + 0 ≤ _), (by decide : 0 + 0 ≤ _)⟩)
      dsimp only [Pt.U, Pt.locs, Pt.cells, Pt.slots] at X51 l51 y51 z51 st51 hQ51
      subst l51 y51 z51
      obtain ⟨hv51, N51q, e51⟩ := hQ51
      have N51 := Fr.app N49 N51q
      have hf51 : f1 (0 : Int32) w_TRUE w_FALSE w_UNKNOWN = w_FALSE := by unfold f1; rw [if_pos (by decide : ((0 : Int32) = (0 : Int32)))]
      rw [hf51] at hv51
      subst hv51
      obtain ⟨T53, X53, e53, st53⟩ := getS2 X51 hx hZ hown (host := "") (Or.inl (hw _ (List.mem_of_getElem? (i := 6) rfl))) Via.refl e51 ((World.ext O0.2 W).2.2.1) (g := (mkF m 36 #[.val (.int x0_0), .val (.int (1 : Int32)), .val (.int (0 : Int32)), .val (.ref w_TRUE), .val (.ref w_FALSE)] [(.ref w_TRUE)])) rfl (hb hby at_36)
      obtain ⟨T54, X54, e54, st54⟩ := getS2 X53 hx hZ hown (host := "") (Or.inl (hw _ (List.mem_of_getElem? (i := 6) rfl))) Via.refl e53 ((World.ext O0.2 W).2.2.1) (g := (mkF m 44 #[.val (.int x0_0), .val (.int (1 : Int32)), .val (.int (0 : Int32)), .val (.ref w_TRUE), .val (.ref w_FALSE)] [(.ref w_FALSE)])) rfl (hb hby at_44)
      have sg56 : ∀ t, Steps p.tables e below (T54.setTop (mkF m 53 #[.val (.int x0_0), .val (.int (1 : Int32)), .val (.int (0 : Int32)), .val (.ref w_TRUE), .val (.ref w_FALSE)] [(.int (1 : Int32))])) t → Steps p.tables e below (T49.setTop (mkF m 30 #[.val (.int x0_0), .val (.int (1 : Int32)), .val (.int (0 : Int32)), .val (.ref w_TRUE), .unset] [(.int (0 : Int32))])) t := fun t kt => by
        show Steps p.tables e below (T49.setTop (mkF m 30 #[.val (.int x0_0), .val (.int (1 : Int32)), .val (.int (0 : Int32)), .val (.ref w_TRUE), .unset] [(.int (0 : Int32))])) _
        refine st51 _ ?_
        show Steps p.tables e below (T51.setTop (mkF m 33 #[.val (.int x0_0), .val (.int (1 : Int32)), .val (.int (0 : Int32)), .val (.ref w_TRUE), .unset] [(.ref w_FALSE)])) _
        refine XS.astore X51.here hx rfl (hb hby at_33) rfl rfl (l' := #[.val (.int x0_0), .val (.int (1 : Int32)), .val (.int (0 : Int32)), .val (.ref w_TRUE), .val (.ref w_FALSE)]) rfl ?_
        show Steps p.tables e below (T51.setTop (mkF m 35 #[.val (.int x0_0), .val (.int (1 : Int32)), .val (.int (0 : Int32)), .val (.ref w_TRUE), .val (.ref w_FALSE)] [])) _
        refine XS.aloadN X51.here hx rfl (hb hby at_35) rfl rfl ?_
        show Steps p.tables e below (T51.setTop (mkF m 36 #[.val (.int x0_0), .val (.int (1 : Int32)), .val (.int (0 : Int32)), .val (.ref w_TRUE), .val (.ref w_FALSE)] [(.ref w_TRUE)])) _
        refine st53 _ ?_
        show Steps p.tables e below (T53.setTop (mkF m 39 #[.val (.int x0_0), .val (.int (1 : Int32)), .val (.int (0 : Int32)), .val (.ref w_TRUE), .val (.ref w_FALSE)] [(.ref w_UNKNOWN), (.ref w_TRUE)])) _
        refine Jvm.RoadKit.acmp (g := (mkF m 39 #[.val (.int x0_0), .val (.int (1 : Int32)), .val (.int (0 : Int32)), .val (.ref w_TRUE), .val (.ref w_FALSE)] [(.ref w_UNKNOWN), (.ref w_TRUE)])) X53 hx rfl rfl rfl (pc0 := 39) (pc' := 42) (same := false) rfl (hb hby at_39) rfl (decide_eq_false fun q => (Fld.ne ((World.ext O0.2 W).2.2.2.2.2.2.1) ((World.ext O0.2 W).2.2.2.2.2.2.2.2) (by decide) : ¬ (w_TRUE = w_UNKNOWN)) (Value.ref.inj q)) (by decide) (by decide) ?_
        show Steps p.tables e below (T53.setTop (mkF m 42 #[.val (.int x0_0), .val (.int (1 : Int32)), .val (.int (0 : Int32)), .val (.ref w_TRUE), .val (.ref w_FALSE)] [])) _
        refine XS.aload X53.here hx rfl (hb hby at_42) rfl rfl ?_
        show Steps p.tables e below (T53.setTop (mkF m 44 #[.val (.int x0_0), .val (.int (1 : Int32)), .val (.int (0 : Int32)), .val (.ref w_TRUE), .val (.ref w_FALSE)] [(.ref w_FALSE)])) _
        refine st54 _ ?_
        show Steps p.tables e below (T54.setTop (mkF m 47 #[.val (.int x0_0), .val (.int (1 : Int32)), .val (.int (0 : Int32)), .val (.ref w_TRUE), .val (.ref w_FALSE)] [(.ref w_UNKNOWN), (.ref w_FALSE)])) _
        refine Jvm.RoadKit.acmp (g := (mkF m 47 #[.val (.int x0_0), .val (.int (1 : Int32)), .val (.int (0 : Int32)), .val (.ref w_TRUE), .val (.ref w_FALSE)] [(.ref w_UNKNOWN), (.ref w_FALSE)])) X54 hx rfl rfl rfl (pc0 := 47) (pc' := 52) (same := false) rfl (hb hby at_47) rfl (decide_eq_false fun q => (Fld.ne ((World.ext O0.2 W).2.2.2.2.2.2.2.1) ((World.ext O0.2 W).2.2.2.2.2.2.2.2) (by decide) : ¬ (w_FALSE = w_UNKNOWN)) (Value.ref.inj q)) (by decide) (by decide) ?_
        show Steps p.tables e below (T54.setTop (mkF m 52 #[.val (.int x0_0), .val (.int (1 : Int32)), .val (.int (0 : Int32)), .val (.ref w_TRUE), .val (.ref w_FALSE)] [])) _
        refine XS.iconst X54.here hx rfl (hb hby at_52) ?_
        exact kt
      obtain ⟨v55, _, ⟨T55, L55, k55, n55⟩, -, X55, ⟨Lc55, hQ55, l55, y55, z55⟩, st55⟩ := Jvm.LawKit.callS X54 hx (y := (⟨"com/example/graticule/graticule/filter/TruthValue", "of", "(Z)Lcom/example/graticule/graticule/filter/TruthValue;"⟩ : MethodName)) hown (mvT hZ (hw _ (List.mem_of_getElem? (i := 0) rfl))) (mvT hZ (hw _ (List.mem_of_getElem? (i := 1) rfl))) (mvT hZ (hw _ (List.mem_of_getElem? (i := 2) rfl))) (mvT hZ (hw _ (List.mem_of_getElem? (i := 3) rfl))) (by decide) (backOf (W := 0) (rm1 l Z a0 hw [] (1 : Int32) w_TRUE w_FALSE w_UNKNOWN h0 n0 Z0 (World.ext O0.2 W)) hZ (hw _ (List.mem_of_getElem? (i := 3) rfl)) (hw _ (List.mem_of_getElem? (i := 2) rfl)) (by decide) (by decide)) (g := (mkF m 53 #[.val (.int x0_0), .val (.int (1 : Int32)), .val (.int (0 : Int32)), .val (.ref w_TRUE), .val (.ref w_FALSE)] [(.int (1 : Int32))])) rfl (by rw [hml]; rfl) (argsL := [(.int (1 : Int32))]) (rest := []) (lenOf pd_2 rfl) rfl (by show 2 * 0 + _ ≤ _; exact Nat.le_of_eq rfl) (hb hby at_53) (fun _ _ => ⟨rfl, e54, (by decide : 0 + 0 ≤ _), (by decide : 0 + 0 ≤ _)⟩)
      dsimp only [Pt.U, Pt.locs, Pt.cells, Pt.slots] at X55 l55 y55 z55 st55 hQ55
      subst l55 y55 z55
      obtain ⟨hv55, N55q, e55⟩ := hQ55
      have N55 := Fr.app N51 N55q
      have hf55 : f1 (1 : Int32) w_TRUE w_FALSE w_UNKNOWN = w_TRUE := by unfold f1; rw [if_neg (by decide : ¬ ((1 : Int32) = (0 : Int32)))]
      rw [hf55] at hv55
      subst hv55
      obtain ⟨T57, X57, e57, st57⟩ := getS2 X55 hx hZ hown (host := "") (Or.inl (hw _ (List.mem_of_getElem? (i := 10) rfl))) Via.refl e55 ((World.ext O0.2 W).1) (g := (mkF m 56 #[.val (.int x0_0), .val (.int (1 : Int32)), .val (.int (0 : Int32)), .val (.ref w_TRUE), .val (.ref w_FALSE)] [(.ref w_TRUE)])) rfl (hb hby at_56)
      have sg59 : ∀ t, Steps p.tables e below (T57.setTop (mkF m 65 #[.val (.int x0_0), .val (.int (1 : Int32)), .val (.int (0 : Int32)), .val (.ref w_TRUE), .val (.ref w_FALSE)] [(.ref w_TRUE)])) t → Steps p.tables e below (T54.setTop (mkF m 53 #[.val (.int x0_0), .val (.int (1 : Int32)), .val (.int (0 : Int32)), .val (.ref w_TRUE), .val (.ref w_FALSE)] [(.int (1 : Int32))])) t := fun t kt => by
        show Steps p.tables e below (T54.setTop (mkF m 53 #[.val (.int x0_0), .val (.int (1 : Int32)), .val (.int (0 : Int32)), .val (.ref w_TRUE), .val (.ref w_FALSE)] [(.int (1 : Int32))])) _
        refine st55 _ ?_
        show Steps p.tables e below (T55.setTop (mkF m 56 #[.val (.int x0_0), .val (.int (1 : Int32)), .val (.int (0 : Int32)), .val (.ref w_TRUE), .val (.ref w_FALSE)] [(.ref w_TRUE)])) _
        refine st57 _ ?_
        show Steps p.tables e below (T57.setTop (mkF m 59 #[.val (.int x0_0), .val (.int (1 : Int32)), .val (.int (0 : Int32)), .val (.ref w_TRUE), .val (.ref w_FALSE)] [(.ref w_TRUE), (.ref w_TRUE)])) _
        refine Jvm.RoadKit.acmp (g := (mkF m 59 #[.val (.int x0_0), .val (.int (1 : Int32)), .val (.int (0 : Int32)), .val (.ref w_TRUE), .val (.ref w_FALSE)] [(.ref w_TRUE), (.ref w_TRUE)])) X57 hx rfl rfl rfl (pc0 := 59) (pc' := 64) (same := true) rfl (hb hby at_59) rfl (decide_eq_true (congrArg Value.ref (rfl : w_TRUE = w_TRUE))) (by decide) (by decide) ?_
        show Steps p.tables e below (T57.setTop (mkF m 64 #[.val (.int x0_0), .val (.int (1 : Int32)), .val (.int (0 : Int32)), .val (.ref w_TRUE), .val (.ref w_FALSE)] [])) _
        refine XS.aloadN X57.here hx rfl (hb hby at_64) rfl rfl ?_
        exact kt
      obtain ⟨cq58, kq58, q58a, q58b, q58c⟩ := isOf hZ e57 ((World.ext O0.2 W).2.2.2.1)
      obtain ⟨v58, _, ⟨T58, L58, k58, n58⟩, -, X58, ⟨Lc58, hQ58, l58, y58, z58⟩, st58⟩ := X57.virtualBack hx (y := (⟨"com/example/graticule/graticule/filter/TruthValue", "not", "()Lcom/example/graticule/graticule/filter/TruthValue;"⟩ : MethodName)) (z := (⟨"com/example/graticule/graticule/filter/TruthValue", "not", "()Lcom/example/graticule/graticule/filter/TruthValue;"⟩ : MethodName)) hown (mvT hZ (hw _ (List.mem_of_getElem? (i := 11) rfl))) (mvT hZ (hw _ (List.mem_of_getElem? (i := 12) rfl))) (notFace_of_selects (args := #[]) (mvT hZ (hw _ (List.mem_of_getElem? (i := 14) rfl)))) (mvT hZ (hw _ (List.mem_of_getElem? (i := 14) rfl))) (mvT hZ (hw _ (List.mem_of_getElem? (i := 13) rfl))) (by decide) (backOf (W := 0) (rm2 l Z a0 hw [] w_TRUE w_TRUE w_FALSE w_UNKNOWN (0 : Int32) h0 n0 Z0 (World.ext O0.2 W) ((World.ext O0.2 W).2.2.2.2.2.2.1) ((World.ext O0.2 W).2.2.2.1) (by decide)) hZ (hw _ (List.mem_of_getElem? (i := 15) rfl)) (hw _ (List.mem_of_getElem? (i := 2) rfl)) (by decide) (by decide)) q58a q58c (g := (mkF m 65 #[.val (.int x0_0), .val (.int (1 : Int32)), .val (.int (0 : Int32)), .val (.ref w_TRUE), .val (.ref w_FALSE)] [(.ref w_TRUE)])) rfl (by rw [hml]; rfl) (Steps.refl _) (argsL := []) (rest := []) (lenOf pd_3 rfl) rfl (by show 2 * 0 + _ ≤ _; exact Nat.le_of_eq rfl) (hb hby at_65) (fun _ _ => ⟨rfl, e57, (by decide : 0 + 0 ≤ _), (by decide : 0 + 0 ≤ _)⟩)
      dsimp only [Pt.U, Pt.locs, Pt.cells, Pt.slots] at X58 l58 y58 z58 st58 hQ58
      subst l58 y58 z58
      obtain ⟨hv58, N58q, e58⟩ := hQ58
      have N58 := Fr.app N55 N58q
      have hf58 : f2 w_TRUE w_TRUE w_FALSE w_UNKNOWN (0 : Int32) = w_FALSE := by unfold f2; rw [if_pos (by decide : ((0 : Int32) = (0 : Int32)))]
      rw [hf58] at hv58
      subst hv58
      have sg61 : ∀ t, Steps p.tables e below (T58.setTop (mkF m 77 #[.val (.int x0_0), .val (.int (1 : Int32)), .val (.int (0 : Int32)), .val (.ref w_TRUE), .val (.ref w_FALSE)] [(.int (0 : Int32)), (.ref w_FALSE)])) t → Steps p.tables e below (T57.setTop (mkF m 65 #[.val (.int x0_0), .val (.int (1 : Int32)), .val (.int (0 : Int32)), .val (.ref w_TRUE), .val (.ref w_FALSE)] [(.ref w_TRUE)])) t := fun t kt => by
        show Steps p.tables e below (T57.setTop (mkF m 65 #[.val (.int x0_0), .val (.int (1 : Int32)), .val (.int (0 : Int32)), .val (.ref w_TRUE), .val (.ref w_FALSE)] [(.ref w_TRUE)])) _
        refine st58.trans ?_
        show Steps p.tables e below (T58.setTop (mkF m 68 #[.val (.int x0_0), .val (.int (1 : Int32)), .val (.int (0 : Int32)), .val (.ref w_TRUE), .val (.ref w_FALSE)] [(.ref w_FALSE)])) _
        refine XS.iloadN X58.here hx rfl (hb hby at_68) rfl ?_
        show Steps p.tables e below (T58.setTop (mkF m 69 #[.val (.int x0_0), .val (.int (1 : Int32)), .val (.int (0 : Int32)), .val (.ref w_TRUE), .val (.ref w_FALSE)] [(.int (1 : Int32)), (.ref w_FALSE)])) _
        refine XS.ifYes X58.here hx rfl (pc0 := 69) (pc' := 76) rfl (hb hby at_69) rfl ((if0 _ _).trans (feq (by decide : ¬ ((1 : Int32) = (0 : Int32)))).2) (by decide) (by decide) ?_
        show Steps p.tables e below (T58.setTop (mkF m 76 #[.val (.int x0_0), .val (.int (1 : Int32)), .val (.int (0 : Int32)), .val (.ref w_TRUE), .val (.ref w_FALSE)] [(.ref w_FALSE)])) _
        refine XS.iconst X58.here hx rfl (hb hby at_76) ?_
        exact kt
      obtain ⟨v60, _, ⟨T60, L60, k60, n60⟩, -, X60, ⟨Lc60, hQ60, l60, y60, z60⟩, st60⟩ := Jvm.LawKit.callS X58 hx (y := (⟨"com/example/graticule/graticule/filter/TruthValue", "of", "(Z)Lcom/example/graticule/graticule/filter/TruthValue;"⟩ : MethodName)) hown (mvT hZ (hw _ (List.mem_of_getElem? (i := 0) rfl))) (mvT hZ (hw _ (List.mem_of_getElem? (i := 1) rfl))) (mvT hZ (hw _ (List.mem_of_getElem? (i := 2) rfl))) (mvT hZ (hw _ (List.mem_of_getElem? (i := 3) rfl))) (by decide) (backOf (W := 1) (rm1 l Z a0 hw [] (0 : Int32) w_TRUE w_FALSE w_UNKNOWN h0 n0 Z0 (World.ext O0.2 W)) hZ (hw _ (List.mem_of_getElem? (i := 3) rfl)) (hw _ (List.mem_of_getElem? (i := 2) rfl)) (by decide) (by decide)) (g := (mkF m 77 #[.val (.int x0_0), .val (.int (1 : Int32)), .val (.int (0 : Int32)), .val (.ref w_TRUE), .val (.ref w_FALSE)] [(.int (0 : Int32)), (.ref w_FALSE)])) rfl (by rw [hml]; rfl) (argsL := [(.int (0 : Int32))]) (rest := [(.ref w_FALSE)]) (lenOf pd_2 rfl) rfl (by show 2 * 0 + _ ≤ _; exact Nat.le_of_eq rfl) (hb hby at_77) (fun _ _ => ⟨rfl, e58, (by decide : 0 + 0 ≤ _), (by decide : 0 + 0 ≤ _)⟩)
      dsimp only [Pt.U, Pt.locs, Pt.cells, Pt.slots] at X60 l60 y60 z60 st60 hQ60
      subst l60 y60 z60
      obtain ⟨hv60, N60q, e60⟩ := hQ60
      have N60 := Fr.app N58 N60q
      have hf60 : f1 (0 : Int32) w_TRUE w_FALSE w_UNKNOWN = w_FALSE := by unfold f1; rw [if_pos (by decide : ((0 : Int32) = (0 : Int32)))]
      rw [hf60] at hv60
      subst hv60
      have sg63 : ∀ t, Steps p.tables e below (T60.setTop (mkF m 88 #[.val (.int x0_0), .val (.int (1 : Int32)), .val (.int (0 : Int32)), .val (.ref w_TRUE), .val (.ref w_FALSE)] [(.ref w_FALSE), (.ref w_TRUE)])) t → Steps p.tables e below (T58.setTop (mkF m 77 #[.val (.int x0_0), .val (.int (1 : Int32)), .val (.int (0 : Int32)), .val (.ref w_TRUE), .val (.ref w_FALSE)] [(.int (0 : Int32)), (.ref w_FALSE)])) t := fun t kt => by
        show Steps p.tables e below (T58.setTop (mkF m 77 #[.val (.int x0_0), .val (.int (1 : Int32)), .val (.int (0 : Int32)), .val (.ref w_TRUE), .val (.ref w_FALSE)] [(.int (0 : Int32)), (.ref w_FALSE)])) _
        refine st60 _ ?_
        show Steps p.tables e below (T60.setTop (mkF m 80 #[.val (.int x0_0), .val (.int (1 : Int32)), .val (.int (0 : Int32)), .val (.ref w_TRUE), .val (.ref w_FALSE)] [(.ref w_FALSE), (.ref w_FALSE)])) _
        refine Jvm.RoadKit.acmp (g := (mkF m 80 #[.val (.int x0_0), .val (.int (1 : Int32)), .val (.int (0 : Int32)), .val (.ref w_TRUE), .val (.ref w_FALSE)] [(.ref w_FALSE), (.ref w_FALSE)])) X60 hx rfl rfl rfl (pc0 := 80) (pc' := 85) (same := true) rfl (hb hby at_80) rfl (decide_eq_true (congrArg Value.ref (rfl : w_FALSE = w_FALSE))) (by decide) (by decide) ?_
        show Steps p.tables e below (T60.setTop (mkF m 85 #[.val (.int x0_0), .val (.int (1 : Int32)), .val (.int (0 : Int32)), .val (.ref w_TRUE), .val (.ref w_FALSE)] [])) _
        refine XS.aloadN X60.here hx rfl (hb hby at_85) rfl rfl ?_
        show Steps p.tables e below (T60.setTop (mkF m 86 #[.val (.int x0_0), .val (.int (1 : Int32)), .val (.int (0 : Int32)), .val (.ref w_TRUE), .val (.ref w_FALSE)] [(.ref w_TRUE)])) _
        refine XS.aload X60.here hx rfl (hb hby at_86) rfl rfl ?_
        exact kt
      obtain ⟨cq62, kq62, q62a, q62b, q62c⟩ := isOf hZ e60 ((World.ext O0.2 W).2.2.2.1)
      obtain ⟨v62, _, ⟨T62, L62, k62, n62⟩, -, X62, hSq62, hgq62, ⟨Lc62, hQ62, l62, y62, z62⟩, st62⟩ := X60.virtualBackS hx (y := (⟨"com/example/graticule/graticule/filter/TruthValue", "and", "(Lcom/example/graticule/graticule/filter/TruthValue;)Lcom/example/graticule/graticule/filter/TruthValue;"⟩ : MethodName)) (z := (⟨"com/example/graticule/graticule/filter/TruthValue", "and", "(Lcom/example/graticule/graticule/filter/TruthValue;)Lcom/example/graticule/graticule/filter/TruthValue;"⟩ : MethodName)) hown (mvT hZ (hw _ (List.mem_of_getElem? (i := 25) rfl))) (mvT hZ (hw _ (List.mem_of_getElem? (i := 26) rfl))) (notFace_of_selects (args := #[]) (mvT hZ (hw _ (List.mem_of_getElem? (i := 28) rfl)))) (mvT hZ (hw _ (List.mem_of_getElem? (i := 28) rfl))) (mvT hZ (hw _ (List.mem_of_getElem? (i := 27) rfl))) (by decide) (backOfS (W := 0) (rm4 l Z a0 hw [] w_TRUE w_FALSE w_TRUE w_FALSE w_UNKNOWN h0 n0 Z0 (World.ext O0.2 W)) hZ (hw _ (List.mem_of_getElem? (i := 29) rfl)) (hw _ (List.mem_of_getElem? (i := 2) rfl)) (by decide) (by decide)) q62a q62c (g := (mkF m 88 #[.val (.int x0_0), .val (.int (1 : Int32)), .val (.int (0 : Int32)), .val (.ref w_TRUE), .val (.ref w_FALSE)] [(.ref w_FALSE), (.ref w_TRUE)])) rfl (by rw [hml]; rfl) (Steps.refl _) (argsL := [(.ref w_FALSE)]) (rest := []) (lenOf pd_4 rfl) rfl (by show 2 * 0 + _ ≤ _; exact Nat.le_of_eq rfl) (hb hby at_88) (fun _ _ => ⟨rfl, e60, (by decide : 0 + 2 ≤ _), (by decide : 0 + 24 ≤ _)⟩)
      dsimp only [Pt.U, Pt.locs, Pt.cells, Pt.slots] at X62 l62 y62 z62 st62 hQ62 hSq62 hgq62
      subst l62 y62 z62
      obtain ⟨Xr62, hS62, hZ, hown⟩ := rebS (s := s) (vm0 := s.vm) hS0 (by rw [e60]; exact hk0) X62 hSq62 hgq62 hZ hown
      have hk62 : T62.heap.size ≤ T62.heap.size := Nat.le_refl _
      obtain ⟨hv62, N62q, K62⟩ := hQ62
      have N62 := Fr.app N60 N62q
      have Zs62 : n0 ≤ T62.heap.size := Nat.le_trans Z0 K62.1
      have Ol62 : Old Z n0 T62.heap := (O0).keep K62 all0
      have hf62 : f4 w_TRUE w_FALSE w_TRUE w_FALSE w_UNKNOWN = w_FALSE := by unfold f4; rw [if_neg (Fld.ne ((World.ext Ol62.2 W).2.2.2.2.2.2.1) ((World.ext Ol62.2 W).2.2.2.2.2.2.2.1) (by decide) : ¬ (w_TRUE = w_FALSE)), if_pos (rfl : w_FALSE = w_FALSE)]
      rw [hf62] at hv62
      subst hv62
      have sg65 : ∀ t, Steps p.tables e below (T62.setTop (mkF m 104 #[.val (.int x0_0), .val (.int (1 : Int32)), .val (.int (0 : Int32)), .val (.ref w_TRUE), .val (.ref w_FALSE)] [(.int (0 : Int32)), (.ref w_FALSE)])) t → Steps p.tables e below (T60.setTop (mkF m 88 #[.val (.int x0_0), .val (.int (1 : Int32)), .val (.int (0 : Int32)), .val (.ref w_TRUE), .val (.ref w_FALSE)] [(.ref w_FALSE), (.ref w_TRUE)])) t := fun t kt => by
        show Steps p.tables e below (T60.setTop (mkF m 88 #[.val (.int x0_0), .val (.int (1 : Int32)), .val (.int (0 : Int32)), .val (.ref w_TRUE), .val (.ref w_FALSE)] [(.ref w_FALSE), (.ref w_TRUE)])) _
        refine st62.trans ?_
        show Steps p.tables e below (T62.setTop (mkF m 91 #[.val (.int x0_0), .val (.int (1 : Int32)), .val (.int (0 : Int32)), .val (.ref w_TRUE), .val (.ref w_FALSE)] [(.ref w_FALSE)])) _
        refine XS.iloadN Xr62.here hx rfl (hb hby at_91) rfl ?_
        show Steps p.tables e below (T62.setTop (mkF m 92 #[.val (.int x0_0), .val (.int (1 : Int32)), .val (.int (0 : Int32)), .val (.ref w_TRUE), .val (.ref w_FALSE)] [(.int (1 : Int32)), (.ref w_FALSE)])) _
        refine XS.ifNo Xr62.here hx rfl (hb hby at_92) rfl ((if0 _ _).trans (feq (by decide : ¬ ((1 : Int32) = (0 : Int32)))).1) ?_
        show Steps p.tables e below (T62.setTop (mkF m 95 #[.val (.int x0_0), .val (.int (1 : Int32)), .val (.int (0 : Int32)), .val (.ref w_TRUE), .val (.ref w_FALSE)] [(.ref w_FALSE)])) _
        refine XS.iloadN Xr62.here hx rfl (hb hby at_95) rfl ?_
        show Steps p.tables e below (T62.setTop (mkF m 96 #[.val (.int x0_0), .val (.int (1 : Int32)), .val (.int (0 : Int32)), .val (.ref w_TRUE), .val (.ref w_FALSE)] [(.int (0 : Int32)), (.ref w_FALSE)])) _
        refine XS.ifYes Xr62.here hx rfl (pc0 := 96) (pc' := 103) rfl (hb hby at_96) rfl ((if0 _ _).trans (teq (by decide : ((0 : Int32) = (0 : Int32)))).1) (by decide) (by decide) ?_
        show Steps p.tables e below (T62.setTop (mkF m 103 #[.val (.int x0_0), .val (.int (1 : Int32)), .val (.int (0 : Int32)), .val (.ref w_TRUE), .val (.ref w_FALSE)] [(.ref w_FALSE)])) _
        refine XS.iconst Xr62.here hx rfl (hb hby at_103) ?_
        exact kt
      obtain ⟨v64, _, ⟨T64, L64, k64, n64⟩, -, X64, ⟨Lc64, hQ64, l64, y64, z64⟩, st64⟩ := Jvm.LawKit.callS Xr62 hx (y := (⟨"com/example/graticule/graticule/filter/TruthValue", "of", "(Z)Lcom/example/graticule/graticule/filter/TruthValue;"⟩ : MethodName)) hown (mvT hZ (hw _ (List.mem_of_getElem? (i := 0) rfl))) (mvT hZ (hw _ (List.mem_of_getElem? (i := 1) rfl))) (mvT hZ (hw _ (List.mem_of_getElem? (i := 2) rfl))) (mvT hZ (hw _ (List.mem_of_getElem? (i := 3) rfl))) (by decide) (backOf (W := 1) (rm1 l Z a0 hw [] (0 : Int32) w_TRUE w_FALSE w_UNKNOWN T62.heap n0 Zs62 (World.ext Ol62.2 W)) hZ (hw _ (List.mem_of_getElem? (i := 3) rfl)) (hw _ (List.mem_of_getElem? (i := 2) rfl)) (by decide) (by decide)) (g := (mkF m 104 #[.val (.int x0_0), .val (.int (1 : Int32)), .val (.int (0 : Int32)), .val (.ref w_TRUE), .val (.ref w_FALSE)] [(.int (0 : Int32)), (.ref w_FALSE)])) rfl (by rw [hml]; rfl) (argsL := [(.int (0 : Int32))]) (rest := [(.ref w_FALSE)]) (lenOf pd_2 rfl) rfl (by show 2 * 0 + _ ≤ _; exact Nat.le_of_eq rfl) (hb hby at_104) (fun _ _ => ⟨rfl, rfl, (by decide : 2 + 0 ≤ _), (by decide : 24 + 0 ≤ _)⟩)
      dsimp only [Pt.U, Pt.locs, Pt.cells, Pt.slots] at X64 l64 y64 z64 st64 hQ64
      subst l64 y64 z64
      obtain ⟨hv64, N64q, e64⟩ := hQ64
      have N64 := Fr.app N62 N64q
      have hf64 : f1 (0 : Int32) w_TRUE w_FALSE w_UNKNOWN = w_FALSE := by unfold f1; rw [if_pos (by decide : ((0 : Int32) = (0 : Int32)))]
      rw [hf64] at hv64
      subst hv64
      have sg67 : ∀ t, Steps p.tables e below (T64.setTop (mkF m 115 #[.val (.int x0_0), .val (.int (1 : Int32)), .val (.int (0 : Int32)), .val (.ref w_TRUE), .val (.ref w_FALSE)] [(.ref w_FALSE), (.ref w_TRUE)])) t → Steps p.tables e below (T62.setTop (mkF m 104 #[.val (.int x0_0), .val (.int (1 : Int32)), .val (.int (0 : Int32)), .val (.ref w_TRUE), .val (.ref w_FALSE)] [(.int (0 : Int32)), (.ref w_FALSE)])) t := fun t kt => by
        show Steps p.tables e below (T62.setTop (mkF m 104 #[.val (.int x0_0), .val (.int (1 : Int32)), .val (.int (0 : Int32)), .val (.ref w_TRUE), .val (.ref w_FALSE)] [(.int (0 : Int32)), (.ref w_FALSE)])) _
        refine st64 _ ?_
        show Steps p.tables e below (T64.setTop (mkF m 107 #[.val (.int x0_0), .val (.int (1 : Int32)), .val (.int (0 : Int32)), .val (.ref w_TRUE), .val (.ref w_FALSE)] [(.ref w_FALSE), (.ref w_FALSE)])) _
        refine Jvm.RoadKit.acmp (g := (mkF m 107 #[.val (.int x0_0), .val (.int (1 : Int32)), .val (.int (0 : Int32)), .val (.ref w_TRUE), .val (.ref w_FALSE)] [(.ref w_FALSE), (.ref w_FALSE)])) X64 hx rfl rfl rfl (pc0 := 107) (pc' := 112) (same := true) rfl (hb hby at_107) rfl (decide_eq_true (congrArg Value.ref (rfl : w_FALSE = w_FALSE))) (by decide) (by decide) ?_
        show Steps p.tables e below (T64.setTop (mkF m 112 #[.val (.int x0_0), .val (.int (1 : Int32)), .val (.int (0 : Int32)), .val (.ref w_TRUE), .val (.ref w_FALSE)] [])) _
        refine XS.aloadN X64.here hx rfl (hb hby at_112) rfl rfl ?_
        show Steps p.tables e below (T64.setTop (mkF m 113 #[.val (.int x0_0), .val (.int (1 : Int32)), .val (.int (0 : Int32)), .val (.ref w_TRUE), .val (.ref w_FALSE)] [(.ref w_TRUE)])) _
        refine XS.aload X64.here hx rfl (hb hby at_113) rfl rfl ?_
        exact kt
      obtain ⟨cq66, kq66, q66a, q66b, q66c⟩ := isOf hZ e64 ((World.ext Ol62.2 W).2.2.2.1)
      obtain ⟨v66, _, ⟨T66, L66, k66, n66⟩, -, X66, hSq66, hgq66, ⟨Lc66, hQ66, l66, y66, z66⟩, st66⟩ := X64.virtualBackS hx (y := (⟨"com/example/graticule/graticule/filter/TruthValue", "or", "(Lcom/example/graticule/graticule/filter/TruthValue;)Lcom/example/graticule/graticule/filter/TruthValue;"⟩ : MethodName)) (z := (⟨"com/example/graticule/graticule/filter/TruthValue", "or", "(Lcom/example/graticule/graticule/filter/TruthValue;)Lcom/example/graticule/graticule/filter/TruthValue;"⟩ : MethodName)) hown (mvT hZ (hw _ (List.mem_of_getElem? (i := 42) rfl))) (mvT hZ (hw _ (List.mem_of_getElem? (i := 43) rfl))) (notFace_of_selects (args := #[]) (mvT hZ (hw _ (List.mem_of_getElem? (i := 45) rfl)))) (mvT hZ (hw _ (List.mem_of_getElem? (i := 45) rfl))) (mvT hZ (hw _ (List.mem_of_getElem? (i := 44) rfl))) (by decide) (backOfS (W := 0) (rm6 l Z a0 hw [] w_TRUE w_FALSE w_TRUE w_FALSE w_UNKNOWN T62.heap n0 Zs62 (World.ext Ol62.2 W)) hZ (hw _ (List.mem_of_getElem? (i := 46) rfl)) (hw _ (List.mem_of_getElem? (i := 2) rfl)) (by decide) (by decide)) q66a q66c (g := (mkF m 115 #[.val (.int x0_0), .val (.int (1 : Int32)), .val (.int (0 : Int32)), .val (.ref w_TRUE), .val (.ref w_FALSE)] [(.ref w_FALSE), (.ref w_TRUE)])) rfl (by rw [hml]; rfl) (Steps.refl _) (argsL := [(.ref w_FALSE)]) (rest := []) (lenOf pd_4 rfl) rfl (by show 2 * 0 + _ ≤ _; exact Nat.le_of_eq rfl) (hb hby at_115) (fun _ _ => ⟨rfl, e64, (by decide : 2 + 2 ≤ _), (by decide : 24 + 24 ≤ _)⟩)
      dsimp only [Pt.U, Pt.locs, Pt.cells, Pt.slots] at X66 l66 y66 z66 st66 hQ66 hSq66 hgq66
      subst l66 y66 z66
      obtain ⟨Xr66, hS66, hZ, hown⟩ := rebS (s := s) (vm0 := T62.vm) hS62 (by rw [e64]; exact hk62) X66 hSq66 hgq66 hZ hown
      have hk66 : T66.heap.size ≤ T66.heap.size := Nat.le_refl _
      obtain ⟨hv66, N66q, K66⟩ := hQ66
      have N66 := Fr.app N64 N66q
      have Zs66 : n0 ≤ T66.heap.size := Nat.le_trans Zs62 K66.1
      have Ol66 : Old Z n0 T66.heap := (Ol62).keep K66 all0
      have hf66 : f6 w_TRUE w_FALSE w_TRUE w_FALSE w_UNKNOWN = w_TRUE := by unfold f6; rw [if_pos (rfl : w_TRUE = w_TRUE)]
      rw [hf66] at hv66
      subst hv66
      have sg69 : ∀ t, Steps p.tables e below (T66.setTop (mkF m 131 #[.val (.int x0_0), .val (.int (1 : Int32)), .val (.int (0 : Int32)), .val (.ref w_TRUE), .val (.ref w_FALSE)] [(.int (1 : Int32)), (.ref w_TRUE)])) t → Steps p.tables e below (T64.setTop (mkF m 115 #[.val (.int x0_0), .val (.int (1 : Int32)), .val (.int (0 : Int32)), .val (.ref w_TRUE), .val (.ref w_FALSE)] [(.ref w_FALSE), (.ref w_TRUE)])) t := fun t kt => by
        show Steps p.tables e below (T64.setTop (mkF m 115 #[.val (.int x0_0), .val (.int (1 : Int32)), .val (.int (0 : Int32)), .val (.ref w_TRUE), .val (.ref w_FALSE)] [(.ref w_FALSE), (.ref w_TRUE)])) _
        refine st66.trans ?_
        show Steps p.tables e below (T66.setTop (mkF m 118 #[.val (.int x0_0), .val (.int (1 : Int32)), .val (.int (0 : Int32)), .val (.ref w_TRUE), .val (.ref w_FALSE)] [(.ref w_TRUE)])) _
        refine XS.iloadN Xr66.here hx rfl (hb hby at_118) rfl ?_
        show Steps p.tables e below (T66.setTop (mkF m 119 #[.val (.int x0_0), .val (.int (1 : Int32)), .val (.int (0 : Int32)), .val (.ref w_TRUE), .val (.ref w_FALSE)] [(.int (1 : Int32)), (.ref w_TRUE)])) _
        refine XS.ifYes Xr66.here hx rfl (pc0 := 119) (pc' := 126) rfl (hb hby at_119) rfl ((if0 _ _).trans (feq (by decide : ¬ ((1 : Int32) = (0 : Int32)))).2) (by decide) (by decide) ?_
        show Steps p.tables e below (T66.setTop (mkF m 126 #[.val (.int x0_0), .val (.int (1 : Int32)), .val (.int (0 : Int32)), .val (.ref w_TRUE), .val (.ref w_FALSE)] [(.ref w_TRUE)])) _
        refine XS.iconst Xr66.here hx rfl (hb hby at_126) ?_
        show Steps p.tables e below (T66.setTop (mkF m 127 #[.val (.int x0_0), .val (.int (1 : Int32)), .val (.int (0 : Int32)), .val (.ref w_TRUE), .val (.ref w_FALSE)] [(.int (1 : Int32)), (.ref w_TRUE)])) _
        refine XS.goto Xr66.here hx rfl (pc0 := 127) (pc' := 131) rfl (hb hby at_127) (by decide) (by decide) ?_
        exact kt
      obtain ⟨v68, _, ⟨T68, L68, k68, n68⟩, -, X68, ⟨Lc68, hQ68, l68, y68, z68⟩, st68⟩ := Jvm.LawKit.callS Xr66 hx (y := (⟨"com/example/graticule/graticule/filter/TruthValue", "of", "(Z)Lcom/example/graticule/graticule/filter/TruthValue;"⟩ : MethodName)) hown (mvT hZ (hw _ (List.mem_of_getElem? (i := 0) rfl))) (mvT hZ (hw _ (List.mem_of_getElem? (i := 1) rfl))) (mvT hZ (hw _ (List.mem_of_getElem? (i := 2) rfl))) (mvT hZ (hw _ (List.mem_of_getElem? (i := 3) rfl))) (by decide) (backOf (W := 1) (rm1 l Z a0 hw [] (1 : Int32) w_TRUE w_FALSE w_UNKNOWN T66.heap n0 Zs66 (World.ext Ol66.2 W)) hZ (hw _ (List.mem_of_getElem? (i := 3) rfl)) (hw _ (List.mem_of_getElem? (i := 2) rfl)) (by decide) (by decide)) (g := (mkF m 131 #[.val (.int x0_0), .val (.int (1 : Int32)), .val (.int (0 : Int32)), .val (.ref w_TRUE), .val (.ref w_FALSE)] [(.int (1 : Int32)), (.ref w_TRUE)])) rfl (by rw [hml]; rfl) (argsL := [(.int (1 : Int32))]) (rest := [(.ref w_TRUE)]) (lenOf pd_2 rfl) rfl (by show 2 * 0 + _ ≤ _; exact Nat.le_of_eq rfl) (hb hby at_131) (fun _ _ => ⟨rfl, rfl, (by decide : 4 + 0 ≤ _), (by decide : 48 + 0 ≤ _)⟩)
      dsimp only [Pt.U, Pt.locs, Pt.cells, Pt.slots] at X68 l68 y68 z68 st68 hQ68
      subst l68 y68 z68
      obtain ⟨hv68, N68q, e68⟩ := hQ68
      have N68 := Fr.app N66 N68q
      have hf68 : f1 (1 : Int32) w_TRUE w_FALSE w_UNKNOWN = w_TRUE := by unfold f1; rw [if_neg (by decide : ¬ ((1 : Int32) = (0 : Int32)))]
      rw [hf68] at hv68
      subst hv68
      obtain ⟨fs, hr, hrun, hended, hRW⟩ := Stand.leaveW (s := s) (vm₁ := T66.vm) X68 hS66 (by rw [e68]; exact hk66) (v := some (.int (1 : Int32))) (fun h => by rw [Bd.returns] at h; cases h)
      refine ⟨_, _, pre0 _ (sg1 _ (sg47 _ (sg50 _ (sg52 _ (sg56 _ (sg59 _ (sg61 _ (sg63 _ (sg65 _ (sg67 _ (sg69 _ ?_))))))))))), hrun, hended, _, _, rfl, ?_, hRW.1, hRW.2.1, hRW.2.2.1, hRW.2.2.2.mono (by decide) (by decide)⟩
      · show Steps p.tables e below (T66.setTop (mkF m 131 #[.val (.int x0_0), .val (.int (1 : Int32)), .val (.int (0 : Int32)), .val (.ref w_TRUE), .val (.ref w_FALSE)] [(.int (1 : Int32)), (.ref w_TRUE)])) _
        refine st68 _ ?_
        show Steps p.tables e below (T68.setTop (mkF m 134 #[.val (.int x0_0), .val (.int (1 : Int32)), .val (.int (0 : Int32)), .val (.ref w_TRUE), .val (.ref w_FALSE)] [(.ref w_TRUE), (.ref w_TRUE)])) _
        refine Jvm.RoadKit.acmp (g := (mkF m 134 #[.val (.int x0_0), .val (.int (1 : Int32)), .val (.int (0 : Int32)), .val (.ref w_TRUE), .val (.ref w_FALSE)] [(.ref w_TRUE), (.ref w_TRUE)])) X68 hx rfl rfl rfl (pc0 := 134) (pc' := 137) (same := true) rfl (hb hby at_134) rfl (decide_eq_true (congrArg Value.ref (rfl : w_TRUE = w_TRUE))) (by decide) (by decide) ?_
        show Steps p.tables e below (T68.setTop (mkF m 137 #[.val (.int x0_0), .val (.int (1 : Int32)), .val (.int (0 : Int32)), .val (.ref w_TRUE), .val (.ref w_FALSE)] [])) _
        refine XS.iconst X68.here hx rfl (hb hby at_137) ?_
        show Steps p.tables e below (T68.setTop (mkF m 138 #[.val (.int x0_0), .val (.int (1 : Int32)), .val (.int (0 : Int32)), .val (.ref w_TRUE), .val (.ref w_FALSE)] [(.int (1 : Int32))])) _
        refine XS.goto X68.here hx rfl (pc0 := 138) (pc' := 142) rfl (hb hby at_138) (by decide) (by decide) ?_
        show Steps p.tables e below (T68.setTop (mkF m 142 #[.val (.int x0_0), .val (.int (1 : Int32)), .val (.int (0 : Int32)), .val (.ref w_TRUE), .val (.ref w_FALSE)] [(.int (1 : Int32))])) _
        exact retN X68 hx (t := .boolean) Bd.returns (by simp) (hb hby at_142) hr
      · show Q0 Z x0_0 w_TRUE w_FALSE w_UNKNOWN h0 n0 _ T68.heap _
        rw [e68]
        exact ⟨rfl, N68⟩
    · have sg71 : ∀ t, Steps p.tables e below (s₁.setTop (mkF m 25 #[.val (.int x0_0), .val (.int (1 : Int32)), .val (.int (1 : Int32)), .unset, .unset] [(.int (1 : Int32))])) t → Steps p.tables e below (s₁.setTop (mkF m 15 #[.val (.int x0_0), .val (.int (1 : Int32)), .unset, .unset, .unset] [(.int (x0_0 &&& (2 : Int32)))])) t := fun t kt => by
        show Steps p.tables e below (s₁.setTop (mkF m 15 #[.val (.int x0_0), .val (.int (1 : Int32)), .unset, .unset, .unset] [(.int (x0_0 &&& (2 : Int32)))])) _
        refine XS.ifNo X0.here hx rfl (hb hby at_15) rfl ((if0 _ _).trans (feq hc15_48).1) ?_
        show Steps p.tables e below (s₁.setTop (mkF m 18 #[.val (.int x0_0), .val (.int (1 : Int32)), .unset, .unset, .unset] [])) _
        refine XS.iconst X0.here hx rfl (hb hby at_18) ?_
        show Steps p.tables e below (s₁.setTop (mkF m 19 #[.val (.int x0_0), .val (.int (1 : Int32)), .unset, .unset, .unset] [(.int (1 : Int32))])) _
        refine XS.goto X0.here hx rfl (pc0 := 19) (pc' := 23) rfl (hb hby at_19) (by decide) (by decide) ?_
        show Steps p.tables e below (s₁.setTop (mkF m 23 #[.val (.int x0_0), .val (.int (1 : Int32)), .unset, .unset, .unset] [(.int (1 : Int32))])) _
        refine XS.istoreN X0.here hx rfl (hb hby at_23) rfl (l' := #[.val (.int x0_0), .val (.int (1 : Int32)), .val (.int (1 : Int32)), .unset, .unset]) rfl ?_
        show Steps p.tables e below (s₁.setTop (mkF m 24 #[.val (.int x0_0), .val (.int (1 : Int32)), .val (.int (1 : Int32)), .unset, .unset] [])) _
        refine XS.iloadN X0.here hx rfl (hb hby at_24) rfl ?_
        exact kt
      obtain ⟨v70, _, ⟨T70, L70, k70, n70⟩, -, X70, ⟨Lc70, hQ70, l70, y70, z70⟩, st70⟩ := Jvm.LawKit.callS X0 hx (y := (⟨"com/example/graticule/graticule/filter/TruthValue", "of", "(Z)Lcom/example/graticule/graticule/filter/TruthValue;"⟩ : MethodName)) hown (mvT hZ (hw _ (List.mem_of_getElem? (i := 0) rfl))) (mvT hZ (hw _ (List.mem_of_getElem? (i := 1) rfl))) (mvT hZ (hw _ (List.mem_of_getElem? (i := 2) rfl))) (mvT hZ (hw _ (List.mem_of_getElem? (i := 3) rfl))) (by decide) (backOf (W := 0) (rm1 l Z a0 hw [] (1 : Int32) w_TRUE w_FALSE w_UNKNOWN h0 n0 Z0 (World.ext O0.2 W)) hZ (hw _ (List.mem_of_getElem? (i := 3) rfl)) (hw _ (List.mem_of_getElem? (i := 2) rfl)) (by decide) (by decide)) (g := (mkF m 25 #[.val (.int x0_0), .val (.int (1 : Int32)), .val (.int (1 : Int32)), .unset, .unset] [(.int (1 : Int32))])) rfl (by rw [hml]; rfl) (argsL := [(.int (1 : Int32))]) (rest := []) (lenOf pd_2 rfl) rfl (by show 2 * 0 + _ ≤ _; exact Nat.le_of_eq rfl) (hb hby at_25) (fun _ _ => ⟨rfl, e0, (by decide : 0 + 0 ≤ _), (by decide : 0 + 0 ≤ _)⟩)
      dsimp only [Pt.U, Pt.locs, Pt.cells, Pt.slots] at X70 l70 y70 z70 st70 hQ70
      subst l70 y70 z70
      obtain ⟨hv70, N70q, e70⟩ := hQ70
      have N70 := Fr.app N0 N70q
      have hf70 : f1 (1 : Int32) w_TRUE w_FALSE w_UNKNOWN = w_TRUE := by unfold f1; rw [if_neg (by decide : ¬ ((1 : Int32) = (0 : Int32)))]
      rw [hf70] at hv70
      subst hv70
      have sg73 : ∀ t, Steps p.tables e below (T70.setTop (mkF m 30 #[.val (.int x0_0), .val (.int (1 : Int32)), .val (.int (1 : Int32)), .val (.ref w_TRUE), .unset] [(.int (1 : Int32))])) t → Steps p.tables e below (s₁.setTop (mkF m 25 #[.val (.int x0_0), .val (.int (1 : Int32)), .val (.int (1 : Int32)), .unset, .unset] [(.int (1 : Int32))])) t := fun t kt => by
        show Steps p.tables e below (s₁.setTop (mkF m 25 #[.val (.int x0_0), .val (.int (1 : Int32)), .val (.int (1 : Int32)), .unset, .unset] [(.int (1 : Int32))])) _
        refine st70 _ ?_
        show Steps p.tables e below (T70.setTop (mkF m 28 #[.val (.int x0_0), .val (.int (1 : Int32)), .val (.int (1 : Int32)), .unset, .unset] [(.ref w_TRUE)])) _
        refine XS.astoreN X70.here hx rfl (hb hby at_28) rfl rfl (l' := #[.val (.int x0_0), .val (.int (1 : Int32)), .val (.int (1 : Int32)), .val (.ref w_TRUE), .unset]) rfl ?_
        show Steps p.tables e below (T70.setTop (mkF m 29 #[.val (.int x0_0), .val (.int (1 : Int32)), .val (.int (1 : Int32)), .val (.ref w_TRUE), .unset] [])) _
        refine XS.iloadN X70.here hx rfl (hb hby at_29) rfl ?_
        exact kt
      obtain ⟨v72, _, ⟨T72, L72, k72, n72⟩, -, X72, ⟨Lc72, hQ72, l72, y72, z72⟩, st72⟩ := Jvm.LawKit.callS X70 hx (y := (⟨"com/example/graticule/graticule/filter/TruthValue", "of", "(Z)Lcom/example/graticule/graticule/filter/TruthValue;"⟩ : MethodName)) hown (mvT hZ (hw _ (List.mem_of_getElem? (i := 0) rfl))) (mvT hZ (hw _ (List.mem_of_getElem? (i := 1) rfl))) (mvT hZ (hw _ (List.mem_of_getElem? (i := 2) rfl))) (mvT hZ (hw _ (List.mem_of_getElem? (i := 3) rfl))) (by decide) (backOf (W := 0) (rm1 l Z a0 hw [] (1 : Int32) w_TRUE w_FALSE w_UNKNOWN h0 n0 Z0 (World.ext O0.2 W)) hZ (hw _ (List.mem_of_getElem? (i := 3) rfl)) (hw _ (List.mem_of_getElem? (i := 2) rfl)) (by decide) (by decide)) (g := (mkF m 30 #[.val (.int x0_0), .val (.int (1 : Int32)), .val (.int (1 : Int32)), .val (.ref w_TRUE), .unset] [(.int (1 : Int32))])) rfl (by rw [hml]; rfl) (argsL := [(.int (1 : Int32))]) (rest := []) (lenOf pd_2 rfl) rfl (by show 2 * 0 + _ ≤ _; exact Nat.le_of_eq rfl) (hb hby at_30) (fun _ _ => ⟨rfl, e70, (by decide : 0 + 0 ≤ _), (by decide : 0 + 0 ≤ _)⟩)
      dsimp only [Pt.U, Pt.locs, Pt.cells, Pt.slots] at X72 l72 y72 z72 st72 hQ72
      subst l72 y72 z72
      obtain ⟨hv72, N72q, e72⟩ := hQ72
      have N72 := Fr.app N70 N72q
      have hf72 : f1 (1 : Int32) w_TRUE w_FALSE w_UNKNOWN = w_TRUE := by unfold f1; rw [if_neg (by decide : ¬ ((1 : Int32) = (0 : Int32)))]
      rw [hf72] at hv72
      subst hv72
      obtain ⟨T74, X74, e74, st74⟩ := getS2 X72 hx hZ hown (host := "") (Or.inl (hw _ (List.mem_of_getElem? (i := 6) rfl))) Via.refl e72 ((World.ext O0.2 W).2.2.1) (g := (mkF m 36 #[.val (.int x0_0), .val (.int (1 : Int32)), .val (.int (1 : Int32)), .val (.ref w_TRUE), .val (.ref w_TRUE)] [(.ref w_TRUE)])) rfl (hb hby at_36)
      obtain ⟨T75, X75, e75, st75⟩ := getS2 X74 hx hZ hown (host := "") (Or.inl (hw _ (List.mem_of_getElem? (i := 6) rfl))) Via.refl e74 ((World.ext O0.2 W).2.2.1) (g := (mkF m 44 #[.val (.int x0_0), .val (.int (1 : Int32)), .val (.int (1 : Int32)), .val (.ref w_TRUE), .val (.ref w_TRUE)] [(.ref w_TRUE)])) rfl (hb hby at_44)
      have sg77 : ∀ t, Steps p.tables e below (T75.setTop (mkF m 53 #[.val (.int x0_0), .val (.int (1 : Int32)), .val (.int (1 : Int32)), .val (.ref w_TRUE), .val (.ref w_TRUE)] [(.int (1 : Int32))])) t → Steps p.tables e below (T70.setTop (mkF m 30 #[.val (.int x0_0), .val (.int (1 : Int32)), .val (.int (1 : Int32)), .val (.ref w_TRUE), .unset] [(.int (1 : Int32))])) t := fun t kt => by
        show Steps p.tables e below (T70.setTop (mkF m 30 #[.val (.int x0_0), .val (.int (1 : Int32)), .val (.int (1 : Int32)), .val (.ref w_TRUE), .unset] [(.int (1 : Int32))])) _
        refine st72 _ ?_
        show Steps p.tables e below (T72.setTop (mkF m 33 #[.val (.int x0_0), .val (.int (1 : Int32)), .val (.int (1 : Int32)), .val (.ref w_TRUE), .unset] [(.ref w_TRUE)])) _
        refine XS.astore X72.here hx rfl (hb hby at_33) rfl rfl (l' := #[.val (.int x0_0), .val (.int (1 : Int32)), .val (.int (1 : Int32)), .val (.ref w_TRUE), .val (.ref w_TRUE)]) rfl ?_
        show Steps p.tables e below (T72.setTop (mkF m 35 #[.val (.int x0_0), .val (.int (1 : Int32)), .val (.int (1 : Int32)), .val (.ref w_TRUE), .val (.ref w_TRUE)] [])) _
        refine XS.aloadN X72.here hx rfl (hb hby at_35) rfl rfl ?_
        show Steps p.tables e below (T72.setTop (mkF m 36 #[.val (.int x0_0), .val (.int (1 : Int32)), .val (.int (1 : Int32)), .val (.ref w_TRUE), .val (.ref w_TRUE)] [(.ref w_TRUE)])) _
        refine st74 _ ?_
        show Steps p.tables e below (T74.setTop (mkF m 39 #[.val (.int x0_0), .val (.int (1 : Int32)), .val (.int (1 : Int32)), .val (.ref w_TRUE), .val (.ref w_TRUE)] [(.ref w_UNKNOWN), (.ref w_TRUE)])) _
        refine Jvm.RoadKit.acmp (g := (mkF m 39 #[.val (.int x0_0), .val (.int (1 : Int32)), .val (.int (1 : Int32)), .val (.ref w_TRUE), .val (.ref w_TRUE)] [(.ref w_UNKNOWN), (.ref w_TRUE)])) X74 hx rfl rfl rfl (pc0 := 39) (pc' := 42) (same := false) rfl (hb hby at_39) rfl (decide_eq_false fun q => (Fld.ne ((World.ext O0.2 W).2.2.2.2.2.2.1) ((World.ext O0.2 W).2.2.2.2.2.2.2.2) (by decide) : ¬ (w_TRUE = w_UNKNOWN)) (Value.ref.inj q)) (by decide) (by decide) ?_
        show Steps p.tables e below (T74.setTop (mkF m 42 #[.val (.int x0_0), .val (.int (1 : Int32)), .val (.int (1 : Int32)), .val (.ref w_TRUE), .val (.ref w_TRUE)] [])) _
        refine XS.aload X74.here hx rfl (hb hby at_42) rfl rfl ?_
        show Steps p.tables e below (T74.setTop (mkF m 44 #[.val (.int x0_0), .val (.int (1 : Int32)), .val (.int (1 : Int32)), .val (.ref w_TRUE), .val (.ref w_TRUE)] [(.ref w_TRUE)])) _
        refine st75 _ ?_
        show Steps p.tables e below (T75.setTop (mkF m 47 #[.val (.int x0_0), .val (.int (1 : Int32)), .val (.int (1 : Int32)), .val (.ref w_TRUE), .val (.ref w_TRUE)] [(.ref w_UNKNOWN), (.ref w_TRUE)])) _
        refine Jvm.RoadKit.acmp (g := (mkF m 47 #[.val (.int x0_0), .val (.int (1 : Int32)), .val (.int (1 : Int32)), .val (.ref w_TRUE), .val (.ref w_TRUE)] [(.ref w_UNKNOWN), (.ref w_TRUE)])) X75 hx rfl rfl rfl (pc0 := 47) (pc' := 52) (same := false) rfl (hb hby at_47) rfl (decide_eq_false fun q => (Fld.ne ((World.ext O0.2 W).2.2.2.2.2.2.1) ((World.ext O0.2 W).2.2.2.2.2.2.2.2) (by decide) : ¬ (w_TRUE = w_UNKNOWN)) (Value.ref.inj q)) (by decide) (by decide) ?_
        show Steps p.tables e below (T75.setTop (mkF m 52 #[.val (.int x0_0), .val (.int (1 : Int32)), .val (.int (1 : Int32)), .val (.ref w_TRUE), .val (.ref w_TRUE)] [])) _
        refine XS.iconst X75.here hx rfl (hb hby at_52) ?_
        exact kt
      obtain ⟨v76, _, ⟨T76, L76, k76, n76⟩, -, X76, ⟨Lc76, hQ76, l76, y76, z76⟩, st76⟩ := Jvm.LawKit.callS X75 hx (y := (⟨"com/example/graticule/graticule/filter/TruthValue", "of", "(Z)Lcom/example/graticule/graticule/filter/TruthValue;"⟩ : MethodName)) hown (mvT hZ (hw _ (List.mem_of_getElem? (i := 0) rfl))) (mvT hZ (hw _ (List.mem_of_getElem? (i := 1) rfl))) (mvT hZ (hw _ (List.mem_of_getElem? (i := 2) rfl))) (mvT hZ (hw _ (List.mem_of_getElem? (i := 3) rfl))) (by decide) (backOf (W := 0) (rm1 l Z a0 hw [] (1 : Int32) w_TRUE w_FALSE w_UNKNOWN h0 n0 Z0 (World.ext O0.2 W)) hZ (hw _ (List.mem_of_getElem? (i := 3) rfl)) (hw _ (List.mem_of_getElem? (i := 2) rfl)) (by decide) (by decide)) (g := (mkF m 53 #[.val (.int x0_0), .val (.int (1 : Int32)), .val (.int (1 : Int32)), .val (.ref w_TRUE), .val (.ref w_TRUE)] [(.int (1 : Int32))])) rfl (by rw [hml]; rfl) (argsL := [(.int (1 : Int32))]) (rest := []) (lenOf pd_2 rfl) rfl (by show 2 * 0 + _ ≤ _; exact Nat.le_of_eq rfl) (hb hby at_53) (fun _ _ => ⟨rfl, e75, (by decide : 0 + 0 ≤ _), (by decide : 0 + 0 ≤ _)⟩)
      dsimp only [Pt.U, Pt.locs, Pt.cells, Pt.slots] at X76 l76 y76 z76 st76 hQ76
      subst l76 y76 z76
      obtain ⟨hv76, N76q, e76⟩ := hQ76
      have N76 := Fr.app N72 N76q
      have hf76 : f1 (1 : Int32) w_TRUE w_FALSE w_UNKNOWN = w_TRUE := by unfold f1; rw [if_neg (by decide : ¬ ((1 : Int32) = (0 : Int32)))]
      rw [hf76] at hv76
      subst hv76
      obtain ⟨T78, X78, e78, st78⟩ := getS2 X76 hx hZ hown (host := "") (Or.inl (hw _ (List.mem_of_getElem? (i := 10) rfl))) Via.refl e76 ((World.ext O0.2 W).1) (g := (mkF m 56 #[.val (.int x0_0), .val (.int (1 : Int32)), .val (.int (1 : Int32)), .val (.ref w_TRUE), .val (.ref w_TRUE)] [(.ref w_TRUE)])) rfl (hb hby at_56)
      have sg80 : ∀ t, Steps p.tables e below (T78.setTop (mkF m 65 #[.val (.int x0_0), .val (.int (1 : Int32)), .val (.int (1 : Int32)), .val (.ref w_TRUE), .val (.ref w_TRUE)] [(.ref w_TRUE)])) t → Steps p.tables e below (T75.setTop (mkF m 53 #[.val (.int x0_0), .val (.int (1 : Int32)), .val (.int (1 : Int32)), .val (.ref w_TRUE), .val (.ref w_TRUE)] [(.int (1 : Int32))])) t := fun t kt => by
        show Steps p.tables e below (T75.setTop (mkF m 53 #[.val (.int x0_0), .val (.int (1 : Int32)), .val (.int (1 : Int32)), .val (.ref w_TRUE), .val (.ref w_TRUE)] [(.int (1 : Int32))])) _
        refine st76 _ ?_
        show Steps p.tables e below (T76.setTop (mkF m 56 #[.val (.int x0_0), .val (.int (1 : Int32)), .val (.int (1 : Int32)), .val (.ref w_TRUE), .val (.ref w_TRUE)] [(.ref w_TRUE)])) _
        refine st78 _ ?_
        show Steps p.tables e below (T78.setTop (mkF m 59 #[.val (.int x0_0), .val (.int (1 : Int32)), .val (.int (1 : Int32)), .val (.ref w_TRUE), .val (.ref w_TRUE)] [(.ref w_TRUE), (.ref w_TRUE)])) _
        refine Jvm.RoadKit.acmp (g := (mkF m 59 #[.val (.int x0_0), .val (.int (1 : Int32)), .val (.int (1 : Int32)), .val (.ref w_TRUE), .val (.ref w_TRUE)] [(.ref w_TRUE), (.ref w_TRUE)])) X78 hx rfl rfl rfl (pc0 := 59) (pc' := 64) (same := true) rfl (hb hby at_59) rfl (decide_eq_true (congrArg Value.ref (rfl : w_TRUE = w_TRUE))) (by decide) (by decide) ?_
        show Steps p.tables e below (T78.setTop (mkF m 64 #[.val (.int x0_0), .val (.int (1 : Int32)), .val (.int (1 : Int32)), .val (.ref w_TRUE), .val (.ref w_TRUE)] [])) _
        refine XS.aloadN X78.here hx rfl (hb hby at_64) rfl rfl ?_
        exact kt
      obtain ⟨cq79, kq79, q79a, q79b, q79c⟩ := isOf hZ e78 ((World.ext O0.2 W).2.2.2.1)
      obtain ⟨v79, _, ⟨T79, L79, k79, n79⟩, -, X79, ⟨Lc79, hQ79, l79, y79, z79⟩, st79⟩ := X78.virtualBack hx (y := (⟨"com/example/graticule/graticule/filter/TruthValue", "not", "()Lcom/example/graticule/graticule/filter/TruthValue;"⟩ : MethodName)) (z := (⟨"com/example/graticule/graticule/filter/TruthValue", "not", "()Lcom/example/graticule/graticule/filter/TruthValue;"⟩ : MethodName)) hown (mvT hZ (hw _ (List.mem_of_getElem? (i := 11) rfl))) (mvT hZ (hw _ (List.mem_of_getElem? (i := 12) rfl))) (notFace_of_selects (args := #[]) (mvT hZ (hw _ (List.mem_of_getElem? (i := 14) rfl)))) (mvT hZ (hw _ (List.mem_of_getElem? (i := 14) rfl))) (mvT hZ (hw _ (List.mem_of_getElem? (i := 13) rfl))) (by decide) (backOf (W := 0) (rm2 l Z a0 hw [] w_TRUE w_TRUE w_FALSE w_UNKNOWN (0 : Int32) h0 n0 Z0 (World.ext O0.2 W) ((World.ext O0.2 W).2.2.2.2.2.2.1) ((World.ext O0.2 W).2.2.2.1) (by decide)) hZ (hw _ (List.mem_of_getElem? (i := 15) rfl)) (hw _ (List.mem_of_getElem? (i := 2) rfl)) (by decide) (by decide)) q79a q79c (g := (mkF m 65 #[.val (.int x0_0), .val (.int (1 : Int32)), .val (.int (1 : Int32)), .val (.ref w_TRUE), .val (.ref w_TRUE)] [(.ref w_TRUE)])) rfl (by rw [hml]; rfl) (Steps.refl _) (argsL := []) (rest := []) (lenOf pd_3 rfl) rfl (by show 2 * 0 + _ ≤ _; exact Nat.le_of_eq rfl) (hb hby at_65) (fun _ _ => ⟨rfl, e78, (by decide : 0 + 0 ≤ _), (by decide : 0 + 0 ≤ _)⟩)
      dsimp only [Pt.U, Pt.locs, Pt.cells, Pt.slots] at X79 l79 y79 z79 st79 hQ79
      subst l79 y79 z79
      obtain ⟨hv79, N79q, e79⟩ := hQ79
      have N79 := Fr.app N76 N79q
      have hf79 : f2 w_TRUE w_TRUE w_FALSE w_UNKNOWN (0 : Int32) = w_FALSE := by unfold f2; rw [if_pos (by decide : ((0 : Int32) = (0 : Int32)))]
      rw [hf79] at hv79
      subst hv79
      have sg82 : ∀ t, Steps p.tables e below (T79.setTop (mkF m 77 #[.val (.int x0_0), .val (.int (1 : Int32)), .val (.int (1 : Int32)), .val (.ref w_TRUE), .val (.ref w_TRUE)] [(.int (0 : Int32)), (.ref w_FALSE)])) t → Steps p.tables e below (T78.setTop (mkF m 65 #[.val (.int x0_0), .val (.int (1 : Int32)), .val (.int (1 : Int32)), .val (.ref w_TRUE), .val (.ref w_TRUE)] [(.ref w_TRUE)])) t := fun t kt => by
        show Steps p.tables e below (T78.setTop (mkF m 65 #[.val (.int x0_0), .val (.int (1 : Int32)), .val (.int (1 : Int32)), .val (.ref w_TRUE), .val (.ref w_TRUE)] [(.ref w_TRUE)])) _
        refine st79.trans ?_
        show Steps p.tables e below (T79.setTop (mkF m 68 #[.val (.int x0_0), .val (.int (1 : Int32)), .val (.int (1 : Int32)), .val (.ref w_TRUE), .val (.ref w_TRUE)] [(.ref w_FALSE)])) _
        refine XS.iloadN X79.here hx rfl (hb hby at_68) rfl ?_
        show Steps p.tables e below (T79.setTop (mkF m 69 #[.val (.int x0_0), .val (.int (1 : Int32)), .val (.int (1 : Int32)), .val (.ref w_TRUE), .val (.ref w_TRUE)] [(.int (1 : Int32)), (.ref w_FALSE)])) _
        refine XS.ifYes X79.here hx rfl (pc0 := 69) (pc' := 76) rfl (hb hby at_69) rfl ((if0 _ _).trans (feq (by decide : ¬ ((1 : Int32) = (0 : Int32)))).2) (by decide) (by decide) ?_
        show Steps p.tables e below (T79.setTop (mkF m 76 #[.val (.int x0_0), .val (.int (1 : Int32)), .val (.int (1 : Int32)), .val (.ref w_TRUE), .val (.ref w_TRUE)] [(.ref w_FALSE)])) _
        refine XS.iconst X79.here hx rfl (hb hby at_76) ?_
        exact kt
      obtain ⟨v81, _, ⟨T81, L81, k81, n81⟩, -, X81, ⟨Lc81, hQ81, l81, y81, z81⟩, st81⟩ := Jvm.LawKit.callS X79 hx (y := (⟨"com/example/graticule/graticule/filter/TruthValue", "of", "(Z)Lcom/example/graticule/graticule/filter/TruthValue;"⟩ : MethodName)) hown (mvT hZ (hw _ (List.mem_of_getElem? (i := 0) rfl))) (mvT hZ (hw _ (List.mem_of_getElem? (i := 1) rfl))) (mvT hZ (hw _ (List.mem_of_getElem? (i := 2) rfl))) (mvT hZ (hw _ (List.mem_of_getElem? (i := 3) rfl))) (by decide) (backOf (W := 1) (rm1 l Z a0 hw [] (0 : Int32) w_TRUE w_FALSE w_UNKNOWN h0 n0 Z0 (World.ext O0.2 W)) hZ (hw _ (List.mem_of_getElem? (i := 3) rfl)) (hw _ (List.mem_of_getElem? (i := 2) rfl)) (by decide) (by decide)) (g := (mkF m 77 #[.val (.int x0_0), .val (.int (1 : Int32)), .val (.int (1 : Int32)), .val (.ref w_TRUE), .val (.ref w_TRUE)] [(.int (0 : Int32)), (.ref w_FALSE)])) rfl (by rw [hml]; rfl) (argsL := [(.int (0 : Int32))]) (rest := [(.ref w_FALSE)]) (lenOf pd_2 rfl) rfl (by show 2 * 0 + _ ≤ _; exact Nat.le_of_eq rfl) (hb hby at_77) (fun _ _ => ⟨rfl, e79, (by decide : 0 + 0 ≤ _), (by decide : 0 + 0 ≤ _)⟩)
      dsimp only [Pt.U, Pt.locs, Pt.cells, Pt.slots] at X81 l81 y81 z81 st81 hQ81
      subst l81 y81 z81
      obtain ⟨hv81, N81q, e81⟩ := hQ81
      have N81 := Fr.app N79 N81q
      have hf81 : f1 (0 : Int32) w_TRUE w_FALSE w_UNKNOWN = w_FALSE := by unfold f1; rw [if_pos (by decide : ((0 : Int32) = (0 : Int32)))]
      rw [hf81] at hv81
      subst hv81
      have sg84 : ∀ t, Steps p.tables e below (T81.setTop (mkF m 88 #[.val (.int x0_0), .val (.int (1 : Int32)), .val (.int (1 : Int32)), .val (.ref w_TRUE), .val (.ref w_TRUE)] [(.ref w_TRUE), (.ref w_TRUE)])) t → Steps p.tables e below (T79.setTop (mkF m 77 #[.val (.int x0_0), .val (.int (1 : Int32)), .val (.int (1 : Int32)), .val (.ref w_TRUE), .val (.ref w_TRUE)] [(.int (0 : Int32)), (.ref w_FALSE)])) t := fun t kt => by
        show Steps p.tables e below (T79.setTop (mkF m 77 #[.val (.int x0_0), .val (.int (1 : Int32)), .val (.int (1 : Int32)), .val (.ref w_TRUE), .val (.ref w_TRUE)] [(.int (0 : Int32)), (.ref w_FALSE)])) _
        refine st81 _ ?_
        show Steps p.tables e below (T81.setTop (mkF m 80 #[.val (.int x0_0), .val (.int (1 : Int32)), .val (.int (1 : Int32)), .val (.ref w_TRUE), .val (.ref w_TRUE)] [(.ref w_FALSE), (.ref w_FALSE)])) _
        refine Jvm.RoadKit.acmp (g := (mkF m 80 #[.val (.int x0_0), .val (.int (1 : Int32)), .val (.int (1 : Int32)), .val (.ref w_TRUE), .val (.ref w_TRUE)] [(.ref w_FALSE), (.ref w_FALSE)])) X81 hx rfl rfl rfl (pc0 := 80) (pc' := 85) (same := true) rfl (hb hby at_80) rfl (decide_eq_true (congrArg Value.ref (rfl : w_FALSE = w_FALSE))) (by decide) (by decide) ?_
        show Steps p.tables e below (T81.setTop (mkF m 85 #[.val (.int x0_0), .val (.int (1 : Int32)), .val (.int (1 : Int32)), .val (.ref w_TRUE), .val (.ref w_TRUE)] [])) _
        refine XS.aloadN X81.here hx rfl (hb hby at_85) rfl rfl ?_
        show Steps p.tables e below (T81.setTop (mkF m 86 #[.val (.int x0_0), .val (.int (1 : Int32)), .val (.int (1 : Int32)), .val (.ref w_TRUE), .val (.ref w_TRUE)] [(.ref w_TRUE)])) _
        refine XS.aload X81.here hx rfl (hb hby at_86) rfl rfl ?_
        exact kt
      obtain ⟨cq83, kq83, q83a, q83b, q83c⟩ := isOf hZ e81 ((World.ext O0.2 W).2.2.2.1)
      obtain ⟨v83, _, ⟨T83, L83, k83, n83⟩, -, X83, hSq83, hgq83, ⟨Lc83, hQ83, l83, y83, z83⟩, st83⟩ := X81.virtualBackS hx (y := (⟨"com/example/graticule/graticule/filter/TruthValue", "and", "(Lcom/example/graticule/graticule/filter/TruthValue;)Lcom/example/graticule/graticule/filter/TruthValue;"⟩ : MethodName)) (z := (⟨"com/example/graticule/graticule/filter/TruthValue", "and", "(Lcom/example/graticule/graticule/filter/TruthValue;)Lcom/example/graticule/graticule/filter/TruthValue;"⟩ : MethodName)) hown (mvT hZ (hw _ (List.mem_of_getElem? (i := 25) rfl))) (mvT hZ (hw _ (List.mem_of_getElem? (i := 26) rfl))) (notFace_of_selects (args := #[]) (mvT hZ (hw _ (List.mem_of_getElem? (i := 28) rfl)))) (mvT hZ (hw _ (List.mem_of_getElem? (i := 28) rfl))) (mvT hZ (hw _ (List.mem_of_getElem? (i := 27) rfl))) (by decide) (backOfS (W := 0) (rm4 l Z a0 hw [] w_TRUE w_TRUE w_TRUE w_FALSE w_UNKNOWN h0 n0 Z0 (World.ext O0.2 W)) hZ (hw _ (List.mem_of_getElem? (i := 29) rfl)) (hw _ (List.mem_of_getElem? (i := 2) rfl)) (by decide) (by decide)) q83a q83c (g := (mkF m 88 #[.val (.int x0_0), .val (.int (1 : Int32)), .val (.int (1 : Int32)), .val (.ref w_TRUE), .val (.ref w_TRUE)] [(.ref w_TRUE), (.ref w_TRUE)])) rfl (by rw [hml]; rfl) (Steps.refl _) (argsL := [(.ref w_TRUE)]) (rest := []) (lenOf pd_4 rfl) rfl (by show 2 * 0 + _ ≤ _; exact Nat.le_of_eq rfl) (hb hby at_88) (fun _ _ => ⟨rfl, e81, (by decide : 0 + 2 ≤ _), (by decide : 0 + 24 ≤ _)⟩)
      dsimp only [Pt.U, Pt.locs, Pt.cells, Pt.slots] at X83 l83 y83 z83 st83 hQ83 hSq83 hgq83
      subst l83 y83 z83
      obtain ⟨Xr83, hS83, hZ, hown⟩ := rebS (s := s) (vm0 := s.vm) hS0 (by rw [e81]; exact hk0) X83 hSq83 hgq83 hZ hown
      have hk83 : T83.heap.size ≤ T83.heap.size := Nat.le_refl _
      obtain ⟨hv83, N83q, K83⟩ := hQ83
      have N83 := Fr.app N81 N83q
      have Zs83 : n0 ≤ T83.heap.size := Nat.le_trans Z0 K83.1
      have Ol83 : Old Z n0 T83.heap := (O0).keep K83 all0
      have hf83 : f4 w_TRUE w_TRUE w_TRUE w_FALSE w_UNKNOWN = w_TRUE := by unfold f4; rw [if_neg (Fld.ne ((World.ext Ol83.2 W).2.2.2.2.2.2.1) ((World.ext Ol83.2 W).2.2.2.2.2.2.2.1) (by decide) : ¬ (w_TRUE = w_FALSE)), if_neg (Fld.ne ((World.ext Ol83.2 W).2.2.2.2.2.2.1) ((World.ext Ol83.2 W).2.2.2.2.2.2.2.1) (by decide) : ¬ (w_TRUE = w_FALSE)), if_neg (Fld.ne ((World.ext Ol83.2 W).2.2.2.2.2.2.1) ((World.ext Ol83.2 W).2.2.2.2.2.2.2.2) (by decide) : ¬ (w_TRUE = w_UNKNOWN)), if_neg (Fld.ne ((World.ext Ol83.2 W).2.2.2.2.2.2.1) ((World.ext Ol83.2 W).2.2.2.2.2.2.2.2) (by decide) : ¬ (w_TRUE = w_UNKNOWN))]
      rw [hf83] at hv83
      subst hv83
      have sg86 : ∀ t, Steps p.tables e below (T83.setTop (mkF m 104 #[.val (.int x0_0), .val (.int (1 : Int32)), .val (.int (1 : Int32)), .val (.ref w_TRUE), .val (.ref w_TRUE)] [(.int (1 : Int32)), (.ref w_TRUE)])) t → Steps p.tables e below (T81.setTop (mkF m 88 #[.val (.int x0_0), .val (.int (1 : Int32)), .val (.int (1 : Int32)), .val (.ref w_TRUE), .val (.ref w_TRUE)] [(.ref w_TRUE), (.ref w_TRUE)])) t := fun t kt => by
        show Steps p.tables e below (T81.setTop (mkF m 88 #[.val (.int x0_0), .val (.int (1 : Int32)), .val (.int (1 : Int32)), .val (.ref w_TRUE), .val (.ref w_TRUE)] [(.ref w_TRUE), (.ref w_TRUE)])) _
        refine st83.trans ?_
        show Steps p.tables e below (T83.setTop (mkF m 91 #[.val (.int x0_0), .val (.int (1 : Int32)), .val (.int (1 : Int32)), .val (.ref w_TRUE), .val (.ref w_TRUE)] [(.ref w_TRUE)])) _
        refine XS.iloadN Xr83.here hx rfl (hb hby at_91) rfl ?_
        show Steps p.tables e below (T83.setTop (mkF m 92 #[.val (.int x0_0), .val (.int (1 : Int32)), .val (.int (1 : Int32)), .val (.ref w_TRUE), .val (.ref w_TRUE)] [(.int (1 : Int32)), (.ref w_TRUE)])) _
        refine XS.ifNo Xr83.here hx rfl (hb hby at_92) rfl ((if0 _ _).trans (feq (by decide : ¬ ((1 : Int32) = (0 : Int32)))).1) ?_
        show Steps p.tables e below (T83.setTop (mkF m 95 #[.val (.int x0_0), .val (.int (1 : Int32)), .val (.int (1 : Int32)), .val (.ref w_TRUE), .val (.ref w_TRUE)] [(.ref w_TRUE)])) _
        refine XS.iloadN Xr83.here hx rfl (hb hby at_95) rfl ?_
        show Steps p.tables e below (T83.setTop (mkF m 96 #[.val (.int x0_0), .val (.int (1 : Int32)), .val (.int (1 : Int32)), .val (.ref w_TRUE), .val (.ref w_TRUE)] [(.int (1 : Int32)), (.ref w_TRUE)])) _
        refine XS.ifNo Xr83.here hx rfl (hb hby at_96) rfl ((if0 _ _).trans (feq (by decide : ¬ ((1 : Int32) = (0 : Int32)))).1) ?_
        show Steps p.tables e below (T83.setTop (mkF m 99 #[.val (.int x0_0), .val (.int (1 : Int32)), .val (.int (1 : Int32)), .val (.ref w_TRUE), .val (.ref w_TRUE)] [(.ref w_TRUE)])) _
        refine XS.iconst Xr83.here hx rfl (hb hby at_99) ?_
        show Steps p.tables e below (T83.setTop (mkF m 100 #[.val (.int x0_0), .val (.int (1 : Int32)), .val (.int (1 : Int32)), .val (.ref w_TRUE), .val (.ref w_TRUE)] [(.int (1 : Int32)), (.ref w_TRUE)])) _
        refine XS.goto Xr83.here hx rfl (pc0 := 100) (pc' := 104) rfl (hb hby at_100) (by decide) (by decide) ?_
        exact kt
      obtain ⟨v85, _, ⟨T85, L85, k85, n85⟩, -, X85, ⟨Lc85, hQ85, l85, y85, z85⟩, st85⟩ := Jvm.LawKit.callS Xr83 hx (y := (⟨"com/example/graticule/graticule/filter/TruthValue", "of", "(Z)Lcom/example/graticule/graticule/filter/TruthValue;"⟩ : MethodName)) hown (mvT hZ (hw _ (List.mem_of_getElem? (i := 0) rfl))) (mvT hZ (hw _ (List.mem_of_getElem? (i := 1) rfl))) (mvT hZ (hw _ (List.mem_of_getElem? (i := 2) rfl))) (mvT hZ (hw _ (List.mem_of_getElem? (i := 3) rfl))) (by decide) (backOf (W := 1) (rm1 l Z a0 hw [] (1 : Int32) w_TRUE w_FALSE w_UNKNOWN T83.heap n0 Zs83 (World.ext Ol83.2 W)) hZ (hw _ (List.mem_of_getElem? (i := 3) rfl)) (hw _ (List.mem_of_getElem? (i := 2) rfl)) (by decide) (by decide)) (g := (mkF m 104 #[.val (.int x0_0), .val (.int (1 : Int32)), .val (.int (1 : Int32)), .val (.ref w_TRUE), .val (.ref w_TRUE)] [(.int (1 : Int32)), (.ref w_TRUE)])) rfl (by rw [hml]; rfl) (argsL := [(.int (1 : Int32))]) (rest := [(.ref w_TRUE)]) (lenOf pd_2 rfl) rfl (by show 2 * 0 + _ ≤ _; exact Nat.le_of_eq rfl) (hb hby at_104) (fun _ _ => ⟨rfl, rfl, (by decide : 2 + 0 ≤ _), (by decide : 24 + 0 ≤ _)⟩)
      dsimp only [Pt.U, Pt.locs, Pt.cells, Pt.slots] at X85 l85 y85 z85 st85 hQ85
      subst l85 y85 z85
      obtain ⟨hv85, N85q, e85⟩ := hQ85
      have N85 := Fr.app N83 N85q
      have hf85 : f1 (1 : Int32) w_TRUE w_FALSE w_UNKNOWN = w_TRUE := by unfold f1; rw [if_neg (by decide : ¬ ((1 : Int32) = (0 : Int32)))]
      rw [hf85] at hv85
      subst hv85
      have sg88 : ∀ t, Steps p.tables e below (T85.setTop (mkF m 115 #[.val (.int x0_0), .val (.int (1 : Int32)), .val (.int (1 : Int32)), .val (.ref w_TRUE), .val (.ref w_TRUE)] [(.ref w_TRUE), (.ref w_TRUE)])) t → Steps p.tables e below (T83.setTop (mkF m 104 #[.val (.int x0_0), .val (.int (1 : Int32)), .val (.int (1 : Int32)), .val (.ref w_TRUE), .val (.ref w_TRUE)] [(.int (1 : Int32)), (.ref w_TRUE)])) t := fun t kt => by
        show Steps p.tables e below (T83.setTop (mkF m 104 #[.val (.int x0_0), .val (.int (1 : Int32)), .val (.int (1 : Int32)), .val (.ref w_TRUE), .val (.ref w_TRUE)] [(.int (1 : Int32)), (.ref w_TRUE)])) _
        refine st85 _ ?_
        show Steps p.tables e below (T85.setTop (mkF m 107 #[.val (.int x0_0), .val (.int (1 : Int32)), .val (.int (1 : Int32)), .val (.ref w_TRUE), .val (.ref w_TRUE)] [(.ref w_TRUE), (.ref w_TRUE)])) _
        refine Jvm.RoadKit.acmp (g := (mkF m 107 #[.val (.int x0_0), .val (.int (1 : Int32)), .val (.int (1 : Int32)), .val (.ref w_TRUE), .val (.ref w_TRUE)] [(.ref w_TRUE), (.ref w_TRUE)])) X85 hx rfl rfl rfl (pc0 := 107) (pc' := 112) (same := true) rfl (hb hby at_107) rfl (decide_eq_true (congrArg Value.ref (rfl : w_TRUE = w_TRUE))) (by decide) (by decide) ?_
        show Steps p.tables e below (T85.setTop (mkF m 112 #[.val (.int x0_0), .val (.int (1 : Int32)), .val (.int (1 : Int32)), .val (.ref w_TRUE), .val (.ref w_TRUE)] [])) _
        refine XS.aloadN X85.here hx rfl (hb hby at_112) rfl rfl ?_
        show Steps p.tables e below (T85.setTop (mkF m 113 #[.val (.int x0_0), .val (.int (1 : Int32)), .val (.int (1 : Int32)), .val (.ref w_TRUE), .val (.ref w_TRUE)] [(.ref w_TRUE)])) _
        refine XS.aload X85.here hx rfl (hb hby at_113) rfl rfl ?_
        exact kt
      obtain ⟨cq87, kq87, q87a, q87b, q87c⟩ := isOf hZ e85 ((World.ext Ol83.2 W).2.2.2.1)
      obtain ⟨v87, _, ⟨T87, L87, k87, n87⟩, -, X87, hSq87, hgq87, ⟨Lc87, hQ87, l87, y87, z87⟩, st87⟩ := X85.virtualBackS hx (y := (⟨"com/example/graticule/graticule/filter/TruthValue", "or", "(Lcom/example/graticule/graticule/filter/TruthValue;)Lcom/example/graticule/graticule/filter/TruthValue;"⟩ : MethodName)) (z := (⟨"com/example/graticule/graticule/filter/TruthValue", "or", "(Lcom/example/graticule/graticule/filter/TruthValue;)Lcom/example/graticule/graticule/filter/TruthValue;"⟩ : MethodName)) hown (mvT hZ (hw _ (List.mem_of_getElem? (i := 42) rfl))) (mvT hZ (hw _ (List.mem_of_getElem? (i := 43) rfl))) (notFace_of_selects (args := #[]) (mvT hZ (hw _ (List.mem_of_getElem? (i := 45) rfl)))) (mvT hZ (hw _ (List.mem_of_getElem? (i := 45) rfl))) (mvT hZ (hw _ (List.mem_of_getElem? (i := 44) rfl))) (by decide) (backOfS (W := 0) (rm6 l Z a0 hw [] w_TRUE w_TRUE w_TRUE w_FALSE w_UNKNOWN T83.heap n0 Zs83 (World.ext Ol83.2 W)) hZ (hw _ (List.mem_of_getElem? (i := 46) rfl)) (hw _ (List.mem_of_getElem? (i := 2) rfl)) (by decide) (by decide)) q87a q87c (g := (mkF m 115 #[.val (.int x0_0), .val (.int (1 : Int32)), .val (.int (1 : Int32)), .val (.ref w_TRUE), .val (.ref w_TRUE)] [(.ref w_TRUE), (.ref w_TRUE)])) rfl (by rw [hml]; rfl) (Steps.refl _) (argsL := [(.ref w_TRUE)]) (rest := []) (lenOf pd_4 rfl) rfl (by show 2 * 0 + _ ≤ _; exact Nat.le_of_eq rfl) (hb hby at_115) (fun _ _ => ⟨rfl, e85, (by decide : 2 + 2 ≤ _), (by decide : 24 + 24 ≤ _)⟩)
      dsimp only [Pt.U, Pt.locs, Pt.cells, Pt.slots] at X87 l87 y87 z87 st87 hQ87 hSq87 hgq87
      subst l87 y87 z87
      obtain ⟨Xr87, hS87, hZ, hown⟩ := rebS (s := s) (vm0 := T83.vm) hS83 (by rw [e85]; exact hk83) X87 hSq87 hgq87 hZ hown
      have hk87 : T87.heap.size ≤ T87.heap.size := Nat.le_refl _
      obtain ⟨hv87, N87q, K87⟩ := hQ87
      have N87 := Fr.app N85 N87q
      have Zs87 : n0 ≤ T87.heap.size := Nat.le_trans Zs83 K87.1
      have Ol87 : Old Z n0 T87.heap := (Ol83).keep K87 all0
      have hf87 : f6 w_TRUE w_TRUE w_TRUE w_FALSE w_UNKNOWN = w_TRUE := by unfold f6; rw [if_pos (rfl : w_TRUE = w_TRUE)]
      rw [hf87] at hv87
      subst hv87
      have sg90 : ∀ t, Steps p.tables e below (T87.setTop (mkF m 131 #[.val (.int x0_0), .val (.int (1 : Int32)), .val (.int (1 : Int32)), .val (.ref w_TRUE), .val (.ref w_TRUE)] [(.int (1 : Int32)), (.ref w_TRUE)])) t → Steps p.tables e below (T85.setTop (mkF m 115 #[.val (.int x0_0), .val (.int (1 : Int32)), .val (.int (1 : Int32)), .val (.ref w_TRUE), .val (.ref w_TRUE)] [(.ref w_TRUE), (.ref w_TRUE)])) t := fun t kt => by
        show Steps p.tables e below (T85.setTop (mkF m 115 #[.val (.int x0_0), .val (.int (1 : Int32)), .val (.int (1 : Int32)), .val (.ref w_TRUE), .val (.ref w_TRUE)] [(.ref w_TRUE), (.ref w_TRUE)])) _
        refine st87.trans ?_
        show Steps p.tables e below (T87.setTop (mkF m 118 #[.val (.int x0_0), .val (.int (1 : Int32)), .val (.int (1 : Int32)), .val (.ref w_TRUE), .val (.ref w_TRUE)] [(.ref w_TRUE)])) _
        refine XS.iloadN Xr87.here hx rfl (hb hby at_118) rfl ?_
        show Steps p.tables e below (T87.setTop (mkF m 119 #[.val (.int x0_0), .val (.int (1 : Int32)), .val (.int (1 : Int32)), .val (.ref w_TRUE), .val (.ref w_TRUE)] [(.int (1 : Int32)), (.ref w_TRUE)])) _
        refine XS.ifYes Xr87.here hx rfl (pc0 := 119) (pc' := 126) rfl (hb hby at_119) rfl ((if0 _ _).trans (feq (by decide : ¬ ((1 : Int32) = (0 : Int32)))).2) (by decide) (by decide) ?_
        show Steps p.tables e below (T87.setTop (mkF m 126 #[.val (.int x0_0), .val (.int (1 : Int32)), .val (.int (1 : Int32)), .val (.ref w_TRUE), .val (.ref w_TRUE)] [(.ref w_TRUE)])) _
        refine XS.iconst Xr87.here hx rfl (hb hby at_126) ?_
        show Steps p.tables e below (T87.setTop (mkF m 127 #[.val (.int x0_0), .val (.int (1 : Int32)), .val (.int (1 : Int32)), .val (.ref w_TRUE), .val (.ref w_TRUE)] [(.int (1 : Int32)), (.ref w_TRUE)])) _
        refine XS.goto Xr87.here hx rfl (pc0 := 127) (pc' := 131) rfl (hb hby at_127) (by decide) (by decide) ?_
        exact kt
      obtain ⟨v89, _, ⟨T89, L89, k89, n89⟩, -, X89, ⟨Lc89, hQ89, l89, y89, z89⟩, st89⟩ := Jvm.LawKit.callS Xr87 hx (y := (⟨"com/example/graticule/graticule/filter/TruthValue", "of", "(Z)Lcom/example/graticule/graticule/filter/TruthValue;"⟩ : MethodName)) hown (mvT hZ (hw _ (List.mem_of_getElem? (i := 0) rfl))) (mvT hZ (hw _ (List.mem_of_getElem? (i := 1) rfl))) (mvT hZ (hw _ (List.mem_of_getElem? (i := 2) rfl))) (mvT hZ (hw _ (List.mem_of_getElem? (i := 3) rfl))) (by decide) (backOf (W := 1) (rm1 l Z a0 hw [] (1 : Int32) w_TRUE w_FALSE w_UNKNOWN T87.heap n0 Zs87 (World.ext Ol87.2 W)) hZ (hw _ (List.mem_of_getElem? (i := 3) rfl)) (hw _ (List.mem_of_getElem? (i := 2) rfl)) (by decide) (by decide)) (g := (mkF m 131 #[.val (.int x0_0), .val (.int (1 : Int32)), .val (.int (1 : Int32)), .val (.ref w_TRUE), .val (.ref w_TRUE)] [(.int (1 : Int32)), (.ref w_TRUE)])) rfl (by rw [hml]; rfl) (argsL := [(.int (1 : Int32))]) (rest := [(.ref w_TRUE)]) (lenOf pd_2 rfl) rfl (by show 2 * 0 + _ ≤ _; exact Nat.le_of_eq rfl) (hb hby at_131) (fun _ _ => ⟨rfl, rfl, (by decide : 4 + 0 ≤ _), (by decide : 48 + 0 ≤ _)⟩)
      dsimp only [Pt.U, Pt.locs, Pt.cells, Pt.slots] at X89 l89 y89 z89 st89 hQ89
      subst l89 y89 z89
      obtain ⟨hv89, N89q, e89⟩ := hQ89
      have N89 := Fr.app N87 N89q
      have hf89 : f1 (1 : Int32) w_TRUE w_FALSE w_UNKNOWN = w_TRUE := by unfold f1; rw [if_neg (by decide : ¬ ((1 : Int32) = (0 : Int32)))]
      rw [hf89] at hv89
      subst hv89
      obtain ⟨fs, hr, hrun, hended, hRW⟩ := Stand.leaveW (s := s) (vm₁ := T87.vm) X89 hS87 (by rw [e89]; exact hk87) (v := some (.int (1 : Int32))) (fun h => by rw [Bd.returns] at h; cases h)
      refine ⟨_, _, pre0 _ (sg1 _ (sg47 _ (sg71 _ (sg73 _ (sg77 _ (sg80 _ (sg82 _ (sg84 _ (sg86 _ (sg88 _ (sg90 _ ?_))))))))))), hrun, hended, _, _, rfl, ?_, hRW.1, hRW.2.1, hRW.2.2.1, hRW.2.2.2.mono (by decide) (by decide)⟩
      · show Steps p.tables e below (T87.setTop (mkF m 131 #[.val (.int x0_0), .val (.int (1 : Int32)), .val (.int (1 : Int32)), .val (.ref w_TRUE), .val (.ref w_TRUE)] [(.int (1 : Int32)), (.ref w_TRUE)])) _
        refine st89 _ ?_
        show Steps p.tables e below (T89.setTop (mkF m 134 #[.val (.int x0_0), .val (.int (1 : Int32)), .val (.int (1 : Int32)), .val (.ref w_TRUE), .val (.ref w_TRUE)] [(.ref w_TRUE), (.ref w_TRUE)])) _
        refine Jvm.RoadKit.acmp (g := (mkF m 134 #[.val (.int x0_0), .val (.int (1 : Int32)), .val (.int (1 : Int32)), .val (.ref w_TRUE), .val (.ref w_TRUE)] [(.ref w_TRUE), (.ref w_TRUE)])) X89 hx rfl rfl rfl (pc0 := 134) (pc' := 137) (same := true) rfl (hb hby at_134) rfl (decide_eq_true (congrArg Value.ref (rfl : w_TRUE = w_TRUE))) (by decide) (by decide) ?_
        show Steps p.tables e below (T89.setTop (mkF m 137 #[.val (.int x0_0), .val (.int (1 : Int32)), .val (.int (1 : Int32)), .val (.ref w_TRUE), .val (.ref w_TRUE)] [])) _
        refine XS.iconst X89.here hx rfl (hb hby at_137) ?_
        show Steps p.tables e below (T89.setTop (mkF m 138 #[.val (.int x0_0), .val (.int (1 : Int32)), .val (.int (1 : Int32)), .val (.ref w_TRUE), .val (.ref w_TRUE)] [(.int (1 : Int32))])) _
        refine XS.goto X89.here hx rfl (pc0 := 138) (pc' := 142) rfl (hb hby at_138) (by decide) (by decide) ?_
        show Steps p.tables e below (T89.setTop (mkF m 142 #[.val (.int x0_0), .val (.int (1 : Int32)), .val (.int (1 : Int32)), .val (.ref w_TRUE), .val (.ref w_TRUE)] [(.int (1 : Int32))])) _
        exact retN X89 hx (t := .boolean) Bd.returns (by simp) (hb hby at_142) hr
      · show Q0 Z x0_0 w_TRUE w_FALSE w_UNKNOWN h0 n0 _ T89.heap _
        rw [e89]
        exact ⟨rfl, N89⟩
set_option maxRecDepth 65536 in
set_option maxHeartbeats 40000000 in
theorem comes_1 {Post : Tables → Env → Array Value → State → Outcome → State → Prop} (hpost : ∀ tb e args s v u, (limb_1_1.after args s (.returned v) u = true ∧ limb_1_2.after args s (.returned v) u = true ∧ True) → ReturnedEndW s (.returned v) u (Jvm.fieldLocs frame_1_writes args s ++ Jvm.arrayLocs frame_1_arrays args s ++ Jvm.staticLocs frame_1_statics s) 8 1088 → Post tb e args s (.returned v) u) :
    ArmFor flags0 classFile x code maxLocals ret World_1 tables_1 room_1 Calls_1 rest_1 Pre_1 Post := by
  intro l hfl _ _ p e ha hc hk s m args below hf hA hF happ hP
  obtain ⟨hcalls, hrest, hpre⟩ := hP
  obtain ⟨-, -, -, hnamed, -, -, -, hat⟩ := (Spec.applies_iff hf).mp happ
  obtain ⟨hg, hn⟩ := and_e (Cond.before_iff.mp (show (Jvm.Cond.and given_1 narrow_1).before args s = true from hpre))
  obtain ⟨g1, g2⟩ := and_e hg
  obtain ⟨w0, rfl⟩ : ∃ w0 : Value, args = #[w0] := by
    have hs : args.size = 1 := by simpa [Cond.value, given_1] using g1
    obtain ⟨L⟩ := args
    match L, hs with
    | [w0], _ => exact ⟨w0, rfl⟩
  have hw := fun d (hd : d ∈ tables_1) => atoms_spec (ws := Jvm.Cond.code x code maxLocals ret :: tables_1) hat d (List.mem_cons_of_mem _ hd)
  have hfit : Fit s := fun {y c} hc i hi => by
    obtain ⟨ha, rfl⟩ := Array.getElem?_eq_some_iff.mp hc
    have q := List.all_eq_true.mp ((Array.all_eq_true_iff_forall_mem.mp hF) _ (Array.getElem_mem ha)) i (List.mem_range.mpr hi)
    simpa [Array.getElem?_eq_getElem hi] using q
  obtain ⟨i0, ei0⟩ := is_v g2
  obtain rfl : w0 = (.int i0) := Option.some.inj ei0
  obtain ⟨m1, m2⟩ := and_e hn
  obtain ⟨m3, m4⟩ := and_e m2
  obtain ⟨m5, m6⟩ := and_e m4
  obtain ⟨m7, m8⟩ := and_e m6
  obtain ⟨m9, m10⟩ := and_e m8
  obtain ⟨w_TRUE, evw_TRUE⟩ := exa_v m9
  obtain ⟨w_FALSE, evw_FALSE⟩ := exa_v m1
  obtain ⟨w_UNKNOWN, evw_UNKNOWN⟩ := exa_v m3
  have WW : World s s.heap w_TRUE w_FALSE w_UNKNOWN := ⟨Sta.start evw_TRUE (Or.inr ⟨(hw _ (List.mem_of_getElem? (i := 2) rfl)), (hw _ (List.mem_of_getElem? (i := 9) rfl))⟩), Sta.start evw_FALSE (Or.inr ⟨(hw _ (List.mem_of_getElem? (i := 2) rfl)), (hw _ (List.mem_of_getElem? (i := 5) rfl))⟩), Sta.start evw_UNKNOWN (Or.inr ⟨(hw _ (List.mem_of_getElem? (i := 2) rfl)), (hw _ (List.mem_of_getElem? (i := 7) rfl))⟩), Exa.start evw_TRUE m9, Exa.start evw_FALSE m1, Exa.start evw_UNKNOWN m3, Fld.start ((fld_at evw_TRUE).symm.trans (own_eqI m10)), Fld.start ((fld_at evw_FALSE).symm.trans (own_eqI m5)), Fld.start ((fld_at evw_UNKNOWN).symm.trans (own_eqI m7))⟩
  obtain ⟨n, o, h1, h2, h3, _, L, rfl, ⟨rfl, N⟩, hq⟩ := rm0 l s _ hw tables_1 i0 w_TRUE w_FALSE w_UNKNOWN s.heap s.heap.size (Nat.le_refl _) WW (Old.start s) p e ha hc hk s m _ below hf ((Spec.applies_iff_loose hf).mp happ).1 ⟨rfl, State.Warmed39.refl s, rfl⟩ trivial
  refine ⟨n, _, h1, h2, h3, hpost _ _ _ _ _ _ ⟨Cond.after_iff.mpr rfl, Cond.after_iff.mpr (eq_i res_at (Term.int_eval (1)) rfl), trivial⟩ ⟨hq.1, hq.2.1, hq.2.2.1, (hq.2.2.2.sift fun y hy => Or.inr (N y hy)).mono (by decide) (by decide)⟩⟩
theorem main_1_1 : Claimed_1_1 := comes_1 fun _ _ _ _ _ _ h hF => ⟨h.1, hF⟩
theorem main_1_2 : Claimed_1_2 := comes_1 fun _ _ _ _ _ _ h hF => ⟨h.2.1, hF⟩
end Jvm.Pilot.@@N@@
namespace Jvm.Pilot.@@N@@
open Jvm Jvm.ClassFile Sem Op Lib Jvm.Free Jvm.Stand Jvm.Pilot.@@N@@.Jvm.D
/-! MADE BY PROGRAM (witnessworld.py) out of the Statement's table words and the real class files: 14 classes; the members and pool entries that the words name. The judged class is class 1, her method 1. -/
namespace start1
open Jvm.ClassFile
def u (s : String) : CpInfo := .utf8 (stringToUtf16 s)
/-- a pool by its gaps: so many unusable entries, then the entry; so many at the end -/
def gap : Nat → List CpInfo → List CpInfo
  | 0, r => r
  | n + 1, r => .unusable :: gap n r
def poolList (es : List (Nat × CpInfo)) (last : Nat) : List CpInfo := es.foldr (fun e r => gap e.1 (e.2 :: r)) (gap last [])
def pool (es : List (Nat × CpInfo)) (last : Nat) : Array CpInfo := ⟨poolList es last⟩
def fileOf (pool : Array CpInfo) (this : Nat) (attrs : Array Attribute := #[]) (ms : Array MethodInfo := #[]) (fl : Nat := 33) (sup : Nat := 0) (ifs : Array Nat := #[]) (fds : Array FieldInfo := #[]) : ClassFile where
  minorVersion := 0
  majorVersion := 65
  constantPool := pool
  accessFlags := fl
  thisClass := this
  superClass := sup
  interfaces := ifs
  fields := fds
  methods := ms
  attributes := attrs
def plain (name : String) (sup : Option ClassId) : Class where
  name := name
  kind := .ordinary
  loader := none
  accessFlags := 33
  super := sup
  interfaces := #[]
  cf := none
  fields := #[]
  methods := #[]
  instanceTypes := #[]
  staticTypes := #[]
  resolved := #[]
  callSites := []
  init := .initialized
  statics := none
  mirror := none

def pool0 : Array CpInfo := pool [(5, u "<init>"), (0, u "()V"), (1, .class_ 10), (1, u "java/lang/Object")] 113

def k0m0 : Method := { name := "<init>", desc := "()V", sig := { parameters := [], returnType := none }, accessFlags := 1, code := none }
/-- java/lang/Object -/
def k0 : Class := { plain "java/lang/Object" none with
  accessFlags := 33
  interfaces := #[]
  cf := some (fileOf pool0 8 #[] #[{ accessFlags := 1, nameIndex := 5, descriptorIndex := 6, attributes := #[] }] 33 0 #[] #[])
  fields := #[]
  methods := #[k0m0]
  instanceTypes := #[]
  staticTypes := #[]
  resolved := Array.replicate 124 none
  statics := none }

def pool1 : Array CpInfo := pool [(2, .class_ 4), (1, u "java/lang/Object"), (0, u "<init>"), (0, u "()V"), (0, .methodref 8 9), (0, .class_ 10), (0, .nameAndType 11 12), (0, u "com/example/graticule/graticule/filter/TruthValue"), (0, u "of"), (0, u "(Z)Lcom/example/graticule/graticule/filter/TruthValue;"), (0, .fieldref 8 14), (0, .nameAndType 15 16), (0, u "UNKNOWN"), (0, u "Lcom/example/graticule/graticule/filter/TruthValue;"), (0, .fieldref 8 18), (0, .nameAndType 19 16), (0, u "TRUE"), (0, .methodref 8 21), (0, .nameAndType 22 23), (0, u "not"), (0, u "()Lcom/example/graticule/graticule/filter/TruthValue;"), (0, .methodref 8 25), (0, .nameAndType 26 27), (0, u "and"), (0, u "(Lcom/example/graticule/graticule/filter/TruthValue;)Lcom/example/graticule/graticule/filter/TruthValue;"), (0, .methodref 8 29), (0, .nameAndType 30 27), (0, u "or"), (0, .class_ 32), (0, u "com/example/graticule/graticule/filter/TruthValueOfPinLaw"), (2, u "law"), (0, u "(I)Z")] 3

def k1m0 : Method := { name := "<init>", desc := "()V", sig := { parameters := [], returnType := none }, accessFlags := 1, code := none }
def k1c1 : Code := { maxStack := 2, maxLocals := 5, code := code, exceptionTable := #[], attributes := #[] }
def k1m1 : Method := { name := "law", desc := "(I)Z", sig := { parameters := [.int], returnType := some .boolean }, accessFlags := 9, code := some k1c1 }
/-- com/example/graticule/graticule/filter/TruthValueOfPinLaw -/
def k1 : Class := { plain "com/example/graticule/graticule/filter/TruthValueOfPinLaw" (some 0) with
  accessFlags := 49
  interfaces := #[]
  cf := some (fileOf pool1 31 #[] #[{ accessFlags := 1, nameIndex := 5, descriptorIndex := 6, attributes := #[] }, { accessFlags := 9, nameIndex := 35, descriptorIndex := 36, attributes := #[] }] 49 2 #[] #[])
  fields := #[]
  methods := #[k1m0, k1m1]
  instanceTypes := #[]
  staticTypes := #[]
  resolved := Array.replicate 40 none
  statics := none }

def pool2 : Array CpInfo := pool [(1, .class_ 2), (0, u "java/lang/constant/Constable"), (0, .class_ 4), (0, u "java/lang/Object")] 6

/-- java/lang/constant/Constable -/
def k2 : Class := { plain "java/lang/constant/Constable" (some 0) with
  accessFlags := 1537
  interfaces := #[]
  cf := some (fileOf pool2 1 #[] #[] 1537 3 #[] #[])
  fields := #[]
  methods := #[]
  instanceTypes := #[]
  staticTypes := #[]
  resolved := Array.replicate 11 none
  statics := none }

def pool3 : Array CpInfo := pool [(1, .class_ 2), (0, u "java/lang/Comparable"), (0, .class_ 4), (0, u "java/lang/Object")] 7

/-- java/lang/Comparable -/
def k3 : Class := { plain "java/lang/Comparable" (some 0) with
  accessFlags := 1537
  interfaces := #[]
  cf := some (fileOf pool3 1 #[] #[] 1537 3 #[] #[])
  fields := #[]
  methods := #[]
  instanceTypes := #[]
  staticTypes := #[]
  resolved := Array.replicate 12 none
  statics := none }

def pool4 : Array CpInfo := pool [(1, .class_ 2), (0, u "java/io/Serializable"), (0, .class_ 4), (0, u "java/lang/Object")] 2

/-- java/io/Serializable -/
def k4 : Class := { plain "java/io/Serializable" (some 0) with
  accessFlags := 1537
  interfaces := #[]
  cf := some (fileOf pool4 1 #[] #[] 1537 3 #[] #[])
  fields := #[]
  methods := #[]
  instanceTypes := #[]
  staticTypes := #[]
  resolved := Array.replicate 7 none
  statics := none }

def pool5 : Array CpInfo := pool [(2, .class_ 4), (1, u "java/lang/Enum"), (0, u "name"), (0, u "Ljava/lang/String;"), (0, .fieldref 2 8), (0, .nameAndType 9 10), (0, u "ordinal"), (0, u "I"), (1, .class_ 14), (1, u "java/lang/Object"), (4, u "hash"), (86, .class_ 108), (1, u "java/lang/Enum$EnumDesc"), (2, .class_ 112), (0, u "java/lang/constant/Constable"), (0, .class_ 114), (0, u "java/lang/Comparable"), (0, .class_ 116), (0, u "java/io/Serializable"), (9, u "()I")] 77

def k5c0 : Code := { maxStack := 1, maxLocals := 1, code := jdk_37_method_2_code, exceptionTable := #[], attributes := #[] }
def k5m0 : Method := { name := "ordinal", desc := "()I", sig := { parameters := [], returnType := some .int }, accessFlags := 17, code := some k5c0 }
/-- java/lang/Enum -/
def k5 : Class := { plain "java/lang/Enum" (some 0) with
  accessFlags := 1057
  interfaces := #[2, 3, 4]
  cf := some (fileOf pool5 2 #[.nestMembers #[106]] #[{ accessFlags := 17, nameIndex := 9, descriptorIndex := 126, attributes := #[] }] 1057 12 #[111, 113, 115] #[{ accessFlags := 18, nameIndex := 5, descriptorIndex := 6, attributes := #[] }, { accessFlags := 18, nameIndex := 9, descriptorIndex := 10, attributes := #[] }, { accessFlags := 2, nameIndex := 19, descriptorIndex := 10, attributes := #[] }])
  fields := #[{ name := "name", type := (.object "java/lang/String"), accessFlags := 18, slot := 0, constantValue := 0 }, { name := "ordinal", type := .int, accessFlags := 18, slot := 1, constantValue := 0 }, { name := "hash", type := .int, accessFlags := 2, slot := 2, constantValue := 0 }]
  methods := #[k5m0]
  instanceTypes := #[(.object "java/lang/String"), .int, .int]
  staticTypes := #[]
  resolved := Array.replicate 204 none
  statics := none }

def pool6 : Array CpInfo := pool [(1, .class_ 2), (0, u "com/example/graticule/graticule/filter/TruthValue"), (0, .fieldref 1 4), (0, .nameAndType 5 6), (0, u "TRUE"), (0, u "Lcom/example/graticule/graticule/filter/TruthValue;"), (0, .fieldref 1 8), (0, .nameAndType 9 6), (0, u "FALSE"), (0, .fieldref 1 11), (0, .nameAndType 12 6), (0, u "UNKNOWN"), (2, u "$VALUES"), (0, u "[Lcom/example/graticule/graticule/filter/TruthValue;"), (6, .class_ 25), (1, u "java/lang/Enum"), (6, .methodref 1 33), (0, .nameAndType 34 35), (0, u "ordinal"), (0, u "()I"), (5, .string 42), (0, u "other"), (0, .methodref 44 45), (0, .class_ 46), (0, .nameAndType 47 48), (0, u "java/util/Objects"), (0, u "requireNonNull"), (0, u "(Ljava/lang/Object;Ljava/lang/String;)Ljava/lang/Object;"), (15, u "of"), (0, u "(Z)Lcom/example/graticule/graticule/filter/TruthValue;"), (1, u "not"), (0, u "()Lcom/example/graticule/graticule/filter/TruthValue;"), (0, u "and"), (0, u "(Lcom/example/graticule/graticule/filter/TruthValue;)Lcom/example/graticule/graticule/filter/TruthValue;"), (0, u "or")] 4

def k6c0 : Code := { maxStack := 1, maxLocals := 1, code := prog_9_method_4_code, exceptionTable := #[], attributes := #[] }
def k6m0 : Method := { name := "of", desc := "(Z)Lcom/example/graticule/graticule/filter/TruthValue;", sig := { parameters := [.boolean], returnType := some (.object "com/example/graticule/graticule/filter/TruthValue") }, accessFlags := 9, code := some k6c0 }
def k6c1 : Code := { maxStack := 4, maxLocals := 1, code := prog_9_method_5_code, exceptionTable := #[], attributes := #[] }
def k6m1 : Method := { name := "not", desc := "()Lcom/example/graticule/graticule/filter/TruthValue;", sig := { parameters := [], returnType := some (.object "com/example/graticule/graticule/filter/TruthValue") }, accessFlags := 1, code := some k6c1 }
def k6c2 : Code := { maxStack := 2, maxLocals := 2, code := prog_9_method_6_code, exceptionTable := #[], attributes := #[] }
def k6m2 : Method := { name := "and", desc := "(Lcom/example/graticule/graticule/filter/TruthValue;)Lcom/example/graticule/graticule/filter/TruthValue;", sig := { parameters := [(.object "com/example/graticule/graticule/filter/TruthValue")], returnType := some (.object "com/example/graticule/graticule/filter/TruthValue") }, accessFlags := 1, code := some k6c2 }
def k6c3 : Code := { maxStack := 2, maxLocals := 2, code := prog_9_method_7_code, exceptionTable := #[], attributes := #[] }
def k6m3 : Method := { name := "or", desc := "(Lcom/example/graticule/graticule/filter/TruthValue;)Lcom/example/graticule/graticule/filter/TruthValue;", sig := { parameters := [(.object "com/example/graticule/graticule/filter/TruthValue")], returnType := some (.object "com/example/graticule/graticule/filter/TruthValue") }, accessFlags := 1, code := some k6c3 }
/-- com/example/graticule/graticule/filter/TruthValue -/
def k6 : Class := { plain "com/example/graticule/graticule/filter/TruthValue" (some 5) with
  accessFlags := 16433
  interfaces := #[]
  cf := some (fileOf pool6 1 #[] #[{ accessFlags := 9, nameIndex := 64, descriptorIndex := 65, attributes := #[] }, { accessFlags := 1, nameIndex := 67, descriptorIndex := 68, attributes := #[] }, { accessFlags := 1, nameIndex := 69, descriptorIndex := 70, attributes := #[] }, { accessFlags := 1, nameIndex := 71, descriptorIndex := 70, attributes := #[] }] 16433 23 #[] #[{ accessFlags := 16409, nameIndex := 5, descriptorIndex := 6, attributes := #[] }, { accessFlags := 16409, nameIndex := 9, descriptorIndex := 6, attributes := #[] }, { accessFlags := 16409, nameIndex := 12, descriptorIndex := 6, attributes := #[] }, { accessFlags := 4122, nameIndex := 15, descriptorIndex := 16, attributes := #[] }])
  fields := #[{ name := "TRUE", type := (.object "com/example/graticule/graticule/filter/TruthValue"), accessFlags := 16409, slot := 0, constantValue := 0 }, { name := "FALSE", type := (.object "com/example/graticule/graticule/filter/TruthValue"), accessFlags := 16409, slot := 1, constantValue := 0 }, { name := "UNKNOWN", type := (.object "com/example/graticule/graticule/filter/TruthValue"), accessFlags := 16409, slot := 2, constantValue := 0 }, { name := "$VALUES", type := (.array (.object "com/example/graticule/graticule/filter/TruthValue")), accessFlags := 4122, slot := 3, constantValue := 0 }]
  methods := #[k6m0, k6m1, k6m2, k6m3]
  instanceTypes := #[(.object "java/lang/String"), .int, .int]
  staticTypes := #[(.object "com/example/graticule/graticule/filter/TruthValue"), (.object "com/example/graticule/graticule/filter/TruthValue"), (.object "com/example/graticule/graticule/filter/TruthValue"), (.array (.object "com/example/graticule/graticule/filter/TruthValue"))]
  resolved := Array.replicate 76 none
  statics := some 0 }

def pool7 : Array CpInfo := pool [(2, .class_ 4), (1, u "java/lang/CharSequence"), (42, .class_ 48), (0, u "java/lang/CharSequence$1CodePointIterator"), (10, .class_ 60), (0, u "java/lang/CharSequence$1CharIterator"), (5, .class_ 67), (0, u "java/lang/Object")] 63

/-- java/lang/CharSequence -/
def k7 : Class := { plain "java/lang/CharSequence" (some 0) with
  accessFlags := 1537
  interfaces := #[]
  cf := some (fileOf pool7 2 #[.nestMembers #[47, 59]] #[] 1537 66 #[] #[])
  fields := #[]
  methods := #[]
  instanceTypes := #[]
  staticTypes := #[]
  resolved := Array.replicate 131 none
  statics := none }

def pool8 : Array CpInfo := pool [(1, .class_ 2), (0, u "java/lang/constant/ConstantDesc"), (0, .class_ 4), (0, u "java/lang/Object")] 32

/-- java/lang/constant/ConstantDesc -/
def k8 : Class := { plain "java/lang/constant/ConstantDesc" (some 0) with
  accessFlags := 1537
  interfaces := #[]
  cf := some (fileOf pool8 1 #[] #[] 1537 3 #[] #[])
  fields := #[]
  methods := #[]
  instanceTypes := #[]
  staticTypes := #[]
  resolved := Array.replicate 37 none
  statics := none }

def pool9 : Array CpInfo := pool [(2, .class_ 4), (1, u "java/lang/Object"), (0, u "<init>"), (0, u "()V"), (3, .class_ 12), (1, u "java/lang/String"), (0, u "value"), (0, u "[B"), (2, u "coder"), (0, u "B"), (2, u "hash"), (0, u "I"), (2, u "hashIsZero"), (0, u "Z"), (13, u "COMPACT_STRINGS"), (534, .class_ 576), (0, u "java/lang/CharSequence"), (22, u "CASE_INSENSITIVE_ORDER"), (0, u "Ljava/util/Comparator;"), (500, u "serialPersistentFields"), (0, u "[Ljava/io/ObjectStreamField;"), (0, .class_ 1104), (0, u "java/lang/String$CaseInsensitiveComparator"), (1, .class_ 1107), (0, u "java/io/Serializable"), (0, .class_ 1109), (0, u "java/lang/Comparable"), (0, .class_ 1111), (0, u "java/lang/constant/Constable"), (0, .class_ 1113), (0, u "java/lang/constant/ConstantDesc"), (2, u "serialVersionUID"), (0, u "J"), (3, u "REPL"), (0, u "C"), (2, u "LATIN1"), (1, u "UTF16")] 323

def k9m0 : Method := { name := "<init>", desc := "()V", sig := { parameters := [], returnType := none }, accessFlags := 1, code := none }
/-- java/lang/String -/
def k9 : Class := { plain "java/lang/String" (some 0) with
  accessFlags := 49
  interfaces := #[4, 3, 7, 2, 8]
  cf := some (fileOf pool9 10 #[.nestMembers #[1103]] #[{ accessFlags := 1, nameIndex := 5, descriptorIndex := 6, attributes := #[] }] 49 2 #[1106, 1108, 575, 1110, 1112] #[{ accessFlags := 18, nameIndex := 13, descriptorIndex := 14, attributes := #[] }, { accessFlags := 18, nameIndex := 17, descriptorIndex := 18, attributes := #[] }, { accessFlags := 2, nameIndex := 21, descriptorIndex := 22, attributes := #[] }, { accessFlags := 2, nameIndex := 25, descriptorIndex := 26, attributes := #[] }, { accessFlags := 26, nameIndex := 1116, descriptorIndex := 1117, attributes := #[] }, { accessFlags := 24, nameIndex := 40, descriptorIndex := 26, attributes := #[] }, { accessFlags := 26, nameIndex := 1101, descriptorIndex := 1102, attributes := #[] }, { accessFlags := 26, nameIndex := 1121, descriptorIndex := 1122, attributes := #[] }, { accessFlags := 25, nameIndex := 599, descriptorIndex := 600, attributes := #[] }, { accessFlags := 24, nameIndex := 1125, descriptorIndex := 18, attributes := #[] }, { accessFlags := 24, nameIndex := 1127, descriptorIndex := 18, attributes := #[] }])
  fields := #[{ name := "value", type := (.array .byte), accessFlags := 18, slot := 0, constantValue := 0 }, { name := "coder", type := .byte, accessFlags := 18, slot := 1, constantValue := 0 }, { name := "hash", type := .int, accessFlags := 2, slot := 2, constantValue := 0 }, { name := "hashIsZero", type := .boolean, accessFlags := 2, slot := 3, constantValue := 0 }, { name := "serialVersionUID", type := .long, accessFlags := 26, slot := 0, constantValue := 0 }, { name := "COMPACT_STRINGS", type := .boolean, accessFlags := 24, slot := 1, constantValue := 0 }, { name := "serialPersistentFields", type := (.array (.object "java/io/ObjectStreamField")), accessFlags := 26, slot := 2, constantValue := 0 }, { name := "REPL", type := .char, accessFlags := 26, slot := 3, constantValue := 0 }, { name := "CASE_INSENSITIVE_ORDER", type := (.object "java/util/Comparator"), accessFlags := 25, slot := 4, constantValue := 0 }, { name := "LATIN1", type := .byte, accessFlags := 24, slot := 5, constantValue := 0 }, { name := "UTF16", type := .byte, accessFlags := 24, slot := 6, constantValue := 0 }]
  methods := #[k9m0]
  instanceTypes := #[(.array .byte), .byte, .int, .boolean]
  staticTypes := #[.long, .boolean, (.array (.object "java/io/ObjectStreamField")), .char, (.object "java/util/Comparator"), .byte, .byte]
  resolved := Array.replicate 1451 none
  statics := none }

def pool10 : Array CpInfo := pool [(2, .class_ 4), (1, u "java/lang/Object"), (0, u "<init>"), (0, u "()V"), (35, .class_ 44), (1, u "java/util/Objects"), (0, u "requireNonNull"), (48, u "(Ljava/lang/Object;Ljava/lang/String;)Ljava/lang/Object;")] 89

def k10m0 : Method := { name := "<init>", desc := "()V", sig := { parameters := [], returnType := none }, accessFlags := 2, code := none }
def k10c1 : Code := { maxStack := 3, maxLocals := 2, code := jdk_31_method_11_code, exceptionTable := #[], attributes := #[] }
def k10m1 : Method := { name := "requireNonNull", desc := "(Ljava/lang/Object;Ljava/lang/String;)Ljava/lang/Object;", sig := { parameters := [(.object "java/lang/Object"), (.object "java/lang/String")], returnType := some (.object "java/lang/Object") }, accessFlags := 9, code := some k10c1 }
/-- java/util/Objects -/
def k10 : Class := { plain "java/util/Objects" (some 0) with
  accessFlags := 49
  interfaces := #[]
  cf := some (fileOf pool10 42 #[] #[{ accessFlags := 2, nameIndex := 5, descriptorIndex := 6, attributes := #[] }, { accessFlags := 9, nameIndex := 45, descriptorIndex := 94, attributes := #[] }] 49 2 #[] #[])
  fields := #[]
  methods := #[k10m0, k10m1]
  instanceTypes := #[]
  staticTypes := #[]
  resolved := Array.replicate 184 none
  statics := none }

def pool11 : Array CpInfo := pool [(1, u "java/lang/Cloneable"), (0, .class_ 1), (0, u "java/lang/Object"), (0, .class_ 3)] 3

/-- java/lang/Cloneable -/
def k11 : Class := { plain "java/lang/Cloneable" (some 0) with
  accessFlags := 1537
  interfaces := #[]
  cf := some (fileOf pool11 2 #[] #[] 1537 4 #[] #[])
  fields := #[]
  methods := #[]
  instanceTypes := #[]
  staticTypes := #[]
  resolved := Array.replicate 8 none
  statics := none }

/-- the primitive byte -/
def k12 : Class := { plain "byte" none with kind := .primitive 'B', accessFlags := 0x411 }
/-- [B -/
def k13 : Class := { plain "[B" (some 0) with kind := .array 12 .byte, interfaces := #[11, 4], accessFlags := 1041 }

def heap : Heap := #[{ cls := 6, slots := #[.ref 1, .ref 2, .ref 3, .null], vm := .statics 6 },
  { cls := 6, slots := #[.null, .int 0, .int 0], vm := .none },
  { cls := 6, slots := #[.null, .int 1, .int 0], vm := .none },
  { cls := 6, slots := #[.null, .int 2, .int 0], vm := .none }]
def classes : Array Class := #[k0, k1, k2, k3, k4, k5, k6, k7, k8, k9, k10, k11, k12, k13]
def interned : List (Array UInt16 × Addr) := []
def slotsUsed : Nat := 13
def theMethod : MethodId := ⟨1, 1⟩
def args0 : Array Value := #[.int 5]
def aboutOver (below : List Frame) : State where
  vm := { classes := classes, interned := interned.toArray }
  heap := heap
  slotsUsed := slotsUsed
  threads := #[{ frames := .invoking theMethod args0 :: below }]
def below0 : List Frame := [.native { method := ⟨0, 0⟩, args := #[] }]
def about1 : State := aboutOver below0
def p0 : Program := .bare "" "" ""
def e0 : Env := launch0.env 0 0 0
theorem w_frames : about1.frames = Frame.invoking theMethod args0 :: below0 := rfl
set_option maxRecDepth 65536 in
theorem w_args : argsFit about1.vm theMethod args0 = true := by decide +kernel
set_option maxRecDepth 65536 in
theorem w_heap : heapFits about1 = true := by decide +kernel
set_option maxRecDepth 65536 in
theorem w_runnable : about1.curStatus? = some .runnable := by decide +kernel
set_option maxRecDepth 65536 in
theorem w_alone : about1.alone = true := by decide +kernel
set_option maxRecDepth 65536 in
theorem w_named : about1.methodNamed? x = some theMethod := by decide +kernel
set_option maxRecDepth 65536 in
theorem w_hears : about1.hears theMethod below0 = true := by decide +kernel
set_option maxRecDepth 65536 in
theorem w_ripe : about1.ripe theMethod args0 below0 = true := by decide +kernel
theorem w_running : about1.status = .running := rfl
set_option maxRecDepth 65536 in
theorem w_room : about1.hasRoom e0.platform room_1 = true :=
  launch0.hasRoom_least _ room_1 (by decide +kernel) (by decide +kernel) (by decide +kernel) (by decide +kernel) (by decide +kernel) (by decide +kernel)
theorem allAtoms_all (ts : List Jvm.Cond) (a : Array Jvm.Value) (st : Jvm.State) : (allAtoms ts).before a st = ts.all (fun c => c.before a st) := by
  induction ts with
  | nil => rfl
  | cons c t ih =>
    show (Jvm.Cond.and c (allAtoms t)).before a st = _
    rw [Jvm.Cond.before_and, ih, List.all_cons]
def words1 : List Jvm.Cond := Jvm.Cond.code x code maxLocals ret :: tables_1
/-- a 'code' word, met by the world's own term for the bytes: nothing is compared byte by byte -/
theorem code_word {y : MethodName} {bytes : ByteArray} {mx : Nat} {rt : Option FieldType} {a : Array Value} {s : State} {m : MethodId} {meth : Method} {c : Code} (h1 : s.methodNamed? y = some m) (h2 : s.vm.method? m = some meth) (h3 : meth.code = some c) (h4 : c.code = bytes)
    (h5 : (c.maxLocals == mx && c.exceptionTable.isEmpty && decide (c.maxStack ≤ mostOperands) && decide (meth.sig.returnType = rt) && !meth.locks && decide (parseMethodDescriptor y.desc = some meth.sig)) = true) : (Jvm.Cond.code y bytes mx rt).before a s = true := by
  simp only [Bool.and_eq_true, beq_iff_eq, Bool.not_eq_true', decide_eq_true_eq] at h5
  obtain ⟨⟨⟨⟨⟨g1, g2⟩, g3⟩, g4⟩, g5⟩, g6⟩ := h5
  simp [Cond.before, Cond.holds, Cond.value, h1, h2, h3, h4, g1, g2, g3, g4, g5, g6]
def isCode : Jvm.Cond → Bool
  | .code _ _ _ _ => true
  | _ => false
theorem all_split {L : List Jvm.Cond} {P : Jvm.Cond → Bool} (h1 : L.all (fun c => isCode c || P c) = true) (h2 : ∀ c ∈ L.filter isCode, P c = true) : L.all P = true := by
  refine List.all_eq_true.mpr fun c hc => ?_
  have h := List.all_eq_true.mp h1 c hc
  rcases Bool.eq_false_or_eq_true (isCode c) with hi | hi
  · exact h2 c (List.mem_filter.mpr ⟨hc, hi⟩)
  · simpa [hi] using h
set_option maxRecDepth 65536 in
theorem w_c0 : (Jvm.Cond.code x code maxLocals ret).before args0 about1 = true := code_word (m := ⟨1, 1⟩) (meth := k1m1) (c := k1c1) (by decide +kernel) rfl rfl rfl (by decide +kernel)
set_option maxRecDepth 65536 in
theorem w_c1 : (Jvm.Cond.code ({ cls := "com/example/graticule/graticule/filter/TruthValue", name := "of", desc := "(Z)Lcom/example/graticule/graticule/filter/TruthValue;" } : Jvm.MethodName) prog_9_method_4_code (1 : Nat) (Option.some (Jvm.ClassFile.FieldType.object "com/example/graticule/graticule/filter/TruthValue"))).before args0 about1 = true := code_word (m := ⟨6, 0⟩) (meth := k6m0) (c := k6c0) (by decide +kernel) rfl rfl rfl (by decide +kernel)
set_option maxRecDepth 65536 in
theorem w_c2 : (Jvm.Cond.code ({ cls := "com/example/graticule/graticule/filter/TruthValue", name := "not", desc := "()Lcom/example/graticule/graticule/filter/TruthValue;" } : Jvm.MethodName) prog_9_method_5_code (1 : Nat) (Option.some (Jvm.ClassFile.FieldType.object "com/example/graticule/graticule/filter/TruthValue"))).before args0 about1 = true := code_word (m := ⟨6, 1⟩) (meth := k6m1) (c := k6c1) (by decide +kernel) rfl rfl rfl (by decide +kernel)
set_option maxRecDepth 65536 in
theorem w_c3 : (Jvm.Cond.code ({ cls := "java/lang/Enum", name := "ordinal", desc := "()I" } : Jvm.MethodName) jdk_37_method_2_code (1 : Nat) (Option.some Jvm.ClassFile.FieldType.int)).before args0 about1 = true := code_word (m := ⟨5, 0⟩) (meth := k5m0) (c := k5c0) (by decide +kernel) rfl rfl rfl (by decide +kernel)
set_option maxRecDepth 65536 in
theorem w_c4 : (Jvm.Cond.code ({ cls := "com/example/graticule/graticule/filter/TruthValue", name := "and", desc := "(Lcom/example/graticule/graticule/filter/TruthValue;)Lcom/example/graticule/graticule/filter/TruthValue;" } : Jvm.MethodName) prog_9_method_6_code (2 : Nat) (Option.some (Jvm.ClassFile.FieldType.object "com/example/graticule/graticule/filter/TruthValue"))).before args0 about1 = true := code_word (m := ⟨6, 2⟩) (meth := k6m2) (c := k6c2) (by decide +kernel) rfl rfl rfl (by decide +kernel)
set_option maxRecDepth 65536 in
theorem w_c5 : (Jvm.Cond.code ({ cls := "java/util/Objects", name := "requireNonNull", desc := "(Ljava/lang/Object;Ljava/lang/String;)Ljava/lang/Object;" } : Jvm.MethodName) jdk_31_method_11_code (2 : Nat) (Option.some (Jvm.ClassFile.FieldType.object "java/lang/Object"))).before args0 about1 = true := code_word (m := ⟨10, 1⟩) (meth := k10m1) (c := k10c1) (by decide +kernel) rfl rfl rfl (by decide +kernel)
set_option maxRecDepth 65536 in
theorem w_c6 : (Jvm.Cond.code ({ cls := "com/example/graticule/graticule/filter/TruthValue", name := "or", desc := "(Lcom/example/graticule/graticule/filter/TruthValue;)Lcom/example/graticule/graticule/filter/TruthValue;" } : Jvm.MethodName) prog_9_method_7_code (2 : Nat) (Option.some (Jvm.ClassFile.FieldType.object "com/example/graticule/graticule/filter/TruthValue"))).before args0 about1 = true := code_word (m := ⟨6, 3⟩) (meth := k6m3) (c := k6c3) (by decide +kernel) rfl rfl rfl (by decide +kernel)
def codes1 : List Jvm.Cond := [Jvm.Cond.code x code maxLocals ret, Jvm.Cond.code ({ cls := "com/example/graticule/graticule/filter/TruthValue", name := "of", desc := "(Z)Lcom/example/graticule/graticule/filter/TruthValue;" } : Jvm.MethodName) prog_9_method_4_code (1 : Nat) (Option.some (Jvm.ClassFile.FieldType.object "com/example/graticule/graticule/filter/TruthValue")), Jvm.Cond.code ({ cls := "com/example/graticule/graticule/filter/TruthValue", name := "not", desc := "()Lcom/example/graticule/graticule/filter/TruthValue;" } : Jvm.MethodName) prog_9_method_5_code (1 : Nat) (Option.some (Jvm.ClassFile.FieldType.object "com/example/graticule/graticule/filter/TruthValue")), Jvm.Cond.code ({ cls := "java/lang/Enum", name := "ordinal", desc := "()I" } : Jvm.MethodName) jdk_37_method_2_code (1 : Nat) (Option.some Jvm.ClassFile.FieldType.int), Jvm.Cond.code ({ cls := "com/example/graticule/graticule/filter/TruthValue", name := "and", desc := "(Lcom/example/graticule/graticule/filter/TruthValue;)Lcom/example/graticule/graticule/filter/TruthValue;" } : Jvm.MethodName) prog_9_method_6_code (2 : Nat) (Option.some (Jvm.ClassFile.FieldType.object "com/example/graticule/graticule/filter/TruthValue")), Jvm.Cond.code ({ cls := "java/util/Objects", name := "requireNonNull", desc := "(Ljava/lang/Object;Ljava/lang/String;)Ljava/lang/Object;" } : Jvm.MethodName) jdk_31_method_11_code (2 : Nat) (Option.some (Jvm.ClassFile.FieldType.object "java/lang/Object")), Jvm.Cond.code ({ cls := "com/example/graticule/graticule/filter/TruthValue", name := "or", desc := "(Lcom/example/graticule/graticule/filter/TruthValue;)Lcom/example/graticule/graticule/filter/TruthValue;" } : Jvm.MethodName) prog_9_method_7_code (2 : Nat) (Option.some (Jvm.ClassFile.FieldType.object "com/example/graticule/graticule/filter/TruthValue"))]
set_option maxRecDepth 65536 in
theorem codes_eq : words1.filter isCode = codes1 := rfl
theorem w_codes : ∀ c ∈ words1.filter isCode, c.before args0 about1 = true := by
  rw [codes_eq]
  intro c hc
  simp only [codes1, List.mem_cons, List.not_mem_nil, or_false] at hc
  rcases hc with rfl | rfl | rfl | rfl | rfl | rfl | rfl
  · exact w_c0
  · exact w_c1
  · exact w_c2
  · exact w_c3
  · exact w_c4
  · exact w_c5
  · exact w_c6
set_option maxRecDepth 65536 in
theorem w_t1 : (words1.take 24).all (fun c => isCode c || c.before args0 about1) = true := by decide +kernel
set_option maxRecDepth 65536 in
theorem w_t2 : ((words1.drop 24).take 24).all (fun c => isCode c || c.before args0 about1) = true := by decide +kernel
set_option maxRecDepth 65536 in
theorem w_t3 : ((words1.drop 24).drop 24).all (fun c => isCode c || c.before args0 about1) = true := by decide +kernel
theorem w_tables : (allAtoms (Jvm.Cond.code x code maxLocals ret :: tables_1)).before args0 about1 = true := by
  rw [allAtoms_all]
  show words1.all (fun c => c.before args0 about1) = true
  refine all_split ?_ w_codes
  rw [← List.take_append_drop 24 words1, List.all_append, w_t1, ← List.take_append_drop 24 (words1.drop 24), List.all_append, w_t2, w_t3]
  rfl
set_option maxRecDepth 65536 in
theorem w_case : (Jvm.Cond.and given_1 narrow_1).before args0 about1 = true := by decide +kernel
theorem w_applies : (headSpec (Jvm.Cond.code x code maxLocals ret :: tables_1) room_1).applies x e0.platform about1 = true :=
  (Spec.applies_iff w_frames).mpr ⟨w_running, w_runnable, w_alone, w_named, w_hears, w_ripe, w_room, w_tables⟩
theorem atStart : AtStart classFile x code maxLocals ret World_1 tables_1 room_1 Calls_1 rest_1 Pre_1 launch0 p0 e0 about1 theMethod args0 below0 :=
  ⟨lists_1, trivial, launch0.admits_env _ _ _, launch0.least_env, fairChoices_fair.cas, fairChoices_fair.clock, w_frames, w_args, w_heap, w_applies, trivial, trivial, w_case⟩
end start1
theorem witness_1 : WitnessClaimed_1 := ⟨start1.p0, start1.e0, start1.about1, start1.theMethod, start1.args0, start1.below0, start1.atStart⟩
end Jvm.Pilot.@@N@@
