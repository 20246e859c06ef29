import JvmDerived
import JvmDerived.Pilot.@@N@@Statement
import JvmDerived.Pilot.@@N@@Code
set_option linter.unusedVariables false
set_option linter.unusedSimpArgs false
@@BLOCK:NumsL.lean.txt@@
@@BLOCK:Masks.lean.txt@@
namespace Jvm.RoadKit
open Sem ClassFile Op Lib Jvm.Stand Jvm.Free Jvm.LawKit
section New
variable {p : Program} {l : Launch} {e : Env} {R : Room} {s : State} {m : MethodId} {args : Array Value} {below : List Frame} {meth : Method} {c : Code} {T : State} {locs : List Loc} {cells slots : Nat}
theorem retI (X : Stand p l e R s m args below meth c T locs cells slots) (hx : p.tables.exec = Jvm.exec) {pc : Nat} {Ls : Array Slot} {z : Int32} {rest : List Value} (hret : meth.sig.returnType = some .int) (hd : decode c.code pc = .ok (.ireturn, 1)) {fs : List Frame}
    (hl : ∀ (f : JFrame) (acts : List Action), f.method = m → f.locked = none → f.entered = [] → (doReturn e (T.setTop f) acts (some (.int z))).1 = T.setFrames fs) : Steps p.tables e below (T.setTop (mkF m pc Ls (.int z :: rest))) (T.setFrames fs) := by
  have hm' : T.vm.method? m = some meth := X.method'
  have hn : narrow .int (.int z) = .int z := rfl
  show Steps p.tables e below (T.setTop { method := m, pc := pc, locals := Ls, stack := _ :: rest, locked := none }) _
  jvm_step X.here [X.here.top, hx, hd, hm', hret, hn]
  first | (intro acts; rw [hl _ acts rfl rfl rfl]) | rw [hl _ _ rfl rfl rfl]
  exact Steps.refl _
end New
end Jvm.RoadKit
namespace Jvm.Pilot.@@N@@
open Jvm Jvm.ClassFile Sem Op Lib Jvm.Free Jvm.Stand Jvm.LawKit Jvm.RoadKit Bundle Jvm.Pilot.@@N@@.Jvm.D
theorem own_lrem (x y : Int64) : x - (x / y) * y = x % y := Int64.toInt_inj.mp (by rw [Jvm.Kit.i64_rem, Int64.toInt_mod])
theorem lremM {p : Program} {l : Launch} {e : Env} {R : Room} {s : State} {m : MethodId} {args : Array Value} {below : List Frame} {meth : Method} {c : Code} {T : State} {locs : List Loc} {cells slots : Nat} {g : JFrame} {target : State} (X : Stand p l e R s m args below meth c T locs cells slots) (hx : p.tables.exec = Jvm.exec) (hg : g.method = m) {x y : Int64} {rest : List Value} (hd : decode c.code g.pc = .ok (.lrem, 1)) (hs : g.stack = .long y :: .long x :: rest) (hy : y ≠ 0)
    (hr : Steps p.tables e below (T.setTop { g with pc := g.pc + 1, stack := .long (x % y) :: rest }) target) : Steps p.tables e below (T.setTop g) target := by
  exact XS.lrem X.here hx hg hd hs hy (by rw [own_lrem]; exact hr)
theorem own_eqI {args : Array Value} {s : State} {t : Jvm.Term} {n : Int32} (h : (Jvm.Cond.eq t (.int n)).value args s none s [] = some true) : t.eval args s none [] s = some (.int n) := by
  obtain ⟨x, y, hx, hy, k1, k2⟩ := cmp_v (Or.inl h)
  obtain rfl : y = .int n := Option.some.inj (hy.symm.trans (Term.int_eval n))
  obtain ⟨z, rfl⟩ := k2
  have q : z = n := by simpa [Jvm.Cond.value, hx, hy] using h
  rw [hx, q]


def World (Z : State) (h : Heap) (w_SOURCE w_TARGET : Addr) : Prop :=
  Sta Z h "com/example/diatom/diatom/model/RefOperator$End" "SOURCE" "Lcom/example/diatom/diatom/model/RefOperator$End;" (.ref w_SOURCE) ∧
  Sta Z h "com/example/diatom/diatom/model/RefOperator$End" "TARGET" "Lcom/example/diatom/diatom/model/RefOperator$End;" (.ref w_TARGET) ∧
  Exa Z h w_SOURCE "com/example/diatom/diatom/model/RefOperator$End" ∧
  Exa Z h w_TARGET "com/example/diatom/diatom/model/RefOperator$End" ∧
  Fld Z h w_SOURCE "java/lang/Enum" "ordinal" "I" (.int (0 : Int32)) ∧
  Fld Z h w_TARGET "java/lang/Enum" "ordinal" "I" (.int (1 : Int32))
theorem World.ext {Z : State} {h h' : Heap} {w_SOURCE w_TARGET : Addr} (E : Ext h h') (W : World Z h w_SOURCE w_TARGET) : World Z h' w_SOURCE w_TARGET :=
  ⟨Sta.ext E W.1, Sta.ext E W.2.1, Exa.ext E W.2.2.1, Exa.ext E W.2.2.2.1, Fld.ext E W.2.2.2.2.1, Fld.ext E W.2.2.2.2.2⟩
theorem d1_0 : decode prog_67_method_4_code 0 = .ok (.aload_n 0, 1) := by decide +kernel
theorem d1_1 : decode prog_67_method_4_code 1 = .ok (.getstatic 3, 3) := by decide +kernel
theorem d1_4 : decode prog_67_method_4_code 4 = .ok (.if_acmp .ne 9, 3) := by decide +kernel
theorem d1_7 : decode prog_67_method_4_code 7 = .ok (.getstatic 7, 3) := by decide +kernel
theorem d1_10 : decode prog_67_method_4_code 10 = .ok (.goto 6, 3) := by decide +kernel
theorem d1_13 : decode prog_67_method_4_code 13 = .ok (.getstatic 3, 3) := by decide +kernel
theorem d1_16 : decode prog_67_method_4_code 16 = .ok (.areturn, 1) := by decide +kernel
theorem pn_0 : plainName "com/example/diatom/diatom/model/RefOperator$End" = true := by first | (simp [plainName, overriddenIn]; done) | decide +kernel
theorem ef_1 (m : MethodId) (x1_0 : Addr) : entryFrame m #[(.ref x1_0)] 1 = mkF m 0 #[.val (.ref x1_0)] [] := by first | (simp [entryFrame, mkF, argsToLocals, Value.category]; done) | rfl
def f1 (x1_0 : Addr) (w_SOURCE w_TARGET : Addr) : Addr := if x1_0 = w_SOURCE then w_TARGET else w_SOURCE
def Q1 (Z : State) (x1_0 : Addr) (w_SOURCE w_TARGET : Addr) (h0 : Heap) (n0 : Nat) (v : Option Value) (h : Heap) (L : List Loc) : Prop := v = some (.ref (f1 x1_0 w_SOURCE w_TARGET)) ∧ Fr n0 L ∧ h = h0
set_option maxRecDepth 65536 in
set_option maxHeartbeats 40000000 in
theorem rm1 (l : Launch) (Z : State) (a0 : Array Value) (hw : ∀ d ∈ tables_1, d.before a0 Z = true) (ws : List Jvm.Cond) (x1_0 : Addr) (w_SOURCE w_TARGET : Addr) (h0 : Heap) (n0 : Nat) (Z0 : n0 ≤ h0.size) (W : World Z h0 w_SOURCE w_TARGET) :
    MetFree l (⟨"com/example/diatom/diatom/model/RefOperator$End", "other", "()Lcom/example/diatom/diatom/model/RefOperator$End;"⟩ : MethodName) (head1 (Jvm.Cond.code (⟨"com/example/diatom/diatom/model/RefOperator$End", "other", "()Lcom/example/diatom/diatom/model/RefOperator$End;"⟩ : MethodName) prog_67_method_4_code 1 (some (.object "com/example/diatom/diatom/model/RefOperator$End")) :: ws) ({ frames := 0, cells := 0, slots := 0, locals := 0 } : Room)) (fun a U => a = #[(.ref x1_0)] ∧ Z.Warmed39 U.vm ∧ U.heap = h0) (fun _ _ _ _ _ => True) (fun _ U o U' => ∃ v L, o = .returned v ∧ Q1 Z x1_0 w_SOURCE w_TARGET h0 n0 v U'.heap L ∧ FrameEnd U o U' L ({ frames := 0, cells := 0, slots := 0, locals := 0 } : Room).cells ({ frames := 0, cells := 0, slots := 0, locals := 0 } : Room).slots) := by
  refine MetFree.of_bodySF (plainFor_of_name pn_0) hisR ?_
  intro p e s m args below meth c s₁ Bd hml0 hP hK
  obtain ⟨rfl, hZ, hh⟩ := hP
  have hx := Bd.exec
  have hby := Bd.bytes
  have hml : c.maxLocals = 1 := hml0
  have hown : s.vm.findClass "com/example/diatom/diatom/model/RefOperator$End" = some m.cls := findClass_of_methodNamed Bd.named
  have hnm := (name_of_methodNamed Bd.named Bd.method).1
  have X0 : Stand p l e ({ frames := 0, cells := 0, slots := 0, locals := 0 } : Room) s m #[(.ref x1_0)] below meth c s₁ [] 0 0 := Stand.of_body Bd
  have e0 : s₁.heap = h0 := by rw [← hh, Bd.state]; rfl
  have N0 := Fr.nil n0
  have pre0 : ∀ t, Steps p.tables e below (s₁.setTop (mkF m 0 #[.val (.ref x1_0)] [])) t → Steps p.tables e below (s₁.setTop (entryFrame m #[(.ref x1_0)] 1)) t := fun t k => castTop (ef_1 m x1_0) k
  obtain ⟨T1, X1, e1, st1⟩ := getS2 X0 hx hZ hown (host := "") (Or.inl (hw _ (List.mem_of_getElem? (i := 10) rfl))) Via.refl e0 (W.1) (g := (mkF m 1 #[.val (.ref x1_0)] [(.ref x1_0)])) rfl (hb hby d1_1)
  have sg2 : ∀ t, Steps p.tables e below (T1.setTop (mkF m 4 #[.val (.ref x1_0)] [(.ref w_SOURCE), (.ref x1_0)])) t → Steps p.tables e below (s₁.setTop (mkF m 0 #[.val (.ref x1_0)] [])) t := fun t kt => by
    show Steps p.tables e below (s₁.setTop (mkF m 0 #[.val (.ref x1_0)] [])) _
    refine XS.aloadN X0.here hx rfl (hb hby d1_0) rfl rfl ?_
    show Steps p.tables e below (s₁.setTop (mkF m 1 #[.val (.ref x1_0)] [(.ref x1_0)])) _
    refine st1 _ ?_
    exact kt
  by_cases hc4_3 : x1_0 = w_SOURCE
  · obtain ⟨T4, X4, e4, st4⟩ := getS2 X1 hx hZ hown (host := "") (Or.inl (hw _ (List.mem_of_getElem? (i := 11) rfl))) Via.refl e1 (W.2.1) (g := (mkF m 7 #[.val (.ref x1_0)] [])) rfl (hb hby d1_7)
    obtain ⟨fs, hr, hrun, hended, hW, hsame⟩ := X4.leave (v := some (.ref w_TARGET)) (fun h => by rw [Bd.returns] at h; cases h)
    refine ⟨_, _, pre0 _ (sg2 _ ?_), hrun, hended, _, _, rfl, ?_, ⟨_, rfl⟩, hW, hsame.mono (by decide) (by decide)⟩
    · show Steps p.tables e below (T1.setTop (mkF m 4 #[.val (.ref x1_0)] [(.ref w_SOURCE), (.ref x1_0)])) _
      refine Jvm.RoadKit.acmp (g := (mkF m 4 #[.val (.ref x1_0)] [(.ref w_SOURCE), (.ref x1_0)])) X1 hx rfl rfl rfl (pc0 := 4) (pc' := 7) (same := true) rfl (hb hby d1_4) rfl (decide_eq_true (congrArg Value.ref hc4_3)) (by decide) (by decide) ?_
      show Steps p.tables e below (T1.setTop (mkF m 7 #[.val (.ref x1_0)] [])) _
      refine st4 _ ?_
      show Steps p.tables e below (T4.setTop (mkF m 10 #[.val (.ref x1_0)] [(.ref w_TARGET)])) _
      refine XS.goto X4.here hx rfl (pc0 := 10) (pc' := 16) rfl (hb hby d1_10) (by decide) (by decide) ?_
      show Steps p.tables e below (T4.setTop (mkF m 16 #[.val (.ref x1_0)] [(.ref w_TARGET)])) _
      exact retOut X4 hx Bd.returns rfl (Or.inr (Or.inr (Or.inr (Or.inr ⟨rfl, rfl, rfl⟩)))) (hb hby d1_16) hr
    · exact ⟨congrArg (fun z => some (Value.ref z)) (show w_TARGET = f1 x1_0 w_SOURCE w_TARGET from by unfold f1; rw [if_pos hc4_3]), N0, e4⟩
  · obtain ⟨T5, X5, e5, st5⟩ := getS2 X1 hx hZ hown (host := "") (Or.inl (hw _ (List.mem_of_getElem? (i := 10) rfl))) Via.refl e1 (W.1) (g := (mkF m 13 #[.val (.ref x1_0)] [])) rfl (hb hby d1_13)
    obtain ⟨fs, hr, hrun, hended, hW, hsame⟩ := X5.leave (v := some (.ref w_SOURCE)) (fun h => by rw [Bd.returns] at h; cases h)
    refine ⟨_, _, pre0 _ (sg2 _ ?_), hrun, hended, _, _, rfl, ?_, ⟨_, rfl⟩, hW, hsame.mono (by decide) (by decide)⟩
    · show Steps p.tables e below (T1.setTop (mkF m 4 #[.val (.ref x1_0)] [(.ref w_SOURCE), (.ref x1_0)])) _
      refine Jvm.RoadKit.acmp (g := (mkF m 4 #[.val (.ref x1_0)] [(.ref w_SOURCE), (.ref x1_0)])) X1 hx rfl rfl rfl (pc0 := 4) (pc' := 13) (same := false) rfl (hb hby d1_4) rfl (decide_eq_false fun q => hc4_3 (Value.ref.inj q)) (by decide) (by decide) ?_
      show Steps p.tables e below (T1.setTop (mkF m 13 #[.val (.ref x1_0)] [])) _
      refine st5 _ ?_
      show Steps p.tables e below (T5.setTop (mkF m 16 #[.val (.ref x1_0)] [(.ref w_SOURCE)])) _
      exact retOut X5 hx Bd.returns rfl (Or.inr (Or.inr (Or.inr (Or.inr ⟨rfl, rfl, rfl⟩)))) (hb hby d1_16) hr
    · exact ⟨congrArg (fun z => some (Value.ref z)) (show w_SOURCE = f1 x1_0 w_SOURCE w_TARGET from by unfold f1; rw [if_neg hc4_3]), N0, e5⟩
theorem pd_0 : parseMethodDescriptor "()Lcom/example/diatom/diatom/model/RefOperator$End;" = some ⟨[], some (.object "com/example/diatom/diatom/model/RefOperator$End")⟩ := by decide +kernel
theorem pn_1 : plainName "com/example/diatom/diatom/model/EndOtherPinLaw" = true := by first | (simp [plainName, overriddenIn]; done) | decide +kernel
theorem ef_0 (m : MethodId) (x0_0 : Int32) : entryFrame m #[(.int x0_0)] maxLocals = mkF m 0 #[.val (.int x0_0), .unset, .unset, .unset, .unset] [] := by first | (simp [entryFrame, mkF, argsToLocals, Value.category, maxLocals]; done) | rfl
def f0 (x0_0 : Int32) (w_SOURCE w_TARGET : Addr) : Int32 := if (x0_0 &&& (1 : Int32)) = (0 : Int32) then (1 : Int32) else (1 : Int32)
def Q0 (Z : State) (x0_0 : Int32) (w_SOURCE w_TARGET : Addr) (h0 : Heap) (n0 : Nat) (v : Option Value) (h : Heap) (L : List Loc) : Prop := v = some (.int (f0 x0_0 w_SOURCE w_TARGET)) ∧ Fr n0 L ∧ h = h0
set_option maxRecDepth 65536 in
set_option maxHeartbeats 40000000 in
theorem rm0 (l : Launch) (Z : State) (a0 : Array Value) (hw : ∀ d ∈ tables_1, d.before a0 Z = true) (ws : List Jvm.Cond) (x0_0 : Int32) (w_SOURCE w_TARGET : Addr) (h0 : Heap) (n0 : Nat) (Z0 : n0 ≤ h0.size) (W : World Z h0 w_SOURCE w_TARGET) :
    MetFree l x (head1 (Jvm.Cond.code x code maxLocals ret :: ws) room_1) (fun a U => a = #[(.int x0_0)] ∧ Z.Warmed39 U.vm ∧ U.heap = h0) (fun _ _ _ _ _ => True) (fun _ U o U' => ∃ v L, o = .returned v ∧ Q0 Z x0_0 w_SOURCE w_TARGET h0 n0 v U'.heap L ∧ FrameEnd U o U' L room_1.cells room_1.slots) := by
  refine MetFree.of_bodySF (plainFor_of_name pn_1) hisR ?_
  intro p e s m args below meth c s₁ Bd hml0 hP hK
  obtain ⟨rfl, hZ, hh⟩ := hP
  have hx := Bd.exec
  have hby := Bd.bytes
  have hml : c.maxLocals = 5 := hml0
  have hown : s.vm.findClass "com/example/diatom/diatom/model/EndOtherPinLaw" = some m.cls := findClass_of_methodNamed Bd.named
  have hnm := (name_of_methodNamed Bd.named Bd.method).1
  have X0 : Stand p l e room_1 s m #[(.int x0_0)] below meth c s₁ [] 0 0 := Stand.of_body Bd
  have e0 : s₁.heap = h0 := by rw [← hh, Bd.state]; rfl
  have N0 := Fr.nil n0
  have pre0 : ∀ t, Steps p.tables e below (s₁.setTop (mkF m 0 #[.val (.int x0_0), .unset, .unset, .unset, .unset] [])) t → Steps p.tables e below (s₁.setTop (entryFrame m #[(.int x0_0)] maxLocals)) t := fun t k => castTop (ef_0 m x0_0) k
  have sg1 : ∀ t, Steps p.tables e below (s₁.setTop (mkF m 3 #[.val (.int x0_0), .unset, .unset, .unset, .unset] [(.int (x0_0 &&& (1 : Int32)))])) t → Steps p.tables e below (s₁.setTop (mkF m 0 #[.val (.int x0_0), .unset, .unset, .unset, .unset] [])) t := fun t kt => by
    show Steps p.tables e below (s₁.setTop (mkF m 0 #[.val (.int x0_0), .unset, .unset, .unset, .unset] [])) _
    refine XS.iloadN X0.here hx rfl (hb hby at_0) rfl ?_
    show Steps p.tables e below (s₁.setTop (mkF m 1 #[.val (.int x0_0), .unset, .unset, .unset, .unset] [(.int x0_0)])) _
    refine XS.iconst X0.here hx rfl (hb hby at_1) ?_
    show Steps p.tables e below (s₁.setTop (mkF m 2 #[.val (.int x0_0), .unset, .unset, .unset, .unset] [(.int (1 : Int32)), (.int x0_0)])) _
    refine XS.iand X0.here hx rfl (hb hby at_2) rfl ?_
    exact kt
  by_cases hc3_2 : (x0_0 &&& (1 : Int32)) = (0 : Int32)
  · obtain ⟨T3, X3, e3, st3⟩ := getS2 X0 hx hZ hown (host := "") (Or.inl (hw _ (List.mem_of_getElem? (i := 0) rfl))) Via.refl e0 (W.1) (g := (mkF m 22 #[.val (.int x0_0), .val (.int (0 : Int32)), .unset, .unset, .unset] [])) rfl (hb hby at_22)
    obtain ⟨T4, X4, e4, st4⟩ := getS2 X3 hx hZ hown (host := "") (Or.inl (hw _ (List.mem_of_getElem? (i := 3) rfl))) Via.refl e3 (W.2.1) (g := (mkF m 36 #[.val (.int x0_0), .val (.int (0 : Int32)), .val (.ref w_SOURCE), .unset, .unset] [])) rfl (hb hby at_36)
    have sg6 : ∀ t, Steps p.tables e below (T4.setTop (mkF m 41 #[.val (.int x0_0), .val (.int (0 : Int32)), .val (.ref w_SOURCE), .val (.ref w_TARGET), .unset] [(.ref w_SOURCE)])) t → Steps p.tables e below (s₁.setTop (mkF m 3 #[.val (.int x0_0), .unset, .unset, .unset, .unset] [(.int (x0_0 &&& (1 : Int32)))])) t := fun t kt => by
      show Steps p.tables e below (s₁.setTop (mkF m 3 #[.val (.int x0_0), .unset, .unset, .unset, .unset] [(.int (x0_0 &&& (1 : Int32)))])) _
      refine XS.ifYes X0.here hx rfl (pc0 := 3) (pc' := 10) rfl (hb hby at_3) rfl ((if0 _ _).trans (teq hc3_2).1) (by decide) (by decide) ?_
      show Steps p.tables e below (s₁.setTop (mkF m 10 #[.val (.int x0_0), .unset, .unset, .unset, .unset] [])) _
      refine XS.iconst X0.here hx rfl (hb hby at_10) ?_
      show Steps p.tables e below (s₁.setTop (mkF m 11 #[.val (.int x0_0), .unset, .unset, .unset, .unset] [(.int (0 : Int32))])) _
      refine XS.istoreN X0.here hx rfl (hb hby at_11) rfl (l' := #[.val (.int x0_0), .val (.int (0 : Int32)), .unset, .unset, .unset]) rfl ?_
      show Steps p.tables e below (s₁.setTop (mkF m 12 #[.val (.int x0_0), .val (.int (0 : Int32)), .unset, .unset, .unset] [])) _
      refine XS.iloadN X0.here hx rfl (hb hby at_12) rfl ?_
      show Steps p.tables e below (s₁.setTop (mkF m 13 #[.val (.int x0_0), .val (.int (0 : Int32)), .unset, .unset, .unset] [(.int (0 : Int32))])) _
      refine XS.ifYes X0.here hx rfl (pc0 := 13) (pc' := 22) rfl (hb hby at_13) rfl ((if0 _ _).trans (teq (by decide : ((0 : Int32) = (0 : Int32)))).1) (by decide) (by decide) ?_
      show Steps p.tables e below (s₁.setTop (mkF m 22 #[.val (.int x0_0), .val (.int (0 : Int32)), .unset, .unset, .unset] [])) _
      refine st3 _ ?_
      show Steps p.tables e below (T3.setTop (mkF m 25 #[.val (.int x0_0), .val (.int (0 : Int32)), .unset, .unset, .unset] [(.ref w_SOURCE)])) _
      refine XS.astoreN X3.here hx rfl (hb hby at_25) rfl rfl (l' := #[.val (.int x0_0), .val (.int (0 : Int32)), .val (.ref w_SOURCE), .unset, .unset]) rfl ?_
      show Steps p.tables e below (T3.setTop (mkF m 26 #[.val (.int x0_0), .val (.int (0 : Int32)), .val (.ref w_SOURCE), .unset, .unset] [])) _
      refine XS.iloadN X3.here hx rfl (hb hby at_26) rfl ?_
      show Steps p.tables e below (T3.setTop (mkF m 27 #[.val (.int x0_0), .val (.int (0 : Int32)), .val (.ref w_SOURCE), .unset, .unset] [(.int (0 : Int32))])) _
      refine XS.ifYes X3.here hx rfl (pc0 := 27) (pc' := 36) rfl (hb hby at_27) rfl ((if0 _ _).trans (teq (by decide : ((0 : Int32) = (0 : Int32)))).1) (by decide) (by decide) ?_
      show Steps p.tables e below (T3.setTop (mkF m 36 #[.val (.int x0_0), .val (.int (0 : Int32)), .val (.ref w_SOURCE), .unset, .unset] [])) _
      refine st4 _ ?_
      show Steps p.tables e below (T4.setTop (mkF m 39 #[.val (.int x0_0), .val (.int (0 : Int32)), .val (.ref w_SOURCE), .unset, .unset] [(.ref w_TARGET)])) _
      refine XS.astoreN X4.here hx rfl (hb hby at_39) rfl rfl (l' := #[.val (.int x0_0), .val (.int (0 : Int32)), .val (.ref w_SOURCE), .val (.ref w_TARGET), .unset]) rfl ?_
      show Steps p.tables e below (T4.setTop (mkF m 40 #[.val (.int x0_0), .val (.int (0 : Int32)), .val (.ref w_SOURCE), .val (.ref w_TARGET), .unset] [])) _
      refine XS.aloadN X4.here hx rfl (hb hby at_40) rfl rfl ?_
      exact kt
    obtain ⟨cq5, kq5, q5a, q5b, q5c⟩ := isOf hZ e4 (W.2.2.1)
    obtain ⟨v5, _, ⟨T5, L5, k5, n5⟩, -, X5, ⟨Lc5, hQ5, l5, y5, z5⟩, st5⟩ := X4.virtualBack hx (y := (⟨"com/example/diatom/diatom/model/RefOperator$End", "other", "()Lcom/example/diatom/diatom/model/RefOperator$End;"⟩ : MethodName)) (z := (⟨"com/example/diatom/diatom/model/RefOperator$End", "other", "()Lcom/example/diatom/diatom/model/RefOperator$End;"⟩ : MethodName)) hown (mvT hZ (hw _ (List.mem_of_getElem? (i := 5) rfl))) (mvT hZ (hw _ (List.mem_of_getElem? (i := 6) rfl))) (notFace_of_selects (args := #[]) (mvT hZ (hw _ (List.mem_of_getElem? (i := 8) rfl)))) (mvT hZ (hw _ (List.mem_of_getElem? (i := 8) rfl))) (mvT hZ (hw _ (List.mem_of_getElem? (i := 7) rfl))) (by decide) (backOf (W := 0) (rm1 l Z a0 hw [] w_SOURCE w_SOURCE w_TARGET h0 n0 Z0 W) hZ (hw _ (List.mem_of_getElem? (i := 9) rfl)) (hw _ (List.mem_of_getElem? (i := 1) rfl)) (by decide) (by decide)) q5a q5c (g := (mkF m 41 #[.val (.int x0_0), .val (.int (0 : Int32)), .val (.ref w_SOURCE), .val (.ref w_TARGET), .unset] [(.ref w_SOURCE)])) rfl (by rw [hml]; rfl) (Steps.refl _) (argsL := []) (rest := []) (lenOf pd_0 rfl) rfl (by show 2 * 0 + _ ≤ _; exact Nat.le_of_eq rfl) (hb hby at_41) (fun _ _ => ⟨rfl, e4, (by decide : 0 + 0 ≤ _), (by decide : 0 + 0 ≤ _)⟩)
    dsimp only [Pt.U, Pt.locs, Pt.cells, Pt.slots] at X5 l5 y5 z5 st5 hQ5
    subst l5 y5 z5
    obtain ⟨hv5, N5q, e5⟩ := hQ5
    have N5 := Fr.app N0 N5q
    have hf5 : f1 w_SOURCE w_SOURCE w_TARGET = w_TARGET := by unfold f1; rw [if_pos (rfl : w_SOURCE = w_SOURCE)]
    rw [hf5] at hv5
    subst hv5
    have sg8 : ∀ t, Steps p.tables e below (T5.setTop (mkF m 64 #[.val (.int x0_0), .val (.int (0 : Int32)), .val (.ref w_SOURCE), .val (.ref w_TARGET), .val (.ref w_TARGET)] [(.ref w_TARGET)])) t → Steps p.tables e below (T4.setTop (mkF m 41 #[.val (.int x0_0), .val (.int (0 : Int32)), .val (.ref w_SOURCE), .val (.ref w_TARGET), .unset] [(.ref w_SOURCE)])) t := fun t kt => by
      show Steps p.tables e below (T4.setTop (mkF m 41 #[.val (.int x0_0), .val (.int (0 : Int32)), .val (.ref w_SOURCE), .val (.ref w_TARGET), .unset] [(.ref w_SOURCE)])) _
      refine st5.trans ?_
      show Steps p.tables e below (T5.setTop (mkF m 44 #[.val (.int x0_0), .val (.int (0 : Int32)), .val (.ref w_SOURCE), .val (.ref w_TARGET), .unset] [(.ref w_TARGET)])) _
      refine XS.astore X5.here hx rfl (hb hby at_44) rfl rfl (l' := #[.val (.int x0_0), .val (.int (0 : Int32)), .val (.ref w_SOURCE), .val (.ref w_TARGET), .val (.ref w_TARGET)]) rfl ?_
      show Steps p.tables e below (T5.setTop (mkF m 46 #[.val (.int x0_0), .val (.int (0 : Int32)), .val (.ref w_SOURCE), .val (.ref w_TARGET), .val (.ref w_TARGET)] [])) _
      refine XS.aload X5.here hx rfl (hb hby at_46) rfl rfl ?_
      show Steps p.tables e below (T5.setTop (mkF m 48 #[.val (.int x0_0), .val (.int (0 : Int32)), .val (.ref w_SOURCE), .val (.ref w_TARGET), .val (.ref w_TARGET)] [(.ref w_TARGET)])) _
      refine XS.aloadN X5.here hx rfl (hb hby at_48) rfl rfl ?_
      show Steps p.tables e below (T5.setTop (mkF m 49 #[.val (.int x0_0), .val (.int (0 : Int32)), .val (.ref w_SOURCE), .val (.ref w_TARGET), .val (.ref w_TARGET)] [(.ref w_TARGET), (.ref w_TARGET)])) _
      refine Jvm.RoadKit.acmp (g := (mkF m 49 #[.val (.int x0_0), .val (.int (0 : Int32)), .val (.ref w_SOURCE), .val (.ref w_TARGET), .val (.ref w_TARGET)] [(.ref w_TARGET), (.ref w_TARGET)])) X5 hx rfl rfl rfl (pc0 := 49) (pc' := 54) (same := true) rfl (hb hby at_49) rfl (decide_eq_true (congrArg Value.ref (rfl : w_TARGET = w_TARGET))) (by decide) (by decide) ?_
      show Steps p.tables e below (T5.setTop (mkF m 54 #[.val (.int x0_0), .val (.int (0 : Int32)), .val (.ref w_SOURCE), .val (.ref w_TARGET), .val (.ref w_TARGET)] [])) _
      refine XS.aload X5.here hx rfl (hb hby at_54) rfl rfl ?_
      show Steps p.tables e below (T5.setTop (mkF m 56 #[.val (.int x0_0), .val (.int (0 : Int32)), .val (.ref w_SOURCE), .val (.ref w_TARGET), .val (.ref w_TARGET)] [(.ref w_TARGET)])) _
      refine XS.aloadN X5.here hx rfl (hb hby at_56) rfl rfl ?_
      show Steps p.tables e below (T5.setTop (mkF m 57 #[.val (.int x0_0), .val (.int (0 : Int32)), .val (.ref w_SOURCE), .val (.ref w_TARGET), .val (.ref w_TARGET)] [(.ref w_SOURCE), (.ref w_TARGET)])) _
      refine Jvm.RoadKit.acmp (g := (mkF m 57 #[.val (.int x0_0), .val (.int (0 : Int32)), .val (.ref w_SOURCE), .val (.ref w_TARGET), .val (.ref w_TARGET)] [(.ref w_SOURCE), (.ref w_TARGET)])) X5 hx rfl rfl rfl (pc0 := 57) (pc' := 62) (same := false) rfl (hb hby at_57) rfl (decide_eq_false fun q => (Fld.ne (W.2.2.2.2.2) (W.2.2.2.2.1) (by decide) : ¬ (w_TARGET = w_SOURCE)) (Value.ref.inj q)) (by decide) (by decide) ?_
      show Steps p.tables e below (T5.setTop (mkF m 62 #[.val (.int x0_0), .val (.int (0 : Int32)), .val (.ref w_SOURCE), .val (.ref w_TARGET), .val (.ref w_TARGET)] [])) _
      refine XS.aload X5.here hx rfl (hb hby at_62) rfl rfl ?_
      exact kt
    obtain ⟨cq7, kq7, q7a, q7b, q7c⟩ := isOf hZ e5 (W.2.2.2.1)
    obtain ⟨v7, _, ⟨T7, L7, k7, n7⟩, -, X7, ⟨Lc7, hQ7, l7, y7, z7⟩, st7⟩ := X5.virtualBack hx (y := (⟨"com/example/diatom/diatom/model/RefOperator$End", "other", "()Lcom/example/diatom/diatom/model/RefOperator$End;"⟩ : MethodName)) (z := (⟨"com/example/diatom/diatom/model/RefOperator$End", "other", "()Lcom/example/diatom/diatom/model/RefOperator$End;"⟩ : MethodName)) hown (mvT hZ (hw _ (List.mem_of_getElem? (i := 5) rfl))) (mvT hZ (hw _ (List.mem_of_getElem? (i := 6) rfl))) (notFace_of_selects (args := #[]) (mvT hZ (hw _ (List.mem_of_getElem? (i := 8) rfl)))) (mvT hZ (hw _ (List.mem_of_getElem? (i := 8) rfl))) (mvT hZ (hw _ (List.mem_of_getElem? (i := 7) rfl))) (by decide) (backOf (W := 0) (rm1 l Z a0 hw [] w_TARGET w_SOURCE w_TARGET h0 n0 Z0 W) hZ (hw _ (List.mem_of_getElem? (i := 9) rfl)) (hw _ (List.mem_of_getElem? (i := 1) rfl)) (by decide) (by decide)) q7a q7c (g := (mkF m 64 #[.val (.int x0_0), .val (.int (0 : Int32)), .val (.ref w_SOURCE), .val (.ref w_TARGET), .val (.ref w_TARGET)] [(.ref w_TARGET)])) rfl (by rw [hml]; rfl) (Steps.refl _) (argsL := []) (rest := []) (lenOf pd_0 rfl) rfl (by show 2 * 0 + _ ≤ _; exact Nat.le_of_eq rfl) (hb hby at_64) (fun _ _ => ⟨rfl, e5, (by decide : 0 + 0 ≤ _), (by decide : 0 + 0 ≤ _)⟩)
    dsimp only [Pt.U, Pt.locs, Pt.cells, Pt.slots] at X7 l7 y7 z7 st7 hQ7
    subst l7 y7 z7
    obtain ⟨hv7, N7q, e7⟩ := hQ7
    have N7 := Fr.app N5 N7q
    have hf7 : f1 w_TARGET w_SOURCE w_TARGET = w_SOURCE := by unfold f1; rw [if_neg (Fld.ne (W.2.2.2.2.2) (W.2.2.2.2.1) (by decide) : ¬ (w_TARGET = w_SOURCE))]
    rw [hf7] at hv7
    subst hv7
    obtain ⟨fs, hr, hrun, hended, hW, hsame⟩ := X7.leave (v := some (.int (1 : Int32))) (fun h => by rw [Bd.returns] at h; cases h)
    refine ⟨_, _, pre0 _ (sg1 _ (sg6 _ (sg8 _ ?_))), hrun, hended, _, _, rfl, ?_, ⟨_, rfl⟩, hW, hsame.mono (by decide) (by decide)⟩
    · show Steps p.tables e below (T5.setTop (mkF m 64 #[.val (.int x0_0), .val (.int (0 : Int32)), .val (.ref w_SOURCE), .val (.ref w_TARGET), .val (.ref w_TARGET)] [(.ref w_TARGET)])) _
      refine st7.trans ?_
      show Steps p.tables e below (T7.setTop (mkF m 67 #[.val (.int x0_0), .val (.int (0 : Int32)), .val (.ref w_SOURCE), .val (.ref w_TARGET), .val (.ref w_TARGET)] [(.ref w_SOURCE)])) _
      refine XS.aloadN X7.here hx rfl (hb hby at_67) rfl rfl ?_
      show Steps p.tables e below (T7.setTop (mkF m 68 #[.val (.int x0_0), .val (.int (0 : Int32)), .val (.ref w_SOURCE), .val (.ref w_TARGET), .val (.ref w_TARGET)] [(.ref w_SOURCE), (.ref w_SOURCE)])) _
      refine Jvm.RoadKit.acmp (g := (mkF m 68 #[.val (.int x0_0), .val (.int (0 : Int32)), .val (.ref w_SOURCE), .val (.ref w_TARGET), .val (.ref w_TARGET)] [(.ref w_SOURCE), (.ref w_SOURCE)])) X7 hx rfl rfl rfl (pc0 := 68) (pc' := 71) (same := true) rfl (hb hby at_68) rfl (decide_eq_true (congrArg Value.ref (rfl : w_SOURCE = w_SOURCE))) (by decide) (by decide) ?_
      show Steps p.tables e below (T7.setTop (mkF m 71 #[.val (.int x0_0), .val (.int (0 : Int32)), .val (.ref w_SOURCE), .val (.ref w_TARGET), .val (.ref w_TARGET)] [])) _
      refine XS.iconst X7.here hx rfl (hb hby at_71) ?_
      show Steps p.tables e below (T7.setTop (mkF m 72 #[.val (.int x0_0), .val (.int (0 : Int32)), .val (.ref w_SOURCE), .val (.ref w_TARGET), .val (.ref w_TARGET)] [(.int (1 : Int32))])) _
      refine XS.goto X7.here hx rfl (pc0 := 72) (pc' := 76) rfl (hb hby at_72) (by decide) (by decide) ?_
      show Steps p.tables e below (T7.setTop (mkF m 76 #[.val (.int x0_0), .val (.int (0 : Int32)), .val (.ref w_SOURCE), .val (.ref w_TARGET), .val (.ref w_TARGET)] [(.int (1 : Int32))])) _
      exact retN X7 hx (t := .boolean) Bd.returns (by simp) (hb hby at_76) hr
    · exact ⟨congrArg (fun z => some (Value.int z)) (show (1 : Int32) = f0 x0_0 w_SOURCE w_TARGET from by unfold f0; rw [if_pos hc3_2]), N7, e7⟩
  · obtain ⟨T9, X9, e9, st9⟩ := getS2 X0 hx hZ hown (host := "") (Or.inl (hw _ (List.mem_of_getElem? (i := 3) rfl))) Via.refl e0 (W.2.1) (g := (mkF m 16 #[.val (.int x0_0), .val (.int (1 : Int32)), .unset, .unset, .unset] [])) rfl (hb hby at_16)
    obtain ⟨T10, X10, e10, st10⟩ := getS2 X9 hx hZ hown (host := "") (Or.inl (hw _ (List.mem_of_getElem? (i := 0) rfl))) Via.refl e9 (W.1) (g := (mkF m 30 #[.val (.int x0_0), .val (.int (1 : Int32)), .val (.ref w_TARGET), .unset, .unset] [])) rfl (hb hby at_30)
    have sg12 : ∀ t, Steps p.tables e below (T10.setTop (mkF m 41 #[.val (.int x0_0), .val (.int (1 : Int32)), .val (.ref w_TARGET), .val (.ref w_SOURCE), .unset] [(.ref w_TARGET)])) t → Steps p.tables e below (s₁.setTop (mkF m 3 #[.val (.int x0_0), .unset, .unset, .unset, .unset] [(.int (x0_0 &&& (1 : Int32)))])) t := fun t kt => by
      show Steps p.tables e below (s₁.setTop (mkF m 3 #[.val (.int x0_0), .unset, .unset, .unset, .unset] [(.int (x0_0 &&& (1 : Int32)))])) _
      refine XS.ifNo X0.here hx rfl (hb hby at_3) rfl ((if0 _ _).trans (feq hc3_2).1) ?_
      show Steps p.tables e below (s₁.setTop (mkF m 6 #[.val (.int x0_0), .unset, .unset, .unset, .unset] [])) _
      refine XS.iconst X0.here hx rfl (hb hby at_6) ?_
      show Steps p.tables e below (s₁.setTop (mkF m 7 #[.val (.int x0_0), .unset, .unset, .unset, .unset] [(.int (1 : Int32))])) _
      refine XS.goto X0.here hx rfl (pc0 := 7) (pc' := 11) rfl (hb hby at_7) (by decide) (by decide) ?_
      show Steps p.tables e below (s₁.setTop (mkF m 11 #[.val (.int x0_0), .unset, .unset, .unset, .unset] [(.int (1 : Int32))])) _
      refine XS.istoreN X0.here hx rfl (hb hby at_11) rfl (l' := #[.val (.int x0_0), .val (.int (1 : Int32)), .unset, .unset, .unset]) rfl ?_
      show Steps p.tables e below (s₁.setTop (mkF m 12 #[.val (.int x0_0), .val (.int (1 : Int32)), .unset, .unset, .unset] [])) _
      refine XS.iloadN X0.here hx rfl (hb hby at_12) rfl ?_
      show Steps p.tables e below (s₁.setTop (mkF m 13 #[.val (.int x0_0), .val (.int (1 : Int32)), .unset, .unset, .unset] [(.int (1 : Int32))])) _
      refine XS.ifNo X0.here hx rfl (hb hby at_13) rfl ((if0 _ _).trans (feq (by decide : ¬ ((1 : Int32) = (0 : Int32)))).1) ?_
      show Steps p.tables e below (s₁.setTop (mkF m 16 #[.val (.int x0_0), .val (.int (1 : Int32)), .unset, .unset, .unset] [])) _
      refine st9 _ ?_
      show Steps p.tables e below (T9.setTop (mkF m 19 #[.val (.int x0_0), .val (.int (1 : Int32)), .unset, .unset, .unset] [(.ref w_TARGET)])) _
      refine XS.goto X9.here hx rfl (pc0 := 19) (pc' := 25) rfl (hb hby at_19) (by decide) (by decide) ?_
      show Steps p.tables e below (T9.setTop (mkF m 25 #[.val (.int x0_0), .val (.int (1 : Int32)), .unset, .unset, .unset] [(.ref w_TARGET)])) _
      refine XS.astoreN X9.here hx rfl (hb hby at_25) rfl rfl (l' := #[.val (.int x0_0), .val (.int (1 : Int32)), .val (.ref w_TARGET), .unset, .unset]) rfl ?_
      show Steps p.tables e below (T9.setTop (mkF m 26 #[.val (.int x0_0), .val (.int (1 : Int32)), .val (.ref w_TARGET), .unset, .unset] [])) _
      refine XS.iloadN X9.here hx rfl (hb hby at_26) rfl ?_
      show Steps p.tables e below (T9.setTop (mkF m 27 #[.val (.int x0_0), .val (.int (1 : Int32)), .val (.ref w_TARGET), .unset, .unset] [(.int (1 : Int32))])) _
      refine XS.ifNo X9.here hx rfl (hb hby at_27) rfl ((if0 _ _).trans (feq (by decide : ¬ ((1 : Int32) = (0 : Int32)))).1) ?_
      show Steps p.tables e below (T9.setTop (mkF m 30 #[.val (.int x0_0), .val (.int (1 : Int32)), .val (.ref w_TARGET), .unset, .unset] [])) _
      refine st10 _ ?_
      show Steps p.tables e below (T10.setTop (mkF m 33 #[.val (.int x0_0), .val (.int (1 : Int32)), .val (.ref w_TARGET), .unset, .unset] [(.ref w_SOURCE)])) _
      refine XS.goto X10.here hx rfl (pc0 := 33) (pc' := 39) rfl (hb hby at_33) (by decide) (by decide) ?_
      show Steps p.tables e below (T10.setTop (mkF m 39 #[.val (.int x0_0), .val (.int (1 : Int32)), .val (.ref w_TARGET), .unset, .unset] [(.ref w_SOURCE)])) _
      refine XS.astoreN X10.here hx rfl (hb hby at_39) rfl rfl (l' := #[.val (.int x0_0), .val (.int (1 : Int32)), .val (.ref w_TARGET), .val (.ref w_SOURCE), .unset]) rfl ?_
      show Steps p.tables e below (T10.setTop (mkF m 40 #[.val (.int x0_0), .val (.int (1 : Int32)), .val (.ref w_TARGET), .val (.ref w_SOURCE), .unset] [])) _
      refine XS.aloadN X10.here hx rfl (hb hby at_40) rfl rfl ?_
      exact kt
    obtain ⟨cq11, kq11, q11a, q11b, q11c⟩ := isOf hZ e10 (W.2.2.2.1)
    obtain ⟨v11, _, ⟨T11, L11, k11, n11⟩, -, X11, ⟨Lc11, hQ11, l11, y11, z11⟩, st11⟩ := X10.virtualBack hx (y := (⟨"com/example/diatom/diatom/model/RefOperator$End", "other", "()Lcom/example/diatom/diatom/model/RefOperator$End;"⟩ : MethodName)) (z := (⟨"com/example/diatom/diatom/model/RefOperator$End", "other", "()Lcom/example/diatom/diatom/model/RefOperator$End;"⟩ : MethodName)) hown (mvT hZ (hw _ (List.mem_of_getElem? (i := 5) rfl))) (mvT hZ (hw _ (List.mem_of_getElem? (i := 6) rfl))) (notFace_of_selects (args := #[]) (mvT hZ (hw _ (List.mem_of_getElem? (i := 8) rfl)))) (mvT hZ (hw _ (List.mem_of_getElem? (i := 8) rfl))) (mvT hZ (hw _ (List.mem_of_getElem? (i := 7) rfl))) (by decide) (backOf (W := 0) (rm1 l Z a0 hw [] w_TARGET w_SOURCE w_TARGET h0 n0 Z0 W) hZ (hw _ (List.mem_of_getElem? (i := 9) rfl)) (hw _ (List.mem_of_getElem? (i := 1) rfl)) (by decide) (by decide)) q11a q11c (g := (mkF m 41 #[.val (.int x0_0), .val (.int (1 : Int32)), .val (.ref w_TARGET), .val (.ref w_SOURCE), .unset] [(.ref w_TARGET)])) rfl (by rw [hml]; rfl) (Steps.refl _) (argsL := []) (rest := []) (lenOf pd_0 rfl) rfl (by show 2 * 0 + _ ≤ _; exact Nat.le_of_eq rfl) (hb hby at_41) (fun _ _ => ⟨rfl, e10, (by decide : 0 + 0 ≤ _), (by decide : 0 + 0 ≤ _)⟩)
    dsimp only [Pt.U, Pt.locs, Pt.cells, Pt.slots] at X11 l11 y11 z11 st11 hQ11
    subst l11 y11 z11
    obtain ⟨hv11, N11q, e11⟩ := hQ11
    have N11 := Fr.app N0 N11q
    have hf11 : f1 w_TARGET w_SOURCE w_TARGET = w_SOURCE := by unfold f1; rw [if_neg (Fld.ne (W.2.2.2.2.2) (W.2.2.2.2.1) (by decide) : ¬ (w_TARGET = w_SOURCE))]
    rw [hf11] at hv11
    subst hv11
    have sg14 : ∀ t, Steps p.tables e below (T11.setTop (mkF m 64 #[.val (.int x0_0), .val (.int (1 : Int32)), .val (.ref w_TARGET), .val (.ref w_SOURCE), .val (.ref w_SOURCE)] [(.ref w_SOURCE)])) t → Steps p.tables e below (T10.setTop (mkF m 41 #[.val (.int x0_0), .val (.int (1 : Int32)), .val (.ref w_TARGET), .val (.ref w_SOURCE), .unset] [(.ref w_TARGET)])) t := fun t kt => by
      show Steps p.tables e below (T10.setTop (mkF m 41 #[.val (.int x0_0), .val (.int (1 : Int32)), .val (.ref w_TARGET), .val (.ref w_SOURCE), .unset] [(.ref w_TARGET)])) _
      refine st11.trans ?_
      show Steps p.tables e below (T11.setTop (mkF m 44 #[.val (.int x0_0), .val (.int (1 : Int32)), .val (.ref w_TARGET), .val (.ref w_SOURCE), .unset] [(.ref w_SOURCE)])) _
      refine XS.astore X11.here hx rfl (hb hby at_44) rfl rfl (l' := #[.val (.int x0_0), .val (.int (1 : Int32)), .val (.ref w_TARGET), .val (.ref w_SOURCE), .val (.ref w_SOURCE)]) rfl ?_
      show Steps p.tables e below (T11.setTop (mkF m 46 #[.val (.int x0_0), .val (.int (1 : Int32)), .val (.ref w_TARGET), .val (.ref w_SOURCE), .val (.ref w_SOURCE)] [])) _
      refine XS.aload X11.here hx rfl (hb hby at_46) rfl rfl ?_
      show Steps p.tables e below (T11.setTop (mkF m 48 #[.val (.int x0_0), .val (.int (1 : Int32)), .val (.ref w_TARGET), .val (.ref w_SOURCE), .val (.ref w_SOURCE)] [(.ref w_SOURCE)])) _
      refine XS.aloadN X11.here hx rfl (hb hby at_48) rfl rfl ?_
      show Steps p.tables e below (T11.setTop (mkF m 49 #[.val (.int x0_0), .val (.int (1 : Int32)), .val (.ref w_TARGET), .val (.ref w_SOURCE), .val (.ref w_SOURCE)] [(.ref w_SOURCE), (.ref w_SOURCE)])) _
      refine Jvm.RoadKit.acmp (g := (mkF m 49 #[.val (.int x0_0), .val (.int (1 : Int32)), .val (.ref w_TARGET), .val (.ref w_SOURCE), .val (.ref w_SOURCE)] [(.ref w_SOURCE), (.ref w_SOURCE)])) X11 hx rfl rfl rfl (pc0 := 49) (pc' := 54) (same := true) rfl (hb hby at_49) rfl (decide_eq_true (congrArg Value.ref (rfl : w_SOURCE = w_SOURCE))) (by decide) (by decide) ?_
      show Steps p.tables e below (T11.setTop (mkF m 54 #[.val (.int x0_0), .val (.int (1 : Int32)), .val (.ref w_TARGET), .val (.ref w_SOURCE), .val (.ref w_SOURCE)] [])) _
      refine XS.aload X11.here hx rfl (hb hby at_54) rfl rfl ?_
      show Steps p.tables e below (T11.setTop (mkF m 56 #[.val (.int x0_0), .val (.int (1 : Int32)), .val (.ref w_TARGET), .val (.ref w_SOURCE), .val (.ref w_SOURCE)] [(.ref w_SOURCE)])) _
      refine XS.aloadN X11.here hx rfl (hb hby at_56) rfl rfl ?_
      show Steps p.tables e below (T11.setTop (mkF m 57 #[.val (.int x0_0), .val (.int (1 : Int32)), .val (.ref w_TARGET), .val (.ref w_SOURCE), .val (.ref w_SOURCE)] [(.ref w_TARGET), (.ref w_SOURCE)])) _
      refine Jvm.RoadKit.acmp (g := (mkF m 57 #[.val (.int x0_0), .val (.int (1 : Int32)), .val (.ref w_TARGET), .val (.ref w_SOURCE), .val (.ref w_SOURCE)] [(.ref w_TARGET), (.ref w_SOURCE)])) X11 hx rfl rfl rfl (pc0 := 57) (pc' := 62) (same := false) rfl (hb hby at_57) rfl (decide_eq_false fun q => (Fld.ne (W.2.2.2.2.1) (W.2.2.2.2.2) (by decide) : ¬ (w_SOURCE = w_TARGET)) (Value.ref.inj q)) (by decide) (by decide) ?_
      show Steps p.tables e below (T11.setTop (mkF m 62 #[.val (.int x0_0), .val (.int (1 : Int32)), .val (.ref w_TARGET), .val (.ref w_SOURCE), .val (.ref w_SOURCE)] [])) _
      refine XS.aload X11.here hx rfl (hb hby at_62) rfl rfl ?_
      exact kt
    obtain ⟨cq13, kq13, q13a, q13b, q13c⟩ := isOf hZ e11 (W.2.2.1)
    obtain ⟨v13, _, ⟨T13, L13, k13, n13⟩, -, X13, ⟨Lc13, hQ13, l13, y13, z13⟩, st13⟩ := X11.virtualBack hx (y := (⟨"com/example/diatom/diatom/model/RefOperator$End", "other", "()Lcom/example/diatom/diatom/model/RefOperator$End;"⟩ : MethodName)) (z := (⟨"com/example/diatom/diatom/model/RefOperator$End", "other", "()Lcom/example/diatom/diatom/model/RefOperator$End;"⟩ : MethodName)) hown (mvT hZ (hw _ (List.mem_of_getElem? (i := 5) rfl))) (mvT hZ (hw _ (List.mem_of_getElem? (i := 6) rfl))) (notFace_of_selects (args := #[]) (mvT hZ (hw _ (List.mem_of_getElem? (i := 8) rfl)))) (mvT hZ (hw _ (List.mem_of_getElem? (i := 8) rfl))) (mvT hZ (hw _ (List.mem_of_getElem? (i := 7) rfl))) (by decide) (backOf (W := 0) (rm1 l Z a0 hw [] w_SOURCE w_SOURCE w_TARGET h0 n0 Z0 W) hZ (hw _ (List.mem_of_getElem? (i := 9) rfl)) (hw _ (List.mem_of_getElem? (i := 1) rfl)) (by decide) (by decide)) q13a q13c (g := (mkF m 64 #[.val (.int x0_0), .val (.int (1 : Int32)), .val (.ref w_TARGET), .val (.ref w_SOURCE), .val (.ref w_SOURCE)] [(.ref w_SOURCE)])) rfl (by rw [hml]; rfl) (Steps.refl _) (argsL := []) (rest := []) (lenOf pd_0 rfl) rfl (by show 2 * 0 + _ ≤ _; exact Nat.le_of_eq rfl) (hb hby at_64) (fun _ _ => ⟨rfl, e11, (by decide : 0 + 0 ≤ _), (by decide : 0 + 0 ≤ _)⟩)
    dsimp only [Pt.U, Pt.locs, Pt.cells, Pt.slots] at X13 l13 y13 z13 st13 hQ13
    subst l13 y13 z13
    obtain ⟨hv13, N13q, e13⟩ := hQ13
    have N13 := Fr.app N11 N13q
    have hf13 : f1 w_SOURCE w_SOURCE w_TARGET = w_TARGET := by unfold f1; rw [if_pos (rfl : w_SOURCE = w_SOURCE)]
    rw [hf13] at hv13
    subst hv13
    obtain ⟨fs, hr, hrun, hended, hW, hsame⟩ := X13.leave (v := some (.int (1 : Int32))) (fun h => by rw [Bd.returns] at h; cases h)
    refine ⟨_, _, pre0 _ (sg1 _ (sg12 _ (sg14 _ ?_))), hrun, hended, _, _, rfl, ?_, ⟨_, rfl⟩, hW, hsame.mono (by decide) (by decide)⟩
    · show Steps p.tables e below (T11.setTop (mkF m 64 #[.val (.int x0_0), .val (.int (1 : Int32)), .val (.ref w_TARGET), .val (.ref w_SOURCE), .val (.ref w_SOURCE)] [(.ref w_SOURCE)])) _
      refine st13.trans ?_
      show Steps p.tables e below (T13.setTop (mkF m 67 #[.val (.int x0_0), .val (.int (1 : Int32)), .val (.ref w_TARGET), .val (.ref w_SOURCE), .val (.ref w_SOURCE)] [(.ref w_TARGET)])) _
      refine XS.aloadN X13.here hx rfl (hb hby at_67) rfl rfl ?_
      show Steps p.tables e below (T13.setTop (mkF m 68 #[.val (.int x0_0), .val (.int (1 : Int32)), .val (.ref w_TARGET), .val (.ref w_SOURCE), .val (.ref w_SOURCE)] [(.ref w_TARGET), (.ref w_TARGET)])) _
      refine Jvm.RoadKit.acmp (g := (mkF m 68 #[.val (.int x0_0), .val (.int (1 : Int32)), .val (.ref w_TARGET), .val (.ref w_SOURCE), .val (.ref w_SOURCE)] [(.ref w_TARGET), (.ref w_TARGET)])) X13 hx rfl rfl rfl (pc0 := 68) (pc' := 71) (same := true) rfl (hb hby at_68) rfl (decide_eq_true (congrArg Value.ref (rfl : w_TARGET = w_TARGET))) (by decide) (by decide) ?_
      show Steps p.tables e below (T13.setTop (mkF m 71 #[.val (.int x0_0), .val (.int (1 : Int32)), .val (.ref w_TARGET), .val (.ref w_SOURCE), .val (.ref w_SOURCE)] [])) _
      refine XS.iconst X13.here hx rfl (hb hby at_71) ?_
      show Steps p.tables e below (T13.setTop (mkF m 72 #[.val (.int x0_0), .val (.int (1 : Int32)), .val (.ref w_TARGET), .val (.ref w_SOURCE), .val (.ref w_SOURCE)] [(.int (1 : Int32))])) _
      refine XS.goto X13.here hx rfl (pc0 := 72) (pc' := 76) rfl (hb hby at_72) (by decide) (by decide) ?_
      show Steps p.tables e below (T13.setTop (mkF m 76 #[.val (.int x0_0), .val (.int (1 : Int32)), .val (.ref w_TARGET), .val (.ref w_SOURCE), .val (.ref w_SOURCE)] [(.int (1 : Int32))])) _
      exact retN X13 hx (t := .boolean) Bd.returns (by simp) (hb hby at_76) hr
    · exact ⟨congrArg (fun z => some (Value.int z)) (show (1 : Int32) = f0 x0_0 w_SOURCE w_TARGET from by unfold f0; rw [if_neg hc3_2]), N13, e13⟩
set_option maxRecDepth 65536 in
set_option maxHeartbeats 40000000 in
theorem comes_1 {Post : Tables → Env → Array Value → State → Outcome → State → Prop} (hpost : ∀ tb e args s v u, (limb_1_1.after args s (.returned v) u = true ∧ limb_1_2.after args s (.returned v) u = true ∧ True) → FrameEnd s (.returned v) u (Jvm.fieldLocs frame_1_writes args s ++ Jvm.arrayLocs frame_1_arrays args s ++ Jvm.staticLocs frame_1_statics s) 0 0 → Post tb e args s (.returned v) u) :
    ArmFor flags0 classFile x code maxLocals ret World_1 tables_1 room_1 Calls_1 rest_1 Pre_1 Post := by
  intro l hfl _ _ p e ha hc hk s m args below hf hA hF happ hP
  obtain ⟨hcalls, hrest, hpre⟩ := hP
  obtain ⟨-, -, -, hnamed, -, -, -, hat⟩ := (Spec.applies_iff hf).mp happ
  obtain ⟨hg, hn⟩ := and_e (Cond.before_iff.mp (show (Jvm.Cond.and given_1 narrow_1).before args s = true from hpre))
  obtain ⟨g1, g2⟩ := and_e hg
  obtain ⟨w0, rfl⟩ : ∃ w0 : Value, args = #[w0] := by
    have hs : args.size = 1 := by simpa [Cond.value, given_1] using g1
    obtain ⟨L⟩ := args
    match L, hs with
    | [w0], _ => exact ⟨w0, rfl⟩
  have hw := fun d (hd : d ∈ tables_1) => atoms_spec (ws := Jvm.Cond.code x code maxLocals ret :: tables_1) hat d (List.mem_cons_of_mem _ hd)
  obtain ⟨i0, ei0⟩ := is_v g2
  obtain rfl : w0 = (.int i0) := Option.some.inj ei0
  obtain ⟨m1, m2⟩ := and_e hn
  obtain ⟨m3, m4⟩ := and_e m2
  obtain ⟨m5, m6⟩ := and_e m4
  obtain ⟨w_SOURCE, evw_SOURCE⟩ := exa_v m1
  obtain ⟨w_TARGET, evw_TARGET⟩ := exa_v m3
  have WW : World s s.heap w_SOURCE w_TARGET := ⟨Sta.start evw_SOURCE (Or.inr ⟨(hw _ (List.mem_of_getElem? (i := 1) rfl)), (hw _ (List.mem_of_getElem? (i := 2) rfl))⟩), Sta.start evw_TARGET (Or.inr ⟨(hw _ (List.mem_of_getElem? (i := 1) rfl)), (hw _ (List.mem_of_getElem? (i := 4) rfl))⟩), Exa.start evw_SOURCE m1, Exa.start evw_TARGET m3, Fld.start ((fld_at evw_SOURCE).symm.trans (own_eqI m6)), Fld.start ((fld_at evw_TARGET).symm.trans (own_eqI m5))⟩
  obtain ⟨n, o, h1, h2, h3, _, L, rfl, ⟨rfl, N, -⟩, hq⟩ := rm0 l s _ hw tables_1 i0 w_SOURCE w_TARGET s.heap s.heap.size (Nat.le_refl _) WW p e ha hc hk s m _ below hf ((Spec.applies_iff_loose hf).mp happ).1 ⟨rfl, State.Warmed39.refl s, rfl⟩ trivial
  have hone : f0 i0 w_SOURCE w_TARGET = 1 := (by unfold f0; (repeat' split) <;> rfl)
  rw [hone] at h3 hq
  refine ⟨n, _, h1, h2, h3, hpost _ _ _ _ _ _ ⟨Cond.after_iff.mpr rfl, Cond.after_iff.mpr (eq_i res_at (Term.int_eval (1)) rfl), trivial⟩ ⟨hq.1, hq.2.1, (hq.2.2.sift fun y hy => Or.inr (N y hy)).mono (by decide) (by decide)⟩⟩
theorem main_1_1 : Claimed_1_1 := comes_1 fun _ _ _ _ _ _ h hF => ⟨h.1, hF⟩
theorem main_1_2 : Claimed_1_2 := comes_1 fun _ _ _ _ _ _ h hF => ⟨h.2.1, hF⟩
end Jvm.Pilot.@@N@@
namespace Jvm.Pilot.@@N@@
open Jvm Jvm.ClassFile Sem Op Lib Jvm.Free Jvm.Stand Jvm.Pilot.@@N@@.Jvm.D
/-! MADE BY PROGRAM (witnessworld.py) out of the Statement's table words and the real class files: 10 classes; the members and pool entries that the words name. The judged class is class 1, her method 1. -/
namespace start1
open Jvm.ClassFile
def u (s : String) : CpInfo := .utf8 (stringToUtf16 s)
/-- a pool by its gaps: so many unusable entries, then the entry; so many at the end -/
def gap : Nat → List CpInfo → List CpInfo
  | 0, r => r
  | n + 1, r => .unusable :: gap n r
def poolList (es : List (Nat × CpInfo)) (last : Nat) : List CpInfo := es.foldr (fun e r => gap e.1 (e.2 :: r)) (gap last [])
def pool (es : List (Nat × CpInfo)) (last : Nat) : Array CpInfo := ⟨poolList es last⟩
def fileOf (pool : Array CpInfo) (this : Nat) (attrs : Array Attribute := #[]) (ms : Array MethodInfo := #[]) (fl : Nat := 33) (sup : Nat := 0) (ifs : Array Nat := #[]) (fds : Array FieldInfo := #[]) : ClassFile where
  minorVersion := 0
  majorVersion := 65
  constantPool := pool
  accessFlags := fl
  thisClass := this
  superClass := sup
  interfaces := ifs
  fields := fds
  methods := ms
  attributes := attrs
def plain (name : String) (sup : Option ClassId) : Class where
  name := name
  kind := .ordinary
  loader := none
  accessFlags := 33
  super := sup
  interfaces := #[]
  cf := none
  fields := #[]
  methods := #[]
  instanceTypes := #[]
  staticTypes := #[]
  resolved := #[]
  callSites := []
  init := .initialized
  statics := none
  mirror := none

def pool0 : Array CpInfo := pool [(5, u "<init>"), (0, u "()V"), (1, .class_ 10), (1, u "java/lang/Object")] 113

def k0m0 : Method := { name := "<init>", desc := "()V", sig := { parameters := [], returnType := none }, accessFlags := 1, code := none }
/-- java/lang/Object -/
def k0 : Class := { plain "java/lang/Object" none with
  accessFlags := 33
  interfaces := #[]
  cf := some (fileOf pool0 8 #[] #[{ accessFlags := 1, nameIndex := 5, descriptorIndex := 6, attributes := #[] }] 33 0 #[] #[])
  fields := #[]
  methods := #[k0m0]
  instanceTypes := #[]
  staticTypes := #[]
  resolved := Array.replicate 124 none
  statics := none }

def pool1 : Array CpInfo := pool [(2, .class_ 4), (1, u "java/lang/Object"), (0, u "<init>"), (0, u "()V"), (0, .fieldref 8 9), (0, .class_ 10), (0, .nameAndType 11 12), (0, u "com/example/diatom/diatom/model/RefOperator$End"), (0, u "TARGET"), (0, u "Lcom/example/diatom/diatom/model/RefOperator$End;"), (0, .fieldref 8 14), (0, .nameAndType 15 12), (0, u "SOURCE"), (0, .methodref 8 17), (0, .nameAndType 18 19), (0, u "other"), (0, u "()Lcom/example/diatom/diatom/model/RefOperator$End;"), (0, .class_ 21), (0, u "com/example/diatom/diatom/model/EndOtherPinLaw"), (2, u "law"), (0, u "(I)Z")] 7

def k1m0 : Method := { name := "<init>", desc := "()V", sig := { parameters := [], returnType := none }, accessFlags := 2, code := none }
def k1c1 : Code := { maxStack := 2, maxLocals := 5, code := code, exceptionTable := #[], attributes := #[] }
def k1m1 : Method := { name := "law", desc := "(I)Z", sig := { parameters := [.int], returnType := some .boolean }, accessFlags := 9, code := some k1c1 }
/-- com/example/diatom/diatom/model/EndOtherPinLaw -/
def k1 : Class := { plain "com/example/diatom/diatom/model/EndOtherPinLaw" (some 0) with
  accessFlags := 49
  interfaces := #[]
  cf := some (fileOf pool1 20 #[] #[{ accessFlags := 2, nameIndex := 5, descriptorIndex := 6, attributes := #[] }, { accessFlags := 9, nameIndex := 24, descriptorIndex := 25, attributes := #[] }] 49 2 #[] #[])
  fields := #[]
  methods := #[k1m0, k1m1]
  instanceTypes := #[]
  staticTypes := #[]
  resolved := Array.replicate 33 none
  statics := none }

def pool2 : Array CpInfo := pool [(1, .class_ 2), (0, u "java/lang/constant/Constable"), (0, .class_ 4), (0, u "java/lang/Object")] 6

/-- java/lang/constant/Constable -/
def k2 : Class := { plain "java/lang/constant/Constable" (some 0) with
  accessFlags := 1537
  interfaces := #[]
  cf := some (fileOf pool2 1 #[] #[] 1537 3 #[] #[])
  fields := #[]
  methods := #[]
  instanceTypes := #[]
  staticTypes := #[]
  resolved := Array.replicate 11 none
  statics := none }

def pool3 : Array CpInfo := pool [(1, .class_ 2), (0, u "java/lang/Comparable"), (0, .class_ 4), (0, u "java/lang/Object")] 7

/-- java/lang/Comparable -/
def k3 : Class := { plain "java/lang/Comparable" (some 0) with
  accessFlags := 1537
  interfaces := #[]
  cf := some (fileOf pool3 1 #[] #[] 1537 3 #[] #[])
  fields := #[]
  methods := #[]
  instanceTypes := #[]
  staticTypes := #[]
  resolved := Array.replicate 12 none
  statics := none }

def pool4 : Array CpInfo := pool [(1, .class_ 2), (0, u "java/io/Serializable"), (0, .class_ 4), (0, u "java/lang/Object")] 2

/-- java/io/Serializable -/
def k4 : Class := { plain "java/io/Serializable" (some 0) with
  accessFlags := 1537
  interfaces := #[]
  cf := some (fileOf pool4 1 #[] #[] 1537 3 #[] #[])
  fields := #[]
  methods := #[]
  instanceTypes := #[]
  staticTypes := #[]
  resolved := Array.replicate 7 none
  statics := none }

def pool5 : Array CpInfo := pool [(2, .class_ 4), (1, u "java/lang/Enum"), (0, u "name"), (0, u "Ljava/lang/String;"), (2, u "ordinal"), (0, u "I"), (1, .class_ 14), (1, u "java/lang/Object"), (4, u "hash"), (86, .class_ 108), (1, u "java/lang/Enum$EnumDesc"), (2, .class_ 112), (0, u "java/lang/constant/Constable"), (0, .class_ 114), (0, u "java/lang/Comparable"), (0, .class_ 116), (0, u "java/io/Serializable")] 87

/-- java/lang/Enum -/
def k5 : Class := { plain "java/lang/Enum" (some 0) with
  accessFlags := 1057
  interfaces := #[2, 3, 4]
  cf := some (fileOf pool5 2 #[.nestMembers #[106]] #[] 1057 12 #[111, 113, 115] #[{ accessFlags := 18, nameIndex := 5, descriptorIndex := 6, attributes := #[] }, { accessFlags := 18, nameIndex := 9, descriptorIndex := 10, attributes := #[] }, { accessFlags := 2, nameIndex := 19, descriptorIndex := 10, attributes := #[] }])
  fields := #[{ name := "name", type := (.object "java/lang/String"), accessFlags := 18, slot := 0, constantValue := 0 }, { name := "ordinal", type := .int, accessFlags := 18, slot := 1, constantValue := 0 }, { name := "hash", type := .int, accessFlags := 2, slot := 2, constantValue := 0 }]
  methods := #[]
  instanceTypes := #[(.object "java/lang/String"), .int, .int]
  staticTypes := #[]
  resolved := Array.replicate 204 none
  statics := none }

def pool6 : Array CpInfo := pool [(1, .class_ 2), (0, u "com/example/diatom/diatom/model/RefOperator$End"), (0, .fieldref 1 4), (0, .nameAndType 5 6), (0, u "SOURCE"), (0, u "Lcom/example/diatom/diatom/model/RefOperator$End;"), (0, .fieldref 1 8), (0, .nameAndType 9 6), (0, u "TARGET"), (2, u "$VALUES"), (0, u "[Lcom/example/diatom/diatom/model/RefOperator$End;"), (6, .class_ 22), (1, u "java/lang/Enum"), (20, u "other"), (0, u "()Lcom/example/diatom/diatom/model/RefOperator$End;"), (6, .class_ 52), (0, u "com/example/diatom/diatom/model/RefOperator")] 2

def k6c0 : Code := { maxStack := 2, maxLocals := 1, code := prog_67_method_4_code, exceptionTable := #[], attributes := #[] }
def k6m0 : Method := { name := "other", desc := "()Lcom/example/diatom/diatom/model/RefOperator$End;", sig := { parameters := [], returnType := some (.object "com/example/diatom/diatom/model/RefOperator$End") }, accessFlags := 1, code := some k6c0 }
/-- com/example/diatom/diatom/model/RefOperator$End -/
def k6 : Class := { plain "com/example/diatom/diatom/model/RefOperator$End" (some 5) with
  accessFlags := 16433
  interfaces := #[]
  cf := some (fileOf pool6 1 #[.nestHost 51] #[{ accessFlags := 1, nameIndex := 43, descriptorIndex := 44, attributes := #[] }] 16433 20 #[] #[{ accessFlags := 16409, nameIndex := 5, descriptorIndex := 6, attributes := #[] }, { accessFlags := 16409, nameIndex := 9, descriptorIndex := 6, attributes := #[] }, { accessFlags := 4122, nameIndex := 12, descriptorIndex := 13, attributes := #[] }])
  fields := #[{ name := "SOURCE", type := (.object "com/example/diatom/diatom/model/RefOperator$End"), accessFlags := 16409, slot := 0, constantValue := 0 }, { name := "TARGET", type := (.object "com/example/diatom/diatom/model/RefOperator$End"), accessFlags := 16409, slot := 1, constantValue := 0 }, { name := "$VALUES", type := (.array (.object "com/example/diatom/diatom/model/RefOperator$End")), accessFlags := 4122, slot := 2, constantValue := 0 }]
  methods := #[k6m0]
  instanceTypes := #[(.object "java/lang/String"), .int, .int]
  staticTypes := #[(.object "com/example/diatom/diatom/model/RefOperator$End"), (.object "com/example/diatom/diatom/model/RefOperator$End"), (.array (.object "com/example/diatom/diatom/model/RefOperator$End"))]
  resolved := Array.replicate 55 none
  statics := some 0 }

def pool7 : Array CpInfo := pool [(1, u "java/lang/Cloneable"), (0, .class_ 1), (0, u "java/lang/Object"), (0, .class_ 3)] 3

/-- java/lang/Cloneable -/
def k7 : Class := { plain "java/lang/Cloneable" (some 0) with
  accessFlags := 1537
  interfaces := #[]
  cf := some (fileOf pool7 2 #[] #[] 1537 4 #[] #[])
  fields := #[]
  methods := #[]
  instanceTypes := #[]
  staticTypes := #[]
  resolved := Array.replicate 8 none
  statics := none }

/-- the primitive byte -/
def k8 : Class := { plain "byte" none with kind := .primitive 'B', accessFlags := 0x411 }
/-- [B -/
def k9 : Class := { plain "[B" (some 0) with kind := .array 8 .byte, interfaces := #[7, 4], accessFlags := 1041 }

def heap : Heap := #[{ cls := 6, slots := #[.ref 1, .ref 2, .null], vm := .statics 6 },
  { cls := 6, slots := #[.null, .int 0, .int 0], vm := .none },
  { cls := 6, slots := #[.null, .int 1, .int 0], vm := .none }]
def classes : Array Class := #[k0, k1, k2, k3, k4, k5, k6, k7, k8, k9]
def interned : List (Array UInt16 × Addr) := []
def slotsUsed : Nat := 9
def theMethod : MethodId := ⟨1, 1⟩
def args0 : Array Value := #[.int 5]
def aboutOver (below : List Frame) : State where
  vm := { classes := classes, interned := interned.toArray }
  heap := heap
  slotsUsed := slotsUsed
  threads := #[{ frames := .invoking theMethod args0 :: below }]
def below0 : List Frame := [.native { method := ⟨0, 0⟩, args := #[] }]
def about1 : State := aboutOver below0
def p0 : Program := .bare "" "" ""
def e0 : Env := launch0.env 0 0 0
theorem w_frames : about1.frames = Frame.invoking theMethod args0 :: below0 := rfl
set_option maxRecDepth 65536 in
theorem w_args : argsFit about1.vm theMethod args0 = true := by decide +kernel
set_option maxRecDepth 65536 in
theorem w_heap : heapFits about1 = true := by decide +kernel
set_option maxRecDepth 65536 in
theorem w_runnable : about1.curStatus? = some .runnable := by decide +kernel
set_option maxRecDepth 65536 in
theorem w_alone : about1.alone = true := by decide +kernel
set_option maxRecDepth 65536 in
theorem w_named : about1.methodNamed? x = some theMethod := by decide +kernel
set_option maxRecDepth 65536 in
theorem w_hears : about1.hears theMethod below0 = true := by decide +kernel
set_option maxRecDepth 65536 in
theorem w_ripe : about1.ripe theMethod args0 below0 = true := by decide +kernel
theorem w_running : about1.status = .running := rfl
set_option maxRecDepth 65536 in
theorem w_room : about1.hasRoom e0.platform room_1 = true :=
  launch0.hasRoom_least _ room_1 (by decide +kernel) (by decide +kernel) (by decide +kernel) (by decide +kernel) (by decide +kernel) (by decide +kernel)
theorem allAtoms_all (ts : List Jvm.Cond) (a : Array Jvm.Value) (st : Jvm.State) : (allAtoms ts).before a st = ts.all (fun c => c.before a st) := by
  induction ts with
  | nil => rfl
  | cons c t ih =>
    show (Jvm.Cond.and c (allAtoms t)).before a st = _
    rw [Jvm.Cond.before_and, ih, List.all_cons]
def words1 : List Jvm.Cond := Jvm.Cond.code x code maxLocals ret :: tables_1
/-- a 'code' word, met by the world's own term for the bytes: nothing is compared byte by byte -/
theorem code_word {y : MethodName} {bytes : ByteArray} {mx : Nat} {rt : Option FieldType} {a : Array Value} {s : State} {m : MethodId} {meth : Method} {c : Code} (h1 : s.methodNamed? y = some m) (h2 : s.vm.method? m = some meth) (h3 : meth.code = some c) (h4 : c.code = bytes)
    (h5 : (c.maxLocals == mx && c.exceptionTable.isEmpty && decide (c.maxStack ≤ mostOperands) && decide (meth.sig.returnType = rt) && !meth.locks && decide (parseMethodDescriptor y.desc = some meth.sig)) = true) : (Jvm.Cond.code y bytes mx rt).before a s = true := by
  simp only [Bool.and_eq_true, beq_iff_eq, Bool.not_eq_true', decide_eq_true_eq] at h5
  obtain ⟨⟨⟨⟨⟨g1, g2⟩, g3⟩, g4⟩, g5⟩, g6⟩ := h5
  simp [Cond.before, Cond.holds, Cond.value, h1, h2, h3, h4, g1, g2, g3, g4, g5, g6]
def isCode : Jvm.Cond → Bool
  | .code _ _ _ _ => true
  | _ => false
theorem all_split {L : List Jvm.Cond} {P : Jvm.Cond → Bool} (h1 : L.all (fun c => isCode c || P c) = true) (h2 : ∀ c ∈ L.filter isCode, P c = true) : L.all P = true := by
  refine List.all_eq_true.mpr fun c hc => ?_
  have h := List.all_eq_true.mp h1 c hc
  rcases Bool.eq_false_or_eq_true (isCode c) with hi | hi
  · exact h2 c (List.mem_filter.mpr ⟨hc, hi⟩)
  · simpa [hi] using h
set_option maxRecDepth 65536 in
theorem w_c0 : (Jvm.Cond.code x code maxLocals ret).before args0 about1 = true := code_word (m := ⟨1, 1⟩) (meth := k1m1) (c := k1c1) (by decide +kernel) rfl rfl rfl (by decide +kernel)
set_option maxRecDepth 65536 in
theorem w_c1 : (Jvm.Cond.code ({ cls := "com/example/diatom/diatom/model/RefOperator$End", name := "other", desc := "()Lcom/example/diatom/diatom/model/RefOperator$End;" } : Jvm.MethodName) prog_67_method_4_code (1 : Nat) (Option.some (Jvm.ClassFile.FieldType.object "com/example/diatom/diatom/model/RefOperator$End"))).before args0 about1 = true := code_word (m := ⟨6, 0⟩) (meth := k6m0) (c := k6c0) (by decide +kernel) rfl rfl rfl (by decide +kernel)
def codes1 : List Jvm.Cond := [Jvm.Cond.code x code maxLocals ret, Jvm.Cond.code ({ cls := "com/example/diatom/diatom/model/RefOperator$End", name := "other", desc := "()Lcom/example/diatom/diatom/model/RefOperator$End;" } : Jvm.MethodName) prog_67_method_4_code (1 : Nat) (Option.some (Jvm.ClassFile.FieldType.object "com/example/diatom/diatom/model/RefOperator$End"))]
set_option maxRecDepth 65536 in
theorem codes_eq : words1.filter isCode = codes1 := rfl
theorem w_codes : ∀ c ∈ words1.filter isCode, c.before args0 about1 = true := by
  rw [codes_eq]
  intro c hc
  simp only [codes1, List.mem_cons, List.not_mem_nil, or_false] at hc
  rcases hc with rfl | rfl
  · exact w_c0
  · exact w_c1
set_option maxRecDepth 65536 in
theorem w_t1 : words1.all (fun c => isCode c || c.before args0 about1) = true := by decide +kernel
theorem w_tables : (allAtoms (Jvm.Cond.code x code maxLocals ret :: tables_1)).before args0 about1 = true := by
  rw [allAtoms_all]
  show words1.all (fun c => c.before args0 about1) = true
  refine all_split ?_ w_codes
  rw [w_t1]
set_option maxRecDepth 65536 in
theorem w_case : (Jvm.Cond.and given_1 narrow_1).before args0 about1 = true := by decide +kernel
theorem w_applies : (headSpec (Jvm.Cond.code x code maxLocals ret :: tables_1) room_1).applies x e0.platform about1 = true :=
  (Spec.applies_iff w_frames).mpr ⟨w_running, w_runnable, w_alone, w_named, w_hears, w_ripe, w_room, w_tables⟩
theorem atStart : AtStart classFile x code maxLocals ret World_1 tables_1 room_1 Calls_1 rest_1 Pre_1 launch0 p0 e0 about1 theMethod args0 below0 :=
  ⟨lists_1, trivial, launch0.admits_env _ _ _, launch0.least_env, fairChoices_fair.cas, fairChoices_fair.clock, w_frames, w_args, w_heap, w_applies, trivial, trivial, w_case⟩
end start1
theorem witness_1 : WitnessClaimed_1 := ⟨start1.p0, start1.e0, start1.about1, start1.theMethod, start1.args0, start1.below0, start1.atStart⟩
end Jvm.Pilot.@@N@@
