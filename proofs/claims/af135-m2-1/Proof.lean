import JvmDerived
import JvmDerived.Pilot.@@N@@Statement
import JvmDerived.Pilot.@@N@@Code
set_option linter.unusedVariables false
set_option linter.unusedSimpArgs false
@@BLOCK:NumsL.lean.txt@@
@@BLOCK:Masks.lean.txt@@
namespace Jvm.RoadKit
open Sem ClassFile Op Lib Jvm.Stand Jvm.Free Jvm.LawKit
section New
variable {p : Program} {l : Launch} {e : Env} {R : Room} {s : State} {m : MethodId} {args : Array Value} {below : List Frame} {meth : Method} {c : Code} {T : State} {locs : List Loc} {cells slots : Nat}
theorem retI (X : Stand p l e R s m args below meth c T locs cells slots) (hx : p.tables.exec = Jvm.exec) {pc : Nat} {Ls : Array Slot} {z : Int32} {rest : List Value} (hret : meth.sig.returnType = some .int) (hd : decode c.code pc = .ok (.ireturn, 1)) {fs : List Frame}
    (hl : ∀ (f : JFrame) (acts : List Action), f.method = m → f.locked = none → f.entered = [] → (doReturn e (T.setTop f) acts (some (.int z))).1 = T.setFrames fs) : Steps p.tables e below (T.setTop (mkF m pc Ls (.int z :: rest))) (T.setFrames fs) := by
  have hm' : T.vm.method? m = some meth := X.method'
  have hn : narrow .int (.int z) = .int z := rfl
  show Steps p.tables e below (T.setTop { method := m, pc := pc, locals := Ls, stack := _ :: rest, locked := none }) _
  jvm_step X.here [X.here.top, hx, hd, hm', hret, hn]
  first | (intro acts; rw [hl _ acts rfl rfl rfl]) | rw [hl _ _ rfl rfl rfl]
  exact Steps.refl _
end New
end Jvm.RoadKit
namespace Jvm.Pilot.@@N@@
open Jvm Jvm.ClassFile Sem Op Lib Jvm.Free Jvm.Stand Jvm.LawKit Jvm.RoadKit Bundle Jvm.Pilot.@@N@@.Jvm.D
theorem own_lrem (x y : Int64) : x - (x / y) * y = x % y := Int64.toInt_inj.mp (by rw [Jvm.Kit.i64_rem, Int64.toInt_mod])
theorem lremM {p : Program} {l : Launch} {e : Env} {R : Room} {s : State} {m : MethodId} {args : Array Value} {below : List Frame} {meth : Method} {c : Code} {T : State} {locs : List Loc} {cells slots : Nat} {g : JFrame} {target : State} (X : Stand p l e R s m args below meth c T locs cells slots) (hx : p.tables.exec = Jvm.exec) (hg : g.method = m) {x y : Int64} {rest : List Value} (hd : decode c.code g.pc = .ok (.lrem, 1)) (hs : g.stack = .long y :: .long x :: rest) (hy : y ≠ 0)
    (hr : Steps p.tables e below (T.setTop { g with pc := g.pc + 1, stack := .long (x % y) :: rest }) target) : Steps p.tables e below (T.setTop g) target := by
  exact XS.lrem X.here hx hg hd hs hy (by rw [own_lrem]; exact hr)
theorem own_eqI {args : Array Value} {s : State} {t : Jvm.Term} {n : Int32} (h : (Jvm.Cond.eq t (.int n)).value args s none s [] = some true) : t.eval args s none [] s = some (.int n) := by
  obtain ⟨x, y, hx, hy, k1, k2⟩ := cmp_v (Or.inl h)
  obtain rfl : y = .int n := Option.some.inj (hy.symm.trans (Term.int_eval n))
  obtain ⟨z, rfl⟩ := k2
  have q : z = n := by simpa [Jvm.Cond.value, hx, hy] using h
  rw [hx, q]


def World (Z : State) (h : Heap) (w_FIELD w_ALTERNATIVE w_ARRAY_INDEX w_ARRAY_ITER w_MAP_KEY w_MAP_ITER : Addr) : Prop :=
  Sta Z h "com/example/diatom/diatom/model/Path$Kind" "FIELD" "Lcom/example/diatom/diatom/model/Path$Kind;" (.ref w_FIELD) ∧
  Sta Z h "com/example/diatom/diatom/model/Path$Kind" "ALTERNATIVE" "Lcom/example/diatom/diatom/model/Path$Kind;" (.ref w_ALTERNATIVE) ∧
  Sta Z h "com/example/diatom/diatom/model/Path$Kind" "ARRAY_INDEX" "Lcom/example/diatom/diatom/model/Path$Kind;" (.ref w_ARRAY_INDEX) ∧
  Sta Z h "com/example/diatom/diatom/model/Path$Kind" "ARRAY_ITER" "Lcom/example/diatom/diatom/model/Path$Kind;" (.ref w_ARRAY_ITER) ∧
  Sta Z h "com/example/diatom/diatom/model/Path$Kind" "MAP_KEY" "Lcom/example/diatom/diatom/model/Path$Kind;" (.ref w_MAP_KEY) ∧
  Sta Z h "com/example/diatom/diatom/model/Path$Kind" "MAP_ITER" "Lcom/example/diatom/diatom/model/Path$Kind;" (.ref w_MAP_ITER) ∧
  Exa Z h w_FIELD "com/example/diatom/diatom/model/Path$Kind" ∧
  Exa Z h w_ALTERNATIVE "com/example/diatom/diatom/model/Path$Kind" ∧
  Exa Z h w_ARRAY_INDEX "com/example/diatom/diatom/model/Path$Kind" ∧
  Exa Z h w_ARRAY_ITER "com/example/diatom/diatom/model/Path$Kind" ∧
  Exa Z h w_MAP_KEY "com/example/diatom/diatom/model/Path$Kind" ∧
  Exa Z h w_MAP_ITER "com/example/diatom/diatom/model/Path$Kind" ∧
  Fld Z h w_FIELD "java/lang/Enum" "ordinal" "I" (.int (0 : Int32)) ∧
  Fld Z h w_ALTERNATIVE "java/lang/Enum" "ordinal" "I" (.int (1 : Int32)) ∧
  Fld Z h w_ARRAY_INDEX "java/lang/Enum" "ordinal" "I" (.int (2 : Int32)) ∧
  Fld Z h w_ARRAY_ITER "java/lang/Enum" "ordinal" "I" (.int (3 : Int32)) ∧
  Fld Z h w_MAP_KEY "java/lang/Enum" "ordinal" "I" (.int (4 : Int32)) ∧
  Fld Z h w_MAP_ITER "java/lang/Enum" "ordinal" "I" (.int (5 : Int32))
theorem World.ext {Z : State} {h h' : Heap} {w_FIELD w_ALTERNATIVE w_ARRAY_INDEX w_ARRAY_ITER w_MAP_KEY w_MAP_ITER : Addr} (E : Ext h h') (W : World Z h w_FIELD w_ALTERNATIVE w_ARRAY_INDEX w_ARRAY_ITER w_MAP_KEY w_MAP_ITER) : World Z h' w_FIELD w_ALTERNATIVE w_ARRAY_INDEX w_ARRAY_ITER w_MAP_KEY w_MAP_ITER :=
  ⟨Sta.ext E W.1, Sta.ext E W.2.1, Sta.ext E W.2.2.1, Sta.ext E W.2.2.2.1, Sta.ext E W.2.2.2.2.1, Sta.ext E W.2.2.2.2.2.1, Exa.ext E W.2.2.2.2.2.2.1, Exa.ext E W.2.2.2.2.2.2.2.1, Exa.ext E W.2.2.2.2.2.2.2.2.1, Exa.ext E W.2.2.2.2.2.2.2.2.2.1, Exa.ext E W.2.2.2.2.2.2.2.2.2.2.1, Exa.ext E W.2.2.2.2.2.2.2.2.2.2.2.1, Fld.ext E W.2.2.2.2.2.2.2.2.2.2.2.2.1, Fld.ext E W.2.2.2.2.2.2.2.2.2.2.2.2.2.1, Fld.ext E W.2.2.2.2.2.2.2.2.2.2.2.2.2.2.1, Fld.ext E W.2.2.2.2.2.2.2.2.2.2.2.2.2.2.2.1, Fld.ext E W.2.2.2.2.2.2.2.2.2.2.2.2.2.2.2.2.1, Fld.ext E W.2.2.2.2.2.2.2.2.2.2.2.2.2.2.2.2.2⟩
theorem d1_0 : decode prog_52_method_5_code 0 = .ok (.aload_n 0, 1) := by decide +kernel
theorem d1_1 : decode prog_52_method_5_code 1 = .ok (.getstatic 3, 3) := by decide +kernel
theorem d1_4 : decode prog_52_method_5_code 4 = .ok (.if_acmp .eq 17, 3) := by decide +kernel
theorem d1_7 : decode prog_52_method_5_code 7 = .ok (.aload_n 0, 1) := by decide +kernel
theorem d1_8 : decode prog_52_method_5_code 8 = .ok (.getstatic 7, 3) := by decide +kernel
theorem d1_11 : decode prog_52_method_5_code 11 = .ok (.if_acmp .eq 10, 3) := by decide +kernel
theorem d1_14 : decode prog_52_method_5_code 14 = .ok (.aload_n 0, 1) := by decide +kernel
theorem d1_15 : decode prog_52_method_5_code 15 = .ok (.getstatic 16, 3) := by decide +kernel
theorem d1_18 : decode prog_52_method_5_code 18 = .ok (.if_acmp .ne 7, 3) := by decide +kernel
theorem d1_21 : decode prog_52_method_5_code 21 = .ok (.iconst 1, 1) := by decide +kernel
theorem d1_22 : decode prog_52_method_5_code 22 = .ok (.goto 4, 3) := by decide +kernel
theorem d1_25 : decode prog_52_method_5_code 25 = .ok (.iconst 0, 1) := by decide +kernel
theorem d1_26 : decode prog_52_method_5_code 26 = .ok (.ireturn, 1) := by decide +kernel
theorem pn_0 : plainName "com/example/diatom/diatom/model/Path$Kind" = true := by first | (simp [plainName, overriddenIn]; done) | decide +kernel
theorem ef_1 (m : MethodId) (x1_0 : Addr) : entryFrame m #[(.ref x1_0)] 1 = mkF m 0 #[.val (.ref x1_0)] [] := by first | (simp [entryFrame, mkF, argsToLocals, Value.category]; done) | rfl
def f1 (x1_0 : Addr) (w_FIELD w_ALTERNATIVE w_ARRAY_INDEX w_ARRAY_ITER w_MAP_KEY w_MAP_ITER : Addr) : Int32 := if x1_0 = w_FIELD then (1 : Int32) else if x1_0 = w_ALTERNATIVE then (1 : Int32) else if x1_0 = w_MAP_KEY then (1 : Int32) else (0 : Int32)
def Q1 (Z : State) (x1_0 : Addr) (w_FIELD w_ALTERNATIVE w_ARRAY_INDEX w_ARRAY_ITER w_MAP_KEY w_MAP_ITER : Addr) (h0 : Heap) (n0 : Nat) (v : Option Value) (h : Heap) (L : List Loc) : Prop := v = some (.int (f1 x1_0 w_FIELD w_ALTERNATIVE w_ARRAY_INDEX w_ARRAY_ITER w_MAP_KEY w_MAP_ITER)) ∧ Fr n0 L ∧ h = h0
set_option maxRecDepth 65536 in
set_option maxHeartbeats 40000000 in
theorem rm1 (l : Launch) (Z : State) (a0 : Array Value) (hw : ∀ d ∈ tables_1, d.before a0 Z = true) (ws : List Jvm.Cond) (x1_0 : Addr) (w_FIELD w_ALTERNATIVE w_ARRAY_INDEX w_ARRAY_ITER w_MAP_KEY w_MAP_ITER : Addr) (h0 : Heap) (n0 : Nat) (Z0 : n0 ≤ h0.size) (W : World Z h0 w_FIELD w_ALTERNATIVE w_ARRAY_INDEX w_ARRAY_ITER w_MAP_KEY w_MAP_ITER) :
    MetFree l (⟨"com/example/diatom/diatom/model/Path$Kind", "isNamed", "()Z"⟩ : MethodName) (head1 (Jvm.Cond.code (⟨"com/example/diatom/diatom/model/Path$Kind", "isNamed", "()Z"⟩ : MethodName) prog_52_method_5_code 1 (some .boolean) :: ws) ({ frames := 0, cells := 0, slots := 0, locals := 0 } : Room)) (fun a U => a = #[(.ref x1_0)] ∧ Z.Warmed39 U.vm ∧ U.heap = h0) (fun _ _ _ _ _ => True) (fun _ U o U' => ∃ v L, o = .returned v ∧ Q1 Z x1_0 w_FIELD w_ALTERNATIVE w_ARRAY_INDEX w_ARRAY_ITER w_MAP_KEY w_MAP_ITER h0 n0 v U'.heap L ∧ FrameEnd U o U' L ({ frames := 0, cells := 0, slots := 0, locals := 0 } : Room).cells ({ frames := 0, cells := 0, slots := 0, locals := 0 } : Room).slots) := by
  refine MetFree.of_bodySF (plainFor_of_name pn_0) hisR ?_
  intro p e s m args below meth c s₁ Bd hml0 hP hK
  obtain ⟨rfl, hZ, hh⟩ := hP
  have hx := Bd.exec
  have hby := Bd.bytes
  have hml : c.maxLocals = 1 := hml0
  have hown : s.vm.findClass "com/example/diatom/diatom/model/Path$Kind" = some m.cls := findClass_of_methodNamed Bd.named
  have hnm := (name_of_methodNamed Bd.named Bd.method).1
  have X0 : Stand p l e ({ frames := 0, cells := 0, slots := 0, locals := 0 } : Room) s m #[(.ref x1_0)] below meth c s₁ [] 0 0 := Stand.of_body Bd
  have e0 : s₁.heap = h0 := by rw [← hh, Bd.state]; rfl
  have N0 := Fr.nil n0
  have pre0 : ∀ t, Steps p.tables e below (s₁.setTop (mkF m 0 #[.val (.ref x1_0)] [])) t → Steps p.tables e below (s₁.setTop (entryFrame m #[(.ref x1_0)] 1)) t := fun t k => castTop (ef_1 m x1_0) k
  obtain ⟨T1, X1, e1, st1⟩ := getS2 X0 hx hZ hown (host := "") (Or.inl (hw _ (List.mem_of_getElem? (i := 9) rfl))) Via.refl e0 (W.1) (g := (mkF m 1 #[.val (.ref x1_0)] [(.ref x1_0)])) rfl (hb hby d1_1)
  have sg2 : ∀ t, Steps p.tables e below (T1.setTop (mkF m 4 #[.val (.ref x1_0)] [(.ref w_FIELD), (.ref x1_0)])) t → Steps p.tables e below (s₁.setTop (mkF m 0 #[.val (.ref x1_0)] [])) t := fun t kt => by
    show Steps p.tables e below (s₁.setTop (mkF m 0 #[.val (.ref x1_0)] [])) _
    refine XS.aloadN X0.here hx rfl (hb hby d1_0) rfl rfl ?_
    show Steps p.tables e below (s₁.setTop (mkF m 1 #[.val (.ref x1_0)] [(.ref x1_0)])) _
    refine st1 _ ?_
    exact kt
  by_cases hc4_3 : x1_0 = w_FIELD
  · obtain ⟨fs, hr, hrun, hended, hW, hsame⟩ := X1.leave (v := some (.int (1 : Int32))) (fun h => by rw [Bd.returns] at h; cases h)
    refine ⟨_, _, pre0 _ (sg2 _ ?_), hrun, hended, _, _, rfl, ?_, ⟨_, rfl⟩, hW, hsame.mono (by decide) (by decide)⟩
    · show Steps p.tables e below (T1.setTop (mkF m 4 #[.val (.ref x1_0)] [(.ref w_FIELD), (.ref x1_0)])) _
      refine Jvm.RoadKit.acmp (g := (mkF m 4 #[.val (.ref x1_0)] [(.ref w_FIELD), (.ref x1_0)])) X1 hx rfl rfl rfl (pc0 := 4) (pc' := 21) (same := true) rfl (hb hby d1_4) rfl (decide_eq_true (congrArg Value.ref hc4_3)) (by decide) (by decide) ?_
      show Steps p.tables e below (T1.setTop (mkF m 21 #[.val (.ref x1_0)] [])) _
      refine XS.iconst X1.here hx rfl (hb hby d1_21) ?_
      show Steps p.tables e below (T1.setTop (mkF m 22 #[.val (.ref x1_0)] [(.int (1 : Int32))])) _
      refine XS.goto X1.here hx rfl (pc0 := 22) (pc' := 26) rfl (hb hby d1_22) (by decide) (by decide) ?_
      show Steps p.tables e below (T1.setTop (mkF m 26 #[.val (.ref x1_0)] [(.int (1 : Int32))])) _
      exact retN X1 hx (t := .boolean) Bd.returns (by simp) (hb hby d1_26) hr
    · exact ⟨congrArg (fun z => some (Value.int z)) (show (1 : Int32) = f1 x1_0 w_FIELD w_ALTERNATIVE w_ARRAY_INDEX w_ARRAY_ITER w_MAP_KEY w_MAP_ITER from by unfold f1; rw [if_pos hc4_3]), N0, e1⟩
  · obtain ⟨T4, X4, e4, st4⟩ := getS2 X1 hx hZ hown (host := "") (Or.inl (hw _ (List.mem_of_getElem? (i := 12) rfl))) Via.refl e1 (W.2.1) (g := (mkF m 8 #[.val (.ref x1_0)] [(.ref x1_0)])) rfl (hb hby d1_8)
    have sg5 : ∀ t, Steps p.tables e below (T4.setTop (mkF m 11 #[.val (.ref x1_0)] [(.ref w_ALTERNATIVE), (.ref x1_0)])) t → Steps p.tables e below (T1.setTop (mkF m 4 #[.val (.ref x1_0)] [(.ref w_FIELD), (.ref x1_0)])) t := fun t kt => by
      show Steps p.tables e below (T1.setTop (mkF m 4 #[.val (.ref x1_0)] [(.ref w_FIELD), (.ref x1_0)])) _
      refine Jvm.RoadKit.acmp (g := (mkF m 4 #[.val (.ref x1_0)] [(.ref w_FIELD), (.ref x1_0)])) X1 hx rfl rfl rfl (pc0 := 4) (pc' := 7) (same := false) rfl (hb hby d1_4) rfl (decide_eq_false fun q => hc4_3 (Value.ref.inj q)) (by decide) (by decide) ?_
      show Steps p.tables e below (T1.setTop (mkF m 7 #[.val (.ref x1_0)] [])) _
      refine XS.aloadN X1.here hx rfl (hb hby d1_7) rfl rfl ?_
      show Steps p.tables e below (T1.setTop (mkF m 8 #[.val (.ref x1_0)] [(.ref x1_0)])) _
      refine st4 _ ?_
      exact kt
    by_cases hc11_6 : x1_0 = w_ALTERNATIVE
    · obtain ⟨fs, hr, hrun, hended, hW, hsame⟩ := X4.leave (v := some (.int (1 : Int32))) (fun h => by rw [Bd.returns] at h; cases h)
      refine ⟨_, _, pre0 _ (sg2 _ (sg5 _ ?_)), hrun, hended, _, _, rfl, ?_, ⟨_, rfl⟩, hW, hsame.mono (by decide) (by decide)⟩
      · show Steps p.tables e below (T4.setTop (mkF m 11 #[.val (.ref x1_0)] [(.ref w_ALTERNATIVE), (.ref x1_0)])) _
        refine Jvm.RoadKit.acmp (g := (mkF m 11 #[.val (.ref x1_0)] [(.ref w_ALTERNATIVE), (.ref x1_0)])) X4 hx rfl rfl rfl (pc0 := 11) (pc' := 21) (same := true) rfl (hb hby d1_11) rfl (decide_eq_true (congrArg Value.ref hc11_6)) (by decide) (by decide) ?_
        show Steps p.tables e below (T4.setTop (mkF m 21 #[.val (.ref x1_0)] [])) _
        refine XS.iconst X4.here hx rfl (hb hby d1_21) ?_
        show Steps p.tables e below (T4.setTop (mkF m 22 #[.val (.ref x1_0)] [(.int (1 : Int32))])) _
        refine XS.goto X4.here hx rfl (pc0 := 22) (pc' := 26) rfl (hb hby d1_22) (by decide) (by decide) ?_
        show Steps p.tables e below (T4.setTop (mkF m 26 #[.val (.ref x1_0)] [(.int (1 : Int32))])) _
        exact retN X4 hx (t := .boolean) Bd.returns (by simp) (hb hby d1_26) hr
      · exact ⟨congrArg (fun z => some (Value.int z)) (show (1 : Int32) = f1 x1_0 w_FIELD w_ALTERNATIVE w_ARRAY_INDEX w_ARRAY_ITER w_MAP_KEY w_MAP_ITER from by unfold f1; rw [if_neg hc4_3, if_pos hc11_6]), N0, e4⟩
    · obtain ⟨T7, X7, e7, st7⟩ := getS2 X4 hx hZ hown (host := "") (Or.inl (hw _ (List.mem_of_getElem? (i := 14) rfl))) Via.refl e4 (W.2.2.2.2.1) (g := (mkF m 15 #[.val (.ref x1_0)] [(.ref x1_0)])) rfl (hb hby d1_15)
      have sg8 : ∀ t, Steps p.tables e below (T7.setTop (mkF m 18 #[.val (.ref x1_0)] [(.ref w_MAP_KEY), (.ref x1_0)])) t → Steps p.tables e below (T4.setTop (mkF m 11 #[.val (.ref x1_0)] [(.ref w_ALTERNATIVE), (.ref x1_0)])) t := fun t kt => by
        show Steps p.tables e below (T4.setTop (mkF m 11 #[.val (.ref x1_0)] [(.ref w_ALTERNATIVE), (.ref x1_0)])) _
        refine Jvm.RoadKit.acmp (g := (mkF m 11 #[.val (.ref x1_0)] [(.ref w_ALTERNATIVE), (.ref x1_0)])) X4 hx rfl rfl rfl (pc0 := 11) (pc' := 14) (same := false) rfl (hb hby d1_11) rfl (decide_eq_false fun q => hc11_6 (Value.ref.inj q)) (by decide) (by decide) ?_
        show Steps p.tables e below (T4.setTop (mkF m 14 #[.val (.ref x1_0)] [])) _
        refine XS.aloadN X4.here hx rfl (hb hby d1_14) rfl rfl ?_
        show Steps p.tables e below (T4.setTop (mkF m 15 #[.val (.ref x1_0)] [(.ref x1_0)])) _
        refine st7 _ ?_
        exact kt
      by_cases hc18_9 : x1_0 = w_MAP_KEY
      · obtain ⟨fs, hr, hrun, hended, hW, hsame⟩ := X7.leave (v := some (.int (1 : Int32))) (fun h => by rw [Bd.returns] at h; cases h)
        refine ⟨_, _, pre0 _ (sg2 _ (sg5 _ (sg8 _ ?_))), hrun, hended, _, _, rfl, ?_, ⟨_, rfl⟩, hW, hsame.mono (by decide) (by decide)⟩
        · show Steps p.tables e below (T7.setTop (mkF m 18 #[.val (.ref x1_0)] [(.ref w_MAP_KEY), (.ref x1_0)])) _
          refine Jvm.RoadKit.acmp (g := (mkF m 18 #[.val (.ref x1_0)] [(.ref w_MAP_KEY), (.ref x1_0)])) X7 hx rfl rfl rfl (pc0 := 18) (pc' := 21) (same := true) rfl (hb hby d1_18) rfl (decide_eq_true (congrArg Value.ref hc18_9)) (by decide) (by decide) ?_
          show Steps p.tables e below (T7.setTop (mkF m 21 #[.val (.ref x1_0)] [])) _
          refine XS.iconst X7.here hx rfl (hb hby d1_21) ?_
          show Steps p.tables e below (T7.setTop (mkF m 22 #[.val (.ref x1_0)] [(.int (1 : Int32))])) _
          refine XS.goto X7.here hx rfl (pc0 := 22) (pc' := 26) rfl (hb hby d1_22) (by decide) (by decide) ?_
          show Steps p.tables e below (T7.setTop (mkF m 26 #[.val (.ref x1_0)] [(.int (1 : Int32))])) _
          exact retN X7 hx (t := .boolean) Bd.returns (by simp) (hb hby d1_26) hr
        · exact ⟨congrArg (fun z => some (Value.int z)) (show (1 : Int32) = f1 x1_0 w_FIELD w_ALTERNATIVE w_ARRAY_INDEX w_ARRAY_ITER w_MAP_KEY w_MAP_ITER from by unfold f1; rw [if_neg hc4_3, if_neg hc11_6, if_pos hc18_9]), N0, e7⟩
      · obtain ⟨fs, hr, hrun, hended, hW, hsame⟩ := X7.leave (v := some (.int (0 : Int32))) (fun h => by rw [Bd.returns] at h; cases h)
        refine ⟨_, _, pre0 _ (sg2 _ (sg5 _ (sg8 _ ?_))), hrun, hended, _, _, rfl, ?_, ⟨_, rfl⟩, hW, hsame.mono (by decide) (by decide)⟩
        · show Steps p.tables e below (T7.setTop (mkF m 18 #[.val (.ref x1_0)] [(.ref w_MAP_KEY), (.ref x1_0)])) _
          refine Jvm.RoadKit.acmp (g := (mkF m 18 #[.val (.ref x1_0)] [(.ref w_MAP_KEY), (.ref x1_0)])) X7 hx rfl rfl rfl (pc0 := 18) (pc' := 25) (same := false) rfl (hb hby d1_18) rfl (decide_eq_false fun q => hc18_9 (Value.ref.inj q)) (by decide) (by decide) ?_
          show Steps p.tables e below (T7.setTop (mkF m 25 #[.val (.ref x1_0)] [])) _
          refine XS.iconst X7.here hx rfl (hb hby d1_25) ?_
          show Steps p.tables e below (T7.setTop (mkF m 26 #[.val (.ref x1_0)] [(.int (0 : Int32))])) _
          exact retN X7 hx (t := .boolean) Bd.returns (by simp) (hb hby d1_26) hr
        · exact ⟨congrArg (fun z => some (Value.int z)) (show (0 : Int32) = f1 x1_0 w_FIELD w_ALTERNATIVE w_ARRAY_INDEX w_ARRAY_ITER w_MAP_KEY w_MAP_ITER from by unfold f1; rw [if_neg hc4_3, if_neg hc11_6, if_neg hc18_9]), N0, e7⟩
theorem pd_0 : parseMethodDescriptor "()Z" = some ⟨[], some .boolean⟩ := by decide +kernel
theorem pn_1 : plainName "com/example/diatom/diatom/model/KindIsNamedPinLaw" = true := by first | (simp [plainName, overriddenIn]; done) | decide +kernel
theorem ef_0 (m : MethodId) (x0_0 : Int32) : entryFrame m #[(.int x0_0)] maxLocals = mkF m 0 #[.val (.int x0_0), .unset, .unset, .unset] [] := by first | (simp [entryFrame, mkF, argsToLocals, Value.category, maxLocals]; done) | rfl
def f0 (x0_0 : Int32) (w_FIELD w_ALTERNATIVE w_ARRAY_INDEX w_ARRAY_ITER w_MAP_KEY w_MAP_ITER : Addr) : Int32 := if ((x0_0 &&& (2147483647 : Int32)) % (6 : Int32)) = (0 : Int32) then (1 : Int32) else if ((x0_0 &&& (2147483647 : Int32)) % (6 : Int32)) = (1 : Int32) then (1 : Int32) else if ((x0_0 &&& (2147483647 : Int32)) % (6 : Int32)) = (2 : Int32) then (1 : Int32) else if ((x0_0 &&& (2147483647 : Int32)) % (6 : Int32)) = (3 : Int32) then (1 : Int32) else if ((x0_0 &&& (2147483647 : Int32)) % (6 : Int32)) = (4 : Int32) then (1 : Int32) else (1 : Int32)
def Q0 (Z : State) (x0_0 : Int32) (w_FIELD w_ALTERNATIVE w_ARRAY_INDEX w_ARRAY_ITER w_MAP_KEY w_MAP_ITER : Addr) (h0 : Heap) (n0 : Nat) (v : Option Value) (h : Heap) (L : List Loc) : Prop := v = some (.int (f0 x0_0 w_FIELD w_ALTERNATIVE w_ARRAY_INDEX w_ARRAY_ITER w_MAP_KEY w_MAP_ITER)) ∧ Fr n0 L ∧ h = h0
set_option maxRecDepth 65536 in
set_option maxHeartbeats 40000000 in
theorem rm0 (l : Launch) (Z : State) (a0 : Array Value) (hw : ∀ d ∈ tables_1, d.before a0 Z = true) (ws : List Jvm.Cond) (x0_0 : Int32) (w_FIELD w_ALTERNATIVE w_ARRAY_INDEX w_ARRAY_ITER w_MAP_KEY w_MAP_ITER : Addr) (h0 : Heap) (n0 : Nat) (Z0 : n0 ≤ h0.size) (W : World Z h0 w_FIELD w_ALTERNATIVE w_ARRAY_INDEX w_ARRAY_ITER w_MAP_KEY w_MAP_ITER) :
    MetFree l x (head1 (Jvm.Cond.code x code maxLocals ret :: ws) room_1) (fun a U => a = #[(.int x0_0)] ∧ Z.Warmed39 U.vm ∧ U.heap = h0) (fun _ _ _ _ _ => True) (fun _ U o U' => ∃ v L, o = .returned v ∧ Q0 Z x0_0 w_FIELD w_ALTERNATIVE w_ARRAY_INDEX w_ARRAY_ITER w_MAP_KEY w_MAP_ITER h0 n0 v U'.heap L ∧ FrameEnd U o U' L room_1.cells room_1.slots) := by
  refine MetFree.of_bodySF (plainFor_of_name pn_1) hisR ?_
  intro p e s m args below meth c s₁ Bd hml0 hP hK
  obtain ⟨rfl, hZ, hh⟩ := hP
  have hx := Bd.exec
  have hby := Bd.bytes
  have hml : c.maxLocals = 4 := hml0
  have hown : s.vm.findClass "com/example/diatom/diatom/model/KindIsNamedPinLaw" = some m.cls := findClass_of_methodNamed Bd.named
  have hnm := (name_of_methodNamed Bd.named Bd.method).1
  have X0 : Stand p l e room_1 s m #[(.int x0_0)] below meth c s₁ [] 0 0 := Stand.of_body Bd
  have e0 : s₁.heap = h0 := by rw [← hh, Bd.state]; rfl
  have N0 := Fr.nil n0
  have pre0 : ∀ t, Steps p.tables e below (s₁.setTop (mkF m 0 #[.val (.int x0_0), .unset, .unset, .unset] [])) t → Steps p.tables e below (s₁.setTop (entryFrame m #[(.int x0_0)] maxLocals)) t := fun t k => castTop (ef_0 m x0_0) k
  have sg1 : ∀ t, Steps p.tables e below (s₁.setTop (mkF m 9 #[.val (.int x0_0), .val (.int ((x0_0 &&& (2147483647 : Int32)) % (6 : Int32))), .unset, .unset] [(.int ((x0_0 &&& (2147483647 : Int32)) % (6 : Int32)))])) t → Steps p.tables e below (s₁.setTop (mkF m 0 #[.val (.int x0_0), .unset, .unset, .unset] [])) t := fun t kt => by
    show Steps p.tables e below (s₁.setTop (mkF m 0 #[.val (.int x0_0), .unset, .unset, .unset] [])) _
    refine XS.iloadN X0.here hx rfl (hb hby at_0) rfl ?_
    show Steps p.tables e below (s₁.setTop (mkF m 1 #[.val (.int x0_0), .unset, .unset, .unset] [(.int x0_0)])) _
    refine X0.ldcInt hx hown (mvT hZ (hw _ (List.mem_of_getElem? (i := 0) rfl))) (g := (mkF m 1 #[.val (.int x0_0), .unset, .unset, .unset] [(.int x0_0)])) rfl (hb hby at_1) _ ?_
    show Steps p.tables e below (s₁.setTop (mkF m 3 #[.val (.int x0_0), .unset, .unset, .unset] [(.int (2147483647 : Int32)), (.int x0_0)])) _
    refine XS.iand X0.here hx rfl (hb hby at_3) rfl ?_
    show Steps p.tables e below (s₁.setTop (mkF m 4 #[.val (.int x0_0), .unset, .unset, .unset] [(.int (x0_0 &&& (2147483647 : Int32)))])) _
    refine XS.bipush X0.here hx rfl (hb hby at_4) ?_
    show Steps p.tables e below (s₁.setTop (mkF m 6 #[.val (.int x0_0), .unset, .unset, .unset] [(.int (6 : Int32)), (.int (x0_0 &&& (2147483647 : Int32)))])) _
    refine iremM X0 hx rfl (hb hby at_6) rfl (by decide : ¬ ((6 : Int32) = (0 : Int32))) ?_
    show Steps p.tables e below (s₁.setTop (mkF m 7 #[.val (.int x0_0), .unset, .unset, .unset] [(.int ((x0_0 &&& (2147483647 : Int32)) % (6 : Int32)))])) _
    refine XS.istoreN X0.here hx rfl (hb hby at_7) rfl (l' := #[.val (.int x0_0), .val (.int ((x0_0 &&& (2147483647 : Int32)) % (6 : Int32))), .unset, .unset]) rfl ?_
    show Steps p.tables e below (s₁.setTop (mkF m 8 #[.val (.int x0_0), .val (.int ((x0_0 &&& (2147483647 : Int32)) % (6 : Int32))), .unset, .unset] [])) _
    refine XS.iloadN X0.here hx rfl (hb hby at_8) rfl ?_
    exact kt
  by_cases hc9_2 : ((x0_0 &&& (2147483647 : Int32)) % (6 : Int32)) = (0 : Int32)
  · obtain ⟨T3, X3, e3, st3⟩ := getS2 X0 hx hZ hown (host := "") (Or.inl (hw _ (List.mem_of_getElem? (i := 1) rfl))) Via.refl e0 (W.1) (g := (mkF m 12 #[.val (.int x0_0), .val (.int ((x0_0 &&& (2147483647 : Int32)) % (6 : Int32))), .unset, .unset] [])) rfl (hb hby at_12)
    have sg5 : ∀ t, Steps p.tables e below (T3.setTop (mkF m 84 #[.val (.int x0_0), .val (.int ((x0_0 &&& (2147483647 : Int32)) % (6 : Int32))), .val (.ref w_FIELD), .val (.int (1 : Int32))] [(.ref w_FIELD)])) t → Steps p.tables e below (s₁.setTop (mkF m 9 #[.val (.int x0_0), .val (.int ((x0_0 &&& (2147483647 : Int32)) % (6 : Int32))), .unset, .unset] [(.int ((x0_0 &&& (2147483647 : Int32)) % (6 : Int32)))])) t := fun t kt => by
      show Steps p.tables e below (s₁.setTop (mkF m 9 #[.val (.int x0_0), .val (.int ((x0_0 &&& (2147483647 : Int32)) % (6 : Int32))), .unset, .unset] [(.int ((x0_0 &&& (2147483647 : Int32)) % (6 : Int32)))])) _
      refine XS.ifNo X0.here hx rfl (hb hby at_9) rfl ((if0 _ _).trans (teq hc9_2).2) ?_
      show Steps p.tables e below (s₁.setTop (mkF m 12 #[.val (.int x0_0), .val (.int ((x0_0 &&& (2147483647 : Int32)) % (6 : Int32))), .unset, .unset] [])) _
      refine st3 _ ?_
      show Steps p.tables e below (T3.setTop (mkF m 15 #[.val (.int x0_0), .val (.int ((x0_0 &&& (2147483647 : Int32)) % (6 : Int32))), .unset, .unset] [(.ref w_FIELD)])) _
      refine XS.astoreN X3.here hx rfl (hb hby at_15) rfl rfl (l' := #[.val (.int x0_0), .val (.int ((x0_0 &&& (2147483647 : Int32)) % (6 : Int32))), .val (.ref w_FIELD), .unset]) rfl ?_
      show Steps p.tables e below (T3.setTop (mkF m 16 #[.val (.int x0_0), .val (.int ((x0_0 &&& (2147483647 : Int32)) % (6 : Int32))), .val (.ref w_FIELD), .unset] [])) _
      refine XS.iconst X3.here hx rfl (hb hby at_16) ?_
      show Steps p.tables e below (T3.setTop (mkF m 17 #[.val (.int x0_0), .val (.int ((x0_0 &&& (2147483647 : Int32)) % (6 : Int32))), .val (.ref w_FIELD), .unset] [(.int (1 : Int32))])) _
      refine XS.istoreN X3.here hx rfl (hb hby at_17) rfl (l' := #[.val (.int x0_0), .val (.int ((x0_0 &&& (2147483647 : Int32)) % (6 : Int32))), .val (.ref w_FIELD), .val (.int (1 : Int32))]) rfl ?_
      show Steps p.tables e below (T3.setTop (mkF m 18 #[.val (.int x0_0), .val (.int ((x0_0 &&& (2147483647 : Int32)) % (6 : Int32))), .val (.ref w_FIELD), .val (.int (1 : Int32))] [])) _
      refine XS.goto X3.here hx rfl (pc0 := 18) (pc' := 83) rfl (hb hby at_18) (by decide) (by decide) ?_
      show Steps p.tables e below (T3.setTop (mkF m 83 #[.val (.int x0_0), .val (.int ((x0_0 &&& (2147483647 : Int32)) % (6 : Int32))), .val (.ref w_FIELD), .val (.int (1 : Int32))] [])) _
      refine XS.aloadN X3.here hx rfl (hb hby at_83) rfl rfl ?_
      exact kt
    obtain ⟨cq4, kq4, q4a, q4b, q4c⟩ := isOf hZ e3 (W.2.2.2.2.2.2.1)
    obtain ⟨v4, _, ⟨T4, L4, k4, n4⟩, -, X4, ⟨Lc4, hQ4, l4, y4, z4⟩, st4⟩ := X3.virtualBack hx (y := (⟨"com/example/diatom/diatom/model/Path$Kind", "isNamed", "()Z"⟩ : MethodName)) (z := (⟨"com/example/diatom/diatom/model/Path$Kind", "isNamed", "()Z"⟩ : MethodName)) hown (mvT hZ (hw _ (List.mem_of_getElem? (i := 4) rfl))) (mvT hZ (hw _ (List.mem_of_getElem? (i := 5) rfl))) (notFace_of_selects (args := #[]) (mvT hZ (hw _ (List.mem_of_getElem? (i := 7) rfl)))) (mvT hZ (hw _ (List.mem_of_getElem? (i := 7) rfl))) (mvT hZ (hw _ (List.mem_of_getElem? (i := 6) rfl))) (by decide) (backOf (W := 0) (rm1 l Z a0 hw [] w_FIELD w_FIELD w_ALTERNATIVE w_ARRAY_INDEX w_ARRAY_ITER w_MAP_KEY w_MAP_ITER h0 n0 Z0 W) hZ (hw _ (List.mem_of_getElem? (i := 8) rfl)) (hw _ (List.mem_of_getElem? (i := 2) rfl)) (by decide) (by decide)) q4a q4c (g := (mkF m 84 #[.val (.int x0_0), .val (.int ((x0_0 &&& (2147483647 : Int32)) % (6 : Int32))), .val (.ref w_FIELD), .val (.int (1 : Int32))] [(.ref w_FIELD)])) rfl (by rw [hml]; rfl) (Steps.refl _) (argsL := []) (rest := []) (lenOf pd_0 rfl) rfl (by show 2 * 0 + _ ≤ _; exact Nat.le_of_eq rfl) (hb hby at_84) (fun _ _ => ⟨rfl, e3, (by decide : 0 + 0 ≤ _), (by decide : 0 + 0 ≤ _)⟩)
    dsimp only [Pt.U, Pt.locs, Pt.cells, Pt.slots] at X4 l4 y4 z4 st4 hQ4
    subst l4 y4 z4
    obtain ⟨hv4, N4q, e4⟩ := hQ4
    have N4 := Fr.app N0 N4q
    have hf4 : f1 w_FIELD w_FIELD w_ALTERNATIVE w_ARRAY_INDEX w_ARRAY_ITER w_MAP_KEY w_MAP_ITER = (1 : Int32) := by unfold f1; rw [if_pos (rfl : w_FIELD = w_FIELD)]
    rw [hf4] at hv4
    subst hv4
    obtain ⟨fs, hr, hrun, hended, hW, hsame⟩ := X4.leave (v := some (.int (1 : Int32))) (fun h => by rw [Bd.returns] at h; cases h)
    refine ⟨_, _, pre0 _ (sg1 _ (sg5 _ ?_)), hrun, hended, _, _, rfl, ?_, ⟨_, rfl⟩, hW, hsame.mono (by decide) (by decide)⟩
    · show Steps p.tables e below (T3.setTop (mkF m 84 #[.val (.int x0_0), .val (.int ((x0_0 &&& (2147483647 : Int32)) % (6 : Int32))), .val (.ref w_FIELD), .val (.int (1 : Int32))] [(.ref w_FIELD)])) _
      refine st4.trans ?_
      show Steps p.tables e below (T4.setTop (mkF m 87 #[.val (.int x0_0), .val (.int ((x0_0 &&& (2147483647 : Int32)) % (6 : Int32))), .val (.ref w_FIELD), .val (.int (1 : Int32))] [(.int (1 : Int32))])) _
      refine XS.iloadN X4.here hx rfl (hb hby at_87) rfl ?_
      show Steps p.tables e below (T4.setTop (mkF m 88 #[.val (.int x0_0), .val (.int ((x0_0 &&& (2147483647 : Int32)) % (6 : Int32))), .val (.ref w_FIELD), .val (.int (1 : Int32))] [(.int (1 : Int32)), (.int (1 : Int32))])) _
      refine XS.icmpNo X4.here hx rfl (hb hby at_88) rfl (teq (by decide : ((1 : Int32) = (1 : Int32)))).2 ?_
      show Steps p.tables e below (T4.setTop (mkF m 91 #[.val (.int x0_0), .val (.int ((x0_0 &&& (2147483647 : Int32)) % (6 : Int32))), .val (.ref w_FIELD), .val (.int (1 : Int32))] [])) _
      refine XS.iconst X4.here hx rfl (hb hby at_91) ?_
      show Steps p.tables e below (T4.setTop (mkF m 92 #[.val (.int x0_0), .val (.int ((x0_0 &&& (2147483647 : Int32)) % (6 : Int32))), .val (.ref w_FIELD), .val (.int (1 : Int32))] [(.int (1 : Int32))])) _
      refine XS.goto X4.here hx rfl (pc0 := 92) (pc' := 96) rfl (hb hby at_92) (by decide) (by decide) ?_
      show Steps p.tables e below (T4.setTop (mkF m 96 #[.val (.int x0_0), .val (.int ((x0_0 &&& (2147483647 : Int32)) % (6 : Int32))), .val (.ref w_FIELD), .val (.int (1 : Int32))] [(.int (1 : Int32))])) _
      exact retN X4 hx (t := .boolean) Bd.returns (by simp) (hb hby at_96) hr
    · exact ⟨congrArg (fun z => some (Value.int z)) (show (1 : Int32) = f0 x0_0 w_FIELD w_ALTERNATIVE w_ARRAY_INDEX w_ARRAY_ITER w_MAP_KEY w_MAP_ITER from by unfold f0; rw [if_pos hc9_2]), N4, e4⟩
  · have sg6 : ∀ t, Steps p.tables e below (s₁.setTop (mkF m 23 #[.val (.int x0_0), .val (.int ((x0_0 &&& (2147483647 : Int32)) % (6 : Int32))), .unset, .unset] [(.int (1 : Int32)), (.int ((x0_0 &&& (2147483647 : Int32)) % (6 : Int32)))])) t → Steps p.tables e below (s₁.setTop (mkF m 9 #[.val (.int x0_0), .val (.int ((x0_0 &&& (2147483647 : Int32)) % (6 : Int32))), .unset, .unset] [(.int ((x0_0 &&& (2147483647 : Int32)) % (6 : Int32)))])) t := fun t kt => by
      show Steps p.tables e below (s₁.setTop (mkF m 9 #[.val (.int x0_0), .val (.int ((x0_0 &&& (2147483647 : Int32)) % (6 : Int32))), .unset, .unset] [(.int ((x0_0 &&& (2147483647 : Int32)) % (6 : Int32)))])) _
      refine XS.ifYes X0.here hx rfl (pc0 := 9) (pc' := 21) rfl (hb hby at_9) rfl ((if0 _ _).trans (feq hc9_2).2) (by decide) (by decide) ?_
      show Steps p.tables e below (s₁.setTop (mkF m 21 #[.val (.int x0_0), .val (.int ((x0_0 &&& (2147483647 : Int32)) % (6 : Int32))), .unset, .unset] [])) _
      refine XS.iloadN X0.here hx rfl (hb hby at_21) rfl ?_
      show Steps p.tables e below (s₁.setTop (mkF m 22 #[.val (.int x0_0), .val (.int ((x0_0 &&& (2147483647 : Int32)) % (6 : Int32))), .unset, .unset] [(.int ((x0_0 &&& (2147483647 : Int32)) % (6 : Int32)))])) _
      refine XS.iconst X0.here hx rfl (hb hby at_22) ?_
      exact kt
    by_cases hc23_7 : ((x0_0 &&& (2147483647 : Int32)) % (6 : Int32)) = (1 : Int32)
    · obtain ⟨T8, X8, e8, st8⟩ := getS2 X0 hx hZ hown (host := "") (Or.inl (hw _ (List.mem_of_getElem? (i := 18) rfl))) Via.refl e0 (W.2.1) (g := (mkF m 26 #[.val (.int x0_0), .val (.int ((x0_0 &&& (2147483647 : Int32)) % (6 : Int32))), .unset, .unset] [])) rfl (hb hby at_26)
      have sg10 : ∀ t, Steps p.tables e below (T8.setTop (mkF m 84 #[.val (.int x0_0), .val (.int ((x0_0 &&& (2147483647 : Int32)) % (6 : Int32))), .val (.ref w_ALTERNATIVE), .val (.int (1 : Int32))] [(.ref w_ALTERNATIVE)])) t → Steps p.tables e below (s₁.setTop (mkF m 23 #[.val (.int x0_0), .val (.int ((x0_0 &&& (2147483647 : Int32)) % (6 : Int32))), .unset, .unset] [(.int (1 : Int32)), (.int ((x0_0 &&& (2147483647 : Int32)) % (6 : Int32)))])) t := fun t kt => by
        show Steps p.tables e below (s₁.setTop (mkF m 23 #[.val (.int x0_0), .val (.int ((x0_0 &&& (2147483647 : Int32)) % (6 : Int32))), .unset, .unset] [(.int (1 : Int32)), (.int ((x0_0 &&& (2147483647 : Int32)) % (6 : Int32)))])) _
        refine XS.icmpNo X0.here hx rfl (hb hby at_23) rfl (teq hc23_7).2 ?_
        show Steps p.tables e below (s₁.setTop (mkF m 26 #[.val (.int x0_0), .val (.int ((x0_0 &&& (2147483647 : Int32)) % (6 : Int32))), .unset, .unset] [])) _
        refine st8 _ ?_
        show Steps p.tables e below (T8.setTop (mkF m 29 #[.val (.int x0_0), .val (.int ((x0_0 &&& (2147483647 : Int32)) % (6 : Int32))), .unset, .unset] [(.ref w_ALTERNATIVE)])) _
        refine XS.astoreN X8.here hx rfl (hb hby at_29) rfl rfl (l' := #[.val (.int x0_0), .val (.int ((x0_0 &&& (2147483647 : Int32)) % (6 : Int32))), .val (.ref w_ALTERNATIVE), .unset]) rfl ?_
        show Steps p.tables e below (T8.setTop (mkF m 30 #[.val (.int x0_0), .val (.int ((x0_0 &&& (2147483647 : Int32)) % (6 : Int32))), .val (.ref w_ALTERNATIVE), .unset] [])) _
        refine XS.iconst X8.here hx rfl (hb hby at_30) ?_
        show Steps p.tables e below (T8.setTop (mkF m 31 #[.val (.int x0_0), .val (.int ((x0_0 &&& (2147483647 : Int32)) % (6 : Int32))), .val (.ref w_ALTERNATIVE), .unset] [(.int (1 : Int32))])) _
        refine XS.istoreN X8.here hx rfl (hb hby at_31) rfl (l' := #[.val (.int x0_0), .val (.int ((x0_0 &&& (2147483647 : Int32)) % (6 : Int32))), .val (.ref w_ALTERNATIVE), .val (.int (1 : Int32))]) rfl ?_
        show Steps p.tables e below (T8.setTop (mkF m 32 #[.val (.int x0_0), .val (.int ((x0_0 &&& (2147483647 : Int32)) % (6 : Int32))), .val (.ref w_ALTERNATIVE), .val (.int (1 : Int32))] [])) _
        refine XS.goto X8.here hx rfl (pc0 := 32) (pc' := 83) rfl (hb hby at_32) (by decide) (by decide) ?_
        show Steps p.tables e below (T8.setTop (mkF m 83 #[.val (.int x0_0), .val (.int ((x0_0 &&& (2147483647 : Int32)) % (6 : Int32))), .val (.ref w_ALTERNATIVE), .val (.int (1 : Int32))] [])) _
        refine XS.aloadN X8.here hx rfl (hb hby at_83) rfl rfl ?_
        exact kt
      obtain ⟨cq9, kq9, q9a, q9b, q9c⟩ := isOf hZ e8 (W.2.2.2.2.2.2.2.1)
      obtain ⟨v9, _, ⟨T9, L9, k9, n9⟩, -, X9, ⟨Lc9, hQ9, l9, y9, z9⟩, st9⟩ := X8.virtualBack hx (y := (⟨"com/example/diatom/diatom/model/Path$Kind", "isNamed", "()Z"⟩ : MethodName)) (z := (⟨"com/example/diatom/diatom/model/Path$Kind", "isNamed", "()Z"⟩ : MethodName)) hown (mvT hZ (hw _ (List.mem_of_getElem? (i := 4) rfl))) (mvT hZ (hw _ (List.mem_of_getElem? (i := 5) rfl))) (notFace_of_selects (args := #[]) (mvT hZ (hw _ (List.mem_of_getElem? (i := 7) rfl)))) (mvT hZ (hw _ (List.mem_of_getElem? (i := 7) rfl))) (mvT hZ (hw _ (List.mem_of_getElem? (i := 6) rfl))) (by decide) (backOf (W := 0) (rm1 l Z a0 hw [] w_ALTERNATIVE w_FIELD w_ALTERNATIVE w_ARRAY_INDEX w_ARRAY_ITER w_MAP_KEY w_MAP_ITER h0 n0 Z0 W) hZ (hw _ (List.mem_of_getElem? (i := 8) rfl)) (hw _ (List.mem_of_getElem? (i := 2) rfl)) (by decide) (by decide)) q9a q9c (g := (mkF m 84 #[.val (.int x0_0), .val (.int ((x0_0 &&& (2147483647 : Int32)) % (6 : Int32))), .val (.ref w_ALTERNATIVE), .val (.int (1 : Int32))] [(.ref w_ALTERNATIVE)])) rfl (by rw [hml]; rfl) (Steps.refl _) (argsL := []) (rest := []) (lenOf pd_0 rfl) rfl (by show 2 * 0 + _ ≤ _; exact Nat.le_of_eq rfl) (hb hby at_84) (fun _ _ => ⟨rfl, e8, (by decide : 0 + 0 ≤ _), (by decide : 0 + 0 ≤ _)⟩)
      dsimp only [Pt.U, Pt.locs, Pt.cells, Pt.slots] at X9 l9 y9 z9 st9 hQ9
      subst l9 y9 z9
      obtain ⟨hv9, N9q, e9⟩ := hQ9
      have N9 := Fr.app N0 N9q
      have hf9 : f1 w_ALTERNATIVE w_FIELD w_ALTERNATIVE w_ARRAY_INDEX w_ARRAY_ITER w_MAP_KEY w_MAP_ITER = (1 : Int32) := by unfold f1; rw [if_neg (Fld.ne (W.2.2.2.2.2.2.2.2.2.2.2.2.2.1) (W.2.2.2.2.2.2.2.2.2.2.2.2.1) (by decide) : ¬ (w_ALTERNATIVE = w_FIELD)), if_pos (rfl : w_ALTERNATIVE = w_ALTERNATIVE)]
      rw [hf9] at hv9
      subst hv9
      obtain ⟨fs, hr, hrun, hended, hW, hsame⟩ := X9.leave (v := some (.int (1 : Int32))) (fun h => by rw [Bd.returns] at h; cases h)
      refine ⟨_, _, pre0 _ (sg1 _ (sg6 _ (sg10 _ ?_))), hrun, hended, _, _, rfl, ?_, ⟨_, rfl⟩, hW, hsame.mono (by decide) (by decide)⟩
      · show Steps p.tables e below (T8.setTop (mkF m 84 #[.val (.int x0_0), .val (.int ((x0_0 &&& (2147483647 : Int32)) % (6 : Int32))), .val (.ref w_ALTERNATIVE), .val (.int (1 : Int32))] [(.ref w_ALTERNATIVE)])) _
        refine st9.trans ?_
        show Steps p.tables e below (T9.setTop (mkF m 87 #[.val (.int x0_0), .val (.int ((x0_0 &&& (2147483647 : Int32)) % (6 : Int32))), .val (.ref w_ALTERNATIVE), .val (.int (1 : Int32))] [(.int (1 : Int32))])) _
        refine XS.iloadN X9.here hx rfl (hb hby at_87) rfl ?_
        show Steps p.tables e below (T9.setTop (mkF m 88 #[.val (.int x0_0), .val (.int ((x0_0 &&& (2147483647 : Int32)) % (6 : Int32))), .val (.ref w_ALTERNATIVE), .val (.int (1 : Int32))] [(.int (1 : Int32)), (.int (1 : Int32))])) _
        refine XS.icmpNo X9.here hx rfl (hb hby at_88) rfl (teq (by decide : ((1 : Int32) = (1 : Int32)))).2 ?_
        show Steps p.tables e below (T9.setTop (mkF m 91 #[.val (.int x0_0), .val (.int ((x0_0 &&& (2147483647 : Int32)) % (6 : Int32))), .val (.ref w_ALTERNATIVE), .val (.int (1 : Int32))] [])) _
        refine XS.iconst X9.here hx rfl (hb hby at_91) ?_
        show Steps p.tables e below (T9.setTop (mkF m 92 #[.val (.int x0_0), .val (.int ((x0_0 &&& (2147483647 : Int32)) % (6 : Int32))), .val (.ref w_ALTERNATIVE), .val (.int (1 : Int32))] [(.int (1 : Int32))])) _
        refine XS.goto X9.here hx rfl (pc0 := 92) (pc' := 96) rfl (hb hby at_92) (by decide) (by decide) ?_
        show Steps p.tables e below (T9.setTop (mkF m 96 #[.val (.int x0_0), .val (.int ((x0_0 &&& (2147483647 : Int32)) % (6 : Int32))), .val (.ref w_ALTERNATIVE), .val (.int (1 : Int32))] [(.int (1 : Int32))])) _
        exact retN X9 hx (t := .boolean) Bd.returns (by simp) (hb hby at_96) hr
      · exact ⟨congrArg (fun z => some (Value.int z)) (show (1 : Int32) = f0 x0_0 w_FIELD w_ALTERNATIVE w_ARRAY_INDEX w_ARRAY_ITER w_MAP_KEY w_MAP_ITER from by unfold f0; rw [if_neg hc9_2, if_pos hc23_7]), N9, e9⟩
    · have sg11 : ∀ t, Steps p.tables e below (s₁.setTop (mkF m 37 #[.val (.int x0_0), .val (.int ((x0_0 &&& (2147483647 : Int32)) % (6 : Int32))), .unset, .unset] [(.int (2 : Int32)), (.int ((x0_0 &&& (2147483647 : Int32)) % (6 : Int32)))])) t → Steps p.tables e below (s₁.setTop (mkF m 23 #[.val (.int x0_0), .val (.int ((x0_0 &&& (2147483647 : Int32)) % (6 : Int32))), .unset, .unset] [(.int (1 : Int32)), (.int ((x0_0 &&& (2147483647 : Int32)) % (6 : Int32)))])) t := fun t kt => by
        show Steps p.tables e below (s₁.setTop (mkF m 23 #[.val (.int x0_0), .val (.int ((x0_0 &&& (2147483647 : Int32)) % (6 : Int32))), .unset, .unset] [(.int (1 : Int32)), (.int ((x0_0 &&& (2147483647 : Int32)) % (6 : Int32)))])) _
        refine XS.icmpYes X0.here hx rfl (pc0 := 23) (pc' := 35) rfl (hb hby at_23) rfl (feq hc23_7).2 (by decide) (by decide) ?_
        show Steps p.tables e below (s₁.setTop (mkF m 35 #[.val (.int x0_0), .val (.int ((x0_0 &&& (2147483647 : Int32)) % (6 : Int32))), .unset, .unset] [])) _
        refine XS.iloadN X0.here hx rfl (hb hby at_35) rfl ?_
        show Steps p.tables e below (s₁.setTop (mkF m 36 #[.val (.int x0_0), .val (.int ((x0_0 &&& (2147483647 : Int32)) % (6 : Int32))), .unset, .unset] [(.int ((x0_0 &&& (2147483647 : Int32)) % (6 : Int32)))])) _
        refine XS.iconst X0.here hx rfl (hb hby at_36) ?_
        exact kt
      by_cases hc37_12 : ((x0_0 &&& (2147483647 : Int32)) % (6 : Int32)) = (2 : Int32)
      · obtain ⟨T13, X13, e13, st13⟩ := getS2 X0 hx hZ hown (host := "") (Or.inl (hw _ (List.mem_of_getElem? (i := 16) rfl))) Via.refl e0 (W.2.2.1) (g := (mkF m 40 #[.val (.int x0_0), .val (.int ((x0_0 &&& (2147483647 : Int32)) % (6 : Int32))), .unset, .unset] [])) rfl (hb hby at_40)
        have sg15 : ∀ t, Steps p.tables e below (T13.setTop (mkF m 84 #[.val (.int x0_0), .val (.int ((x0_0 &&& (2147483647 : Int32)) % (6 : Int32))), .val (.ref w_ARRAY_INDEX), .val (.int (0 : Int32))] [(.ref w_ARRAY_INDEX)])) t → Steps p.tables e below (s₁.setTop (mkF m 37 #[.val (.int x0_0), .val (.int ((x0_0 &&& (2147483647 : Int32)) % (6 : Int32))), .unset, .unset] [(.int (2 : Int32)), (.int ((x0_0 &&& (2147483647 : Int32)) % (6 : Int32)))])) t := fun t kt => by
          show Steps p.tables e below (s₁.setTop (mkF m 37 #[.val (.int x0_0), .val (.int ((x0_0 &&& (2147483647 : Int32)) % (6 : Int32))), .unset, .unset] [(.int (2 : Int32)), (.int ((x0_0 &&& (2147483647 : Int32)) % (6 : Int32)))])) _
          refine XS.icmpNo X0.here hx rfl (hb hby at_37) rfl (teq hc37_12).2 ?_
          show Steps p.tables e below (s₁.setTop (mkF m 40 #[.val (.int x0_0), .val (.int ((x0_0 &&& (2147483647 : Int32)) % (6 : Int32))), .unset, .unset] [])) _
          refine st13 _ ?_
          show Steps p.tables e below (T13.setTop (mkF m 43 #[.val (.int x0_0), .val (.int ((x0_0 &&& (2147483647 : Int32)) % (6 : Int32))), .unset, .unset] [(.ref w_ARRAY_INDEX)])) _
          refine XS.astoreN X13.here hx rfl (hb hby at_43) rfl rfl (l' := #[.val (.int x0_0), .val (.int ((x0_0 &&& (2147483647 : Int32)) % (6 : Int32))), .val (.ref w_ARRAY_INDEX), .unset]) rfl ?_
          show Steps p.tables e below (T13.setTop (mkF m 44 #[.val (.int x0_0), .val (.int ((x0_0 &&& (2147483647 : Int32)) % (6 : Int32))), .val (.ref w_ARRAY_INDEX), .unset] [])) _
          refine XS.iconst X13.here hx rfl (hb hby at_44) ?_
          show Steps p.tables e below (T13.setTop (mkF m 45 #[.val (.int x0_0), .val (.int ((x0_0 &&& (2147483647 : Int32)) % (6 : Int32))), .val (.ref w_ARRAY_INDEX), .unset] [(.int (0 : Int32))])) _
          refine XS.istoreN X13.here hx rfl (hb hby at_45) rfl (l' := #[.val (.int x0_0), .val (.int ((x0_0 &&& (2147483647 : Int32)) % (6 : Int32))), .val (.ref w_ARRAY_INDEX), .val (.int (0 : Int32))]) rfl ?_
          show Steps p.tables e below (T13.setTop (mkF m 46 #[.val (.int x0_0), .val (.int ((x0_0 &&& (2147483647 : Int32)) % (6 : Int32))), .val (.ref w_ARRAY_INDEX), .val (.int (0 : Int32))] [])) _
          refine XS.goto X13.here hx rfl (pc0 := 46) (pc' := 83) rfl (hb hby at_46) (by decide) (by decide) ?_
          show Steps p.tables e below (T13.setTop (mkF m 83 #[.val (.int x0_0), .val (.int ((x0_0 &&& (2147483647 : Int32)) % (6 : Int32))), .val (.ref w_ARRAY_INDEX), .val (.int (0 : Int32))] [])) _
          refine XS.aloadN X13.here hx rfl (hb hby at_83) rfl rfl ?_
          exact kt
        obtain ⟨cq14, kq14, q14a, q14b, q14c⟩ := isOf hZ e13 (W.2.2.2.2.2.2.2.2.1)
        obtain ⟨v14, _, ⟨T14, L14, k14, n14⟩, -, X14, ⟨Lc14, hQ14, l14, y14, z14⟩, st14⟩ := X13.virtualBack hx (y := (⟨"com/example/diatom/diatom/model/Path$Kind", "isNamed", "()Z"⟩ : MethodName)) (z := (⟨"com/example/diatom/diatom/model/Path$Kind", "isNamed", "()Z"⟩ : MethodName)) hown (mvT hZ (hw _ (List.mem_of_getElem? (i := 4) rfl))) (mvT hZ (hw _ (List.mem_of_getElem? (i := 5) rfl))) (notFace_of_selects (args := #[]) (mvT hZ (hw _ (List.mem_of_getElem? (i := 7) rfl)))) (mvT hZ (hw _ (List.mem_of_getElem? (i := 7) rfl))) (mvT hZ (hw _ (List.mem_of_getElem? (i := 6) rfl))) (by decide) (backOf (W := 0) (rm1 l Z a0 hw [] w_ARRAY_INDEX w_FIELD w_ALTERNATIVE w_ARRAY_INDEX w_ARRAY_ITER w_MAP_KEY w_MAP_ITER h0 n0 Z0 W) hZ (hw _ (List.mem_of_getElem? (i := 8) rfl)) (hw _ (List.mem_of_getElem? (i := 2) rfl)) (by decide) (by decide)) q14a q14c (g := (mkF m 84 #[.val (.int x0_0), .val (.int ((x0_0 &&& (2147483647 : Int32)) % (6 : Int32))), .val (.ref w_ARRAY_INDEX), .val (.int (0 : Int32))] [(.ref w_ARRAY_INDEX)])) rfl (by rw [hml]; rfl) (Steps.refl _) (argsL := []) (rest := []) (lenOf pd_0 rfl) rfl (by show 2 * 0 + _ ≤ _; exact Nat.le_of_eq rfl) (hb hby at_84) (fun _ _ => ⟨rfl, e13, (by decide : 0 + 0 ≤ _), (by decide : 0 + 0 ≤ _)⟩)
        dsimp only [Pt.U, Pt.locs, Pt.cells, Pt.slots] at X14 l14 y14 z14 st14 hQ14
        subst l14 y14 z14
        obtain ⟨hv14, N14q, e14⟩ := hQ14
        have N14 := Fr.app N0 N14q
        have hf14 : f1 w_ARRAY_INDEX w_FIELD w_ALTERNATIVE w_ARRAY_INDEX w_ARRAY_ITER w_MAP_KEY w_MAP_ITER = (0 : Int32) := by unfold f1; rw [if_neg (Fld.ne (W.2.2.2.2.2.2.2.2.2.2.2.2.2.2.1) (W.2.2.2.2.2.2.2.2.2.2.2.2.1) (by decide) : ¬ (w_ARRAY_INDEX = w_FIELD)), if_neg (Fld.ne (W.2.2.2.2.2.2.2.2.2.2.2.2.2.2.1) (W.2.2.2.2.2.2.2.2.2.2.2.2.2.1) (by decide) : ¬ (w_ARRAY_INDEX = w_ALTERNATIVE)), if_neg (Fld.ne (W.2.2.2.2.2.2.2.2.2.2.2.2.2.2.1) (W.2.2.2.2.2.2.2.2.2.2.2.2.2.2.2.2.1) (by decide) : ¬ (w_ARRAY_INDEX = w_MAP_KEY))]
        rw [hf14] at hv14
        subst hv14
        obtain ⟨fs, hr, hrun, hended, hW, hsame⟩ := X14.leave (v := some (.int (1 : Int32))) (fun h => by rw [Bd.returns] at h; cases h)
        refine ⟨_, _, pre0 _ (sg1 _ (sg6 _ (sg11 _ (sg15 _ ?_)))), hrun, hended, _, _, rfl, ?_, ⟨_, rfl⟩, hW, hsame.mono (by decide) (by decide)⟩
        · show Steps p.tables e below (T13.setTop (mkF m 84 #[.val (.int x0_0), .val (.int ((x0_0 &&& (2147483647 : Int32)) % (6 : Int32))), .val (.ref w_ARRAY_INDEX), .val (.int (0 : Int32))] [(.ref w_ARRAY_INDEX)])) _
          refine st14.trans ?_
          show Steps p.tables e below (T14.setTop (mkF m 87 #[.val (.int x0_0), .val (.int ((x0_0 &&& (2147483647 : Int32)) % (6 : Int32))), .val (.ref w_ARRAY_INDEX), .val (.int (0 : Int32))] [(.int (0 : Int32))])) _
          refine XS.iloadN X14.here hx rfl (hb hby at_87) rfl ?_
          show Steps p.tables e below (T14.setTop (mkF m 88 #[.val (.int x0_0), .val (.int ((x0_0 &&& (2147483647 : Int32)) % (6 : Int32))), .val (.ref w_ARRAY_INDEX), .val (.int (0 : Int32))] [(.int (0 : Int32)), (.int (0 : Int32))])) _
          refine XS.icmpNo X14.here hx rfl (hb hby at_88) rfl (teq (by decide : ((0 : Int32) = (0 : Int32)))).2 ?_
          show Steps p.tables e below (T14.setTop (mkF m 91 #[.val (.int x0_0), .val (.int ((x0_0 &&& (2147483647 : Int32)) % (6 : Int32))), .val (.ref w_ARRAY_INDEX), .val (.int (0 : Int32))] [])) _
          refine XS.iconst X14.here hx rfl (hb hby at_91) ?_
          show Steps p.tables e below (T14.setTop (mkF m 92 #[.val (.int x0_0), .val (.int ((x0_0 &&& (2147483647 : Int32)) % (6 : Int32))), .val (.ref w_ARRAY_INDEX), .val (.int (0 : Int32))] [(.int (1 : Int32))])) _
          refine XS.goto X14.here hx rfl (pc0 := 92) (pc' := 96) rfl (hb hby at_92) (by decide) (by decide) ?_
          show Steps p.tables e below (T14.setTop (mkF m 96 #[.val (.int x0_0), .val (.int ((x0_0 &&& (2147483647 : Int32)) % (6 : Int32))), .val (.ref w_ARRAY_INDEX), .val (.int (0 : Int32))] [(.int (1 : Int32))])) _
          exact retN X14 hx (t := .boolean) Bd.returns (by simp) (hb hby at_96) hr
        · exact ⟨congrArg (fun z => some (Value.int z)) (show (1 : Int32) = f0 x0_0 w_FIELD w_ALTERNATIVE w_ARRAY_INDEX w_ARRAY_ITER w_MAP_KEY w_MAP_ITER from by unfold f0; rw [if_neg hc9_2, if_neg hc23_7, if_pos hc37_12]), N14, e14⟩
      · have sg16 : ∀ t, Steps p.tables e below (s₁.setTop (mkF m 51 #[.val (.int x0_0), .val (.int ((x0_0 &&& (2147483647 : Int32)) % (6 : Int32))), .unset, .unset] [(.int (3 : Int32)), (.int ((x0_0 &&& (2147483647 : Int32)) % (6 : Int32)))])) t → Steps p.tables e below (s₁.setTop (mkF m 37 #[.val (.int x0_0), .val (.int ((x0_0 &&& (2147483647 : Int32)) % (6 : Int32))), .unset, .unset] [(.int (2 : Int32)), (.int ((x0_0 &&& (2147483647 : Int32)) % (6 : Int32)))])) t := fun t kt => by
          show Steps p.tables e below (s₁.setTop (mkF m 37 #[.val (.int x0_0), .val (.int ((x0_0 &&& (2147483647 : Int32)) % (6 : Int32))), .unset, .unset] [(.int (2 : Int32)), (.int ((x0_0 &&& (2147483647 : Int32)) % (6 : Int32)))])) _
          refine XS.icmpYes X0.here hx rfl (pc0 := 37) (pc' := 49) rfl (hb hby at_37) rfl (feq hc37_12).2 (by decide) (by decide) ?_
          show Steps p.tables e below (s₁.setTop (mkF m 49 #[.val (.int x0_0), .val (.int ((x0_0 &&& (2147483647 : Int32)) % (6 : Int32))), .unset, .unset] [])) _
          refine XS.iloadN X0.here hx rfl (hb hby at_49) rfl ?_
          show Steps p.tables e below (s₁.setTop (mkF m 50 #[.val (.int x0_0), .val (.int ((x0_0 &&& (2147483647 : Int32)) % (6 : Int32))), .unset, .unset] [(.int ((x0_0 &&& (2147483647 : Int32)) % (6 : Int32)))])) _
          refine XS.iconst X0.here hx rfl (hb hby at_50) ?_
          exact kt
        by_cases hc51_17 : ((x0_0 &&& (2147483647 : Int32)) % (6 : Int32)) = (3 : Int32)
        · obtain ⟨T18, X18, e18, st18⟩ := getS2 X0 hx hZ hown (host := "") (Or.inl (hw _ (List.mem_of_getElem? (i := 10) rfl))) Via.refl e0 (W.2.2.2.1) (g := (mkF m 54 #[.val (.int x0_0), .val (.int ((x0_0 &&& (2147483647 : Int32)) % (6 : Int32))), .unset, .unset] [])) rfl (hb hby at_54)
          have sg20 : ∀ t, Steps p.tables e below (T18.setTop (mkF m 84 #[.val (.int x0_0), .val (.int ((x0_0 &&& (2147483647 : Int32)) % (6 : Int32))), .val (.ref w_ARRAY_ITER), .val (.int (0 : Int32))] [(.ref w_ARRAY_ITER)])) t → Steps p.tables e below (s₁.setTop (mkF m 51 #[.val (.int x0_0), .val (.int ((x0_0 &&& (2147483647 : Int32)) % (6 : Int32))), .unset, .unset] [(.int (3 : Int32)), (.int ((x0_0 &&& (2147483647 : Int32)) % (6 : Int32)))])) t := fun t kt => by
            show Steps p.tables e below (s₁.setTop (mkF m 51 #[.val (.int x0_0), .val (.int ((x0_0 &&& (2147483647 : Int32)) % (6 : Int32))), .unset, .unset] [(.int (3 : Int32)), (.int ((x0_0 &&& (2147483647 : Int32)) % (6 : Int32)))])) _
            refine XS.icmpNo X0.here hx rfl (hb hby at_51) rfl (teq hc51_17).2 ?_
            show Steps p.tables e below (s₁.setTop (mkF m 54 #[.val (.int x0_0), .val (.int ((x0_0 &&& (2147483647 : Int32)) % (6 : Int32))), .unset, .unset] [])) _
            refine st18 _ ?_
            show Steps p.tables e below (T18.setTop (mkF m 57 #[.val (.int x0_0), .val (.int ((x0_0 &&& (2147483647 : Int32)) % (6 : Int32))), .unset, .unset] [(.ref w_ARRAY_ITER)])) _
            refine XS.astoreN X18.here hx rfl (hb hby at_57) rfl rfl (l' := #[.val (.int x0_0), .val (.int ((x0_0 &&& (2147483647 : Int32)) % (6 : Int32))), .val (.ref w_ARRAY_ITER), .unset]) rfl ?_
            show Steps p.tables e below (T18.setTop (mkF m 58 #[.val (.int x0_0), .val (.int ((x0_0 &&& (2147483647 : Int32)) % (6 : Int32))), .val (.ref w_ARRAY_ITER), .unset] [])) _
            refine XS.iconst X18.here hx rfl (hb hby at_58) ?_
            show Steps p.tables e below (T18.setTop (mkF m 59 #[.val (.int x0_0), .val (.int ((x0_0 &&& (2147483647 : Int32)) % (6 : Int32))), .val (.ref w_ARRAY_ITER), .unset] [(.int (0 : Int32))])) _
            refine XS.istoreN X18.here hx rfl (hb hby at_59) rfl (l' := #[.val (.int x0_0), .val (.int ((x0_0 &&& (2147483647 : Int32)) % (6 : Int32))), .val (.ref w_ARRAY_ITER), .val (.int (0 : Int32))]) rfl ?_
            show Steps p.tables e below (T18.setTop (mkF m 60 #[.val (.int x0_0), .val (.int ((x0_0 &&& (2147483647 : Int32)) % (6 : Int32))), .val (.ref w_ARRAY_ITER), .val (.int (0 : Int32))] [])) _
            refine XS.goto X18.here hx rfl (pc0 := 60) (pc' := 83) rfl (hb hby at_60) (by decide) (by decide) ?_
            show Steps p.tables e below (T18.setTop (mkF m 83 #[.val (.int x0_0), .val (.int ((x0_0 &&& (2147483647 : Int32)) % (6 : Int32))), .val (.ref w_ARRAY_ITER), .val (.int (0 : Int32))] [])) _
            refine XS.aloadN X18.here hx rfl (hb hby at_83) rfl rfl ?_
            exact kt
          obtain ⟨cq19, kq19, q19a, q19b, q19c⟩ := isOf hZ e18 (W.2.2.2.2.2.2.2.2.2.1)
          obtain ⟨v19, _, ⟨T19, L19, k19, n19⟩, -, X19, ⟨Lc19, hQ19, l19, y19, z19⟩, st19⟩ := X18.virtualBack hx (y := (⟨"com/example/diatom/diatom/model/Path$Kind", "isNamed", "()Z"⟩ : MethodName)) (z := (⟨"com/example/diatom/diatom/model/Path$Kind", "isNamed", "()Z"⟩ : MethodName)) hown (mvT hZ (hw _ (List.mem_of_getElem? (i := 4) rfl))) (mvT hZ (hw _ (List.mem_of_getElem? (i := 5) rfl))) (notFace_of_selects (args := #[]) (mvT hZ (hw _ (List.mem_of_getElem? (i := 7) rfl)))) (mvT hZ (hw _ (List.mem_of_getElem? (i := 7) rfl))) (mvT hZ (hw _ (List.mem_of_getElem? (i := 6) rfl))) (by decide) (backOf (W := 0) (rm1 l Z a0 hw [] w_ARRAY_ITER w_FIELD w_ALTERNATIVE w_ARRAY_INDEX w_ARRAY_ITER w_MAP_KEY w_MAP_ITER h0 n0 Z0 W) hZ (hw _ (List.mem_of_getElem? (i := 8) rfl)) (hw _ (List.mem_of_getElem? (i := 2) rfl)) (by decide) (by decide)) q19a q19c (g := (mkF m 84 #[.val (.int x0_0), .val (.int ((x0_0 &&& (2147483647 : Int32)) % (6 : Int32))), .val (.ref w_ARRAY_ITER), .val (.int (0 : Int32))] [(.ref w_ARRAY_ITER)])) rfl (by rw [hml]; rfl) (Steps.refl _) (argsL := []) (rest := []) (lenOf pd_0 rfl) rfl (by show 2 * 0 + _ ≤ _; exact Nat.le_of_eq rfl) (hb hby at_84) (fun _ _ => ⟨rfl, e18, (by decide : 0 + 0 ≤ _), (by decide : 0 + 0 ≤ _)⟩)
          dsimp only [Pt.U, Pt.locs, Pt.cells, Pt.slots] at X19 l19 y19 z19 st19 hQ19
          subst l19 y19 z19
          obtain ⟨hv19, N19q, e19⟩ := hQ19
          have N19 := Fr.app N0 N19q
          have hf19 : f1 w_ARRAY_ITER w_FIELD w_ALTERNATIVE w_ARRAY_INDEX w_ARRAY_ITER w_MAP_KEY w_MAP_ITER = (0 : Int32) := by unfold f1; rw [if_neg (Fld.ne (W.2.2.2.2.2.2.2.2.2.2.2.2.2.2.2.1) (W.2.2.2.2.2.2.2.2.2.2.2.2.1) (by decide) : ¬ (w_ARRAY_ITER = w_FIELD)), if_neg (Fld.ne (W.2.2.2.2.2.2.2.2.2.2.2.2.2.2.2.1) (W.2.2.2.2.2.2.2.2.2.2.2.2.2.1) (by decide) : ¬ (w_ARRAY_ITER = w_ALTERNATIVE)), if_neg (Fld.ne (W.2.2.2.2.2.2.2.2.2.2.2.2.2.2.2.1) (W.2.2.2.2.2.2.2.2.2.2.2.2.2.2.2.2.1) (by decide) : ¬ (w_ARRAY_ITER = w_MAP_KEY))]
          rw [hf19] at hv19
          subst hv19
          obtain ⟨fs, hr, hrun, hended, hW, hsame⟩ := X19.leave (v := some (.int (1 : Int32))) (fun h => by rw [Bd.returns] at h; cases h)
          refine ⟨_, _, pre0 _ (sg1 _ (sg6 _ (sg11 _ (sg16 _ (sg20 _ ?_))))), hrun, hended, _, _, rfl, ?_, ⟨_, rfl⟩, hW, hsame.mono (by decide) (by decide)⟩
          · show Steps p.tables e below (T18.setTop (mkF m 84 #[.val (.int x0_0), .val (.int ((x0_0 &&& (2147483647 : Int32)) % (6 : Int32))), .val (.ref w_ARRAY_ITER), .val (.int (0 : Int32))] [(.ref w_ARRAY_ITER)])) _
            refine st19.trans ?_
            show Steps p.tables e below (T19.setTop (mkF m 87 #[.val (.int x0_0), .val (.int ((x0_0 &&& (2147483647 : Int32)) % (6 : Int32))), .val (.ref w_ARRAY_ITER), .val (.int (0 : Int32))] [(.int (0 : Int32))])) _
            refine XS.iloadN X19.here hx rfl (hb hby at_87) rfl ?_
            show Steps p.tables e below (T19.setTop (mkF m 88 #[.val (.int x0_0), .val (.int ((x0_0 &&& (2147483647 : Int32)) % (6 : Int32))), .val (.ref w_ARRAY_ITER), .val (.int (0 : Int32))] [(.int (0 : Int32)), (.int (0 : Int32))])) _
            refine XS.icmpNo X19.here hx rfl (hb hby at_88) rfl (teq (by decide : ((0 : Int32) = (0 : Int32)))).2 ?_
            show Steps p.tables e below (T19.setTop (mkF m 91 #[.val (.int x0_0), .val (.int ((x0_0 &&& (2147483647 : Int32)) % (6 : Int32))), .val (.ref w_ARRAY_ITER), .val (.int (0 : Int32))] [])) _
            refine XS.iconst X19.here hx rfl (hb hby at_91) ?_
            show Steps p.tables e below (T19.setTop (mkF m 92 #[.val (.int x0_0), .val (.int ((x0_0 &&& (2147483647 : Int32)) % (6 : Int32))), .val (.ref w_ARRAY_ITER), .val (.int (0 : Int32))] [(.int (1 : Int32))])) _
            refine XS.goto X19.here hx rfl (pc0 := 92) (pc' := 96) rfl (hb hby at_92) (by decide) (by decide) ?_
            show Steps p.tables e below (T19.setTop (mkF m 96 #[.val (.int x0_0), .val (.int ((x0_0 &&& (2147483647 : Int32)) % (6 : Int32))), .val (.ref w_ARRAY_ITER), .val (.int (0 : Int32))] [(.int (1 : Int32))])) _
            exact retN X19 hx (t := .boolean) Bd.returns (by simp) (hb hby at_96) hr
          · exact ⟨congrArg (fun z => some (Value.int z)) (show (1 : Int32) = f0 x0_0 w_FIELD w_ALTERNATIVE w_ARRAY_INDEX w_ARRAY_ITER w_MAP_KEY w_MAP_ITER from by unfold f0; rw [if_neg hc9_2, if_neg hc23_7, if_neg hc37_12, if_pos hc51_17]), N19, e19⟩
        · have sg21 : ∀ t, Steps p.tables e below (s₁.setTop (mkF m 65 #[.val (.int x0_0), .val (.int ((x0_0 &&& (2147483647 : Int32)) % (6 : Int32))), .unset, .unset] [(.int (4 : Int32)), (.int ((x0_0 &&& (2147483647 : Int32)) % (6 : Int32)))])) t → Steps p.tables e below (s₁.setTop (mkF m 51 #[.val (.int x0_0), .val (.int ((x0_0 &&& (2147483647 : Int32)) % (6 : Int32))), .unset, .unset] [(.int (3 : Int32)), (.int ((x0_0 &&& (2147483647 : Int32)) % (6 : Int32)))])) t := fun t kt => by
            show Steps p.tables e below (s₁.setTop (mkF m 51 #[.val (.int x0_0), .val (.int ((x0_0 &&& (2147483647 : Int32)) % (6 : Int32))), .unset, .unset] [(.int (3 : Int32)), (.int ((x0_0 &&& (2147483647 : Int32)) % (6 : Int32)))])) _
            refine XS.icmpYes X0.here hx rfl (pc0 := 51) (pc' := 63) rfl (hb hby at_51) rfl (feq hc51_17).2 (by decide) (by decide) ?_
            show Steps p.tables e below (s₁.setTop (mkF m 63 #[.val (.int x0_0), .val (.int ((x0_0 &&& (2147483647 : Int32)) % (6 : Int32))), .unset, .unset] [])) _
            refine XS.iloadN X0.here hx rfl (hb hby at_63) rfl ?_
            show Steps p.tables e below (s₁.setTop (mkF m 64 #[.val (.int x0_0), .val (.int ((x0_0 &&& (2147483647 : Int32)) % (6 : Int32))), .unset, .unset] [(.int ((x0_0 &&& (2147483647 : Int32)) % (6 : Int32)))])) _
            refine XS.iconst X0.here hx rfl (hb hby at_64) ?_
            exact kt
          by_cases hc65_22 : ((x0_0 &&& (2147483647 : Int32)) % (6 : Int32)) = (4 : Int32)
          · obtain ⟨T23, X23, e23, st23⟩ := getS2 X0 hx hZ hown (host := "") (Or.inl (hw _ (List.mem_of_getElem? (i := 21) rfl))) Via.refl e0 (W.2.2.2.2.1) (g := (mkF m 68 #[.val (.int x0_0), .val (.int ((x0_0 &&& (2147483647 : Int32)) % (6 : Int32))), .unset, .unset] [])) rfl (hb hby at_68)
            have sg25 : ∀ t, Steps p.tables e below (T23.setTop (mkF m 84 #[.val (.int x0_0), .val (.int ((x0_0 &&& (2147483647 : Int32)) % (6 : Int32))), .val (.ref w_MAP_KEY), .val (.int (1 : Int32))] [(.ref w_MAP_KEY)])) t → Steps p.tables e below (s₁.setTop (mkF m 65 #[.val (.int x0_0), .val (.int ((x0_0 &&& (2147483647 : Int32)) % (6 : Int32))), .unset, .unset] [(.int (4 : Int32)), (.int ((x0_0 &&& (2147483647 : Int32)) % (6 : Int32)))])) t := fun t kt => by
              show Steps p.tables e below (s₁.setTop (mkF m 65 #[.val (.int x0_0), .val (.int ((x0_0 &&& (2147483647 : Int32)) % (6 : Int32))), .unset, .unset] [(.int (4 : Int32)), (.int ((x0_0 &&& (2147483647 : Int32)) % (6 : Int32)))])) _
              refine XS.icmpNo X0.here hx rfl (hb hby at_65) rfl (teq hc65_22).2 ?_
              show Steps p.tables e below (s₁.setTop (mkF m 68 #[.val (.int x0_0), .val (.int ((x0_0 &&& (2147483647 : Int32)) % (6 : Int32))), .unset, .unset] [])) _
              refine st23 _ ?_
              show Steps p.tables e below (T23.setTop (mkF m 71 #[.val (.int x0_0), .val (.int ((x0_0 &&& (2147483647 : Int32)) % (6 : Int32))), .unset, .unset] [(.ref w_MAP_KEY)])) _
              refine XS.astoreN X23.here hx rfl (hb hby at_71) rfl rfl (l' := #[.val (.int x0_0), .val (.int ((x0_0 &&& (2147483647 : Int32)) % (6 : Int32))), .val (.ref w_MAP_KEY), .unset]) rfl ?_
              show Steps p.tables e below (T23.setTop (mkF m 72 #[.val (.int x0_0), .val (.int ((x0_0 &&& (2147483647 : Int32)) % (6 : Int32))), .val (.ref w_MAP_KEY), .unset] [])) _
              refine XS.iconst X23.here hx rfl (hb hby at_72) ?_
              show Steps p.tables e below (T23.setTop (mkF m 73 #[.val (.int x0_0), .val (.int ((x0_0 &&& (2147483647 : Int32)) % (6 : Int32))), .val (.ref w_MAP_KEY), .unset] [(.int (1 : Int32))])) _
              refine XS.istoreN X23.here hx rfl (hb hby at_73) rfl (l' := #[.val (.int x0_0), .val (.int ((x0_0 &&& (2147483647 : Int32)) % (6 : Int32))), .val (.ref w_MAP_KEY), .val (.int (1 : Int32))]) rfl ?_
              show Steps p.tables e below (T23.setTop (mkF m 74 #[.val (.int x0_0), .val (.int ((x0_0 &&& (2147483647 : Int32)) % (6 : Int32))), .val (.ref w_MAP_KEY), .val (.int (1 : Int32))] [])) _
              refine XS.goto X23.here hx rfl (pc0 := 74) (pc' := 83) rfl (hb hby at_74) (by decide) (by decide) ?_
              show Steps p.tables e below (T23.setTop (mkF m 83 #[.val (.int x0_0), .val (.int ((x0_0 &&& (2147483647 : Int32)) % (6 : Int32))), .val (.ref w_MAP_KEY), .val (.int (1 : Int32))] [])) _
              refine XS.aloadN X23.here hx rfl (hb hby at_83) rfl rfl ?_
              exact kt
            obtain ⟨cq24, kq24, q24a, q24b, q24c⟩ := isOf hZ e23 (W.2.2.2.2.2.2.2.2.2.2.1)
            obtain ⟨v24, _, ⟨T24, L24, k24, n24⟩, -, X24, ⟨Lc24, hQ24, l24, y24, z24⟩, st24⟩ := X23.virtualBack hx (y := (⟨"com/example/diatom/diatom/model/Path$Kind", "isNamed", "()Z"⟩ : MethodName)) (z := (⟨"com/example/diatom/diatom/model/Path$Kind", "isNamed", "()Z"⟩ : MethodName)) hown (mvT hZ (hw _ (List.mem_of_getElem? (i := 4) rfl))) (mvT hZ (hw _ (List.mem_of_getElem? (i := 5) rfl))) (notFace_of_selects (args := #[]) (mvT hZ (hw _ (List.mem_of_getElem? (i := 7) rfl)))) (mvT hZ (hw _ (List.mem_of_getElem? (i := 7) rfl))) (mvT hZ (hw _ (List.mem_of_getElem? (i := 6) rfl))) (by decide) (backOf (W := 0) (rm1 l Z a0 hw [] w_MAP_KEY w_FIELD w_ALTERNATIVE w_ARRAY_INDEX w_ARRAY_ITER w_MAP_KEY w_MAP_ITER h0 n0 Z0 W) hZ (hw _ (List.mem_of_getElem? (i := 8) rfl)) (hw _ (List.mem_of_getElem? (i := 2) rfl)) (by decide) (by decide)) q24a q24c (g := (mkF m 84 #[.val (.int x0_0), .val (.int ((x0_0 &&& (2147483647 : Int32)) % (6 : Int32))), .val (.ref w_MAP_KEY), .val (.int (1 : Int32))] [(.ref w_MAP_KEY)])) rfl (by rw [hml]; rfl) (Steps.refl _) (argsL := []) (rest := []) (lenOf pd_0 rfl) rfl (by show 2 * 0 + _ ≤ _; exact Nat.le_of_eq rfl) (hb hby at_84) (fun _ _ => ⟨rfl, e23, (by decide : 0 + 0 ≤ _), (by decide : 0 + 0 ≤ _)⟩)
            dsimp only [Pt.U, Pt.locs, Pt.cells, Pt.slots] at X24 l24 y24 z24 st24 hQ24
            subst l24 y24 z24
            obtain ⟨hv24, N24q, e24⟩ := hQ24
            have N24 := Fr.app N0 N24q
            have hf24 : f1 w_MAP_KEY w_FIELD w_ALTERNATIVE w_ARRAY_INDEX w_ARRAY_ITER w_MAP_KEY w_MAP_ITER = (1 : Int32) := by unfold f1; rw [if_neg (Fld.ne (W.2.2.2.2.2.2.2.2.2.2.2.2.2.2.2.2.1) (W.2.2.2.2.2.2.2.2.2.2.2.2.1) (by decide) : ¬ (w_MAP_KEY = w_FIELD)), if_neg (Fld.ne (W.2.2.2.2.2.2.2.2.2.2.2.2.2.2.2.2.1) (W.2.2.2.2.2.2.2.2.2.2.2.2.2.1) (by decide) : ¬ (w_MAP_KEY = w_ALTERNATIVE)), if_pos (rfl : w_MAP_KEY = w_MAP_KEY)]
            rw [hf24] at hv24
            subst hv24
            obtain ⟨fs, hr, hrun, hended, hW, hsame⟩ := X24.leave (v := some (.int (1 : Int32))) (fun h => by rw [Bd.returns] at h; cases h)
            refine ⟨_, _, pre0 _ (sg1 _ (sg6 _ (sg11 _ (sg16 _ (sg21 _ (sg25 _ ?_)))))), hrun, hended, _, _, rfl, ?_, ⟨_, rfl⟩, hW, hsame.mono (by decide) (by decide)⟩
            · show Steps p.tables e below (T23.setTop (mkF m 84 #[.val (.int x0_0), .val (.int ((x0_0 &&& (2147483647 : Int32)) % (6 : Int32))), .val (.ref w_MAP_KEY), .val (.int (1 : Int32))] [(.ref w_MAP_KEY)])) _
              refine st24.trans ?_
              show Steps p.tables e below (T24.setTop (mkF m 87 #[.val (.int x0_0), .val (.int ((x0_0 &&& (2147483647 : Int32)) % (6 : Int32))), .val (.ref w_MAP_KEY), .val (.int (1 : Int32))] [(.int (1 : Int32))])) _
              refine XS.iloadN X24.here hx rfl (hb hby at_87) rfl ?_
              show Steps p.tables e below (T24.setTop (mkF m 88 #[.val (.int x0_0), .val (.int ((x0_0 &&& (2147483647 : Int32)) % (6 : Int32))), .val (.ref w_MAP_KEY), .val (.int (1 : Int32))] [(.int (1 : Int32)), (.int (1 : Int32))])) _
              refine XS.icmpNo X24.here hx rfl (hb hby at_88) rfl (teq (by decide : ((1 : Int32) = (1 : Int32)))).2 ?_
              show Steps p.tables e below (T24.setTop (mkF m 91 #[.val (.int x0_0), .val (.int ((x0_0 &&& (2147483647 : Int32)) % (6 : Int32))), .val (.ref w_MAP_KEY), .val (.int (1 : Int32))] [])) _
              refine XS.iconst X24.here hx rfl (hb hby at_91) ?_
              show Steps p.tables e below (T24.setTop (mkF m 92 #[.val (.int x0_0), .val (.int ((x0_0 &&& (2147483647 : Int32)) % (6 : Int32))), .val (.ref w_MAP_KEY), .val (.int (1 : Int32))] [(.int (1 : Int32))])) _
              refine XS.goto X24.here hx rfl (pc0 := 92) (pc' := 96) rfl (hb hby at_92) (by decide) (by decide) ?_
              show Steps p.tables e below (T24.setTop (mkF m 96 #[.val (.int x0_0), .val (.int ((x0_0 &&& (2147483647 : Int32)) % (6 : Int32))), .val (.ref w_MAP_KEY), .val (.int (1 : Int32))] [(.int (1 : Int32))])) _
              exact retN X24 hx (t := .boolean) Bd.returns (by simp) (hb hby at_96) hr
            · exact ⟨congrArg (fun z => some (Value.int z)) (show (1 : Int32) = f0 x0_0 w_FIELD w_ALTERNATIVE w_ARRAY_INDEX w_ARRAY_ITER w_MAP_KEY w_MAP_ITER from by unfold f0; rw [if_neg hc9_2, if_neg hc23_7, if_neg hc37_12, if_neg hc51_17, if_pos hc65_22]), N24, e24⟩
          · obtain ⟨T26, X26, e26, st26⟩ := getS2 X0 hx hZ hown (host := "") (Or.inl (hw _ (List.mem_of_getElem? (i := 19) rfl))) Via.refl e0 (W.2.2.2.2.2.1) (g := (mkF m 77 #[.val (.int x0_0), .val (.int ((x0_0 &&& (2147483647 : Int32)) % (6 : Int32))), .unset, .unset] [])) rfl (hb hby at_77)
            have sg28 : ∀ t, Steps p.tables e below (T26.setTop (mkF m 84 #[.val (.int x0_0), .val (.int ((x0_0 &&& (2147483647 : Int32)) % (6 : Int32))), .val (.ref w_MAP_ITER), .val (.int (0 : Int32))] [(.ref w_MAP_ITER)])) t → Steps p.tables e below (s₁.setTop (mkF m 65 #[.val (.int x0_0), .val (.int ((x0_0 &&& (2147483647 : Int32)) % (6 : Int32))), .unset, .unset] [(.int (4 : Int32)), (.int ((x0_0 &&& (2147483647 : Int32)) % (6 : Int32)))])) t := fun t kt => by
              show Steps p.tables e below (s₁.setTop (mkF m 65 #[.val (.int x0_0), .val (.int ((x0_0 &&& (2147483647 : Int32)) % (6 : Int32))), .unset, .unset] [(.int (4 : Int32)), (.int ((x0_0 &&& (2147483647 : Int32)) % (6 : Int32)))])) _
              refine XS.icmpYes X0.here hx rfl (pc0 := 65) (pc' := 77) rfl (hb hby at_65) rfl (feq hc65_22).2 (by decide) (by decide) ?_
              show Steps p.tables e below (s₁.setTop (mkF m 77 #[.val (.int x0_0), .val (.int ((x0_0 &&& (2147483647 : Int32)) % (6 : Int32))), .unset, .unset] [])) _
              refine st26 _ ?_
              show Steps p.tables e below (T26.setTop (mkF m 80 #[.val (.int x0_0), .val (.int ((x0_0 &&& (2147483647 : Int32)) % (6 : Int32))), .unset, .unset] [(.ref w_MAP_ITER)])) _
              refine XS.astoreN X26.here hx rfl (hb hby at_80) rfl rfl (l' := #[.val (.int x0_0), .val (.int ((x0_0 &&& (2147483647 : Int32)) % (6 : Int32))), .val (.ref w_MAP_ITER), .unset]) rfl ?_
              show Steps p.tables e below (T26.setTop (mkF m 81 #[.val (.int x0_0), .val (.int ((x0_0 &&& (2147483647 : Int32)) % (6 : Int32))), .val (.ref w_MAP_ITER), .unset] [])) _
              refine XS.iconst X26.here hx rfl (hb hby at_81) ?_
              show Steps p.tables e below (T26.setTop (mkF m 82 #[.val (.int x0_0), .val (.int ((x0_0 &&& (2147483647 : Int32)) % (6 : Int32))), .val (.ref w_MAP_ITER), .unset] [(.int (0 : Int32))])) _
              refine XS.istoreN X26.here hx rfl (hb hby at_82) rfl (l' := #[.val (.int x0_0), .val (.int ((x0_0 &&& (2147483647 : Int32)) % (6 : Int32))), .val (.ref w_MAP_ITER), .val (.int (0 : Int32))]) rfl ?_
              show Steps p.tables e below (T26.setTop (mkF m 83 #[.val (.int x0_0), .val (.int ((x0_0 &&& (2147483647 : Int32)) % (6 : Int32))), .val (.ref w_MAP_ITER), .val (.int (0 : Int32))] [])) _
              refine XS.aloadN X26.here hx rfl (hb hby at_83) rfl rfl ?_
              exact kt
            obtain ⟨cq27, kq27, q27a, q27b, q27c⟩ := isOf hZ e26 (W.2.2.2.2.2.2.2.2.2.2.2.1)
            obtain ⟨v27, _, ⟨T27, L27, k27, n27⟩, -, X27, ⟨Lc27, hQ27, l27, y27, z27⟩, st27⟩ := X26.virtualBack hx (y := (⟨"com/example/diatom/diatom/model/Path$Kind", "isNamed", "()Z"⟩ : MethodName)) (z := (⟨"com/example/diatom/diatom/model/Path$Kind", "isNamed", "()Z"⟩ : MethodName)) hown (mvT hZ (hw _ (List.mem_of_getElem? (i := 4) rfl))) (mvT hZ (hw _ (List.mem_of_getElem? (i := 5) rfl))) (notFace_of_selects (args := #[]) (mvT hZ (hw _ (List.mem_of_getElem? (i := 7) rfl)))) (mvT hZ (hw _ (List.mem_of_getElem? (i := 7) rfl))) (mvT hZ (hw _ (List.mem_of_getElem? (i := 6) rfl))) (by decide) (backOf (W := 0) (rm1 l Z a0 hw [] w_MAP_ITER w_FIELD w_ALTERNATIVE w_ARRAY_INDEX w_ARRAY_ITER w_MAP_KEY w_MAP_ITER h0 n0 Z0 W) hZ (hw _ (List.mem_of_getElem? (i := 8) rfl)) (hw _ (List.mem_of_getElem? (i := 2) rfl)) (by decide) (by decide)) q27a q27c (g := (mkF m 84 #[.val (.int x0_0), .val (.int ((x0_0 &&& (2147483647 : Int32)) % (6 : Int32))), .val (.ref w_MAP_ITER), .val (.int (0 : Int32))] [(.ref w_MAP_ITER)])) rfl (by rw [hml]; rfl) (Steps.refl _) (argsL := []) (rest := []) (lenOf pd_0 rfl) rfl (by show 2 * 0 + _ ≤ _; exact Nat.le_of_eq rfl) (hb hby at_84) (fun _ _ => ⟨rfl, e26, (by decide : 0 + 0 ≤ _), (by decide : 0 + 0 ≤ _)⟩)
            dsimp only [Pt.U, Pt.locs, Pt.cells, Pt.slots] at X27 l27 y27 z27 st27 hQ27
            subst l27 y27 z27
            obtain ⟨hv27, N27q, e27⟩ := hQ27
            have N27 := Fr.app N0 N27q
            have hf27 : f1 w_MAP_ITER w_FIELD w_ALTERNATIVE w_ARRAY_INDEX w_ARRAY_ITER w_MAP_KEY w_MAP_ITER = (0 : Int32) := by unfold f1; rw [if_neg (Fld.ne (W.2.2.2.2.2.2.2.2.2.2.2.2.2.2.2.2.2) (W.2.2.2.2.2.2.2.2.2.2.2.2.1) (by decide) : ¬ (w_MAP_ITER = w_FIELD)), if_neg (Fld.ne (W.2.2.2.2.2.2.2.2.2.2.2.2.2.2.2.2.2) (W.2.2.2.2.2.2.2.2.2.2.2.2.2.1) (by decide) : ¬ (w_MAP_ITER = w_ALTERNATIVE)), if_neg (Fld.ne (W.2.2.2.2.2.2.2.2.2.2.2.2.2.2.2.2.2) (W.2.2.2.2.2.2.2.2.2.2.2.2.2.2.2.2.1) (by decide) : ¬ (w_MAP_ITER = w_MAP_KEY))]
            rw [hf27] at hv27
            subst hv27
            obtain ⟨fs, hr, hrun, hended, hW, hsame⟩ := X27.leave (v := some (.int (1 : Int32))) (fun h => by rw [Bd.returns] at h; cases h)
            refine ⟨_, _, pre0 _ (sg1 _ (sg6 _ (sg11 _ (sg16 _ (sg21 _ (sg28 _ ?_)))))), hrun, hended, _, _, rfl, ?_, ⟨_, rfl⟩, hW, hsame.mono (by decide) (by decide)⟩
            · show Steps p.tables e below (T26.setTop (mkF m 84 #[.val (.int x0_0), .val (.int ((x0_0 &&& (2147483647 : Int32)) % (6 : Int32))), .val (.ref w_MAP_ITER), .val (.int (0 : Int32))] [(.ref w_MAP_ITER)])) _
              refine st27.trans ?_
              show Steps p.tables e below (T27.setTop (mkF m 87 #[.val (.int x0_0), .val (.int ((x0_0 &&& (2147483647 : Int32)) % (6 : Int32))), .val (.ref w_MAP_ITER), .val (.int (0 : Int32))] [(.int (0 : Int32))])) _
              refine XS.iloadN X27.here hx rfl (hb hby at_87) rfl ?_
              show Steps p.tables e below (T27.setTop (mkF m 88 #[.val (.int x0_0), .val (.int ((x0_0 &&& (2147483647 : Int32)) % (6 : Int32))), .val (.ref w_MAP_ITER), .val (.int (0 : Int32))] [(.int (0 : Int32)), (.int (0 : Int32))])) _
              refine XS.icmpNo X27.here hx rfl (hb hby at_88) rfl (teq (by decide : ((0 : Int32) = (0 : Int32)))).2 ?_
              show Steps p.tables e below (T27.setTop (mkF m 91 #[.val (.int x0_0), .val (.int ((x0_0 &&& (2147483647 : Int32)) % (6 : Int32))), .val (.ref w_MAP_ITER), .val (.int (0 : Int32))] [])) _
              refine XS.iconst X27.here hx rfl (hb hby at_91) ?_
              show Steps p.tables e below (T27.setTop (mkF m 92 #[.val (.int x0_0), .val (.int ((x0_0 &&& (2147483647 : Int32)) % (6 : Int32))), .val (.ref w_MAP_ITER), .val (.int (0 : Int32))] [(.int (1 : Int32))])) _
              refine XS.goto X27.here hx rfl (pc0 := 92) (pc' := 96) rfl (hb hby at_92) (by decide) (by decide) ?_
              show Steps p.tables e below (T27.setTop (mkF m 96 #[.val (.int x0_0), .val (.int ((x0_0 &&& (2147483647 : Int32)) % (6 : Int32))), .val (.ref w_MAP_ITER), .val (.int (0 : Int32))] [(.int (1 : Int32))])) _
              exact retN X27 hx (t := .boolean) Bd.returns (by simp) (hb hby at_96) hr
            · exact ⟨congrArg (fun z => some (Value.int z)) (show (1 : Int32) = f0 x0_0 w_FIELD w_ALTERNATIVE w_ARRAY_INDEX w_ARRAY_ITER w_MAP_KEY w_MAP_ITER from by unfold f0; rw [if_neg hc9_2, if_neg hc23_7, if_neg hc37_12, if_neg hc51_17, if_neg hc65_22]), N27, e27⟩
set_option maxRecDepth 65536 in
set_option maxHeartbeats 40000000 in
theorem comes_1 {Post : Tables → Env → Array Value → State → Outcome → State → Prop} (hpost : ∀ tb e args s v u, (limb_1_1.after args s (.returned v) u = true ∧ limb_1_2.after args s (.returned v) u = true ∧ True) → FrameEnd s (.returned v) u (Jvm.fieldLocs frame_1_writes args s ++ Jvm.arrayLocs frame_1_arrays args s ++ Jvm.staticLocs frame_1_statics s) 0 0 → Post tb e args s (.returned v) u) :
    ArmFor flags0 classFile x code maxLocals ret World_1 tables_1 room_1 Calls_1 rest_1 Pre_1 Post := by
  intro l hfl _ _ p e ha hc hk s m args below hf hA hF happ hP
  obtain ⟨hcalls, hrest, hpre⟩ := hP
  obtain ⟨-, -, -, hnamed, -, -, -, hat⟩ := (Spec.applies_iff hf).mp happ
  obtain ⟨hg, hn⟩ := and_e (Cond.before_iff.mp (show (Jvm.Cond.and given_1 narrow_1).before args s = true from hpre))
  obtain ⟨g1, g2⟩ := and_e hg
  obtain ⟨w0, rfl⟩ : ∃ w0 : Value, args = #[w0] := by
    have hs : args.size = 1 := by simpa [Cond.value, given_1] using g1
    obtain ⟨L⟩ := args
    match L, hs with
    | [w0], _ => exact ⟨w0, rfl⟩
  have hw := fun d (hd : d ∈ tables_1) => atoms_spec (ws := Jvm.Cond.code x code maxLocals ret :: tables_1) hat d (List.mem_cons_of_mem _ hd)
  obtain ⟨i0, ei0⟩ := is_v g2
  obtain rfl : w0 = (.int i0) := Option.some.inj ei0
  obtain ⟨m1, m2⟩ := and_e hn
  obtain ⟨m3, m4⟩ := and_e m2
  obtain ⟨m5, m6⟩ := and_e m4
  obtain ⟨m7, m8⟩ := and_e m6
  obtain ⟨m9, m10⟩ := and_e m8
  obtain ⟨m11, m12⟩ := and_e m10
  obtain ⟨m13, m14⟩ := and_e m12
  obtain ⟨m15, m16⟩ := and_e m14
  obtain ⟨m17, m18⟩ := and_e m16
  obtain ⟨m19, m20⟩ := and_e m18
  obtain ⟨m21, m22⟩ := and_e m20
  obtain ⟨w_FIELD, evw_FIELD⟩ := exa_v m1
  obtain ⟨w_ALTERNATIVE, evw_ALTERNATIVE⟩ := exa_v m9
  obtain ⟨w_ARRAY_INDEX, evw_ARRAY_INDEX⟩ := exa_v m17
  obtain ⟨w_ARRAY_ITER, evw_ARRAY_ITER⟩ := exa_v m3
  obtain ⟨w_MAP_KEY, evw_MAP_KEY⟩ := exa_v m13
  obtain ⟨w_MAP_ITER, evw_MAP_ITER⟩ := exa_v m21
  have WW : World s s.heap w_FIELD w_ALTERNATIVE w_ARRAY_INDEX w_ARRAY_ITER w_MAP_KEY w_MAP_ITER := ⟨Sta.start evw_FIELD (Or.inr ⟨(hw _ (List.mem_of_getElem? (i := 2) rfl)), (hw _ (List.mem_of_getElem? (i := 3) rfl))⟩), Sta.start evw_ALTERNATIVE (Or.inr ⟨(hw _ (List.mem_of_getElem? (i := 2) rfl)), (hw _ (List.mem_of_getElem? (i := 13) rfl))⟩), Sta.start evw_ARRAY_INDEX (Or.inr ⟨(hw _ (List.mem_of_getElem? (i := 2) rfl)), (hw _ (List.mem_of_getElem? (i := 17) rfl))⟩), Sta.start evw_ARRAY_ITER (Or.inr ⟨(hw _ (List.mem_of_getElem? (i := 2) rfl)), (hw _ (List.mem_of_getElem? (i := 11) rfl))⟩), Sta.start evw_MAP_KEY (Or.inr ⟨(hw _ (List.mem_of_getElem? (i := 2) rfl)), (hw _ (List.mem_of_getElem? (i := 15) rfl))⟩), Sta.start evw_MAP_ITER (Or.inr ⟨(hw _ (List.mem_of_getElem? (i := 2) rfl)), (hw _ (List.mem_of_getElem? (i := 20) rfl))⟩), Exa.start evw_FIELD m1, Exa.start evw_ALTERNATIVE m9, Exa.start evw_ARRAY_INDEX m17, Exa.start evw_ARRAY_ITER m3, Exa.start evw_MAP_KEY m13, Exa.start evw_MAP_ITER m21, Fld.start ((fld_at evw_FIELD).symm.trans (own_eqI m7)), Fld.start ((fld_at evw_ALTERNATIVE).symm.trans (own_eqI m11)), Fld.start ((fld_at evw_ARRAY_INDEX).symm.trans (own_eqI m19)), Fld.start ((fld_at evw_ARRAY_ITER).symm.trans (own_eqI m5)), Fld.start ((fld_at evw_MAP_KEY).symm.trans (own_eqI m15)), Fld.start ((fld_at evw_MAP_ITER).symm.trans (own_eqI m22))⟩
  obtain ⟨n, o, h1, h2, h3, _, L, rfl, ⟨rfl, N, -⟩, hq⟩ := rm0 l s _ hw tables_1 i0 w_FIELD w_ALTERNATIVE w_ARRAY_INDEX w_ARRAY_ITER w_MAP_KEY w_MAP_ITER s.heap s.heap.size (Nat.le_refl _) WW p e ha hc hk s m _ below hf ((Spec.applies_iff_loose hf).mp happ).1 ⟨rfl, State.Warmed39.refl s, rfl⟩ trivial
  have hone : f0 i0 w_FIELD w_ALTERNATIVE w_ARRAY_INDEX w_ARRAY_ITER w_MAP_KEY w_MAP_ITER = 1 := (by unfold f0; (repeat' split) <;> rfl)
  rw [hone] at h3 hq
  refine ⟨n, _, h1, h2, h3, hpost _ _ _ _ _ _ ⟨Cond.after_iff.mpr rfl, Cond.after_iff.mpr (eq_i res_at (Term.int_eval (1)) rfl), trivial⟩ ⟨hq.1, hq.2.1, (hq.2.2.sift fun y hy => Or.inr (N y hy)).mono (by decide) (by decide)⟩⟩
theorem main_1_1 : Claimed_1_1 := comes_1 fun _ _ _ _ _ _ h hF => ⟨h.1, hF⟩
theorem main_1_2 : Claimed_1_2 := comes_1 fun _ _ _ _ _ _ h hF => ⟨h.2.1, hF⟩
end Jvm.Pilot.@@N@@
namespace Jvm.Pilot.@@N@@
open Jvm Jvm.ClassFile Sem Op Lib Jvm.Free Jvm.Stand Jvm.Pilot.@@N@@.Jvm.D
/-! MADE BY PROGRAM (witnessworld.py) out of the Statement's table words and the real class files: 10 classes; the members and pool entries that the words name. The judged class is class 1, her method 1. -/
namespace start1
open Jvm.ClassFile
def u (s : String) : CpInfo := .utf8 (stringToUtf16 s)
/-- a pool by its gaps: so many unusable entries, then the entry; so many at the end -/
def gap : Nat → List CpInfo → List CpInfo
  | 0, r => r
  | n + 1, r => .unusable :: gap n r
def poolList (es : List (Nat × CpInfo)) (last : Nat) : List CpInfo := es.foldr (fun e r => gap e.1 (e.2 :: r)) (gap last [])
def pool (es : List (Nat × CpInfo)) (last : Nat) : Array CpInfo := ⟨poolList es last⟩
def fileOf (pool : Array CpInfo) (this : Nat) (attrs : Array Attribute := #[]) (ms : Array MethodInfo := #[]) (fl : Nat := 33) (sup : Nat := 0) (ifs : Array Nat := #[]) (fds : Array FieldInfo := #[]) : ClassFile where
  minorVersion := 0
  majorVersion := 65
  constantPool := pool
  accessFlags := fl
  thisClass := this
  superClass := sup
  interfaces := ifs
  fields := fds
  methods := ms
  attributes := attrs
def plain (name : String) (sup : Option ClassId) : Class where
  name := name
  kind := .ordinary
  loader := none
  accessFlags := 33
  super := sup
  interfaces := #[]
  cf := none
  fields := #[]
  methods := #[]
  instanceTypes := #[]
  staticTypes := #[]
  resolved := #[]
  callSites := []
  init := .initialized
  statics := none
  mirror := none

def pool0 : Array CpInfo := pool [(5, u "<init>"), (0, u "()V"), (1, .class_ 10), (1, u "java/lang/Object")] 113

def k0m0 : Method := { name := "<init>", desc := "()V", sig := { parameters := [], returnType := none }, accessFlags := 1, code := none }
/-- java/lang/Object -/
def k0 : Class := { plain "java/lang/Object" none with
  accessFlags := 33
  interfaces := #[]
  cf := some (fileOf pool0 8 #[] #[{ accessFlags := 1, nameIndex := 5, descriptorIndex := 6, attributes := #[] }] 33 0 #[] #[])
  fields := #[]
  methods := #[k0m0]
  instanceTypes := #[]
  staticTypes := #[]
  resolved := Array.replicate 124 none
  statics := none }

def pool1 : Array CpInfo := pool [(2, .class_ 4), (1, u "java/lang/Object"), (0, u "<init>"), (0, u "()V"), (0, .integer 2147483647), (0, .fieldref 9 10), (0, .class_ 11), (0, .nameAndType 12 13), (0, u "com/example/diatom/diatom/model/Path$Kind"), (0, u "FIELD"), (0, u "Lcom/example/diatom/diatom/model/Path$Kind;"), (0, .fieldref 9 15), (0, .nameAndType 16 13), (0, u "ALTERNATIVE"), (0, .fieldref 9 18), (0, .nameAndType 19 13), (0, u "ARRAY_INDEX"), (0, .fieldref 9 21), (0, .nameAndType 22 13), (0, u "ARRAY_ITER"), (0, .fieldref 9 24), (0, .nameAndType 25 13), (0, u "MAP_KEY"), (0, .fieldref 9 27), (0, .nameAndType 28 13), (0, u "MAP_ITER"), (0, .methodref 9 30), (0, .nameAndType 31 32), (0, u "isNamed"), (0, u "()Z"), (0, .class_ 34), (0, u "com/example/diatom/diatom/model/KindIsNamedPinLaw"), (2, u "law"), (0, u "(I)Z")] 7

def k1m0 : Method := { name := "<init>", desc := "()V", sig := { parameters := [], returnType := none }, accessFlags := 1, code := none }
def k1c1 : Code := { maxStack := 2, maxLocals := 4, code := code, exceptionTable := #[], attributes := #[] }
def k1m1 : Method := { name := "law", desc := "(I)Z", sig := { parameters := [.int], returnType := some .boolean }, accessFlags := 9, code := some k1c1 }
/-- com/example/diatom/diatom/model/KindIsNamedPinLaw -/
def k1 : Class := { plain "com/example/diatom/diatom/model/KindIsNamedPinLaw" (some 0) with
  accessFlags := 49
  interfaces := #[]
  cf := some (fileOf pool1 33 #[] #[{ accessFlags := 1, nameIndex := 5, descriptorIndex := 6, attributes := #[] }, { accessFlags := 9, nameIndex := 37, descriptorIndex := 38, attributes := #[] }] 49 2 #[] #[])
  fields := #[]
  methods := #[k1m0, k1m1]
  instanceTypes := #[]
  staticTypes := #[]
  resolved := Array.replicate 46 none
  statics := none }

def pool2 : Array CpInfo := pool [(1, .class_ 2), (0, u "java/lang/constant/Constable"), (0, .class_ 4), (0, u "java/lang/Object")] 6

/-- java/lang/constant/Constable -/
def k2 : Class := { plain "java/lang/constant/Constable" (some 0) with
  accessFlags := 1537
  interfaces := #[]
  cf := some (fileOf pool2 1 #[] #[] 1537 3 #[] #[])
  fields := #[]
  methods := #[]
  instanceTypes := #[]
  staticTypes := #[]
  resolved := Array.replicate 11 none
  statics := none }

def pool3 : Array CpInfo := pool [(1, .class_ 2), (0, u "java/lang/Comparable"), (0, .class_ 4), (0, u "java/lang/Object")] 7

/-- java/lang/Comparable -/
def k3 : Class := { plain "java/lang/Comparable" (some 0) with
  accessFlags := 1537
  interfaces := #[]
  cf := some (fileOf pool3 1 #[] #[] 1537 3 #[] #[])
  fields := #[]
  methods := #[]
  instanceTypes := #[]
  staticTypes := #[]
  resolved := Array.replicate 12 none
  statics := none }

def pool4 : Array CpInfo := pool [(1, .class_ 2), (0, u "java/io/Serializable"), (0, .class_ 4), (0, u "java/lang/Object")] 2

/-- java/io/Serializable -/
def k4 : Class := { plain "java/io/Serializable" (some 0) with
  accessFlags := 1537
  interfaces := #[]
  cf := some (fileOf pool4 1 #[] #[] 1537 3 #[] #[])
  fields := #[]
  methods := #[]
  instanceTypes := #[]
  staticTypes := #[]
  resolved := Array.replicate 7 none
  statics := none }

def pool5 : Array CpInfo := pool [(2, .class_ 4), (1, u "java/lang/Enum"), (0, u "name"), (0, u "Ljava/lang/String;"), (2, u "ordinal"), (0, u "I"), (1, .class_ 14), (1, u "java/lang/Object"), (4, u "hash"), (86, .class_ 108), (1, u "java/lang/Enum$EnumDesc"), (2, .class_ 112), (0, u "java/lang/constant/Constable"), (0, .class_ 114), (0, u "java/lang/Comparable"), (0, .class_ 116), (0, u "java/io/Serializable")] 87

/-- java/lang/Enum -/
def k5 : Class := { plain "java/lang/Enum" (some 0) with
  accessFlags := 1057
  interfaces := #[2, 3, 4]
  cf := some (fileOf pool5 2 #[.nestMembers #[106]] #[] 1057 12 #[111, 113, 115] #[{ accessFlags := 18, nameIndex := 5, descriptorIndex := 6, attributes := #[] }, { accessFlags := 18, nameIndex := 9, descriptorIndex := 10, attributes := #[] }, { accessFlags := 2, nameIndex := 19, descriptorIndex := 10, attributes := #[] }])
  fields := #[{ name := "name", type := (.object "java/lang/String"), accessFlags := 18, slot := 0, constantValue := 0 }, { name := "ordinal", type := .int, accessFlags := 18, slot := 1, constantValue := 0 }, { name := "hash", type := .int, accessFlags := 2, slot := 2, constantValue := 0 }]
  methods := #[]
  instanceTypes := #[(.object "java/lang/String"), .int, .int]
  staticTypes := #[]
  resolved := Array.replicate 204 none
  statics := none }

def pool6 : Array CpInfo := pool [(1, .class_ 2), (0, u "com/example/diatom/diatom/model/Path$Kind"), (0, .fieldref 1 4), (0, .nameAndType 5 6), (0, u "FIELD"), (0, u "Lcom/example/diatom/diatom/model/Path$Kind;"), (0, .fieldref 1 8), (0, .nameAndType 9 6), (0, u "ALTERNATIVE"), (2, u "ARRAY_INDEX"), (2, u "ARRAY_ITER"), (0, .fieldref 1 17), (0, .nameAndType 18 6), (0, u "MAP_KEY"), (2, u "MAP_ITER"), (2, u "$VALUES"), (0, u "[Lcom/example/diatom/diatom/model/Path$Kind;"), (6, .class_ 34), (1, u "java/lang/Enum"), (8, u "key"), (0, u "Ljava/lang/String;"), (33, u "isNamed"), (0, u "()Z"), (7, .class_ 88), (0, u "com/example/diatom/diatom/model/Path")] 2

def k6c0 : Code := { maxStack := 2, maxLocals := 1, code := prog_52_method_5_code, exceptionTable := #[], attributes := #[] }
def k6m0 : Method := { name := "isNamed", desc := "()Z", sig := { parameters := [], returnType := some .boolean }, accessFlags := 1, code := some k6c0 }
/-- com/example/diatom/diatom/model/Path$Kind -/
def k6 : Class := { plain "com/example/diatom/diatom/model/Path$Kind" (some 5) with
  accessFlags := 16433
  interfaces := #[]
  cf := some (fileOf pool6 1 #[.nestHost 87] #[{ accessFlags := 1, nameIndex := 78, descriptorIndex := 79, attributes := #[] }] 16433 32 #[] #[{ accessFlags := 16409, nameIndex := 5, descriptorIndex := 6, attributes := #[] }, { accessFlags := 16409, nameIndex := 9, descriptorIndex := 6, attributes := #[] }, { accessFlags := 16409, nameIndex := 12, descriptorIndex := 6, attributes := #[] }, { accessFlags := 16409, nameIndex := 15, descriptorIndex := 6, attributes := #[] }, { accessFlags := 16409, nameIndex := 18, descriptorIndex := 6, attributes := #[] }, { accessFlags := 16409, nameIndex := 21, descriptorIndex := 6, attributes := #[] }, { accessFlags := 18, nameIndex := 43, descriptorIndex := 44, attributes := #[] }, { accessFlags := 4122, nameIndex := 24, descriptorIndex := 25, attributes := #[] }])
  fields := #[{ name := "FIELD", type := (.object "com/example/diatom/diatom/model/Path$Kind"), accessFlags := 16409, slot := 0, constantValue := 0 }, { name := "ALTERNATIVE", type := (.object "com/example/diatom/diatom/model/Path$Kind"), accessFlags := 16409, slot := 1, constantValue := 0 }, { name := "ARRAY_INDEX", type := (.object "com/example/diatom/diatom/model/Path$Kind"), accessFlags := 16409, slot := 2, constantValue := 0 }, { name := "ARRAY_ITER", type := (.object "com/example/diatom/diatom/model/Path$Kind"), accessFlags := 16409, slot := 3, constantValue := 0 }, { name := "MAP_KEY", type := (.object "com/example/diatom/diatom/model/Path$Kind"), accessFlags := 16409, slot := 4, constantValue := 0 }, { name := "MAP_ITER", type := (.object "com/example/diatom/diatom/model/Path$Kind"), accessFlags := 16409, slot := 5, constantValue := 0 }, { name := "key", type := (.object "java/lang/String"), accessFlags := 18, slot := 3, constantValue := 0 }, { name := "$VALUES", type := (.array (.object "com/example/diatom/diatom/model/Path$Kind")), accessFlags := 4122, slot := 6, constantValue := 0 }]
  methods := #[k6m0]
  instanceTypes := #[(.object "java/lang/String"), .int, .int, (.object "java/lang/String")]
  staticTypes := #[(.object "com/example/diatom/diatom/model/Path$Kind"), (.object "com/example/diatom/diatom/model/Path$Kind"), (.object "com/example/diatom/diatom/model/Path$Kind"), (.object "com/example/diatom/diatom/model/Path$Kind"), (.object "com/example/diatom/diatom/model/Path$Kind"), (.object "com/example/diatom/diatom/model/Path$Kind"), (.array (.object "com/example/diatom/diatom/model/Path$Kind"))]
  resolved := Array.replicate 91 none
  statics := some 0 }

def pool7 : Array CpInfo := pool [(1, u "java/lang/Cloneable"), (0, .class_ 1), (0, u "java/lang/Object"), (0, .class_ 3)] 3

/-- java/lang/Cloneable -/
def k7 : Class := { plain "java/lang/Cloneable" (some 0) with
  accessFlags := 1537
  interfaces := #[]
  cf := some (fileOf pool7 2 #[] #[] 1537 4 #[] #[])
  fields := #[]
  methods := #[]
  instanceTypes := #[]
  staticTypes := #[]
  resolved := Array.replicate 8 none
  statics := none }

/-- the primitive byte -/
def k8 : Class := { plain "byte" none with kind := .primitive 'B', accessFlags := 0x411 }
/-- [B -/
def k9 : Class := { plain "[B" (some 0) with kind := .array 8 .byte, interfaces := #[7, 4], accessFlags := 1041 }

def heap : Heap := #[{ cls := 6, slots := #[.ref 1, .ref 2, .ref 3, .ref 4, .ref 5, .ref 6, .null], vm := .statics 6 },
  { cls := 6, slots := #[.null, .int 0, .int 0, .null], vm := .none },
  { cls := 6, slots := #[.null, .int 1, .int 0, .null], vm := .none },
  { cls := 6, slots := #[.null, .int 2, .int 0, .null], vm := .none },
  { cls := 6, slots := #[.null, .int 3, .int 0, .null], vm := .none },
  { cls := 6, slots := #[.null, .int 4, .int 0, .null], vm := .none },
  { cls := 6, slots := #[.null, .int 5, .int 0, .null], vm := .none }]
def classes : Array Class := #[k0, k1, k2, k3, k4, k5, k6, k7, k8, k9]
def interned : List (Array UInt16 × Addr) := []
def slotsUsed : Nat := 31
def theMethod : MethodId := ⟨1, 1⟩
def args0 : Array Value := #[.int 5]
def aboutOver (below : List Frame) : State where
  vm := { classes := classes, interned := interned.toArray }
  heap := heap
  slotsUsed := slotsUsed
  threads := #[{ frames := .invoking theMethod args0 :: below }]
def below0 : List Frame := [.native { method := ⟨0, 0⟩, args := #[] }]
def about1 : State := aboutOver below0
def p0 : Program := .bare "" "" ""
def e0 : Env := launch0.env 0 0 0
theorem w_frames : about1.frames = Frame.invoking theMethod args0 :: below0 := rfl
set_option maxRecDepth 65536 in
theorem w_args : argsFit about1.vm theMethod args0 = true := by decide +kernel
set_option maxRecDepth 65536 in
theorem w_heap : heapFits about1 = true := by decide +kernel
set_option maxRecDepth 65536 in
theorem w_runnable : about1.curStatus? = some .runnable := by decide +kernel
set_option maxRecDepth 65536 in
theorem w_alone : about1.alone = true := by decide +kernel
set_option maxRecDepth 65536 in
theorem w_named : about1.methodNamed? x = some theMethod := by decide +kernel
set_option maxRecDepth 65536 in
theorem w_hears : about1.hears theMethod below0 = true := by decide +kernel
set_option maxRecDepth 65536 in
theorem w_ripe : about1.ripe theMethod args0 below0 = true := by decide +kernel
theorem w_running : about1.status = .running := rfl
set_option maxRecDepth 65536 in
theorem w_room : about1.hasRoom e0.platform room_1 = true :=
  launch0.hasRoom_least _ room_1 (by decide +kernel) (by decide +kernel) (by decide +kernel) (by decide +kernel) (by decide +kernel) (by decide +kernel)
theorem allAtoms_all (ts : List Jvm.Cond) (a : Array Jvm.Value) (st : Jvm.State) : (allAtoms ts).before a st = ts.all (fun c => c.before a st) := by
  induction ts with
  | nil => rfl
  | cons c t ih =>
    show (Jvm.Cond.and c (allAtoms t)).before a st = _
    rw [Jvm.Cond.before_and, ih, List.all_cons]
def words1 : List Jvm.Cond := Jvm.Cond.code x code maxLocals ret :: tables_1
/-- a 'code' word, met by the world's own term for the bytes: nothing is compared byte by byte -/
theorem code_word {y : MethodName} {bytes : ByteArray} {mx : Nat} {rt : Option FieldType} {a : Array Value} {s : State} {m : MethodId} {meth : Method} {c : Code} (h1 : s.methodNamed? y = some m) (h2 : s.vm.method? m = some meth) (h3 : meth.code = some c) (h4 : c.code = bytes)
    (h5 : (c.maxLocals == mx && c.exceptionTable.isEmpty && decide (c.maxStack ≤ mostOperands) && decide (meth.sig.returnType = rt) && !meth.locks && decide (parseMethodDescriptor y.desc = some meth.sig)) = true) : (Jvm.Cond.code y bytes mx rt).before a s = true := by
  simp only [Bool.and_eq_true, beq_iff_eq, Bool.not_eq_true', decide_eq_true_eq] at h5
  obtain ⟨⟨⟨⟨⟨g1, g2⟩, g3⟩, g4⟩, g5⟩, g6⟩ := h5
  simp [Cond.before, Cond.holds, Cond.value, h1, h2, h3, h4, g1, g2, g3, g4, g5, g6]
def isCode : Jvm.Cond → Bool
  | .code _ _ _ _ => true
  | _ => false
theorem all_split {L : List Jvm.Cond} {P : Jvm.Cond → Bool} (h1 : L.all (fun c => isCode c || P c) = true) (h2 : ∀ c ∈ L.filter isCode, P c = true) : L.all P = true := by
  refine List.all_eq_true.mpr fun c hc => ?_
  have h := List.all_eq_true.mp h1 c hc
  rcases Bool.eq_false_or_eq_true (isCode c) with hi | hi
  · exact h2 c (List.mem_filter.mpr ⟨hc, hi⟩)
  · simpa [hi] using h
set_option maxRecDepth 65536 in
theorem w_c0 : (Jvm.Cond.code x code maxLocals ret).before args0 about1 = true := code_word (m := ⟨1, 1⟩) (meth := k1m1) (c := k1c1) (by decide +kernel) rfl rfl rfl (by decide +kernel)
set_option maxRecDepth 65536 in
theorem w_c1 : (Jvm.Cond.code ({ cls := "com/example/diatom/diatom/model/Path$Kind", name := "isNamed", desc := "()Z" } : Jvm.MethodName) prog_52_method_5_code (1 : Nat) (Option.some Jvm.ClassFile.FieldType.boolean)).before args0 about1 = true := code_word (m := ⟨6, 0⟩) (meth := k6m0) (c := k6c0) (by decide +kernel) rfl rfl rfl (by decide +kernel)
def codes1 : List Jvm.Cond := [Jvm.Cond.code x code maxLocals ret, Jvm.Cond.code ({ cls := "com/example/diatom/diatom/model/Path$Kind", name := "isNamed", desc := "()Z" } : Jvm.MethodName) prog_52_method_5_code (1 : Nat) (Option.some Jvm.ClassFile.FieldType.boolean)]
set_option maxRecDepth 65536 in
theorem codes_eq : words1.filter isCode = codes1 := rfl
theorem w_codes : ∀ c ∈ words1.filter isCode, c.before args0 about1 = true := by
  rw [codes_eq]
  intro c hc
  simp only [codes1, List.mem_cons, List.not_mem_nil, or_false] at hc
  rcases hc with rfl | rfl
  · exact w_c0
  · exact w_c1
set_option maxRecDepth 65536 in
theorem w_t1 : words1.all (fun c => isCode c || c.before args0 about1) = true := by decide +kernel
theorem w_tables : (allAtoms (Jvm.Cond.code x code maxLocals ret :: tables_1)).before args0 about1 = true := by
  rw [allAtoms_all]
  show words1.all (fun c => c.before args0 about1) = true
  refine all_split ?_ w_codes
  rw [w_t1]
set_option maxRecDepth 65536 in
theorem w_case : (Jvm.Cond.and given_1 narrow_1).before args0 about1 = true := by decide +kernel
theorem w_applies : (headSpec (Jvm.Cond.code x code maxLocals ret :: tables_1) room_1).applies x e0.platform about1 = true :=
  (Spec.applies_iff w_frames).mpr ⟨w_running, w_runnable, w_alone, w_named, w_hears, w_ripe, w_room, w_tables⟩
theorem atStart : AtStart classFile x code maxLocals ret World_1 tables_1 room_1 Calls_1 rest_1 Pre_1 launch0 p0 e0 about1 theMethod args0 below0 :=
  ⟨lists_1, trivial, launch0.admits_env _ _ _, launch0.least_env, fairChoices_fair.cas, fairChoices_fair.clock, w_frames, w_args, w_heap, w_applies, trivial, trivial, w_case⟩
end start1
theorem witness_1 : WitnessClaimed_1 := ⟨start1.p0, start1.e0, start1.about1, start1.theMethod, start1.args0, start1.below0, start1.atStart⟩
end Jvm.Pilot.@@N@@
