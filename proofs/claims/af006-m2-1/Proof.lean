import JvmDerived
import JvmDerived.Pilot.@@N@@Statement
import JvmDerived.Pilot.@@N@@Code
set_option linter.unusedVariables false
set_option linter.unusedSimpArgs false
@@BLOCK:NumsL.lean.txt@@
@@BLOCK:Masks.lean.txt@@
namespace Jvm.RoadKit
open Sem ClassFile Op Lib Jvm.Stand Jvm.Free Jvm.LawKit
section New
variable {p : Program} {l : Launch} {e : Env} {R : Room} {s : State} {m : MethodId} {args : Array Value} {below : List Frame} {meth : Method} {c : Code} {T : State} {locs : List Loc} {cells slots : Nat}
theorem retI (X : Stand p l e R s m args below meth c T locs cells slots) (hx : p.tables.exec = Jvm.exec) {pc : Nat} {Ls : Array Slot} {z : Int32} {rest : List Value} (hret : meth.sig.returnType = some .int) (hd : decode c.code pc = .ok (.ireturn, 1)) {fs : List Frame}
    (hl : ∀ (f : JFrame) (acts : List Action), f.method = m → f.locked = none → f.entered = [] → (doReturn e (T.setTop f) acts (some (.int z))).1 = T.setFrames fs) : Steps p.tables e below (T.setTop (mkF m pc Ls (.int z :: rest))) (T.setFrames fs) := by
  have hm' : T.vm.method? m = some meth := X.method'
  have hn : narrow .int (.int z) = .int z := rfl
  show Steps p.tables e below (T.setTop { method := m, pc := pc, locals := Ls, stack := _ :: rest, locked := none }) _
  jvm_step X.here [X.here.top, hx, hd, hm', hret, hn]
  first | (intro acts; rw [hl _ acts rfl rfl rfl]) | rw [hl _ _ rfl rfl rfl]
  exact Steps.refl _
end New
end Jvm.RoadKit
namespace Jvm.Pilot.@@N@@
open Jvm Jvm.ClassFile Sem Op Lib Jvm.Free Jvm.Stand Jvm.LawKit Jvm.RoadKit Bundle Jvm.Pilot.@@N@@.Jvm.D
theorem own_lrem (x y : Int64) : x - (x / y) * y = x % y := Int64.toInt_inj.mp (by rw [Jvm.Kit.i64_rem, Int64.toInt_mod])
theorem lremM {p : Program} {l : Launch} {e : Env} {R : Room} {s : State} {m : MethodId} {args : Array Value} {below : List Frame} {meth : Method} {c : Code} {T : State} {locs : List Loc} {cells slots : Nat} {g : JFrame} {target : State} (X : Stand p l e R s m args below meth c T locs cells slots) (hx : p.tables.exec = Jvm.exec) (hg : g.method = m) {x y : Int64} {rest : List Value} (hd : decode c.code g.pc = .ok (.lrem, 1)) (hs : g.stack = .long y :: .long x :: rest) (hy : y ≠ 0)
    (hr : Steps p.tables e below (T.setTop { g with pc := g.pc + 1, stack := .long (x % y) :: rest }) target) : Steps p.tables e below (T.setTop g) target := by
  exact XS.lrem X.here hx hg hd hs hy (by rw [own_lrem]; exact hr)
theorem own_eqI {args : Array Value} {s : State} {t : Jvm.Term} {n : Int32} (h : (Jvm.Cond.eq t (.int n)).value args s none s [] = some true) : t.eval args s none [] s = some (.int n) := by
  obtain ⟨x, y, hx, hy, k1, k2⟩ := cmp_v (Or.inl h)
  obtain rfl : y = .int n := Option.some.inj (hy.symm.trans (Term.int_eval n))
  obtain ⟨z, rfl⟩ := k2
  have q : z = n := by simpa [Jvm.Cond.value, hx, hy] using h
  rw [hx, q]


def World (Z : State) (h : Heap) (w_POSTGRESQL w_MARIADB w_H2 : Addr) : Prop :=
  Sta Z h "com/example/unit_of_work/unitofwork/Database" "POSTGRESQL" "Lcom/example/unit_of_work/unitofwork/Database;" (.ref w_POSTGRESQL) ∧
  Sta Z h "com/example/unit_of_work/unitofwork/Database" "MARIADB" "Lcom/example/unit_of_work/unitofwork/Database;" (.ref w_MARIADB) ∧
  Sta Z h "com/example/unit_of_work/unitofwork/Database" "H2" "Lcom/example/unit_of_work/unitofwork/Database;" (.ref w_H2) ∧
  Exa Z h w_POSTGRESQL "com/example/unit_of_work/unitofwork/Database" ∧
  Exa Z h w_MARIADB "com/example/unit_of_work/unitofwork/Database" ∧
  Exa Z h w_H2 "com/example/unit_of_work/unitofwork/Database" ∧
  Fld Z h w_POSTGRESQL "java/lang/Enum" "ordinal" "I" (.int (0 : Int32)) ∧
  Fld Z h w_MARIADB "java/lang/Enum" "ordinal" "I" (.int (1 : Int32)) ∧
  Fld Z h w_H2 "java/lang/Enum" "ordinal" "I" (.int (2 : Int32))
theorem World.ext {Z : State} {h h' : Heap} {w_POSTGRESQL w_MARIADB w_H2 : Addr} (E : Ext h h') (W : World Z h w_POSTGRESQL w_MARIADB w_H2) : World Z h' w_POSTGRESQL w_MARIADB w_H2 :=
  ⟨Sta.ext E W.1, Sta.ext E W.2.1, Sta.ext E W.2.2.1, Exa.ext E W.2.2.2.1, Exa.ext E W.2.2.2.2.1, Exa.ext E W.2.2.2.2.2.1, Fld.ext E W.2.2.2.2.2.2.1, Fld.ext E W.2.2.2.2.2.2.2.1, Fld.ext E W.2.2.2.2.2.2.2.2⟩
theorem d1_0 : decode prog_39_method_10_code 0 = .ok (.aload_n 0, 1) := by decide +kernel
theorem d1_1 : decode prog_39_method_10_code 1 = .ok (.getstatic 3, 3) := by decide +kernel
theorem d1_4 : decode prog_39_method_10_code 4 = .ok (.if_acmp .eq 10, 3) := by decide +kernel
theorem d1_7 : decode prog_39_method_10_code 7 = .ok (.aload_n 0, 1) := by decide +kernel
theorem d1_8 : decode prog_39_method_10_code 8 = .ok (.getstatic 10, 3) := by decide +kernel
theorem d1_11 : decode prog_39_method_10_code 11 = .ok (.if_acmp .ne 7, 3) := by decide +kernel
theorem d1_14 : decode prog_39_method_10_code 14 = .ok (.iconst 1, 1) := by decide +kernel
theorem d1_15 : decode prog_39_method_10_code 15 = .ok (.goto 4, 3) := by decide +kernel
theorem d1_18 : decode prog_39_method_10_code 18 = .ok (.iconst 0, 1) := by decide +kernel
theorem d1_19 : decode prog_39_method_10_code 19 = .ok (.ireturn, 1) := by decide +kernel
theorem pn_0 : plainName "com/example/unit_of_work/unitofwork/Database" = true := by first | (simp [plainName, overriddenIn]; done) | decide +kernel
theorem ef_1 (m : MethodId) (x1_0 : Addr) : entryFrame m #[(.ref x1_0)] 1 = mkF m 0 #[.val (.ref x1_0)] [] := by first | (simp [entryFrame, mkF, argsToLocals, Value.category]; done) | rfl
def f1 (x1_0 : Addr) (w_POSTGRESQL w_MARIADB w_H2 : Addr) : Int32 := if x1_0 = w_POSTGRESQL then (1 : Int32) else if x1_0 = w_H2 then (1 : Int32) else (0 : Int32)
def Q1 (Z : State) (x1_0 : Addr) (w_POSTGRESQL w_MARIADB w_H2 : Addr) (h0 : Heap) (n0 : Nat) (v : Option Value) (h : Heap) (L : List Loc) : Prop := v = some (.int (f1 x1_0 w_POSTGRESQL w_MARIADB w_H2)) ∧ Fr n0 L ∧ h = h0
set_option maxRecDepth 65536 in
set_option maxHeartbeats 40000000 in
theorem rm1 (l : Launch) (Z : State) (a0 : Array Value) (hw : ∀ d ∈ tables_1, d.before a0 Z = true) (ws : List Jvm.Cond) (x1_0 : Addr) (w_POSTGRESQL w_MARIADB w_H2 : Addr) (h0 : Heap) (n0 : Nat) (Z0 : n0 ≤ h0.size) (W : World Z h0 w_POSTGRESQL w_MARIADB w_H2) :
    MetFree l (⟨"com/example/unit_of_work/unitofwork/Database", "padsCharColumns", "()Z"⟩ : MethodName) (head1 (Jvm.Cond.code (⟨"com/example/unit_of_work/unitofwork/Database", "padsCharColumns", "()Z"⟩ : MethodName) prog_39_method_10_code 1 (some .boolean) :: ws) ({ frames := 0, cells := 0, slots := 0, locals := 0 } : Room)) (fun a U => a = #[(.ref x1_0)] ∧ Z.Warmed39 U.vm ∧ U.heap = h0) (fun _ _ _ _ _ => True) (fun _ U o U' => ∃ v L, o = .returned v ∧ Q1 Z x1_0 w_POSTGRESQL w_MARIADB w_H2 h0 n0 v U'.heap L ∧ FrameEnd U o U' L ({ frames := 0, cells := 0, slots := 0, locals := 0 } : Room).cells ({ frames := 0, cells := 0, slots := 0, locals := 0 } : Room).slots) := by
  refine MetFree.of_bodySF (plainFor_of_name pn_0) hisR ?_
  intro p e s m args below meth c s₁ Bd hml0 hP hK
  obtain ⟨rfl, hZ, hh⟩ := hP
  have hx := Bd.exec
  have hby := Bd.bytes
  have hml : c.maxLocals = 1 := hml0
  have hown : s.vm.findClass "com/example/unit_of_work/unitofwork/Database" = some m.cls := findClass_of_methodNamed Bd.named
  have hnm := (name_of_methodNamed Bd.named Bd.method).1
  have X0 : Stand p l e ({ frames := 0, cells := 0, slots := 0, locals := 0 } : Room) s m #[(.ref x1_0)] below meth c s₁ [] 0 0 := Stand.of_body Bd
  have e0 : s₁.heap = h0 := by rw [← hh, Bd.state]; rfl
  have N0 := Fr.nil n0
  have pre0 : ∀ t, Steps p.tables e below (s₁.setTop (mkF m 0 #[.val (.ref x1_0)] [])) t → Steps p.tables e below (s₁.setTop (entryFrame m #[(.ref x1_0)] 1)) t := fun t k => castTop (ef_1 m x1_0) k
  obtain ⟨T1, X1, e1, st1⟩ := getS2 X0 hx hZ hown (host := "") (Or.inl (hw _ (List.mem_of_getElem? (i := 9) rfl))) Via.refl e0 (W.1) (g := (mkF m 1 #[.val (.ref x1_0)] [(.ref x1_0)])) rfl (hb hby d1_1)
  have sg2 : ∀ t, Steps p.tables e below (T1.setTop (mkF m 4 #[.val (.ref x1_0)] [(.ref w_POSTGRESQL), (.ref x1_0)])) t → Steps p.tables e below (s₁.setTop (mkF m 0 #[.val (.ref x1_0)] [])) t := fun t kt => by
    show Steps p.tables e below (s₁.setTop (mkF m 0 #[.val (.ref x1_0)] [])) _
    refine XS.aloadN X0.here hx rfl (hb hby d1_0) rfl rfl ?_
    show Steps p.tables e below (s₁.setTop (mkF m 1 #[.val (.ref x1_0)] [(.ref x1_0)])) _
    refine st1 _ ?_
    exact kt
  by_cases hc4_3 : x1_0 = w_POSTGRESQL
  · obtain ⟨fs, hr, hrun, hended, hW, hsame⟩ := X1.leave (v := some (.int (1 : Int32))) (fun h => by rw [Bd.returns] at h; cases h)
    refine ⟨_, _, pre0 _ (sg2 _ ?_), hrun, hended, _, _, rfl, ?_, ⟨_, rfl⟩, hW, hsame.mono (by decide) (by decide)⟩
    · show Steps p.tables e below (T1.setTop (mkF m 4 #[.val (.ref x1_0)] [(.ref w_POSTGRESQL), (.ref x1_0)])) _
      refine Jvm.RoadKit.acmp (g := (mkF m 4 #[.val (.ref x1_0)] [(.ref w_POSTGRESQL), (.ref x1_0)])) X1 hx rfl rfl rfl (pc0 := 4) (pc' := 14) (same := true) rfl (hb hby d1_4) rfl (decide_eq_true (congrArg Value.ref hc4_3)) (by decide) (by decide) ?_
      show Steps p.tables e below (T1.setTop (mkF m 14 #[.val (.ref x1_0)] [])) _
      refine XS.iconst X1.here hx rfl (hb hby d1_14) ?_
      show Steps p.tables e below (T1.setTop (mkF m 15 #[.val (.ref x1_0)] [(.int (1 : Int32))])) _
      refine XS.goto X1.here hx rfl (pc0 := 15) (pc' := 19) rfl (hb hby d1_15) (by decide) (by decide) ?_
      show Steps p.tables e below (T1.setTop (mkF m 19 #[.val (.ref x1_0)] [(.int (1 : Int32))])) _
      exact retN X1 hx (t := .boolean) Bd.returns (by simp) (hb hby d1_19) hr
    · exact ⟨congrArg (fun z => some (Value.int z)) (show (1 : Int32) = f1 x1_0 w_POSTGRESQL w_MARIADB w_H2 from by unfold f1; rw [if_pos hc4_3]), N0, e1⟩
  · obtain ⟨T4, X4, e4, st4⟩ := getS2 X1 hx hZ hown (host := "") (Or.inl (hw _ (List.mem_of_getElem? (i := 12) rfl))) Via.refl e1 (W.2.2.1) (g := (mkF m 8 #[.val (.ref x1_0)] [(.ref x1_0)])) rfl (hb hby d1_8)
    have sg5 : ∀ t, Steps p.tables e below (T4.setTop (mkF m 11 #[.val (.ref x1_0)] [(.ref w_H2), (.ref x1_0)])) t → Steps p.tables e below (T1.setTop (mkF m 4 #[.val (.ref x1_0)] [(.ref w_POSTGRESQL), (.ref x1_0)])) t := fun t kt => by
      show Steps p.tables e below (T1.setTop (mkF m 4 #[.val (.ref x1_0)] [(.ref w_POSTGRESQL), (.ref x1_0)])) _
      refine Jvm.RoadKit.acmp (g := (mkF m 4 #[.val (.ref x1_0)] [(.ref w_POSTGRESQL), (.ref x1_0)])) X1 hx rfl rfl rfl (pc0 := 4) (pc' := 7) (same := false) rfl (hb hby d1_4) rfl (decide_eq_false fun q => hc4_3 (Value.ref.inj q)) (by decide) (by decide) ?_
      show Steps p.tables e below (T1.setTop (mkF m 7 #[.val (.ref x1_0)] [])) _
      refine XS.aloadN X1.here hx rfl (hb hby d1_7) rfl rfl ?_
      show Steps p.tables e below (T1.setTop (mkF m 8 #[.val (.ref x1_0)] [(.ref x1_0)])) _
      refine st4 _ ?_
      exact kt
    by_cases hc11_6 : x1_0 = w_H2
    · obtain ⟨fs, hr, hrun, hended, hW, hsame⟩ := X4.leave (v := some (.int (1 : Int32))) (fun h => by rw [Bd.returns] at h; cases h)
      refine ⟨_, _, pre0 _ (sg2 _ (sg5 _ ?_)), hrun, hended, _, _, rfl, ?_, ⟨_, rfl⟩, hW, hsame.mono (by decide) (by decide)⟩
      · show Steps p.tables e below (T4.setTop (mkF m 11 #[.val (.ref x1_0)] [(.ref w_H2), (.ref x1_0)])) _
        refine Jvm.RoadKit.acmp (g := (mkF m 11 #[.val (.ref x1_0)] [(.ref w_H2), (.ref x1_0)])) X4 hx rfl rfl rfl (pc0 := 11) (pc' := 14) (same := true) rfl (hb hby d1_11) rfl (decide_eq_true (congrArg Value.ref hc11_6)) (by decide) (by decide) ?_
        show Steps p.tables e below (T4.setTop (mkF m 14 #[.val (.ref x1_0)] [])) _
        refine XS.iconst X4.here hx rfl (hb hby d1_14) ?_
        show Steps p.tables e below (T4.setTop (mkF m 15 #[.val (.ref x1_0)] [(.int (1 : Int32))])) _
        refine XS.goto X4.here hx rfl (pc0 := 15) (pc' := 19) rfl (hb hby d1_15) (by decide) (by decide) ?_
        show Steps p.tables e below (T4.setTop (mkF m 19 #[.val (.ref x1_0)] [(.int (1 : Int32))])) _
        exact retN X4 hx (t := .boolean) Bd.returns (by simp) (hb hby d1_19) hr
      · exact ⟨congrArg (fun z => some (Value.int z)) (show (1 : Int32) = f1 x1_0 w_POSTGRESQL w_MARIADB w_H2 from by unfold f1; rw [if_neg hc4_3, if_pos hc11_6]), N0, e4⟩
    · obtain ⟨fs, hr, hrun, hended, hW, hsame⟩ := X4.leave (v := some (.int (0 : Int32))) (fun h => by rw [Bd.returns] at h; cases h)
      refine ⟨_, _, pre0 _ (sg2 _ (sg5 _ ?_)), hrun, hended, _, _, rfl, ?_, ⟨_, rfl⟩, hW, hsame.mono (by decide) (by decide)⟩
      · show Steps p.tables e below (T4.setTop (mkF m 11 #[.val (.ref x1_0)] [(.ref w_H2), (.ref x1_0)])) _
        refine Jvm.RoadKit.acmp (g := (mkF m 11 #[.val (.ref x1_0)] [(.ref w_H2), (.ref x1_0)])) X4 hx rfl rfl rfl (pc0 := 11) (pc' := 18) (same := false) rfl (hb hby d1_11) rfl (decide_eq_false fun q => hc11_6 (Value.ref.inj q)) (by decide) (by decide) ?_
        show Steps p.tables e below (T4.setTop (mkF m 18 #[.val (.ref x1_0)] [])) _
        refine XS.iconst X4.here hx rfl (hb hby d1_18) ?_
        show Steps p.tables e below (T4.setTop (mkF m 19 #[.val (.ref x1_0)] [(.int (0 : Int32))])) _
        exact retN X4 hx (t := .boolean) Bd.returns (by simp) (hb hby d1_19) hr
      · exact ⟨congrArg (fun z => some (Value.int z)) (show (0 : Int32) = f1 x1_0 w_POSTGRESQL w_MARIADB w_H2 from by unfold f1; rw [if_neg hc4_3, if_neg hc11_6]), N0, e4⟩
theorem pd_0 : parseMethodDescriptor "()Z" = some ⟨[], some .boolean⟩ := by decide +kernel
theorem pn_1 : plainName "com/example/unit_of_work/unitofwork/DatabasePadsCharColumnsPinLaw" = true := by first | (simp [plainName, overriddenIn]; done) | decide +kernel
theorem ef_0 (m : MethodId) (x0_0 : Int32) : entryFrame m #[(.int x0_0)] maxLocals = mkF m 0 #[.val (.int x0_0), .unset, .unset, .unset] [] := by first | (simp [entryFrame, mkF, argsToLocals, Value.category, maxLocals]; done) | rfl
def f0 (x0_0 : Int32) (w_POSTGRESQL w_MARIADB w_H2 : Addr) : Int32 := if ((x0_0 &&& (2147483647 : Int32)) % (3 : Int32)) = (0 : Int32) then (1 : Int32) else if ((x0_0 &&& (2147483647 : Int32)) % (3 : Int32)) = (1 : Int32) then (1 : Int32) else (1 : Int32)
def Q0 (Z : State) (x0_0 : Int32) (w_POSTGRESQL w_MARIADB w_H2 : Addr) (h0 : Heap) (n0 : Nat) (v : Option Value) (h : Heap) (L : List Loc) : Prop := v = some (.int (f0 x0_0 w_POSTGRESQL w_MARIADB w_H2)) ∧ Fr n0 L ∧ h = h0
set_option maxRecDepth 65536 in
set_option maxHeartbeats 40000000 in
theorem rm0 (l : Launch) (Z : State) (a0 : Array Value) (hw : ∀ d ∈ tables_1, d.before a0 Z = true) (ws : List Jvm.Cond) (x0_0 : Int32) (w_POSTGRESQL w_MARIADB w_H2 : Addr) (h0 : Heap) (n0 : Nat) (Z0 : n0 ≤ h0.size) (W : World Z h0 w_POSTGRESQL w_MARIADB w_H2) :
    MetFree l x (head1 (Jvm.Cond.code x code maxLocals ret :: ws) room_1) (fun a U => a = #[(.int x0_0)] ∧ Z.Warmed39 U.vm ∧ U.heap = h0) (fun _ _ _ _ _ => True) (fun _ U o U' => ∃ v L, o = .returned v ∧ Q0 Z x0_0 w_POSTGRESQL w_MARIADB w_H2 h0 n0 v U'.heap L ∧ FrameEnd U o U' L room_1.cells room_1.slots) := by
  refine MetFree.of_bodySF (plainFor_of_name pn_1) hisR ?_
  intro p e s m args below meth c s₁ Bd hml0 hP hK
  obtain ⟨rfl, hZ, hh⟩ := hP
  have hx := Bd.exec
  have hby := Bd.bytes
  have hml : c.maxLocals = 4 := hml0
  have hown : s.vm.findClass "com/example/unit_of_work/unitofwork/DatabasePadsCharColumnsPinLaw" = some m.cls := findClass_of_methodNamed Bd.named
  have hnm := (name_of_methodNamed Bd.named Bd.method).1
  have X0 : Stand p l e room_1 s m #[(.int x0_0)] below meth c s₁ [] 0 0 := Stand.of_body Bd
  have e0 : s₁.heap = h0 := by rw [← hh, Bd.state]; rfl
  have N0 := Fr.nil n0
  have pre0 : ∀ t, Steps p.tables e below (s₁.setTop (mkF m 0 #[.val (.int x0_0), .unset, .unset, .unset] [])) t → Steps p.tables e below (s₁.setTop (entryFrame m #[(.int x0_0)] maxLocals)) t := fun t k => castTop (ef_0 m x0_0) k
  have sg1 : ∀ t, Steps p.tables e below (s₁.setTop (mkF m 8 #[.val (.int x0_0), .val (.int ((x0_0 &&& (2147483647 : Int32)) % (3 : Int32))), .unset, .unset] [(.int ((x0_0 &&& (2147483647 : Int32)) % (3 : Int32)))])) t → Steps p.tables e below (s₁.setTop (mkF m 0 #[.val (.int x0_0), .unset, .unset, .unset] [])) t := fun t kt => by
    show Steps p.tables e below (s₁.setTop (mkF m 0 #[.val (.int x0_0), .unset, .unset, .unset] [])) _
    refine XS.iloadN X0.here hx rfl (hb hby at_0) rfl ?_
    show Steps p.tables e below (s₁.setTop (mkF m 1 #[.val (.int x0_0), .unset, .unset, .unset] [(.int x0_0)])) _
    refine X0.ldcInt hx hown (mvT hZ (hw _ (List.mem_of_getElem? (i := 0) rfl))) (g := (mkF m 1 #[.val (.int x0_0), .unset, .unset, .unset] [(.int x0_0)])) rfl (hb hby at_1) _ ?_
    show Steps p.tables e below (s₁.setTop (mkF m 3 #[.val (.int x0_0), .unset, .unset, .unset] [(.int (2147483647 : Int32)), (.int x0_0)])) _
    refine XS.iand X0.here hx rfl (hb hby at_3) rfl ?_
    show Steps p.tables e below (s₁.setTop (mkF m 4 #[.val (.int x0_0), .unset, .unset, .unset] [(.int (x0_0 &&& (2147483647 : Int32)))])) _
    refine XS.iconst X0.here hx rfl (hb hby at_4) ?_
    show Steps p.tables e below (s₁.setTop (mkF m 5 #[.val (.int x0_0), .unset, .unset, .unset] [(.int (3 : Int32)), (.int (x0_0 &&& (2147483647 : Int32)))])) _
    refine iremM X0 hx rfl (hb hby at_5) rfl (by decide : ¬ ((3 : Int32) = (0 : Int32))) ?_
    show Steps p.tables e below (s₁.setTop (mkF m 6 #[.val (.int x0_0), .unset, .unset, .unset] [(.int ((x0_0 &&& (2147483647 : Int32)) % (3 : Int32)))])) _
    refine XS.istoreN X0.here hx rfl (hb hby at_6) rfl (l' := #[.val (.int x0_0), .val (.int ((x0_0 &&& (2147483647 : Int32)) % (3 : Int32))), .unset, .unset]) rfl ?_
    show Steps p.tables e below (s₁.setTop (mkF m 7 #[.val (.int x0_0), .val (.int ((x0_0 &&& (2147483647 : Int32)) % (3 : Int32))), .unset, .unset] [])) _
    refine XS.iloadN X0.here hx rfl (hb hby at_7) rfl ?_
    exact kt
  by_cases hc8_2 : ((x0_0 &&& (2147483647 : Int32)) % (3 : Int32)) = (0 : Int32)
  · obtain ⟨T3, X3, e3, st3⟩ := getS2 X0 hx hZ hown (host := "") (Or.inl (hw _ (List.mem_of_getElem? (i := 1) rfl))) Via.refl e0 (W.1) (g := (mkF m 11 #[.val (.int x0_0), .val (.int ((x0_0 &&& (2147483647 : Int32)) % (3 : Int32))), .unset, .unset] [])) rfl (hb hby at_11)
    have sg5 : ∀ t, Steps p.tables e below (T3.setTop (mkF m 41 #[.val (.int x0_0), .val (.int ((x0_0 &&& (2147483647 : Int32)) % (3 : Int32))), .val (.ref w_POSTGRESQL), .val (.int (1 : Int32))] [(.ref w_POSTGRESQL)])) t → Steps p.tables e below (s₁.setTop (mkF m 8 #[.val (.int x0_0), .val (.int ((x0_0 &&& (2147483647 : Int32)) % (3 : Int32))), .unset, .unset] [(.int ((x0_0 &&& (2147483647 : Int32)) % (3 : Int32)))])) t := fun t kt => by
      show Steps p.tables e below (s₁.setTop (mkF m 8 #[.val (.int x0_0), .val (.int ((x0_0 &&& (2147483647 : Int32)) % (3 : Int32))), .unset, .unset] [(.int ((x0_0 &&& (2147483647 : Int32)) % (3 : Int32)))])) _
      refine XS.ifNo X0.here hx rfl (hb hby at_8) rfl ((if0 _ _).trans (teq hc8_2).2) ?_
      show Steps p.tables e below (s₁.setTop (mkF m 11 #[.val (.int x0_0), .val (.int ((x0_0 &&& (2147483647 : Int32)) % (3 : Int32))), .unset, .unset] [])) _
      refine st3 _ ?_
      show Steps p.tables e below (T3.setTop (mkF m 14 #[.val (.int x0_0), .val (.int ((x0_0 &&& (2147483647 : Int32)) % (3 : Int32))), .unset, .unset] [(.ref w_POSTGRESQL)])) _
      refine XS.astoreN X3.here hx rfl (hb hby at_14) rfl rfl (l' := #[.val (.int x0_0), .val (.int ((x0_0 &&& (2147483647 : Int32)) % (3 : Int32))), .val (.ref w_POSTGRESQL), .unset]) rfl ?_
      show Steps p.tables e below (T3.setTop (mkF m 15 #[.val (.int x0_0), .val (.int ((x0_0 &&& (2147483647 : Int32)) % (3 : Int32))), .val (.ref w_POSTGRESQL), .unset] [])) _
      refine XS.iconst X3.here hx rfl (hb hby at_15) ?_
      show Steps p.tables e below (T3.setTop (mkF m 16 #[.val (.int x0_0), .val (.int ((x0_0 &&& (2147483647 : Int32)) % (3 : Int32))), .val (.ref w_POSTGRESQL), .unset] [(.int (1 : Int32))])) _
      refine XS.istoreN X3.here hx rfl (hb hby at_16) rfl (l' := #[.val (.int x0_0), .val (.int ((x0_0 &&& (2147483647 : Int32)) % (3 : Int32))), .val (.ref w_POSTGRESQL), .val (.int (1 : Int32))]) rfl ?_
      show Steps p.tables e below (T3.setTop (mkF m 17 #[.val (.int x0_0), .val (.int ((x0_0 &&& (2147483647 : Int32)) % (3 : Int32))), .val (.ref w_POSTGRESQL), .val (.int (1 : Int32))] [])) _
      refine XS.goto X3.here hx rfl (pc0 := 17) (pc' := 40) rfl (hb hby at_17) (by decide) (by decide) ?_
      show Steps p.tables e below (T3.setTop (mkF m 40 #[.val (.int x0_0), .val (.int ((x0_0 &&& (2147483647 : Int32)) % (3 : Int32))), .val (.ref w_POSTGRESQL), .val (.int (1 : Int32))] [])) _
      refine XS.aloadN X3.here hx rfl (hb hby at_40) rfl rfl ?_
      exact kt
    obtain ⟨cq4, kq4, q4a, q4b, q4c⟩ := isOf hZ e3 (W.2.2.2.1)
    obtain ⟨v4, _, ⟨T4, L4, k4, n4⟩, -, X4, ⟨Lc4, hQ4, l4, y4, z4⟩, st4⟩ := X3.virtualBack hx (y := (⟨"com/example/unit_of_work/unitofwork/Database", "padsCharColumns", "()Z"⟩ : MethodName)) (z := (⟨"com/example/unit_of_work/unitofwork/Database", "padsCharColumns", "()Z"⟩ : MethodName)) hown (mvT hZ (hw _ (List.mem_of_getElem? (i := 4) rfl))) (mvT hZ (hw _ (List.mem_of_getElem? (i := 5) rfl))) (notFace_of_selects (args := #[]) (mvT hZ (hw _ (List.mem_of_getElem? (i := 7) rfl)))) (mvT hZ (hw _ (List.mem_of_getElem? (i := 7) rfl))) (mvT hZ (hw _ (List.mem_of_getElem? (i := 6) rfl))) (by decide) (backOf (W := 0) (rm1 l Z a0 hw [] w_POSTGRESQL w_POSTGRESQL w_MARIADB w_H2 h0 n0 Z0 W) hZ (hw _ (List.mem_of_getElem? (i := 8) rfl)) (hw _ (List.mem_of_getElem? (i := 2) rfl)) (by decide) (by decide)) q4a q4c (g := (mkF m 41 #[.val (.int x0_0), .val (.int ((x0_0 &&& (2147483647 : Int32)) % (3 : Int32))), .val (.ref w_POSTGRESQL), .val (.int (1 : Int32))] [(.ref w_POSTGRESQL)])) rfl (by rw [hml]; rfl) (Steps.refl _) (argsL := []) (rest := []) (lenOf pd_0 rfl) rfl (by show 2 * 0 + _ ≤ _; exact Nat.le_of_eq rfl) (hb hby at_41) (fun _ _ => ⟨rfl, e3, (by decide : 0 + 0 ≤ _), (by decide : 0 + 0 ≤ _)⟩)
    dsimp only [Pt.U, Pt.locs, Pt.cells, Pt.slots] at X4 l4 y4 z4 st4 hQ4
    subst l4 y4 z4
    obtain ⟨hv4, N4q, e4⟩ := hQ4
    have N4 := Fr.app N0 N4q
    have hf4 : f1 w_POSTGRESQL w_POSTGRESQL w_MARIADB w_H2 = (1 : Int32) := by unfold f1; rw [if_pos (rfl : w_POSTGRESQL = w_POSTGRESQL)]
    rw [hf4] at hv4
    subst hv4
    obtain ⟨fs, hr, hrun, hended, hW, hsame⟩ := X4.leave (v := some (.int (1 : Int32))) (fun h => by rw [Bd.returns] at h; cases h)
    refine ⟨_, _, pre0 _ (sg1 _ (sg5 _ ?_)), hrun, hended, _, _, rfl, ?_, ⟨_, rfl⟩, hW, hsame.mono (by decide) (by decide)⟩
    · show Steps p.tables e below (T3.setTop (mkF m 41 #[.val (.int x0_0), .val (.int ((x0_0 &&& (2147483647 : Int32)) % (3 : Int32))), .val (.ref w_POSTGRESQL), .val (.int (1 : Int32))] [(.ref w_POSTGRESQL)])) _
      refine st4.trans ?_
      show Steps p.tables e below (T4.setTop (mkF m 44 #[.val (.int x0_0), .val (.int ((x0_0 &&& (2147483647 : Int32)) % (3 : Int32))), .val (.ref w_POSTGRESQL), .val (.int (1 : Int32))] [(.int (1 : Int32))])) _
      refine XS.iloadN X4.here hx rfl (hb hby at_44) rfl ?_
      show Steps p.tables e below (T4.setTop (mkF m 45 #[.val (.int x0_0), .val (.int ((x0_0 &&& (2147483647 : Int32)) % (3 : Int32))), .val (.ref w_POSTGRESQL), .val (.int (1 : Int32))] [(.int (1 : Int32)), (.int (1 : Int32))])) _
      refine XS.icmpNo X4.here hx rfl (hb hby at_45) rfl (teq (by decide : ((1 : Int32) = (1 : Int32)))).2 ?_
      show Steps p.tables e below (T4.setTop (mkF m 48 #[.val (.int x0_0), .val (.int ((x0_0 &&& (2147483647 : Int32)) % (3 : Int32))), .val (.ref w_POSTGRESQL), .val (.int (1 : Int32))] [])) _
      refine XS.iconst X4.here hx rfl (hb hby at_48) ?_
      show Steps p.tables e below (T4.setTop (mkF m 49 #[.val (.int x0_0), .val (.int ((x0_0 &&& (2147483647 : Int32)) % (3 : Int32))), .val (.ref w_POSTGRESQL), .val (.int (1 : Int32))] [(.int (1 : Int32))])) _
      refine XS.goto X4.here hx rfl (pc0 := 49) (pc' := 53) rfl (hb hby at_49) (by decide) (by decide) ?_
      show Steps p.tables e below (T4.setTop (mkF m 53 #[.val (.int x0_0), .val (.int ((x0_0 &&& (2147483647 : Int32)) % (3 : Int32))), .val (.ref w_POSTGRESQL), .val (.int (1 : Int32))] [(.int (1 : Int32))])) _
      exact retN X4 hx (t := .boolean) Bd.returns (by simp) (hb hby at_53) hr
    · exact ⟨congrArg (fun z => some (Value.int z)) (show (1 : Int32) = f0 x0_0 w_POSTGRESQL w_MARIADB w_H2 from by unfold f0; rw [if_pos hc8_2]), N4, e4⟩
  · have sg6 : ∀ t, Steps p.tables e below (s₁.setTop (mkF m 22 #[.val (.int x0_0), .val (.int ((x0_0 &&& (2147483647 : Int32)) % (3 : Int32))), .unset, .unset] [(.int (1 : Int32)), (.int ((x0_0 &&& (2147483647 : Int32)) % (3 : Int32)))])) t → Steps p.tables e below (s₁.setTop (mkF m 8 #[.val (.int x0_0), .val (.int ((x0_0 &&& (2147483647 : Int32)) % (3 : Int32))), .unset, .unset] [(.int ((x0_0 &&& (2147483647 : Int32)) % (3 : Int32)))])) t := fun t kt => by
      show Steps p.tables e below (s₁.setTop (mkF m 8 #[.val (.int x0_0), .val (.int ((x0_0 &&& (2147483647 : Int32)) % (3 : Int32))), .unset, .unset] [(.int ((x0_0 &&& (2147483647 : Int32)) % (3 : Int32)))])) _
      refine XS.ifYes X0.here hx rfl (pc0 := 8) (pc' := 20) rfl (hb hby at_8) rfl ((if0 _ _).trans (feq hc8_2).2) (by decide) (by decide) ?_
      show Steps p.tables e below (s₁.setTop (mkF m 20 #[.val (.int x0_0), .val (.int ((x0_0 &&& (2147483647 : Int32)) % (3 : Int32))), .unset, .unset] [])) _
      refine XS.iloadN X0.here hx rfl (hb hby at_20) rfl ?_
      show Steps p.tables e below (s₁.setTop (mkF m 21 #[.val (.int x0_0), .val (.int ((x0_0 &&& (2147483647 : Int32)) % (3 : Int32))), .unset, .unset] [(.int ((x0_0 &&& (2147483647 : Int32)) % (3 : Int32)))])) _
      refine XS.iconst X0.here hx rfl (hb hby at_21) ?_
      exact kt
    by_cases hc22_7 : ((x0_0 &&& (2147483647 : Int32)) % (3 : Int32)) = (1 : Int32)
    · obtain ⟨T8, X8, e8, st8⟩ := getS2 X0 hx hZ hown (host := "") (Or.inl (hw _ (List.mem_of_getElem? (i := 13) rfl))) Via.refl e0 (W.2.1) (g := (mkF m 25 #[.val (.int x0_0), .val (.int ((x0_0 &&& (2147483647 : Int32)) % (3 : Int32))), .unset, .unset] [])) rfl (hb hby at_25)
      have sg10 : ∀ t, Steps p.tables e below (T8.setTop (mkF m 41 #[.val (.int x0_0), .val (.int ((x0_0 &&& (2147483647 : Int32)) % (3 : Int32))), .val (.ref w_MARIADB), .val (.int (0 : Int32))] [(.ref w_MARIADB)])) t → Steps p.tables e below (s₁.setTop (mkF m 22 #[.val (.int x0_0), .val (.int ((x0_0 &&& (2147483647 : Int32)) % (3 : Int32))), .unset, .unset] [(.int (1 : Int32)), (.int ((x0_0 &&& (2147483647 : Int32)) % (3 : Int32)))])) t := fun t kt => by
        show Steps p.tables e below (s₁.setTop (mkF m 22 #[.val (.int x0_0), .val (.int ((x0_0 &&& (2147483647 : Int32)) % (3 : Int32))), .unset, .unset] [(.int (1 : Int32)), (.int ((x0_0 &&& (2147483647 : Int32)) % (3 : Int32)))])) _
        refine XS.icmpNo X0.here hx rfl (hb hby at_22) rfl (teq hc22_7).2 ?_
        show Steps p.tables e below (s₁.setTop (mkF m 25 #[.val (.int x0_0), .val (.int ((x0_0 &&& (2147483647 : Int32)) % (3 : Int32))), .unset, .unset] [])) _
        refine st8 _ ?_
        show Steps p.tables e below (T8.setTop (mkF m 28 #[.val (.int x0_0), .val (.int ((x0_0 &&& (2147483647 : Int32)) % (3 : Int32))), .unset, .unset] [(.ref w_MARIADB)])) _
        refine XS.astoreN X8.here hx rfl (hb hby at_28) rfl rfl (l' := #[.val (.int x0_0), .val (.int ((x0_0 &&& (2147483647 : Int32)) % (3 : Int32))), .val (.ref w_MARIADB), .unset]) rfl ?_
        show Steps p.tables e below (T8.setTop (mkF m 29 #[.val (.int x0_0), .val (.int ((x0_0 &&& (2147483647 : Int32)) % (3 : Int32))), .val (.ref w_MARIADB), .unset] [])) _
        refine XS.iconst X8.here hx rfl (hb hby at_29) ?_
        show Steps p.tables e below (T8.setTop (mkF m 30 #[.val (.int x0_0), .val (.int ((x0_0 &&& (2147483647 : Int32)) % (3 : Int32))), .val (.ref w_MARIADB), .unset] [(.int (0 : Int32))])) _
        refine XS.istoreN X8.here hx rfl (hb hby at_30) rfl (l' := #[.val (.int x0_0), .val (.int ((x0_0 &&& (2147483647 : Int32)) % (3 : Int32))), .val (.ref w_MARIADB), .val (.int (0 : Int32))]) rfl ?_
        show Steps p.tables e below (T8.setTop (mkF m 31 #[.val (.int x0_0), .val (.int ((x0_0 &&& (2147483647 : Int32)) % (3 : Int32))), .val (.ref w_MARIADB), .val (.int (0 : Int32))] [])) _
        refine XS.goto X8.here hx rfl (pc0 := 31) (pc' := 40) rfl (hb hby at_31) (by decide) (by decide) ?_
        show Steps p.tables e below (T8.setTop (mkF m 40 #[.val (.int x0_0), .val (.int ((x0_0 &&& (2147483647 : Int32)) % (3 : Int32))), .val (.ref w_MARIADB), .val (.int (0 : Int32))] [])) _
        refine XS.aloadN X8.here hx rfl (hb hby at_40) rfl rfl ?_
        exact kt
      obtain ⟨cq9, kq9, q9a, q9b, q9c⟩ := isOf hZ e8 (W.2.2.2.2.1)
      obtain ⟨v9, _, ⟨T9, L9, k9, n9⟩, -, X9, ⟨Lc9, hQ9, l9, y9, z9⟩, st9⟩ := X8.virtualBack hx (y := (⟨"com/example/unit_of_work/unitofwork/Database", "padsCharColumns", "()Z"⟩ : MethodName)) (z := (⟨"com/example/unit_of_work/unitofwork/Database", "padsCharColumns", "()Z"⟩ : MethodName)) hown (mvT hZ (hw _ (List.mem_of_getElem? (i := 4) rfl))) (mvT hZ (hw _ (List.mem_of_getElem? (i := 5) rfl))) (notFace_of_selects (args := #[]) (mvT hZ (hw _ (List.mem_of_getElem? (i := 7) rfl)))) (mvT hZ (hw _ (List.mem_of_getElem? (i := 7) rfl))) (mvT hZ (hw _ (List.mem_of_getElem? (i := 6) rfl))) (by decide) (backOf (W := 0) (rm1 l Z a0 hw [] w_MARIADB w_POSTGRESQL w_MARIADB w_H2 h0 n0 Z0 W) hZ (hw _ (List.mem_of_getElem? (i := 8) rfl)) (hw _ (List.mem_of_getElem? (i := 2) rfl)) (by decide) (by decide)) q9a q9c (g := (mkF m 41 #[.val (.int x0_0), .val (.int ((x0_0 &&& (2147483647 : Int32)) % (3 : Int32))), .val (.ref w_MARIADB), .val (.int (0 : Int32))] [(.ref w_MARIADB)])) rfl (by rw [hml]; rfl) (Steps.refl _) (argsL := []) (rest := []) (lenOf pd_0 rfl) rfl (by show 2 * 0 + _ ≤ _; exact Nat.le_of_eq rfl) (hb hby at_41) (fun _ _ => ⟨rfl, e8, (by decide : 0 + 0 ≤ _), (by decide : 0 + 0 ≤ _)⟩)
      dsimp only [Pt.U, Pt.locs, Pt.cells, Pt.slots] at X9 l9 y9 z9 st9 hQ9
      subst l9 y9 z9
      obtain ⟨hv9, N9q, e9⟩ := hQ9
      have N9 := Fr.app N0 N9q
      have hf9 : f1 w_MARIADB w_POSTGRESQL w_MARIADB w_H2 = (0 : Int32) := by unfold f1; rw [if_neg (Fld.ne (W.2.2.2.2.2.2.2.1) (W.2.2.2.2.2.2.1) (by decide) : ¬ (w_MARIADB = w_POSTGRESQL)), if_neg (Fld.ne (W.2.2.2.2.2.2.2.1) (W.2.2.2.2.2.2.2.2) (by decide) : ¬ (w_MARIADB = w_H2))]
      rw [hf9] at hv9
      subst hv9
      obtain ⟨fs, hr, hrun, hended, hW, hsame⟩ := X9.leave (v := some (.int (1 : Int32))) (fun h => by rw [Bd.returns] at h; cases h)
      refine ⟨_, _, pre0 _ (sg1 _ (sg6 _ (sg10 _ ?_))), hrun, hended, _, _, rfl, ?_, ⟨_, rfl⟩, hW, hsame.mono (by decide) (by decide)⟩
      · show Steps p.tables e below (T8.setTop (mkF m 41 #[.val (.int x0_0), .val (.int ((x0_0 &&& (2147483647 : Int32)) % (3 : Int32))), .val (.ref w_MARIADB), .val (.int (0 : Int32))] [(.ref w_MARIADB)])) _
        refine st9.trans ?_
        show Steps p.tables e below (T9.setTop (mkF m 44 #[.val (.int x0_0), .val (.int ((x0_0 &&& (2147483647 : Int32)) % (3 : Int32))), .val (.ref w_MARIADB), .val (.int (0 : Int32))] [(.int (0 : Int32))])) _
        refine XS.iloadN X9.here hx rfl (hb hby at_44) rfl ?_
        show Steps p.tables e below (T9.setTop (mkF m 45 #[.val (.int x0_0), .val (.int ((x0_0 &&& (2147483647 : Int32)) % (3 : Int32))), .val (.ref w_MARIADB), .val (.int (0 : Int32))] [(.int (0 : Int32)), (.int (0 : Int32))])) _
        refine XS.icmpNo X9.here hx rfl (hb hby at_45) rfl (teq (by decide : ((0 : Int32) = (0 : Int32)))).2 ?_
        show Steps p.tables e below (T9.setTop (mkF m 48 #[.val (.int x0_0), .val (.int ((x0_0 &&& (2147483647 : Int32)) % (3 : Int32))), .val (.ref w_MARIADB), .val (.int (0 : Int32))] [])) _
        refine XS.iconst X9.here hx rfl (hb hby at_48) ?_
        show Steps p.tables e below (T9.setTop (mkF m 49 #[.val (.int x0_0), .val (.int ((x0_0 &&& (2147483647 : Int32)) % (3 : Int32))), .val (.ref w_MARIADB), .val (.int (0 : Int32))] [(.int (1 : Int32))])) _
        refine XS.goto X9.here hx rfl (pc0 := 49) (pc' := 53) rfl (hb hby at_49) (by decide) (by decide) ?_
        show Steps p.tables e below (T9.setTop (mkF m 53 #[.val (.int x0_0), .val (.int ((x0_0 &&& (2147483647 : Int32)) % (3 : Int32))), .val (.ref w_MARIADB), .val (.int (0 : Int32))] [(.int (1 : Int32))])) _
        exact retN X9 hx (t := .boolean) Bd.returns (by simp) (hb hby at_53) hr
      · exact ⟨congrArg (fun z => some (Value.int z)) (show (1 : Int32) = f0 x0_0 w_POSTGRESQL w_MARIADB w_H2 from by unfold f0; rw [if_neg hc8_2, if_pos hc22_7]), N9, e9⟩
    · obtain ⟨T11, X11, e11, st11⟩ := getS2 X0 hx hZ hown (host := "") (Or.inl (hw _ (List.mem_of_getElem? (i := 10) rfl))) Via.refl e0 (W.2.2.1) (g := (mkF m 34 #[.val (.int x0_0), .val (.int ((x0_0 &&& (2147483647 : Int32)) % (3 : Int32))), .unset, .unset] [])) rfl (hb hby at_34)
      have sg13 : ∀ t, Steps p.tables e below (T11.setTop (mkF m 41 #[.val (.int x0_0), .val (.int ((x0_0 &&& (2147483647 : Int32)) % (3 : Int32))), .val (.ref w_H2), .val (.int (1 : Int32))] [(.ref w_H2)])) t → Steps p.tables e below (s₁.setTop (mkF m 22 #[.val (.int x0_0), .val (.int ((x0_0 &&& (2147483647 : Int32)) % (3 : Int32))), .unset, .unset] [(.int (1 : Int32)), (.int ((x0_0 &&& (2147483647 : Int32)) % (3 : Int32)))])) t := fun t kt => by
        show Steps p.tables e below (s₁.setTop (mkF m 22 #[.val (.int x0_0), .val (.int ((x0_0 &&& (2147483647 : Int32)) % (3 : Int32))), .unset, .unset] [(.int (1 : Int32)), (.int ((x0_0 &&& (2147483647 : Int32)) % (3 : Int32)))])) _
        refine XS.icmpYes X0.here hx rfl (pc0 := 22) (pc' := 34) rfl (hb hby at_22) rfl (feq hc22_7).2 (by decide) (by decide) ?_
        show Steps p.tables e below (s₁.setTop (mkF m 34 #[.val (.int x0_0), .val (.int ((x0_0 &&& (2147483647 : Int32)) % (3 : Int32))), .unset, .unset] [])) _
        refine st11 _ ?_
        show Steps p.tables e below (T11.setTop (mkF m 37 #[.val (.int x0_0), .val (.int ((x0_0 &&& (2147483647 : Int32)) % (3 : Int32))), .unset, .unset] [(.ref w_H2)])) _
        refine XS.astoreN X11.here hx rfl (hb hby at_37) rfl rfl (l' := #[.val (.int x0_0), .val (.int ((x0_0 &&& (2147483647 : Int32)) % (3 : Int32))), .val (.ref w_H2), .unset]) rfl ?_
        show Steps p.tables e below (T11.setTop (mkF m 38 #[.val (.int x0_0), .val (.int ((x0_0 &&& (2147483647 : Int32)) % (3 : Int32))), .val (.ref w_H2), .unset] [])) _
        refine XS.iconst X11.here hx rfl (hb hby at_38) ?_
        show Steps p.tables e below (T11.setTop (mkF m 39 #[.val (.int x0_0), .val (.int ((x0_0 &&& (2147483647 : Int32)) % (3 : Int32))), .val (.ref w_H2), .unset] [(.int (1 : Int32))])) _
        refine XS.istoreN X11.here hx rfl (hb hby at_39) rfl (l' := #[.val (.int x0_0), .val (.int ((x0_0 &&& (2147483647 : Int32)) % (3 : Int32))), .val (.ref w_H2), .val (.int (1 : Int32))]) rfl ?_
        show Steps p.tables e below (T11.setTop (mkF m 40 #[.val (.int x0_0), .val (.int ((x0_0 &&& (2147483647 : Int32)) % (3 : Int32))), .val (.ref w_H2), .val (.int (1 : Int32))] [])) _
        refine XS.aloadN X11.here hx rfl (hb hby at_40) rfl rfl ?_
        exact kt
      obtain ⟨cq12, kq12, q12a, q12b, q12c⟩ := isOf hZ e11 (W.2.2.2.2.2.1)
      obtain ⟨v12, _, ⟨T12, L12, k12, n12⟩, -, X12, ⟨Lc12, hQ12, l12, y12, z12⟩, st12⟩ := X11.virtualBack hx (y := (⟨"com/example/unit_of_work/unitofwork/Database", "padsCharColumns", "()Z"⟩ : MethodName)) (z := (⟨"com/example/unit_of_work/unitofwork/Database", "padsCharColumns", "()Z"⟩ : MethodName)) hown (mvT hZ (hw _ (List.mem_of_getElem? (i := 4) rfl))) (mvT hZ (hw _ (List.mem_of_getElem? (i := 5) rfl))) (notFace_of_selects (args := #[]) (mvT hZ (hw _ (List.mem_of_getElem? (i := 7) rfl)))) (mvT hZ (hw _ (List.mem_of_getElem? (i := 7) rfl))) (mvT hZ (hw _ (List.mem_of_getElem? (i := 6) rfl))) (by decide) (backOf (W := 0) (rm1 l Z a0 hw [] w_H2 w_POSTGRESQL w_MARIADB w_H2 h0 n0 Z0 W) hZ (hw _ (List.mem_of_getElem? (i := 8) rfl)) (hw _ (List.mem_of_getElem? (i := 2) rfl)) (by decide) (by decide)) q12a q12c (g := (mkF m 41 #[.val (.int x0_0), .val (.int ((x0_0 &&& (2147483647 : Int32)) % (3 : Int32))), .val (.ref w_H2), .val (.int (1 : Int32))] [(.ref w_H2)])) rfl (by rw [hml]; rfl) (Steps.refl _) (argsL := []) (rest := []) (lenOf pd_0 rfl) rfl (by show 2 * 0 + _ ≤ _; exact Nat.le_of_eq rfl) (hb hby at_41) (fun _ _ => ⟨rfl, e11, (by decide : 0 + 0 ≤ _), (by decide : 0 + 0 ≤ _)⟩)
      dsimp only [Pt.U, Pt.locs, Pt.cells, Pt.slots] at X12 l12 y12 z12 st12 hQ12
      subst l12 y12 z12
      obtain ⟨hv12, N12q, e12⟩ := hQ12
      have N12 := Fr.app N0 N12q
      have hf12 : f1 w_H2 w_POSTGRESQL w_MARIADB w_H2 = (1 : Int32) := by unfold f1; rw [if_neg (Fld.ne (W.2.2.2.2.2.2.2.2) (W.2.2.2.2.2.2.1) (by decide) : ¬ (w_H2 = w_POSTGRESQL)), if_pos (rfl : w_H2 = w_H2)]
      rw [hf12] at hv12
      subst hv12
      obtain ⟨fs, hr, hrun, hended, hW, hsame⟩ := X12.leave (v := some (.int (1 : Int32))) (fun h => by rw [Bd.returns] at h; cases h)
      refine ⟨_, _, pre0 _ (sg1 _ (sg6 _ (sg13 _ ?_))), hrun, hended, _, _, rfl, ?_, ⟨_, rfl⟩, hW, hsame.mono (by decide) (by decide)⟩
      · show Steps p.tables e below (T11.setTop (mkF m 41 #[.val (.int x0_0), .val (.int ((x0_0 &&& (2147483647 : Int32)) % (3 : Int32))), .val (.ref w_H2), .val (.int (1 : Int32))] [(.ref w_H2)])) _
        refine st12.trans ?_
        show Steps p.tables e below (T12.setTop (mkF m 44 #[.val (.int x0_0), .val (.int ((x0_0 &&& (2147483647 : Int32)) % (3 : Int32))), .val (.ref w_H2), .val (.int (1 : Int32))] [(.int (1 : Int32))])) _
        refine XS.iloadN X12.here hx rfl (hb hby at_44) rfl ?_
        show Steps p.tables e below (T12.setTop (mkF m 45 #[.val (.int x0_0), .val (.int ((x0_0 &&& (2147483647 : Int32)) % (3 : Int32))), .val (.ref w_H2), .val (.int (1 : Int32))] [(.int (1 : Int32)), (.int (1 : Int32))])) _
        refine XS.icmpNo X12.here hx rfl (hb hby at_45) rfl (teq (by decide : ((1 : Int32) = (1 : Int32)))).2 ?_
        show Steps p.tables e below (T12.setTop (mkF m 48 #[.val (.int x0_0), .val (.int ((x0_0 &&& (2147483647 : Int32)) % (3 : Int32))), .val (.ref w_H2), .val (.int (1 : Int32))] [])) _
        refine XS.iconst X12.here hx rfl (hb hby at_48) ?_
        show Steps p.tables e below (T12.setTop (mkF m 49 #[.val (.int x0_0), .val (.int ((x0_0 &&& (2147483647 : Int32)) % (3 : Int32))), .val (.ref w_H2), .val (.int (1 : Int32))] [(.int (1 : Int32))])) _
        refine XS.goto X12.here hx rfl (pc0 := 49) (pc' := 53) rfl (hb hby at_49) (by decide) (by decide) ?_
        show Steps p.tables e below (T12.setTop (mkF m 53 #[.val (.int x0_0), .val (.int ((x0_0 &&& (2147483647 : Int32)) % (3 : Int32))), .val (.ref w_H2), .val (.int (1 : Int32))] [(.int (1 : Int32))])) _
        exact retN X12 hx (t := .boolean) Bd.returns (by simp) (hb hby at_53) hr
      · exact ⟨congrArg (fun z => some (Value.int z)) (show (1 : Int32) = f0 x0_0 w_POSTGRESQL w_MARIADB w_H2 from by unfold f0; rw [if_neg hc8_2, if_neg hc22_7]), N12, e12⟩
set_option maxRecDepth 65536 in
set_option maxHeartbeats 40000000 in
theorem comes_1 {Post : Tables → Env → Array Value → State → Outcome → State → Prop} (hpost : ∀ tb e args s v u, (limb_1_1.after args s (.returned v) u = true ∧ limb_1_2.after args s (.returned v) u = true ∧ True) → FrameEnd s (.returned v) u (Jvm.fieldLocs frame_1_writes args s ++ Jvm.arrayLocs frame_1_arrays args s ++ Jvm.staticLocs frame_1_statics s) 0 0 → Post tb e args s (.returned v) u) :
    ArmFor flags0 classFile x code maxLocals ret World_1 tables_1 room_1 Calls_1 rest_1 Pre_1 Post := by
  intro l hfl _ _ p e ha hc hk s m args below hf hA hF happ hP
  obtain ⟨hcalls, hrest, hpre⟩ := hP
  obtain ⟨-, -, -, hnamed, -, -, -, hat⟩ := (Spec.applies_iff hf).mp happ
  obtain ⟨hg, hn⟩ := and_e (Cond.before_iff.mp (show (Jvm.Cond.and given_1 narrow_1).before args s = true from hpre))
  obtain ⟨g1, g2⟩ := and_e hg
  obtain ⟨w0, rfl⟩ : ∃ w0 : Value, args = #[w0] := by
    have hs : args.size = 1 := by simpa [Cond.value, given_1] using g1
    obtain ⟨L⟩ := args
    match L, hs with
    | [w0], _ => exact ⟨w0, rfl⟩
  have hw := fun d (hd : d ∈ tables_1) => atoms_spec (ws := Jvm.Cond.code x code maxLocals ret :: tables_1) hat d (List.mem_cons_of_mem _ hd)
  obtain ⟨i0, ei0⟩ := is_v g2
  obtain rfl : w0 = (.int i0) := Option.some.inj ei0
  obtain ⟨m1, m2⟩ := and_e hn
  obtain ⟨m3, m4⟩ := and_e m2
  obtain ⟨m5, m6⟩ := and_e m4
  obtain ⟨m7, m8⟩ := and_e m6
  obtain ⟨m9, m10⟩ := and_e m8
  obtain ⟨w_POSTGRESQL, evw_POSTGRESQL⟩ := exa_v m1
  obtain ⟨w_MARIADB, evw_MARIADB⟩ := exa_v m9
  obtain ⟨w_H2, evw_H2⟩ := exa_v m3
  have WW : World s s.heap w_POSTGRESQL w_MARIADB w_H2 := ⟨Sta.start evw_POSTGRESQL (Or.inr ⟨(hw _ (List.mem_of_getElem? (i := 2) rfl)), (hw _ (List.mem_of_getElem? (i := 3) rfl))⟩), Sta.start evw_MARIADB (Or.inr ⟨(hw _ (List.mem_of_getElem? (i := 2) rfl)), (hw _ (List.mem_of_getElem? (i := 14) rfl))⟩), Sta.start evw_H2 (Or.inr ⟨(hw _ (List.mem_of_getElem? (i := 2) rfl)), (hw _ (List.mem_of_getElem? (i := 11) rfl))⟩), Exa.start evw_POSTGRESQL m1, Exa.start evw_MARIADB m9, Exa.start evw_H2 m3, Fld.start ((fld_at evw_POSTGRESQL).symm.trans (own_eqI m7)), Fld.start ((fld_at evw_MARIADB).symm.trans (own_eqI m10)), Fld.start ((fld_at evw_H2).symm.trans (own_eqI m5))⟩
  obtain ⟨n, o, h1, h2, h3, _, L, rfl, ⟨rfl, N, -⟩, hq⟩ := rm0 l s _ hw tables_1 i0 w_POSTGRESQL w_MARIADB w_H2 s.heap s.heap.size (Nat.le_refl _) WW p e ha hc hk s m _ below hf ((Spec.applies_iff_loose hf).mp happ).1 ⟨rfl, State.Warmed39.refl s, rfl⟩ trivial
  have hone : f0 i0 w_POSTGRESQL w_MARIADB w_H2 = 1 := (by unfold f0; (repeat' split) <;> rfl)
  rw [hone] at h3 hq
  refine ⟨n, _, h1, h2, h3, hpost _ _ _ _ _ _ ⟨Cond.after_iff.mpr rfl, Cond.after_iff.mpr (eq_i res_at (Term.int_eval (1)) rfl), trivial⟩ ⟨hq.1, hq.2.1, (hq.2.2.sift fun y hy => Or.inr (N y hy)).mono (by decide) (by decide)⟩⟩
theorem main_1_1 : Claimed_1_1 := comes_1 fun _ _ _ _ _ _ h hF => ⟨h.1, hF⟩
theorem main_1_2 : Claimed_1_2 := comes_1 fun _ _ _ _ _ _ h hF => ⟨h.2.1, hF⟩
end Jvm.Pilot.@@N@@
namespace Jvm.Pilot.@@N@@
open Jvm Jvm.ClassFile Sem Op Lib Jvm.Free Jvm.Stand Jvm.Pilot.@@N@@.Jvm.D
/-! MADE BY PROGRAM (witnessworld.py) out of the Statement's table words and the real class files: 10 classes; the members and pool entries that the words name. The judged class is class 1, her method 1. -/
namespace start1
open Jvm.ClassFile
def u (s : String) : CpInfo := .utf8 (stringToUtf16 s)
/-- a pool by its gaps: so many unusable entries, then the entry; so many at the end -/
def gap : Nat → List CpInfo → List CpInfo
  | 0, r => r
  | n + 1, r => .unusable :: gap n r
def poolList (es : List (Nat × CpInfo)) (last : Nat) : List CpInfo := es.foldr (fun e r => gap e.1 (e.2 :: r)) (gap last [])
def pool (es : List (Nat × CpInfo)) (last : Nat) : Array CpInfo := ⟨poolList es last⟩
def fileOf (pool : Array CpInfo) (this : Nat) (attrs : Array Attribute := #[]) (ms : Array MethodInfo := #[]) (fl : Nat := 33) (sup : Nat := 0) (ifs : Array Nat := #[]) (fds : Array FieldInfo := #[]) : ClassFile where
  minorVersion := 0
  majorVersion := 65
  constantPool := pool
  accessFlags := fl
  thisClass := this
  superClass := sup
  interfaces := ifs
  fields := fds
  methods := ms
  attributes := attrs
def plain (name : String) (sup : Option ClassId) : Class where
  name := name
  kind := .ordinary
  loader := none
  accessFlags := 33
  super := sup
  interfaces := #[]
  cf := none
  fields := #[]
  methods := #[]
  instanceTypes := #[]
  staticTypes := #[]
  resolved := #[]
  callSites := []
  init := .initialized
  statics := none
  mirror := none

def pool0 : Array CpInfo := pool [(5, u "<init>"), (0, u "()V"), (1, .class_ 10), (1, u "java/lang/Object")] 113

def k0m0 : Method := { name := "<init>", desc := "()V", sig := { parameters := [], returnType := none }, accessFlags := 1, code := none }
/-- java/lang/Object -/
def k0 : Class := { plain "java/lang/Object" none with
  accessFlags := 33
  interfaces := #[]
  cf := some (fileOf pool0 8 #[] #[{ accessFlags := 1, nameIndex := 5, descriptorIndex := 6, attributes := #[] }] 33 0 #[] #[])
  fields := #[]
  methods := #[k0m0]
  instanceTypes := #[]
  staticTypes := #[]
  resolved := Array.replicate 124 none
  statics := none }

def pool1 : Array CpInfo := pool [(2, .class_ 4), (1, u "java/lang/Object"), (0, u "<init>"), (0, u "()V"), (0, .integer 2147483647), (0, .fieldref 9 10), (0, .class_ 11), (0, .nameAndType 12 13), (0, u "com/example/unit_of_work/unitofwork/Database"), (0, u "POSTGRESQL"), (0, u "Lcom/example/unit_of_work/unitofwork/Database;"), (0, .fieldref 9 15), (0, .nameAndType 16 13), (0, u "MARIADB"), (0, .fieldref 9 18), (0, .nameAndType 19 13), (0, u "H2"), (0, .methodref 9 21), (0, .nameAndType 22 23), (0, u "padsCharColumns"), (0, u "()Z"), (0, .class_ 25), (0, u "com/example/unit_of_work/unitofwork/DatabasePadsCharColumnsPinLaw"), (2, u "law"), (0, u "(I)Z")] 3

def k1m0 : Method := { name := "<init>", desc := "()V", sig := { parameters := [], returnType := none }, accessFlags := 1, code := none }
def k1c1 : Code := { maxStack := 2, maxLocals := 4, code := code, exceptionTable := #[], attributes := #[] }
def k1m1 : Method := { name := "law", desc := "(I)Z", sig := { parameters := [.int], returnType := some .boolean }, accessFlags := 9, code := some k1c1 }
/-- com/example/unit_of_work/unitofwork/DatabasePadsCharColumnsPinLaw -/
def k1 : Class := { plain "com/example/unit_of_work/unitofwork/DatabasePadsCharColumnsPinLaw" (some 0) with
  accessFlags := 49
  interfaces := #[]
  cf := some (fileOf pool1 24 #[] #[{ accessFlags := 1, nameIndex := 5, descriptorIndex := 6, attributes := #[] }, { accessFlags := 9, nameIndex := 28, descriptorIndex := 29, attributes := #[] }] 49 2 #[] #[])
  fields := #[]
  methods := #[k1m0, k1m1]
  instanceTypes := #[]
  staticTypes := #[]
  resolved := Array.replicate 33 none
  statics := none }

def pool2 : Array CpInfo := pool [(1, .class_ 2), (0, u "java/lang/constant/Constable"), (0, .class_ 4), (0, u "java/lang/Object")] 6

/-- java/lang/constant/Constable -/
def k2 : Class := { plain "java/lang/constant/Constable" (some 0) with
  accessFlags := 1537
  interfaces := #[]
  cf := some (fileOf pool2 1 #[] #[] 1537 3 #[] #[])
  fields := #[]
  methods := #[]
  instanceTypes := #[]
  staticTypes := #[]
  resolved := Array.replicate 11 none
  statics := none }

def pool3 : Array CpInfo := pool [(1, .class_ 2), (0, u "java/lang/Comparable"), (0, .class_ 4), (0, u "java/lang/Object")] 7

/-- java/lang/Comparable -/
def k3 : Class := { plain "java/lang/Comparable" (some 0) with
  accessFlags := 1537
  interfaces := #[]
  cf := some (fileOf pool3 1 #[] #[] 1537 3 #[] #[])
  fields := #[]
  methods := #[]
  instanceTypes := #[]
  staticTypes := #[]
  resolved := Array.replicate 12 none
  statics := none }

def pool4 : Array CpInfo := pool [(1, .class_ 2), (0, u "java/io/Serializable"), (0, .class_ 4), (0, u "java/lang/Object")] 2

/-- java/io/Serializable -/
def k4 : Class := { plain "java/io/Serializable" (some 0) with
  accessFlags := 1537
  interfaces := #[]
  cf := some (fileOf pool4 1 #[] #[] 1537 3 #[] #[])
  fields := #[]
  methods := #[]
  instanceTypes := #[]
  staticTypes := #[]
  resolved := Array.replicate 7 none
  statics := none }

def pool5 : Array CpInfo := pool [(2, .class_ 4), (1, u "java/lang/Enum"), (0, u "name"), (0, u "Ljava/lang/String;"), (2, u "ordinal"), (0, u "I"), (1, .class_ 14), (1, u "java/lang/Object"), (4, u "hash"), (86, .class_ 108), (1, u "java/lang/Enum$EnumDesc"), (2, .class_ 112), (0, u "java/lang/constant/Constable"), (0, .class_ 114), (0, u "java/lang/Comparable"), (0, .class_ 116), (0, u "java/io/Serializable")] 87

/-- java/lang/Enum -/
def k5 : Class := { plain "java/lang/Enum" (some 0) with
  accessFlags := 1057
  interfaces := #[2, 3, 4]
  cf := some (fileOf pool5 2 #[.nestMembers #[106]] #[] 1057 12 #[111, 113, 115] #[{ accessFlags := 18, nameIndex := 5, descriptorIndex := 6, attributes := #[] }, { accessFlags := 18, nameIndex := 9, descriptorIndex := 10, attributes := #[] }, { accessFlags := 2, nameIndex := 19, descriptorIndex := 10, attributes := #[] }])
  fields := #[{ name := "name", type := (.object "java/lang/String"), accessFlags := 18, slot := 0, constantValue := 0 }, { name := "ordinal", type := .int, accessFlags := 18, slot := 1, constantValue := 0 }, { name := "hash", type := .int, accessFlags := 2, slot := 2, constantValue := 0 }]
  methods := #[]
  instanceTypes := #[(.object "java/lang/String"), .int, .int]
  staticTypes := #[]
  resolved := Array.replicate 204 none
  statics := none }

def pool6 : Array CpInfo := pool [(1, .class_ 2), (0, u "com/example/unit_of_work/unitofwork/Database"), (0, .fieldref 1 4), (0, .nameAndType 5 6), (0, u "POSTGRESQL"), (0, u "Lcom/example/unit_of_work/unitofwork/Database;"), (2, u "MARIADB"), (0, .fieldref 1 11), (0, .nameAndType 12 6), (0, u "H2"), (2, u "$VALUES"), (0, u "[Lcom/example/unit_of_work/unitofwork/Database;"), (6, .class_ 25), (1, u "java/lang/Enum"), (8, u "productName"), (0, u "Ljava/lang/String;"), (43, u "padsCharColumns"), (0, u "()Z")] 99

def k6c0 : Code := { maxStack := 2, maxLocals := 1, code := prog_39_method_10_code, exceptionTable := #[], attributes := #[] }
def k6m0 : Method := { name := "padsCharColumns", desc := "()Z", sig := { parameters := [], returnType := some .boolean }, accessFlags := 0, code := some k6c0 }
/-- com/example/unit_of_work/unitofwork/Database -/
def k6 : Class := { plain "com/example/unit_of_work/unitofwork/Database" (some 5) with
  accessFlags := 16433
  interfaces := #[]
  cf := some (fileOf pool6 1 #[] #[{ accessFlags := 0, nameIndex := 79, descriptorIndex := 80, attributes := #[] }] 16433 23 #[] #[{ accessFlags := 16409, nameIndex := 5, descriptorIndex := 6, attributes := #[] }, { accessFlags := 16409, nameIndex := 9, descriptorIndex := 6, attributes := #[] }, { accessFlags := 16409, nameIndex := 12, descriptorIndex := 6, attributes := #[] }, { accessFlags := 18, nameIndex := 34, descriptorIndex := 35, attributes := #[] }, { accessFlags := 4122, nameIndex := 15, descriptorIndex := 16, attributes := #[] }])
  fields := #[{ name := "POSTGRESQL", type := (.object "com/example/unit_of_work/unitofwork/Database"), accessFlags := 16409, slot := 0, constantValue := 0 }, { name := "MARIADB", type := (.object "com/example/unit_of_work/unitofwork/Database"), accessFlags := 16409, slot := 1, constantValue := 0 }, { name := "H2", type := (.object "com/example/unit_of_work/unitofwork/Database"), accessFlags := 16409, slot := 2, constantValue := 0 }, { name := "productName", type := (.object "java/lang/String"), accessFlags := 18, slot := 3, constantValue := 0 }, { name := "$VALUES", type := (.array (.object "com/example/unit_of_work/unitofwork/Database")), accessFlags := 4122, slot := 3, constantValue := 0 }]
  methods := #[k6m0]
  instanceTypes := #[(.object "java/lang/String"), .int, .int, (.object "java/lang/String")]
  staticTypes := #[(.object "com/example/unit_of_work/unitofwork/Database"), (.object "com/example/unit_of_work/unitofwork/Database"), (.object "com/example/unit_of_work/unitofwork/Database"), (.array (.object "com/example/unit_of_work/unitofwork/Database"))]
  resolved := Array.replicate 180 none
  statics := some 0 }

def pool7 : Array CpInfo := pool [(1, u "java/lang/Cloneable"), (0, .class_ 1), (0, u "java/lang/Object"), (0, .class_ 3)] 3

/-- java/lang/Cloneable -/
def k7 : Class := { plain "java/lang/Cloneable" (some 0) with
  accessFlags := 1537
  interfaces := #[]
  cf := some (fileOf pool7 2 #[] #[] 1537 4 #[] #[])
  fields := #[]
  methods := #[]
  instanceTypes := #[]
  staticTypes := #[]
  resolved := Array.replicate 8 none
  statics := none }

/-- the primitive byte -/
def k8 : Class := { plain "byte" none with kind := .primitive 'B', accessFlags := 0x411 }
/-- [B -/
def k9 : Class := { plain "[B" (some 0) with kind := .array 8 .byte, interfaces := #[7, 4], accessFlags := 1041 }

def heap : Heap := #[{ cls := 6, slots := #[.ref 1, .ref 2, .ref 3, .null], vm := .statics 6 },
  { cls := 6, slots := #[.null, .int 0, .int 0, .null], vm := .none },
  { cls := 6, slots := #[.null, .int 1, .int 0, .null], vm := .none },
  { cls := 6, slots := #[.null, .int 2, .int 0, .null], vm := .none }]
def classes : Array Class := #[k0, k1, k2, k3, k4, k5, k6, k7, k8, k9]
def interned : List (Array UInt16 × Addr) := []
def slotsUsed : Nat := 16
def theMethod : MethodId := ⟨1, 1⟩
def args0 : Array Value := #[.int 5]
def aboutOver (below : List Frame) : State where
  vm := { classes := classes, interned := interned.toArray }
  heap := heap
  slotsUsed := slotsUsed
  threads := #[{ frames := .invoking theMethod args0 :: below }]
def below0 : List Frame := [.native { method := ⟨0, 0⟩, args := #[] }]
def about1 : State := aboutOver below0
def p0 : Program := .bare "" "" ""
def e0 : Env := launch0.env 0 0 0
theorem w_frames : about1.frames = Frame.invoking theMethod args0 :: below0 := rfl
set_option maxRecDepth 65536 in
theorem w_args : argsFit about1.vm theMethod args0 = true := by decide +kernel
set_option maxRecDepth 65536 in
theorem w_heap : heapFits about1 = true := by decide +kernel
set_option maxRecDepth 65536 in
theorem w_runnable : about1.curStatus? = some .runnable := by decide +kernel
set_option maxRecDepth 65536 in
theorem w_alone : about1.alone = true := by decide +kernel
set_option maxRecDepth 65536 in
theorem w_named : about1.methodNamed? x = some theMethod := by decide +kernel
set_option maxRecDepth 65536 in
theorem w_hears : about1.hears theMethod below0 = true := by decide +kernel
set_option maxRecDepth 65536 in
theorem w_ripe : about1.ripe theMethod args0 below0 = true := by decide +kernel
theorem w_running : about1.status = .running := rfl
set_option maxRecDepth 65536 in
theorem w_room : about1.hasRoom e0.platform room_1 = true :=
  launch0.hasRoom_least _ room_1 (by decide +kernel) (by decide +kernel) (by decide +kernel) (by decide +kernel) (by decide +kernel) (by decide +kernel)
theorem allAtoms_all (ts : List Jvm.Cond) (a : Array Jvm.Value) (st : Jvm.State) : (allAtoms ts).before a st = ts.all (fun c => c.before a st) := by
  induction ts with
  | nil => rfl
  | cons c t ih =>
    show (Jvm.Cond.and c (allAtoms t)).before a st = _
    rw [Jvm.Cond.before_and, ih, List.all_cons]
def words1 : List Jvm.Cond := Jvm.Cond.code x code maxLocals ret :: tables_1
/-- a 'code' word, met by the world's own term for the bytes: nothing is compared byte by byte -/
theorem code_word {y : MethodName} {bytes : ByteArray} {mx : Nat} {rt : Option FieldType} {a : Array Value} {s : State} {m : MethodId} {meth : Method} {c : Code} (h1 : s.methodNamed? y = some m) (h2 : s.vm.method? m = some meth) (h3 : meth.code = some c) (h4 : c.code = bytes)
    (h5 : (c.maxLocals == mx && c.exceptionTable.isEmpty && decide (c.maxStack ≤ mostOperands) && decide (meth.sig.returnType = rt) && !meth.locks && decide (parseMethodDescriptor y.desc = some meth.sig)) = true) : (Jvm.Cond.code y bytes mx rt).before a s = true := by
  simp only [Bool.and_eq_true, beq_iff_eq, Bool.not_eq_true', decide_eq_true_eq] at h5
  obtain ⟨⟨⟨⟨⟨g1, g2⟩, g3⟩, g4⟩, g5⟩, g6⟩ := h5
  simp [Cond.before, Cond.holds, Cond.value, h1, h2, h3, h4, g1, g2, g3, g4, g5, g6]
def isCode : Jvm.Cond → Bool
  | .code _ _ _ _ => true
  | _ => false
theorem all_split {L : List Jvm.Cond} {P : Jvm.Cond → Bool} (h1 : L.all (fun c => isCode c || P c) = true) (h2 : ∀ c ∈ L.filter isCode, P c = true) : L.all P = true := by
  refine List.all_eq_true.mpr fun c hc => ?_
  have h := List.all_eq_true.mp h1 c hc
  rcases Bool.eq_false_or_eq_true (isCode c) with hi | hi
  · exact h2 c (List.mem_filter.mpr ⟨hc, hi⟩)
  · simpa [hi] using h
set_option maxRecDepth 65536 in
theorem w_c0 : (Jvm.Cond.code x code maxLocals ret).before args0 about1 = true := code_word (m := ⟨1, 1⟩) (meth := k1m1) (c := k1c1) (by decide +kernel) rfl rfl rfl (by decide +kernel)
set_option maxRecDepth 65536 in
theorem w_c1 : (Jvm.Cond.code ({ cls := "com/example/unit_of_work/unitofwork/Database", name := "padsCharColumns", desc := "()Z" } : Jvm.MethodName) prog_39_method_10_code (1 : Nat) (Option.some Jvm.ClassFile.FieldType.boolean)).before args0 about1 = true := code_word (m := ⟨6, 0⟩) (meth := k6m0) (c := k6c0) (by decide +kernel) rfl rfl rfl (by decide +kernel)
def codes1 : List Jvm.Cond := [Jvm.Cond.code x code maxLocals ret, Jvm.Cond.code ({ cls := "com/example/unit_of_work/unitofwork/Database", name := "padsCharColumns", desc := "()Z" } : Jvm.MethodName) prog_39_method_10_code (1 : Nat) (Option.some Jvm.ClassFile.FieldType.boolean)]
set_option maxRecDepth 65536 in
theorem codes_eq : words1.filter isCode = codes1 := rfl
theorem w_codes : ∀ c ∈ words1.filter isCode, c.before args0 about1 = true := by
  rw [codes_eq]
  intro c hc
  simp only [codes1, List.mem_cons, List.not_mem_nil, or_false] at hc
  rcases hc with rfl | rfl
  · exact w_c0
  · exact w_c1
set_option maxRecDepth 65536 in
theorem w_t1 : words1.all (fun c => isCode c || c.before args0 about1) = true := by decide +kernel
theorem w_tables : (allAtoms (Jvm.Cond.code x code maxLocals ret :: tables_1)).before args0 about1 = true := by
  rw [allAtoms_all]
  show words1.all (fun c => c.before args0 about1) = true
  refine all_split ?_ w_codes
  rw [w_t1]
set_option maxRecDepth 65536 in
theorem w_case : (Jvm.Cond.and given_1 narrow_1).before args0 about1 = true := by decide +kernel
theorem w_applies : (headSpec (Jvm.Cond.code x code maxLocals ret :: tables_1) room_1).applies x e0.platform about1 = true :=
  (Spec.applies_iff w_frames).mpr ⟨w_running, w_runnable, w_alone, w_named, w_hears, w_ripe, w_room, w_tables⟩
theorem atStart : AtStart classFile x code maxLocals ret World_1 tables_1 room_1 Calls_1 rest_1 Pre_1 launch0 p0 e0 about1 theMethod args0 below0 :=
  ⟨lists_1, trivial, launch0.admits_env _ _ _, launch0.least_env, fairChoices_fair.cas, fairChoices_fair.clock, w_frames, w_args, w_heap, w_applies, trivial, trivial, w_case⟩
end start1
theorem witness_1 : WitnessClaimed_1 := ⟨start1.p0, start1.e0, start1.about1, start1.theMethod, start1.args0, start1.below0, start1.atStart⟩
end Jvm.Pilot.@@N@@
