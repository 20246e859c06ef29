import JvmDerived
import JvmDerived.Pilot.@@N@@Statement
import JvmDerived.Pilot.@@N@@Code
set_option linter.unusedVariables false
set_option linter.unusedSimpArgs false
@@BLOCK:NumsL.lean.txt@@
@@BLOCK:Masks.lean.txt@@
namespace Jvm.RoadKit
open Sem ClassFile Op Lib Jvm.Stand Jvm.Free Jvm.LawKit
section New
variable {p : Program} {l : Launch} {e : Env} {R : Room} {s : State} {m : MethodId} {args : Array Value} {below : List Frame} {meth : Method} {c : Code} {T : State} {locs : List Loc} {cells slots : Nat}
theorem retI (X : Stand p l e R s m args below meth c T locs cells slots) (hx : p.tables.exec = Jvm.exec) {pc : Nat} {Ls : Array Slot} {z : Int32} {rest : List Value} (hret : meth.sig.returnType = some .int) (hd : decode c.code pc = .ok (.ireturn, 1)) {fs : List Frame}
    (hl : ∀ (f : JFrame) (acts : List Action), f.method = m → f.locked = none → f.entered = [] → (doReturn e (T.setTop f) acts (some (.int z))).1 = T.setFrames fs) : Steps p.tables e below (T.setTop (mkF m pc Ls (.int z :: rest))) (T.setFrames fs) := by
  have hm' : T.vm.method? m = some meth := X.method'
  have hn : narrow .int (.int z) = .int z := rfl
  show Steps p.tables e below (T.setTop { method := m, pc := pc, locals := Ls, stack := _ :: rest, locked := none }) _
  jvm_step X.here [X.here.top, hx, hd, hm', hret, hn]
  first | (intro acts; rw [hl _ acts rfl rfl rfl]) | rw [hl _ _ rfl rfl rfl]
  exact Steps.refl _
end New
end Jvm.RoadKit
namespace Jvm.Pilot.@@N@@
open Jvm Jvm.ClassFile Sem Op Lib Jvm.Free Jvm.Stand Jvm.LawKit Jvm.RoadKit Bundle Jvm.Pilot.@@N@@.Jvm.D
theorem own_lrem (x y : Int64) : x - (x / y) * y = x % y := Int64.toInt_inj.mp (by rw [Jvm.Kit.i64_rem, Int64.toInt_mod])
theorem lremM {p : Program} {l : Launch} {e : Env} {R : Room} {s : State} {m : MethodId} {args : Array Value} {below : List Frame} {meth : Method} {c : Code} {T : State} {locs : List Loc} {cells slots : Nat} {g : JFrame} {target : State} (X : Stand p l e R s m args below meth c T locs cells slots) (hx : p.tables.exec = Jvm.exec) (hg : g.method = m) {x y : Int64} {rest : List Value} (hd : decode c.code g.pc = .ok (.lrem, 1)) (hs : g.stack = .long y :: .long x :: rest) (hy : y ≠ 0)
    (hr : Steps p.tables e below (T.setTop { g with pc := g.pc + 1, stack := .long (x % y) :: rest }) target) : Steps p.tables e below (T.setTop g) target := by
  exact XS.lrem X.here hx hg hd hs hy (by rw [own_lrem]; exact hr)
theorem own_eqI {args : Array Value} {s : State} {t : Jvm.Term} {n : Int32} (h : (Jvm.Cond.eq t (.int n)).value args s none s [] = some true) : t.eval args s none [] s = some (.int n) := by
  obtain ⟨x, y, hx, hy, k1, k2⟩ := cmp_v (Or.inl h)
  obtain rfl : y = .int n := Option.some.inj (hy.symm.trans (Term.int_eval n))
  obtain ⟨z, rfl⟩ := k2
  have q : z = n := by simpa [Jvm.Cond.value, hx, hy] using h
  rw [hx, q]

theorem own_n0 : nar .boolean (0 : Int32) = 0 := by decide
theorem own_n1 : nar .boolean (1 : Int32) = 1 := by decide
theorem own_i (k v : Int32) (h : v = (k &&& (2147483647 : Int32)) % (11 : Int32)) (h0 : ¬ v = (0 : Int32)) (h1 : ¬ v = (1 : Int32)) (h2 : ¬ v = (2 : Int32)) (h3 : ¬ v = (3 : Int32)) (h4 : ¬ v = (4 : Int32)) (h5 : ¬ v = (5 : Int32)) (h6 : ¬ v = (6 : Int32)) (h7 : ¬ v = (7 : Int32)) (h8 : ¬ v = (8 : Int32)) (h9 : ¬ v = (9 : Int32)) (h10 : ¬ v = (10 : Int32)) : False := by
  have m := Jvm.Kit.i32_mask k 2147483647 (k := 31) (by decide) (by decide)
  have r := Jvm.Kit.i32_rem_nonneg (x := k &&& 2147483647) (y := 11) (by omega)
  rw [show (11 : Int32).toInt = 11 from by decide, ← h] at r
  have g0 : v.toInt ≠ 0 := fun q => h0 (Int32.toInt_inj.mp (q.trans (by decide)))
  have g1 : v.toInt ≠ 1 := fun q => h1 (Int32.toInt_inj.mp (q.trans (by decide)))
  have g2 : v.toInt ≠ 2 := fun q => h2 (Int32.toInt_inj.mp (q.trans (by decide)))
  have g3 : v.toInt ≠ 3 := fun q => h3 (Int32.toInt_inj.mp (q.trans (by decide)))
  have g4 : v.toInt ≠ 4 := fun q => h4 (Int32.toInt_inj.mp (q.trans (by decide)))
  have g5 : v.toInt ≠ 5 := fun q => h5 (Int32.toInt_inj.mp (q.trans (by decide)))
  have g6 : v.toInt ≠ 6 := fun q => h6 (Int32.toInt_inj.mp (q.trans (by decide)))
  have g7 : v.toInt ≠ 7 := fun q => h7 (Int32.toInt_inj.mp (q.trans (by decide)))
  have g8 : v.toInt ≠ 8 := fun q => h8 (Int32.toInt_inj.mp (q.trans (by decide)))
  have g9 : v.toInt ≠ 9 := fun q => h9 (Int32.toInt_inj.mp (q.trans (by decide)))
  have g10 : v.toInt ≠ 10 := fun q => h10 (Int32.toInt_inj.mp (q.trans (by decide)))
  omega


def World (Z : State) (h : Heap) (w_START_OBJECT w_END_OBJECT w_START_ARRAY w_END_ARRAY w_NAME w_STRING w_INTEGER w_DECIMAL w_TRUE w_FALSE w_NULL : Addr) : Prop :=
  Sta Z h "com/example/graticule/graticule/storage/JsonScanner$Token" "START_OBJECT" "Lcom/example/graticule/graticule/storage/JsonScanner$Token;" (.ref w_START_OBJECT) ∧
  Sta Z h "com/example/graticule/graticule/storage/JsonScanner$Token" "END_OBJECT" "Lcom/example/graticule/graticule/storage/JsonScanner$Token;" (.ref w_END_OBJECT) ∧
  Sta Z h "com/example/graticule/graticule/storage/JsonScanner$Token" "START_ARRAY" "Lcom/example/graticule/graticule/storage/JsonScanner$Token;" (.ref w_START_ARRAY) ∧
  Sta Z h "com/example/graticule/graticule/storage/JsonScanner$Token" "END_ARRAY" "Lcom/example/graticule/graticule/storage/JsonScanner$Token;" (.ref w_END_ARRAY) ∧
  Sta Z h "com/example/graticule/graticule/storage/JsonScanner$Token" "NAME" "Lcom/example/graticule/graticule/storage/JsonScanner$Token;" (.ref w_NAME) ∧
  Sta Z h "com/example/graticule/graticule/storage/JsonScanner$Token" "STRING" "Lcom/example/graticule/graticule/storage/JsonScanner$Token;" (.ref w_STRING) ∧
  Sta Z h "com/example/graticule/graticule/storage/JsonScanner$Token" "INTEGER" "Lcom/example/graticule/graticule/storage/JsonScanner$Token;" (.ref w_INTEGER) ∧
  Sta Z h "com/example/graticule/graticule/storage/JsonScanner$Token" "DECIMAL" "Lcom/example/graticule/graticule/storage/JsonScanner$Token;" (.ref w_DECIMAL) ∧
  Sta Z h "com/example/graticule/graticule/storage/JsonScanner$Token" "TRUE" "Lcom/example/graticule/graticule/storage/JsonScanner$Token;" (.ref w_TRUE) ∧
  Sta Z h "com/example/graticule/graticule/storage/JsonScanner$Token" "FALSE" "Lcom/example/graticule/graticule/storage/JsonScanner$Token;" (.ref w_FALSE) ∧
  Sta Z h "com/example/graticule/graticule/storage/JsonScanner$Token" "NULL" "Lcom/example/graticule/graticule/storage/JsonScanner$Token;" (.ref w_NULL) ∧
  Exa Z h w_START_OBJECT "com/example/graticule/graticule/storage/JsonScanner$Token" ∧
  Exa Z h w_END_OBJECT "com/example/graticule/graticule/storage/JsonScanner$Token" ∧
  Exa Z h w_START_ARRAY "com/example/graticule/graticule/storage/JsonScanner$Token" ∧
  Exa Z h w_END_ARRAY "com/example/graticule/graticule/storage/JsonScanner$Token" ∧
  Exa Z h w_NAME "com/example/graticule/graticule/storage/JsonScanner$Token" ∧
  Exa Z h w_STRING "com/example/graticule/graticule/storage/JsonScanner$Token" ∧
  Exa Z h w_INTEGER "com/example/graticule/graticule/storage/JsonScanner$Token" ∧
  Exa Z h w_DECIMAL "com/example/graticule/graticule/storage/JsonScanner$Token" ∧
  Exa Z h w_TRUE "com/example/graticule/graticule/storage/JsonScanner$Token" ∧
  Exa Z h w_FALSE "com/example/graticule/graticule/storage/JsonScanner$Token" ∧
  Exa Z h w_NULL "com/example/graticule/graticule/storage/JsonScanner$Token" ∧
  Fld Z h w_START_OBJECT "java/lang/Enum" "ordinal" "I" (.int (0 : Int32)) ∧
  Fld Z h w_END_OBJECT "java/lang/Enum" "ordinal" "I" (.int (1 : Int32)) ∧
  Fld Z h w_START_ARRAY "java/lang/Enum" "ordinal" "I" (.int (2 : Int32)) ∧
  Fld Z h w_END_ARRAY "java/lang/Enum" "ordinal" "I" (.int (3 : Int32)) ∧
  Fld Z h w_NAME "java/lang/Enum" "ordinal" "I" (.int (4 : Int32)) ∧
  Fld Z h w_STRING "java/lang/Enum" "ordinal" "I" (.int (5 : Int32)) ∧
  Fld Z h w_INTEGER "java/lang/Enum" "ordinal" "I" (.int (6 : Int32)) ∧
  Fld Z h w_DECIMAL "java/lang/Enum" "ordinal" "I" (.int (7 : Int32)) ∧
  Fld Z h w_TRUE "java/lang/Enum" "ordinal" "I" (.int (8 : Int32)) ∧
  Fld Z h w_FALSE "java/lang/Enum" "ordinal" "I" (.int (9 : Int32)) ∧
  Fld Z h w_NULL "java/lang/Enum" "ordinal" "I" (.int (10 : Int32))
theorem World.ext {Z : State} {h h' : Heap} {w_START_OBJECT w_END_OBJECT w_START_ARRAY w_END_ARRAY w_NAME w_STRING w_INTEGER w_DECIMAL w_TRUE w_FALSE w_NULL : Addr} (E : Ext h h') (W : World Z h w_START_OBJECT w_END_OBJECT w_START_ARRAY w_END_ARRAY w_NAME w_STRING w_INTEGER w_DECIMAL w_TRUE w_FALSE w_NULL) : World Z h' w_START_OBJECT w_END_OBJECT w_START_ARRAY w_END_ARRAY w_NAME w_STRING w_INTEGER w_DECIMAL w_TRUE w_FALSE w_NULL :=
  ⟨Sta.ext E W.1, Sta.ext E W.2.1, Sta.ext E W.2.2.1, Sta.ext E W.2.2.2.1, Sta.ext E W.2.2.2.2.1, Sta.ext E W.2.2.2.2.2.1, Sta.ext E W.2.2.2.2.2.2.1, Sta.ext E W.2.2.2.2.2.2.2.1, Sta.ext E W.2.2.2.2.2.2.2.2.1, Sta.ext E W.2.2.2.2.2.2.2.2.2.1, Sta.ext E W.2.2.2.2.2.2.2.2.2.2.1, Exa.ext E W.2.2.2.2.2.2.2.2.2.2.2.1, Exa.ext E W.2.2.2.2.2.2.2.2.2.2.2.2.1, Exa.ext E W.2.2.2.2.2.2.2.2.2.2.2.2.2.1, Exa.ext E W.2.2.2.2.2.2.2.2.2.2.2.2.2.2.1, Exa.ext E W.2.2.2.2.2.2.2.2.2.2.2.2.2.2.2.1, Exa.ext E W.2.2.2.2.2.2.2.2.2.2.2.2.2.2.2.2.1, Exa.ext E W.2.2.2.2.2.2.2.2.2.2.2.2.2.2.2.2.2.1, Exa.ext E W.2.2.2.2.2.2.2.2.2.2.2.2.2.2.2.2.2.2.1, Exa.ext E W.2.2.2.2.2.2.2.2.2.2.2.2.2.2.2.2.2.2.2.1, Exa.ext E W.2.2.2.2.2.2.2.2.2.2.2.2.2.2.2.2.2.2.2.2.1, Exa.ext E W.2.2.2.2.2.2.2.2.2.2.2.2.2.2.2.2.2.2.2.2.2.1, Fld.ext E W.2.2.2.2.2.2.2.2.2.2.2.2.2.2.2.2.2.2.2.2.2.2.1, Fld.ext E W.2.2.2.2.2.2.2.2.2.2.2.2.2.2.2.2.2.2.2.2.2.2.2.1, Fld.ext E W.2.2.2.2.2.2.2.2.2.2.2.2.2.2.2.2.2.2.2.2.2.2.2.2.1, Fld.ext E W.2.2.2.2.2.2.2.2.2.2.2.2.2.2.2.2.2.2.2.2.2.2.2.2.2.1, Fld.ext E W.2.2.2.2.2.2.2.2.2.2.2.2.2.2.2.2.2.2.2.2.2.2.2.2.2.2.1, Fld.ext E W.2.2.2.2.2.2.2.2.2.2.2.2.2.2.2.2.2.2.2.2.2.2.2.2.2.2.2.1, Fld.ext E W.2.2.2.2.2.2.2.2.2.2.2.2.2.2.2.2.2.2.2.2.2.2.2.2.2.2.2.2.1, Fld.ext E W.2.2.2.2.2.2.2.2.2.2.2.2.2.2.2.2.2.2.2.2.2.2.2.2.2.2.2.2.2.1, Fld.ext E W.2.2.2.2.2.2.2.2.2.2.2.2.2.2.2.2.2.2.2.2.2.2.2.2.2.2.2.2.2.2.1, Fld.ext E W.2.2.2.2.2.2.2.2.2.2.2.2.2.2.2.2.2.2.2.2.2.2.2.2.2.2.2.2.2.2.2.1, Fld.ext E W.2.2.2.2.2.2.2.2.2.2.2.2.2.2.2.2.2.2.2.2.2.2.2.2.2.2.2.2.2.2.2.2⟩
theorem d1_0 : decode prog_14_method_4_code 0 = .ok (.aload_n 0, 1) := by decide +kernel
theorem d1_1 : decode prog_14_method_4_code 1 = .ok (.getstatic 22, 3) := by decide +kernel
theorem d1_4 : decode prog_14_method_4_code 4 = .ok (.if_acmp .eq 10, 3) := by decide +kernel
theorem d1_7 : decode prog_14_method_4_code 7 = .ok (.aload_n 0, 1) := by decide +kernel
theorem d1_8 : decode prog_14_method_4_code 8 = .ok (.getstatic 25, 3) := by decide +kernel
theorem d1_11 : decode prog_14_method_4_code 11 = .ok (.if_acmp .ne 7, 3) := by decide +kernel
theorem d1_14 : decode prog_14_method_4_code 14 = .ok (.iconst 1, 1) := by decide +kernel
theorem d1_15 : decode prog_14_method_4_code 15 = .ok (.goto 4, 3) := by decide +kernel
theorem d1_18 : decode prog_14_method_4_code 18 = .ok (.iconst 0, 1) := by decide +kernel
theorem d1_19 : decode prog_14_method_4_code 19 = .ok (.ireturn, 1) := by decide +kernel
theorem pn_0 : plainName "com/example/graticule/graticule/storage/JsonScanner$Token" = true := by first | (simp [plainName, overriddenIn]; done) | decide +kernel
theorem ef_1 (m : MethodId) (x1_0 : Addr) : entryFrame m #[(.ref x1_0)] 1 = mkF m 0 #[.val (.ref x1_0)] [] := by first | (simp [entryFrame, mkF, argsToLocals, Value.category]; done) | rfl
def f1 (x1_0 : Addr) (w_START_OBJECT w_END_OBJECT w_START_ARRAY w_END_ARRAY w_NAME w_STRING w_INTEGER w_DECIMAL w_TRUE w_FALSE w_NULL : Addr) : Int32 := if x1_0 = w_INTEGER then (1 : Int32) else if x1_0 = w_DECIMAL then (1 : Int32) else (0 : Int32)
def Q1 (Z : State) (x1_0 : Addr) (w_START_OBJECT w_END_OBJECT w_START_ARRAY w_END_ARRAY w_NAME w_STRING w_INTEGER w_DECIMAL w_TRUE w_FALSE w_NULL : Addr) (h0 : Heap) (n0 : Nat) (v : Option Value) (h : Heap) (L : List Loc) : Prop := v = some (.int (f1 x1_0 w_START_OBJECT w_END_OBJECT w_START_ARRAY w_END_ARRAY w_NAME w_STRING w_INTEGER w_DECIMAL w_TRUE w_FALSE w_NULL)) ∧ Fr n0 L ∧ h = h0
set_option maxRecDepth 65536 in
set_option maxHeartbeats 40000000 in
theorem rm1 (l : Launch) (Z : State) (a0 : Array Value) (hw : ∀ d ∈ tables_1, d.before a0 Z = true) (ws : List Jvm.Cond) (x1_0 : Addr) (w_START_OBJECT w_END_OBJECT w_START_ARRAY w_END_ARRAY w_NAME w_STRING w_INTEGER w_DECIMAL w_TRUE w_FALSE w_NULL : Addr) (h0 : Heap) (n0 : Nat) (Z0 : n0 ≤ h0.size) (W : World Z h0 w_START_OBJECT w_END_OBJECT w_START_ARRAY w_END_ARRAY w_NAME w_STRING w_INTEGER w_DECIMAL w_TRUE w_FALSE w_NULL) :
    MetFree l (⟨"com/example/graticule/graticule/storage/JsonScanner$Token", "isNumber", "()Z"⟩ : MethodName) (head1 (Jvm.Cond.code (⟨"com/example/graticule/graticule/storage/JsonScanner$Token", "isNumber", "()Z"⟩ : MethodName) prog_14_method_4_code 1 (some .boolean) :: ws) ({ frames := 0, cells := 0, slots := 0, locals := 0 } : Room)) (fun a U => a = #[(.ref x1_0)] ∧ Z.Warmed39 U.vm ∧ U.heap = h0) (fun _ _ _ _ _ => True) (fun _ U o U' => ∃ v L, o = .returned v ∧ Q1 Z x1_0 w_START_OBJECT w_END_OBJECT w_START_ARRAY w_END_ARRAY w_NAME w_STRING w_INTEGER w_DECIMAL w_TRUE w_FALSE w_NULL h0 n0 v U'.heap L ∧ FrameEnd U o U' L ({ frames := 0, cells := 0, slots := 0, locals := 0 } : Room).cells ({ frames := 0, cells := 0, slots := 0, locals := 0 } : Room).slots) := by
  refine MetFree.of_bodySF (plainFor_of_name pn_0) hisR ?_
  intro p e s m args below meth c s₁ Bd hml0 hP hK
  obtain ⟨rfl, hZ, hh⟩ := hP
  have hx := Bd.exec
  have hby := Bd.bytes
  have hml : c.maxLocals = 1 := hml0
  have hown : s.vm.findClass "com/example/graticule/graticule/storage/JsonScanner$Token" = some m.cls := findClass_of_methodNamed Bd.named
  have hnm := (name_of_methodNamed Bd.named Bd.method).1
  have X0 : Stand p l e ({ frames := 0, cells := 0, slots := 0, locals := 0 } : Room) s m #[(.ref x1_0)] below meth c s₁ [] 0 0 := Stand.of_body Bd
  have e0 : s₁.heap = h0 := by rw [← hh, Bd.state]; rfl
  have N0 := Fr.nil n0
  have pre0 : ∀ t, Steps p.tables e below (s₁.setTop (mkF m 0 #[.val (.ref x1_0)] [])) t → Steps p.tables e below (s₁.setTop (entryFrame m #[(.ref x1_0)] 1)) t := fun t k => castTop (ef_1 m x1_0) k
  obtain ⟨T1, X1, e1, st1⟩ := getS2 X0 hx hZ hown (host := "") (Or.inl (hw _ (List.mem_of_getElem? (i := 33) rfl))) Via.refl e0 (W.2.2.2.2.2.2.1) (g := (mkF m 1 #[.val (.ref x1_0)] [(.ref x1_0)])) rfl (hb hby d1_1)
  have sg2 : ∀ t, Steps p.tables e below (T1.setTop (mkF m 4 #[.val (.ref x1_0)] [(.ref w_INTEGER), (.ref x1_0)])) t → Steps p.tables e below (s₁.setTop (mkF m 0 #[.val (.ref x1_0)] [])) t := fun t kt => by
    show Steps p.tables e below (s₁.setTop (mkF m 0 #[.val (.ref x1_0)] [])) _
    refine XS.aloadN X0.here hx rfl (hb hby d1_0) rfl rfl ?_
    show Steps p.tables e below (s₁.setTop (mkF m 1 #[.val (.ref x1_0)] [(.ref x1_0)])) _
    refine st1 _ ?_
    exact kt
  by_cases hc4_3 : x1_0 = w_INTEGER
  · obtain ⟨fs, hr, hrun, hended, hW, hsame⟩ := X1.leave (v := some (.int (1 : Int32))) (fun h => by rw [Bd.returns] at h; cases h)
    refine ⟨_, _, pre0 _ (sg2 _ ?_), hrun, hended, _, _, rfl, ?_, ⟨_, rfl⟩, hW, hsame.mono (by decide) (by decide)⟩
    · show Steps p.tables e below (T1.setTop (mkF m 4 #[.val (.ref x1_0)] [(.ref w_INTEGER), (.ref x1_0)])) _
      refine Jvm.RoadKit.acmp (g := (mkF m 4 #[.val (.ref x1_0)] [(.ref w_INTEGER), (.ref x1_0)])) X1 hx rfl rfl rfl (pc0 := 4) (pc' := 14) (same := true) rfl (hb hby d1_4) rfl (decide_eq_true (congrArg Value.ref hc4_3)) (by decide) (by decide) ?_
      show Steps p.tables e below (T1.setTop (mkF m 14 #[.val (.ref x1_0)] [])) _
      refine XS.iconst X1.here hx rfl (hb hby d1_14) ?_
      show Steps p.tables e below (T1.setTop (mkF m 15 #[.val (.ref x1_0)] [(.int (1 : Int32))])) _
      refine XS.goto X1.here hx rfl (pc0 := 15) (pc' := 19) rfl (hb hby d1_15) (by decide) (by decide) ?_
      show Steps p.tables e below (T1.setTop (mkF m 19 #[.val (.ref x1_0)] [(.int (1 : Int32))])) _
      exact retN X1 hx (t := .boolean) Bd.returns (by simp) (hb hby d1_19) hr
    · exact ⟨congrArg (fun z => some (Value.int z)) (show (1 : Int32) = f1 x1_0 w_START_OBJECT w_END_OBJECT w_START_ARRAY w_END_ARRAY w_NAME w_STRING w_INTEGER w_DECIMAL w_TRUE w_FALSE w_NULL from by unfold f1; rw [if_pos hc4_3]), N0, e1⟩
  · obtain ⟨T4, X4, e4, st4⟩ := getS2 X1 hx hZ hown (host := "") (Or.inl (hw _ (List.mem_of_getElem? (i := 34) rfl))) Via.refl e1 (W.2.2.2.2.2.2.2.1) (g := (mkF m 8 #[.val (.ref x1_0)] [(.ref x1_0)])) rfl (hb hby d1_8)
    have sg5 : ∀ t, Steps p.tables e below (T4.setTop (mkF m 11 #[.val (.ref x1_0)] [(.ref w_DECIMAL), (.ref x1_0)])) t → Steps p.tables e below (T1.setTop (mkF m 4 #[.val (.ref x1_0)] [(.ref w_INTEGER), (.ref x1_0)])) t := fun t kt => by
      show Steps p.tables e below (T1.setTop (mkF m 4 #[.val (.ref x1_0)] [(.ref w_INTEGER), (.ref x1_0)])) _
      refine Jvm.RoadKit.acmp (g := (mkF m 4 #[.val (.ref x1_0)] [(.ref w_INTEGER), (.ref x1_0)])) X1 hx rfl rfl rfl (pc0 := 4) (pc' := 7) (same := false) rfl (hb hby d1_4) rfl (decide_eq_false fun q => hc4_3 (Value.ref.inj q)) (by decide) (by decide) ?_
      show Steps p.tables e below (T1.setTop (mkF m 7 #[.val (.ref x1_0)] [])) _
      refine XS.aloadN X1.here hx rfl (hb hby d1_7) rfl rfl ?_
      show Steps p.tables e below (T1.setTop (mkF m 8 #[.val (.ref x1_0)] [(.ref x1_0)])) _
      refine st4 _ ?_
      exact kt
    by_cases hc11_6 : x1_0 = w_DECIMAL
    · obtain ⟨fs, hr, hrun, hended, hW, hsame⟩ := X4.leave (v := some (.int (1 : Int32))) (fun h => by rw [Bd.returns] at h; cases h)
      refine ⟨_, _, pre0 _ (sg2 _ (sg5 _ ?_)), hrun, hended, _, _, rfl, ?_, ⟨_, rfl⟩, hW, hsame.mono (by decide) (by decide)⟩
      · show Steps p.tables e below (T4.setTop (mkF m 11 #[.val (.ref x1_0)] [(.ref w_DECIMAL), (.ref x1_0)])) _
        refine Jvm.RoadKit.acmp (g := (mkF m 11 #[.val (.ref x1_0)] [(.ref w_DECIMAL), (.ref x1_0)])) X4 hx rfl rfl rfl (pc0 := 11) (pc' := 14) (same := true) rfl (hb hby d1_11) rfl (decide_eq_true (congrArg Value.ref hc11_6)) (by decide) (by decide) ?_
        show Steps p.tables e below (T4.setTop (mkF m 14 #[.val (.ref x1_0)] [])) _
        refine XS.iconst X4.here hx rfl (hb hby d1_14) ?_
        show Steps p.tables e below (T4.setTop (mkF m 15 #[.val (.ref x1_0)] [(.int (1 : Int32))])) _
        refine XS.goto X4.here hx rfl (pc0 := 15) (pc' := 19) rfl (hb hby d1_15) (by decide) (by decide) ?_
        show Steps p.tables e below (T4.setTop (mkF m 19 #[.val (.ref x1_0)] [(.int (1 : Int32))])) _
        exact retN X4 hx (t := .boolean) Bd.returns (by simp) (hb hby d1_19) hr
      · exact ⟨congrArg (fun z => some (Value.int z)) (show (1 : Int32) = f1 x1_0 w_START_OBJECT w_END_OBJECT w_START_ARRAY w_END_ARRAY w_NAME w_STRING w_INTEGER w_DECIMAL w_TRUE w_FALSE w_NULL from by unfold f1; rw [if_neg hc4_3, if_pos hc11_6]), N0, e4⟩
    · obtain ⟨fs, hr, hrun, hended, hW, hsame⟩ := X4.leave (v := some (.int (0 : Int32))) (fun h => by rw [Bd.returns] at h; cases h)
      refine ⟨_, _, pre0 _ (sg2 _ (sg5 _ ?_)), hrun, hended, _, _, rfl, ?_, ⟨_, rfl⟩, hW, hsame.mono (by decide) (by decide)⟩
      · show Steps p.tables e below (T4.setTop (mkF m 11 #[.val (.ref x1_0)] [(.ref w_DECIMAL), (.ref x1_0)])) _
        refine Jvm.RoadKit.acmp (g := (mkF m 11 #[.val (.ref x1_0)] [(.ref w_DECIMAL), (.ref x1_0)])) X4 hx rfl rfl rfl (pc0 := 11) (pc' := 18) (same := false) rfl (hb hby d1_11) rfl (decide_eq_false fun q => hc11_6 (Value.ref.inj q)) (by decide) (by decide) ?_
        show Steps p.tables e below (T4.setTop (mkF m 18 #[.val (.ref x1_0)] [])) _
        refine XS.iconst X4.here hx rfl (hb hby d1_18) ?_
        show Steps p.tables e below (T4.setTop (mkF m 19 #[.val (.ref x1_0)] [(.int (0 : Int32))])) _
        exact retN X4 hx (t := .boolean) Bd.returns (by simp) (hb hby d1_19) hr
      · exact ⟨congrArg (fun z => some (Value.int z)) (show (0 : Int32) = f1 x1_0 w_START_OBJECT w_END_OBJECT w_START_ARRAY w_END_ARRAY w_NAME w_STRING w_INTEGER w_DECIMAL w_TRUE w_FALSE w_NULL from by unfold f1; rw [if_neg hc4_3, if_neg hc11_6]), N0, e4⟩
theorem pd_0 : parseMethodDescriptor "()Z" = some ⟨[], some .boolean⟩ := by decide +kernel
theorem pn_1 : plainName "com/example/graticule/graticule/storage/TokenIsNumberPinLaw" = true := by first | (simp [plainName, overriddenIn]; done) | decide +kernel
theorem ef_0 (m : MethodId) (x0_0 : Int32) : entryFrame m #[(.int x0_0)] maxLocals = mkF m 0 #[.val (.int x0_0), .unset, .unset, .unset] [] := by first | (simp [entryFrame, mkF, argsToLocals, Value.category, maxLocals]; done) | rfl
def Q0 (Z : State) (x0_0 : Int32) (w_START_OBJECT w_END_OBJECT w_START_ARRAY w_END_ARRAY w_NAME w_STRING w_INTEGER w_DECIMAL w_TRUE w_FALSE w_NULL : Addr) (h0 : Heap) (n0 : Nat) (v : Option Value) (h : Heap) (L : List Loc) : Prop := v = some (.int 1) ∧ Fr n0 L
set_option maxRecDepth 65536 in
set_option maxHeartbeats 40000000 in
theorem rm0 (l : Launch) (Z : State) (a0 : Array Value) (hw : ∀ d ∈ tables_1, d.before a0 Z = true) (ws : List Jvm.Cond) (x0_0 : Int32) (w_START_OBJECT w_END_OBJECT w_START_ARRAY w_END_ARRAY w_NAME w_STRING w_INTEGER w_DECIMAL w_TRUE w_FALSE w_NULL : Addr) (h0 : Heap) (n0 : Nat) (Z0 : n0 ≤ h0.size) (W : World Z Z.heap w_START_OBJECT w_END_OBJECT w_START_ARRAY w_END_ARRAY w_NAME w_STRING w_INTEGER w_DECIMAL w_TRUE w_FALSE w_NULL) (O0 : Old Z n0 h0) :
    MetFree l x (head1 (Jvm.Cond.code x code maxLocals ret :: ws) room_1) (fun a U => a = #[(.int x0_0)] ∧ Z.Warmed39 U.vm ∧ U.heap = h0) (fun _ _ _ _ _ => True) (fun _ U o U' => ∃ v L, o = .returned v ∧ Q0 Z x0_0 w_START_OBJECT w_END_OBJECT w_START_ARRAY w_END_ARRAY w_NAME w_STRING w_INTEGER w_DECIMAL w_TRUE w_FALSE w_NULL h0 n0 v U'.heap L ∧ FrameEnd U o U' L room_1.cells room_1.slots) := by
  refine MetFree.of_bodySF (plainFor_of_name pn_1) hisR ?_
  intro p e s m args below meth c s₁ Bd hml0 hP hK
  obtain ⟨rfl, hZ, hh⟩ := hP
  have hx := Bd.exec
  have hby := Bd.bytes
  have hml : c.maxLocals = 4 := hml0
  have hown : s.vm.findClass "com/example/graticule/graticule/storage/TokenIsNumberPinLaw" = some m.cls := findClass_of_methodNamed Bd.named
  have hnm := (name_of_methodNamed Bd.named Bd.method).1
  have X0 : Stand p l e room_1 s m #[(.int x0_0)] below meth c s₁ [] 0 0 := Stand.of_body Bd
  have e0 : s₁.heap = h0 := by rw [← hh, Bd.state]; rfl
  have N0 := Fr.nil n0
  have pre0 : ∀ t, Steps p.tables e below (s₁.setTop (mkF m 0 #[.val (.int x0_0), .unset, .unset, .unset] [])) t → Steps p.tables e below (s₁.setTop (entryFrame m #[(.int x0_0)] maxLocals)) t := fun t k => castTop (ef_0 m x0_0) k
  obtain ⟨T1, h1, k1, X1, e1, E1, A1, O1, st1⟩ := newR X0 hx hZ hown (hw _ (List.mem_of_getElem? (i := 0) rfl)) (hw _ (List.mem_of_getElem? (i := 1) rfl)) e0 (g := (mkF m 2 #[.val (.int x0_0), .unset, .unset, .unset] [(.int (11 : Int32))])) rfl (hb hby at_2) rfl (by decide) (cap := 11) (by decide) (by decide) (by decide) (by decide)
  obtain ⟨b1, g1⟩ : ∃ z, z = h0.size := ⟨_, rfl⟩
  rw [← g1] at A1 st1
  have g_b1 : n0 ≤ b1 := Nat.le_trans Z0 (Nat.le_of_eq g1.symm)
  have Zs1 : n0 ≤ h1.size := Nat.le_trans Z0 E1.1
  have Ol1 : Old Z n0 h1 := (O0).ext E1
  have V1 : Arv Z h1 b1 k1 (.object "com/example/graticule/graticule/storage/JsonScanner$Token") (11 : Int32) [.null, .null, .null, .null, .null, .null, .null, .null, .null, .null, .null] .null := (Arv.new A1 (by decide)).pad (pad_rep [] .null 11)
  obtain ⟨T2, X2, e2, st2⟩ := getS2 X1 hx hZ hown (host := "") (Or.inl (hw _ (List.mem_of_getElem? (i := 2) rfl))) Via.refl e1 ((World.ext Ol1.2 W).1) (g := (mkF m 7 #[.val (.int x0_0), .unset, .unset, .unset] [(.int (0 : Int32)), (.ref b1), (.ref b1)])) rfl (hb hby at_7)
  obtain ⟨cl3, Ar3, qa3, Sa3, Na3, Ha3, Ga3⟩ := V1
  have hin3 : ¬ ((0 : Int32) < 0 ∨ cl3.slots.size ≤ ((0 : Int32)).toNatClampNeg) := inb_of Sa3 ⟨by decide, by decide⟩
  obtain ⟨T4, h4, X4, e4, W4, st4⟩ := stR X2 hx hZ e2 Ar3 (j := (0 : Int32)) hin3 rfl (Sto.ofV Ar3 qa3 O1 (Ins.self ((World.ext Ol1.2 W).2.2.2.2.2.2.2.2.2.2.2.1))) (g := (mkF m 10 #[.val (.int x0_0), .unset, .unset, .unset] [(.ref w_START_OBJECT), (.int (0 : Int32)), (.ref b1), (.ref b1)])) rfl rfl (hb hby at_10)
  have V4 : Arv Z h4 b1 k1 (.object "com/example/graticule/graticule/storage/JsonScanner$Token") (11 : Int32) [(.ref w_START_OBJECT), .null, .null, .null, .null, .null, .null, .null, .null, .null, .null] .null := Arv.set Ar3 qa3 Sa3 Na3 Ha3 Ga3 rfl W4 0 rfl (Nat.le_of_ble_eq_true rfl)
  have N4 := Fr.snoc X4 N0 g_b1
  have Zs4 : n0 ≤ h4.size := Nat.le_trans Zs1 (Keep.of_wr W4).1
  have Ol4 : Old Z n0 h4 := (Ol1).wr W4 g_b1
  obtain ⟨T5, X5, e5, st5⟩ := getS2 X4 hx hZ hown (host := "") (Or.inl (hw _ (List.mem_of_getElem? (i := 6) rfl))) Via.refl e4 ((World.ext Ol4.2 W).2.1) (g := (mkF m 13 #[.val (.int x0_0), .unset, .unset, .unset] [(.int (1 : Int32)), (.ref b1), (.ref b1)])) rfl (hb hby at_13)
  obtain ⟨cl6, Ar6, qa6, Sa6, Na6, Ha6, Ga6⟩ := V4
  have hin6 : ¬ ((1 : Int32) < 0 ∨ cl6.slots.size ≤ ((1 : Int32)).toNatClampNeg) := inb_of Sa6 ⟨by decide, by decide⟩
  obtain ⟨T7, h7, X7, e7, W7, st7⟩ := stR X5 hx hZ e5 Ar6 (j := (1 : Int32)) hin6 rfl (Sto.ofV Ar6 qa6 O1 (Ins.self ((World.ext Ol4.2 W).2.2.2.2.2.2.2.2.2.2.2.2.1))) (g := (mkF m 16 #[.val (.int x0_0), .unset, .unset, .unset] [(.ref w_END_OBJECT), (.int (1 : Int32)), (.ref b1), (.ref b1)])) rfl rfl (hb hby at_16)
  have V7 : Arv Z h7 b1 k1 (.object "com/example/graticule/graticule/storage/JsonScanner$Token") (11 : Int32) [(.ref w_START_OBJECT), (.ref w_END_OBJECT), .null, .null, .null, .null, .null, .null, .null, .null, .null] .null := Arv.set Ar6 qa6 Sa6 Na6 Ha6 Ga6 rfl W7 1 rfl (Nat.le_of_ble_eq_true rfl)
  have N7 := Fr.snoc X7 N4 g_b1
  have Zs7 : n0 ≤ h7.size := Nat.le_trans Zs4 (Keep.of_wr W7).1
  have Ol7 : Old Z n0 h7 := (Ol4).wr W7 g_b1
  obtain ⟨T8, X8, e8, st8⟩ := getS2 X7 hx hZ hown (host := "") (Or.inl (hw _ (List.mem_of_getElem? (i := 8) rfl))) Via.refl e7 ((World.ext Ol7.2 W).2.2.1) (g := (mkF m 19 #[.val (.int x0_0), .unset, .unset, .unset] [(.int (2 : Int32)), (.ref b1), (.ref b1)])) rfl (hb hby at_19)
  obtain ⟨cl9, Ar9, qa9, Sa9, Na9, Ha9, Ga9⟩ := V7
  have hin9 : ¬ ((2 : Int32) < 0 ∨ cl9.slots.size ≤ ((2 : Int32)).toNatClampNeg) := inb_of Sa9 ⟨by decide, by decide⟩
  obtain ⟨T10, h10, X10, e10, W10, st10⟩ := stR X8 hx hZ e8 Ar9 (j := (2 : Int32)) hin9 rfl (Sto.ofV Ar9 qa9 O1 (Ins.self ((World.ext Ol7.2 W).2.2.2.2.2.2.2.2.2.2.2.2.2.1))) (g := (mkF m 22 #[.val (.int x0_0), .unset, .unset, .unset] [(.ref w_START_ARRAY), (.int (2 : Int32)), (.ref b1), (.ref b1)])) rfl rfl (hb hby at_22)
  have V10 : Arv Z h10 b1 k1 (.object "com/example/graticule/graticule/storage/JsonScanner$Token") (11 : Int32) [(.ref w_START_OBJECT), (.ref w_END_OBJECT), (.ref w_START_ARRAY), .null, .null, .null, .null, .null, .null, .null, .null] .null := Arv.set Ar9 qa9 Sa9 Na9 Ha9 Ga9 rfl W10 2 rfl (Nat.le_of_ble_eq_true rfl)
  have N10 := Fr.snoc X10 N7 g_b1
  have Zs10 : n0 ≤ h10.size := Nat.le_trans Zs7 (Keep.of_wr W10).1
  have Ol10 : Old Z n0 h10 := (Ol7).wr W10 g_b1
  obtain ⟨T11, X11, e11, st11⟩ := getS2 X10 hx hZ hown (host := "") (Or.inl (hw _ (List.mem_of_getElem? (i := 10) rfl))) Via.refl e10 ((World.ext Ol10.2 W).2.2.2.1) (g := (mkF m 25 #[.val (.int x0_0), .unset, .unset, .unset] [(.int (3 : Int32)), (.ref b1), (.ref b1)])) rfl (hb hby at_25)
  obtain ⟨cl12, Ar12, qa12, Sa12, Na12, Ha12, Ga12⟩ := V10
  have hin12 : ¬ ((3 : Int32) < 0 ∨ cl12.slots.size ≤ ((3 : Int32)).toNatClampNeg) := inb_of Sa12 ⟨by decide, by decide⟩
  obtain ⟨T13, h13, X13, e13, W13, st13⟩ := stR X11 hx hZ e11 Ar12 (j := (3 : Int32)) hin12 rfl (Sto.ofV Ar12 qa12 O1 (Ins.self ((World.ext Ol10.2 W).2.2.2.2.2.2.2.2.2.2.2.2.2.2.1))) (g := (mkF m 28 #[.val (.int x0_0), .unset, .unset, .unset] [(.ref w_END_ARRAY), (.int (3 : Int32)), (.ref b1), (.ref b1)])) rfl rfl (hb hby at_28)
  have V13 : Arv Z h13 b1 k1 (.object "com/example/graticule/graticule/storage/JsonScanner$Token") (11 : Int32) [(.ref w_START_OBJECT), (.ref w_END_OBJECT), (.ref w_START_ARRAY), (.ref w_END_ARRAY), .null, .null, .null, .null, .null, .null, .null] .null := Arv.set Ar12 qa12 Sa12 Na12 Ha12 Ga12 rfl W13 3 rfl (Nat.le_of_ble_eq_true rfl)
  have N13 := Fr.snoc X13 N10 g_b1
  have Zs13 : n0 ≤ h13.size := Nat.le_trans Zs10 (Keep.of_wr W13).1
  have Ol13 : Old Z n0 h13 := (Ol10).wr W13 g_b1
  obtain ⟨T14, X14, e14, st14⟩ := getS2 X13 hx hZ hown (host := "") (Or.inl (hw _ (List.mem_of_getElem? (i := 12) rfl))) Via.refl e13 ((World.ext Ol13.2 W).2.2.2.2.1) (g := (mkF m 31 #[.val (.int x0_0), .unset, .unset, .unset] [(.int (4 : Int32)), (.ref b1), (.ref b1)])) rfl (hb hby at_31)
  obtain ⟨cl15, Ar15, qa15, Sa15, Na15, Ha15, Ga15⟩ := V13
  have hin15 : ¬ ((4 : Int32) < 0 ∨ cl15.slots.size ≤ ((4 : Int32)).toNatClampNeg) := inb_of Sa15 ⟨by decide, by decide⟩
  obtain ⟨T16, h16, X16, e16, W16, st16⟩ := stR X14 hx hZ e14 Ar15 (j := (4 : Int32)) hin15 rfl (Sto.ofV Ar15 qa15 O1 (Ins.self ((World.ext Ol13.2 W).2.2.2.2.2.2.2.2.2.2.2.2.2.2.2.1))) (g := (mkF m 34 #[.val (.int x0_0), .unset, .unset, .unset] [(.ref w_NAME), (.int (4 : Int32)), (.ref b1), (.ref b1)])) rfl rfl (hb hby at_34)
  have V16 : Arv Z h16 b1 k1 (.object "com/example/graticule/graticule/storage/JsonScanner$Token") (11 : Int32) [(.ref w_START_OBJECT), (.ref w_END_OBJECT), (.ref w_START_ARRAY), (.ref w_END_ARRAY), (.ref w_NAME), .null, .null, .null, .null, .null, .null] .null := Arv.set Ar15 qa15 Sa15 Na15 Ha15 Ga15 rfl W16 4 rfl (Nat.le_of_ble_eq_true rfl)
  have N16 := Fr.snoc X16 N13 g_b1
  have Zs16 : n0 ≤ h16.size := Nat.le_trans Zs13 (Keep.of_wr W16).1
  have Ol16 : Old Z n0 h16 := (Ol13).wr W16 g_b1
  obtain ⟨T17, X17, e17, st17⟩ := getS2 X16 hx hZ hown (host := "") (Or.inl (hw _ (List.mem_of_getElem? (i := 14) rfl))) Via.refl e16 ((World.ext Ol16.2 W).2.2.2.2.2.1) (g := (mkF m 37 #[.val (.int x0_0), .unset, .unset, .unset] [(.int (5 : Int32)), (.ref b1), (.ref b1)])) rfl (hb hby at_37)
  obtain ⟨cl18, Ar18, qa18, Sa18, Na18, Ha18, Ga18⟩ := V16
  have hin18 : ¬ ((5 : Int32) < 0 ∨ cl18.slots.size ≤ ((5 : Int32)).toNatClampNeg) := inb_of Sa18 ⟨by decide, by decide⟩
  obtain ⟨T19, h19, X19, e19, W19, st19⟩ := stR X17 hx hZ e17 Ar18 (j := (5 : Int32)) hin18 rfl (Sto.ofV Ar18 qa18 O1 (Ins.self ((World.ext Ol16.2 W).2.2.2.2.2.2.2.2.2.2.2.2.2.2.2.2.1))) (g := (mkF m 40 #[.val (.int x0_0), .unset, .unset, .unset] [(.ref w_STRING), (.int (5 : Int32)), (.ref b1), (.ref b1)])) rfl rfl (hb hby at_40)
  have V19 : Arv Z h19 b1 k1 (.object "com/example/graticule/graticule/storage/JsonScanner$Token") (11 : Int32) [(.ref w_START_OBJECT), (.ref w_END_OBJECT), (.ref w_START_ARRAY), (.ref w_END_ARRAY), (.ref w_NAME), (.ref w_STRING), .null, .null, .null, .null, .null] .null := Arv.set Ar18 qa18 Sa18 Na18 Ha18 Ga18 rfl W19 5 rfl (Nat.le_of_ble_eq_true rfl)
  have N19 := Fr.snoc X19 N16 g_b1
  have Zs19 : n0 ≤ h19.size := Nat.le_trans Zs16 (Keep.of_wr W19).1
  have Ol19 : Old Z n0 h19 := (Ol16).wr W19 g_b1
  obtain ⟨T20, X20, e20, st20⟩ := getS2 X19 hx hZ hown (host := "") (Or.inl (hw _ (List.mem_of_getElem? (i := 16) rfl))) Via.refl e19 ((World.ext Ol19.2 W).2.2.2.2.2.2.1) (g := (mkF m 44 #[.val (.int x0_0), .unset, .unset, .unset] [(.int (6 : Int32)), (.ref b1), (.ref b1)])) rfl (hb hby at_44)
  obtain ⟨cl21, Ar21, qa21, Sa21, Na21, Ha21, Ga21⟩ := V19
  have hin21 : ¬ ((6 : Int32) < 0 ∨ cl21.slots.size ≤ ((6 : Int32)).toNatClampNeg) := inb_of Sa21 ⟨by decide, by decide⟩
  obtain ⟨T22, h22, X22, e22, W22, st22⟩ := stR X20 hx hZ e20 Ar21 (j := (6 : Int32)) hin21 rfl (Sto.ofV Ar21 qa21 O1 (Ins.self ((World.ext Ol19.2 W).2.2.2.2.2.2.2.2.2.2.2.2.2.2.2.2.2.1))) (g := (mkF m 47 #[.val (.int x0_0), .unset, .unset, .unset] [(.ref w_INTEGER), (.int (6 : Int32)), (.ref b1), (.ref b1)])) rfl rfl (hb hby at_47)
  have V22 : Arv Z h22 b1 k1 (.object "com/example/graticule/graticule/storage/JsonScanner$Token") (11 : Int32) [(.ref w_START_OBJECT), (.ref w_END_OBJECT), (.ref w_START_ARRAY), (.ref w_END_ARRAY), (.ref w_NAME), (.ref w_STRING), (.ref w_INTEGER), .null, .null, .null, .null] .null := Arv.set Ar21 qa21 Sa21 Na21 Ha21 Ga21 rfl W22 6 rfl (Nat.le_of_ble_eq_true rfl)
  have N22 := Fr.snoc X22 N19 g_b1
  have Zs22 : n0 ≤ h22.size := Nat.le_trans Zs19 (Keep.of_wr W22).1
  have Ol22 : Old Z n0 h22 := (Ol19).wr W22 g_b1
  obtain ⟨T23, X23, e23, st23⟩ := getS2 X22 hx hZ hown (host := "") (Or.inl (hw _ (List.mem_of_getElem? (i := 18) rfl))) Via.refl e22 ((World.ext Ol22.2 W).2.2.2.2.2.2.2.1) (g := (mkF m 51 #[.val (.int x0_0), .unset, .unset, .unset] [(.int (7 : Int32)), (.ref b1), (.ref b1)])) rfl (hb hby at_51)
  obtain ⟨cl24, Ar24, qa24, Sa24, Na24, Ha24, Ga24⟩ := V22
  have hin24 : ¬ ((7 : Int32) < 0 ∨ cl24.slots.size ≤ ((7 : Int32)).toNatClampNeg) := inb_of Sa24 ⟨by decide, by decide⟩
  obtain ⟨T25, h25, X25, e25, W25, st25⟩ := stR X23 hx hZ e23 Ar24 (j := (7 : Int32)) hin24 rfl (Sto.ofV Ar24 qa24 O1 (Ins.self ((World.ext Ol22.2 W).2.2.2.2.2.2.2.2.2.2.2.2.2.2.2.2.2.2.1))) (g := (mkF m 54 #[.val (.int x0_0), .unset, .unset, .unset] [(.ref w_DECIMAL), (.int (7 : Int32)), (.ref b1), (.ref b1)])) rfl rfl (hb hby at_54)
  have V25 : Arv Z h25 b1 k1 (.object "com/example/graticule/graticule/storage/JsonScanner$Token") (11 : Int32) [(.ref w_START_OBJECT), (.ref w_END_OBJECT), (.ref w_START_ARRAY), (.ref w_END_ARRAY), (.ref w_NAME), (.ref w_STRING), (.ref w_INTEGER), (.ref w_DECIMAL), .null, .null, .null] .null := Arv.set Ar24 qa24 Sa24 Na24 Ha24 Ga24 rfl W25 7 rfl (Nat.le_of_ble_eq_true rfl)
  have N25 := Fr.snoc X25 N22 g_b1
  have Zs25 : n0 ≤ h25.size := Nat.le_trans Zs22 (Keep.of_wr W25).1
  have Ol25 : Old Z n0 h25 := (Ol22).wr W25 g_b1
  obtain ⟨T26, X26, e26, st26⟩ := getS2 X25 hx hZ hown (host := "") (Or.inl (hw _ (List.mem_of_getElem? (i := 20) rfl))) Via.refl e25 ((World.ext Ol25.2 W).2.2.2.2.2.2.2.2.1) (g := (mkF m 58 #[.val (.int x0_0), .unset, .unset, .unset] [(.int (8 : Int32)), (.ref b1), (.ref b1)])) rfl (hb hby at_58)
  obtain ⟨cl27, Ar27, qa27, Sa27, Na27, Ha27, Ga27⟩ := V25
  have hin27 : ¬ ((8 : Int32) < 0 ∨ cl27.slots.size ≤ ((8 : Int32)).toNatClampNeg) := inb_of Sa27 ⟨by decide, by decide⟩
  obtain ⟨T28, h28, X28, e28, W28, st28⟩ := stR X26 hx hZ e26 Ar27 (j := (8 : Int32)) hin27 rfl (Sto.ofV Ar27 qa27 O1 (Ins.self ((World.ext Ol25.2 W).2.2.2.2.2.2.2.2.2.2.2.2.2.2.2.2.2.2.2.1))) (g := (mkF m 61 #[.val (.int x0_0), .unset, .unset, .unset] [(.ref w_TRUE), (.int (8 : Int32)), (.ref b1), (.ref b1)])) rfl rfl (hb hby at_61)
  have V28 : Arv Z h28 b1 k1 (.object "com/example/graticule/graticule/storage/JsonScanner$Token") (11 : Int32) [(.ref w_START_OBJECT), (.ref w_END_OBJECT), (.ref w_START_ARRAY), (.ref w_END_ARRAY), (.ref w_NAME), (.ref w_STRING), (.ref w_INTEGER), (.ref w_DECIMAL), (.ref w_TRUE), .null, .null] .null := Arv.set Ar27 qa27 Sa27 Na27 Ha27 Ga27 rfl W28 8 rfl (Nat.le_of_ble_eq_true rfl)
  have N28 := Fr.snoc X28 N25 g_b1
  have Zs28 : n0 ≤ h28.size := Nat.le_trans Zs25 (Keep.of_wr W28).1
  have Ol28 : Old Z n0 h28 := (Ol25).wr W28 g_b1
  obtain ⟨T29, X29, e29, st29⟩ := getS2 X28 hx hZ hown (host := "") (Or.inl (hw _ (List.mem_of_getElem? (i := 22) rfl))) Via.refl e28 ((World.ext Ol28.2 W).2.2.2.2.2.2.2.2.2.1) (g := (mkF m 65 #[.val (.int x0_0), .unset, .unset, .unset] [(.int (9 : Int32)), (.ref b1), (.ref b1)])) rfl (hb hby at_65)
  obtain ⟨cl30, Ar30, qa30, Sa30, Na30, Ha30, Ga30⟩ := V28
  have hin30 : ¬ ((9 : Int32) < 0 ∨ cl30.slots.size ≤ ((9 : Int32)).toNatClampNeg) := inb_of Sa30 ⟨by decide, by decide⟩
  obtain ⟨T31, h31, X31, e31, W31, st31⟩ := stR X29 hx hZ e29 Ar30 (j := (9 : Int32)) hin30 rfl (Sto.ofV Ar30 qa30 O1 (Ins.self ((World.ext Ol28.2 W).2.2.2.2.2.2.2.2.2.2.2.2.2.2.2.2.2.2.2.2.1))) (g := (mkF m 68 #[.val (.int x0_0), .unset, .unset, .unset] [(.ref w_FALSE), (.int (9 : Int32)), (.ref b1), (.ref b1)])) rfl rfl (hb hby at_68)
  have V31 : Arv Z h31 b1 k1 (.object "com/example/graticule/graticule/storage/JsonScanner$Token") (11 : Int32) [(.ref w_START_OBJECT), (.ref w_END_OBJECT), (.ref w_START_ARRAY), (.ref w_END_ARRAY), (.ref w_NAME), (.ref w_STRING), (.ref w_INTEGER), (.ref w_DECIMAL), (.ref w_TRUE), (.ref w_FALSE), .null] .null := Arv.set Ar30 qa30 Sa30 Na30 Ha30 Ga30 rfl W31 9 rfl (Nat.le_of_ble_eq_true rfl)
  have N31 := Fr.snoc X31 N28 g_b1
  have Zs31 : n0 ≤ h31.size := Nat.le_trans Zs28 (Keep.of_wr W31).1
  have Ol31 : Old Z n0 h31 := (Ol28).wr W31 g_b1
  obtain ⟨T32, X32, e32, st32⟩ := getS2 X31 hx hZ hown (host := "") (Or.inl (hw _ (List.mem_of_getElem? (i := 24) rfl))) Via.refl e31 ((World.ext Ol31.2 W).2.2.2.2.2.2.2.2.2.2.1) (g := (mkF m 72 #[.val (.int x0_0), .unset, .unset, .unset] [(.int (10 : Int32)), (.ref b1), (.ref b1)])) rfl (hb hby at_72)
  obtain ⟨cl33, Ar33, qa33, Sa33, Na33, Ha33, Ga33⟩ := V31
  have hin33 : ¬ ((10 : Int32) < 0 ∨ cl33.slots.size ≤ ((10 : Int32)).toNatClampNeg) := inb_of Sa33 ⟨by decide, by decide⟩
  obtain ⟨T34, h34, X34, e34, W34, st34⟩ := stR X32 hx hZ e32 Ar33 (j := (10 : Int32)) hin33 rfl (Sto.ofV Ar33 qa33 O1 (Ins.self ((World.ext Ol31.2 W).2.2.2.2.2.2.2.2.2.2.2.2.2.2.2.2.2.2.2.2.2.1))) (g := (mkF m 75 #[.val (.int x0_0), .unset, .unset, .unset] [(.ref w_NULL), (.int (10 : Int32)), (.ref b1), (.ref b1)])) rfl rfl (hb hby at_75)
  have V34 : Arv Z h34 b1 k1 (.object "com/example/graticule/graticule/storage/JsonScanner$Token") (11 : Int32) [(.ref w_START_OBJECT), (.ref w_END_OBJECT), (.ref w_START_ARRAY), (.ref w_END_ARRAY), (.ref w_NAME), (.ref w_STRING), (.ref w_INTEGER), (.ref w_DECIMAL), (.ref w_TRUE), (.ref w_FALSE), (.ref w_NULL)] .null := Arv.set Ar33 qa33 Sa33 Na33 Ha33 Ga33 rfl W34 10 rfl (Nat.le_of_ble_eq_true rfl)
  have N34 := Fr.snoc X34 N31 g_b1
  have Zs34 : n0 ≤ h34.size := Nat.le_trans Zs31 (Keep.of_wr W34).1
  have Ol34 : Old Z n0 h34 := (Ol31).wr W34 g_b1
  obtain ⟨T35, h35, k35, X35, e35, E35, A35, st35⟩ := newP X34 hx hZ (hw _ (List.mem_of_getElem? (i := 26) rfl)) e34 (g := (mkF m 79 #[.val (.int x0_0), .val (.ref b1), .unset, .unset] [(.int (11 : Int32))])) rfl (hb hby at_79) rfl (by decide) (cap := 11) (by decide) (by decide) (by decide) (by decide)
  obtain ⟨b35, g35⟩ : ∃ z, z = h34.size := ⟨_, rfl⟩
  rw [← g35] at A35 st35
  have g_b35 : n0 ≤ b35 := Nat.le_trans Zs34 (Nat.le_of_eq g35.symm)
  have ne_b1_b35 : b1 ≠ b35 := Nat.ne_of_lt (Nat.lt_of_lt_of_le V34.lt (Nat.le_of_eq g35.symm))
  have Zs35 : n0 ≤ h35.size := Nat.le_trans Zs34 E35.1
  have Ol35 : Old Z n0 h35 := (Ol34).ext E35
  have V35 : Arv Z h35 b35 k35 .boolean (11 : Int32) [(.int (0 : Int32)), (.int (0 : Int32)), (.int (0 : Int32)), (.int (0 : Int32)), (.int (0 : Int32)), (.int (0 : Int32)), (.int (0 : Int32)), (.int (0 : Int32)), (.int (0 : Int32)), (.int (0 : Int32)), (.int (0 : Int32))] (.int (0 : Int32)) := (Arv.new A35 (by decide)).pad (pad_rep [] (.int (0 : Int32)) 11)
  obtain ⟨cl36, Ar36, qa36, Sa36, Na36, Ha36, Ga36⟩ := V35
  have hin36 : ¬ ((0 : Int32) < 0 ∨ cl36.slots.size ≤ ((0 : Int32)).toNatClampNeg) := inb_of Sa36 ⟨by decide, by decide⟩
  obtain ⟨T37, h37, X37, e37, W37, st37⟩ := stZ X35 hx hZ e35 Ar36 (j := (0 : Int32)) hin36 (g := (mkF m 84 #[.val (.int x0_0), .val (.ref b1), .unset, .unset] [(.int (0 : Int32)), (.int (0 : Int32)), (.ref b35), (.ref b35)])) rfl rfl (hb hby at_84)
  have V37 : Arv Z h37 b35 k35 .boolean (11 : Int32) [(.int (nar .boolean (0 : Int32))), (.int (0 : Int32)), (.int (0 : Int32)), (.int (0 : Int32)), (.int (0 : Int32)), (.int (0 : Int32)), (.int (0 : Int32)), (.int (0 : Int32)), (.int (0 : Int32)), (.int (0 : Int32)), (.int (0 : Int32))] (.int (0 : Int32)) := Arv.set Ar36 qa36 Sa36 Na36 Ha36 Ga36 (fits_nar_bool _) W37 0 rfl (Nat.le_of_ble_eq_true rfl)
  rw [own_n0] at V37
  have N37 := Fr.snoc X37 N34 g_b35
  have Zs37 : n0 ≤ h37.size := Nat.le_trans Zs35 (Keep.of_wr W37).1
  have Ol37 : Old Z n0 h37 := (Ol35).wr W37 g_b35
  obtain ⟨cl38, Ar38, qa38, Sa38, Na38, Ha38, Ga38⟩ := V37
  have hin38 : ¬ ((1 : Int32) < 0 ∨ cl38.slots.size ≤ ((1 : Int32)).toNatClampNeg) := inb_of Sa38 ⟨by decide, by decide⟩
  obtain ⟨T39, h39, X39, e39, W39, st39⟩ := stZ X37 hx hZ e37 Ar38 (j := (1 : Int32)) hin38 (g := (mkF m 88 #[.val (.int x0_0), .val (.ref b1), .unset, .unset] [(.int (0 : Int32)), (.int (1 : Int32)), (.ref b35), (.ref b35)])) rfl rfl (hb hby at_88)
  have V39 : Arv Z h39 b35 k35 .boolean (11 : Int32) [(.int (0 : Int32)), (.int (nar .boolean (0 : Int32))), (.int (0 : Int32)), (.int (0 : Int32)), (.int (0 : Int32)), (.int (0 : Int32)), (.int (0 : Int32)), (.int (0 : Int32)), (.int (0 : Int32)), (.int (0 : Int32)), (.int (0 : Int32))] (.int (0 : Int32)) := Arv.set Ar38 qa38 Sa38 Na38 Ha38 Ga38 (fits_nar_bool _) W39 1 rfl (Nat.le_of_ble_eq_true rfl)
  rw [own_n0] at V39
  have N39 := Fr.snoc X39 N37 g_b35
  have Zs39 : n0 ≤ h39.size := Nat.le_trans Zs37 (Keep.of_wr W39).1
  have Ol39 : Old Z n0 h39 := (Ol37).wr W39 g_b35
  obtain ⟨cl40, Ar40, qa40, Sa40, Na40, Ha40, Ga40⟩ := V39
  have hin40 : ¬ ((2 : Int32) < 0 ∨ cl40.slots.size ≤ ((2 : Int32)).toNatClampNeg) := inb_of Sa40 ⟨by decide, by decide⟩
  obtain ⟨T41, h41, X41, e41, W41, st41⟩ := stZ X39 hx hZ e39 Ar40 (j := (2 : Int32)) hin40 (g := (mkF m 92 #[.val (.int x0_0), .val (.ref b1), .unset, .unset] [(.int (0 : Int32)), (.int (2 : Int32)), (.ref b35), (.ref b35)])) rfl rfl (hb hby at_92)
  have V41 : Arv Z h41 b35 k35 .boolean (11 : Int32) [(.int (0 : Int32)), (.int (0 : Int32)), (.int (nar .boolean (0 : Int32))), (.int (0 : Int32)), (.int (0 : Int32)), (.int (0 : Int32)), (.int (0 : Int32)), (.int (0 : Int32)), (.int (0 : Int32)), (.int (0 : Int32)), (.int (0 : Int32))] (.int (0 : Int32)) := Arv.set Ar40 qa40 Sa40 Na40 Ha40 Ga40 (fits_nar_bool _) W41 2 rfl (Nat.le_of_ble_eq_true rfl)
  rw [own_n0] at V41
  have N41 := Fr.snoc X41 N39 g_b35
  have Zs41 : n0 ≤ h41.size := Nat.le_trans Zs39 (Keep.of_wr W41).1
  have Ol41 : Old Z n0 h41 := (Ol39).wr W41 g_b35
  obtain ⟨cl42, Ar42, qa42, Sa42, Na42, Ha42, Ga42⟩ := V41
  have hin42 : ¬ ((3 : Int32) < 0 ∨ cl42.slots.size ≤ ((3 : Int32)).toNatClampNeg) := inb_of Sa42 ⟨by decide, by decide⟩
  obtain ⟨T43, h43, X43, e43, W43, st43⟩ := stZ X41 hx hZ e41 Ar42 (j := (3 : Int32)) hin42 (g := (mkF m 96 #[.val (.int x0_0), .val (.ref b1), .unset, .unset] [(.int (0 : Int32)), (.int (3 : Int32)), (.ref b35), (.ref b35)])) rfl rfl (hb hby at_96)
  have V43 : Arv Z h43 b35 k35 .boolean (11 : Int32) [(.int (0 : Int32)), (.int (0 : Int32)), (.int (0 : Int32)), (.int (nar .boolean (0 : Int32))), (.int (0 : Int32)), (.int (0 : Int32)), (.int (0 : Int32)), (.int (0 : Int32)), (.int (0 : Int32)), (.int (0 : Int32)), (.int (0 : Int32))] (.int (0 : Int32)) := Arv.set Ar42 qa42 Sa42 Na42 Ha42 Ga42 (fits_nar_bool _) W43 3 rfl (Nat.le_of_ble_eq_true rfl)
  rw [own_n0] at V43
  have N43 := Fr.snoc X43 N41 g_b35
  have Zs43 : n0 ≤ h43.size := Nat.le_trans Zs41 (Keep.of_wr W43).1
  have Ol43 : Old Z n0 h43 := (Ol41).wr W43 g_b35
  obtain ⟨cl44, Ar44, qa44, Sa44, Na44, Ha44, Ga44⟩ := V43
  have hin44 : ¬ ((4 : Int32) < 0 ∨ cl44.slots.size ≤ ((4 : Int32)).toNatClampNeg) := inb_of Sa44 ⟨by decide, by decide⟩
  obtain ⟨T45, h45, X45, e45, W45, st45⟩ := stZ X43 hx hZ e43 Ar44 (j := (4 : Int32)) hin44 (g := (mkF m 100 #[.val (.int x0_0), .val (.ref b1), .unset, .unset] [(.int (0 : Int32)), (.int (4 : Int32)), (.ref b35), (.ref b35)])) rfl rfl (hb hby at_100)
  have V45 : Arv Z h45 b35 k35 .boolean (11 : Int32) [(.int (0 : Int32)), (.int (0 : Int32)), (.int (0 : Int32)), (.int (0 : Int32)), (.int (nar .boolean (0 : Int32))), (.int (0 : Int32)), (.int (0 : Int32)), (.int (0 : Int32)), (.int (0 : Int32)), (.int (0 : Int32)), (.int (0 : Int32))] (.int (0 : Int32)) := Arv.set Ar44 qa44 Sa44 Na44 Ha44 Ga44 (fits_nar_bool _) W45 4 rfl (Nat.le_of_ble_eq_true rfl)
  rw [own_n0] at V45
  have N45 := Fr.snoc X45 N43 g_b35
  have Zs45 : n0 ≤ h45.size := Nat.le_trans Zs43 (Keep.of_wr W45).1
  have Ol45 : Old Z n0 h45 := (Ol43).wr W45 g_b35
  obtain ⟨cl46, Ar46, qa46, Sa46, Na46, Ha46, Ga46⟩ := V45
  have hin46 : ¬ ((5 : Int32) < 0 ∨ cl46.slots.size ≤ ((5 : Int32)).toNatClampNeg) := inb_of Sa46 ⟨by decide, by decide⟩
  obtain ⟨T47, h47, X47, e47, W47, st47⟩ := stZ X45 hx hZ e45 Ar46 (j := (5 : Int32)) hin46 (g := (mkF m 104 #[.val (.int x0_0), .val (.ref b1), .unset, .unset] [(.int (0 : Int32)), (.int (5 : Int32)), (.ref b35), (.ref b35)])) rfl rfl (hb hby at_104)
  have V47 : Arv Z h47 b35 k35 .boolean (11 : Int32) [(.int (0 : Int32)), (.int (0 : Int32)), (.int (0 : Int32)), (.int (0 : Int32)), (.int (0 : Int32)), (.int (nar .boolean (0 : Int32))), (.int (0 : Int32)), (.int (0 : Int32)), (.int (0 : Int32)), (.int (0 : Int32)), (.int (0 : Int32))] (.int (0 : Int32)) := Arv.set Ar46 qa46 Sa46 Na46 Ha46 Ga46 (fits_nar_bool _) W47 5 rfl (Nat.le_of_ble_eq_true rfl)
  rw [own_n0] at V47
  have N47 := Fr.snoc X47 N45 g_b35
  have Zs47 : n0 ≤ h47.size := Nat.le_trans Zs45 (Keep.of_wr W47).1
  have Ol47 : Old Z n0 h47 := (Ol45).wr W47 g_b35
  obtain ⟨cl48, Ar48, qa48, Sa48, Na48, Ha48, Ga48⟩ := V47
  have hin48 : ¬ ((6 : Int32) < 0 ∨ cl48.slots.size ≤ ((6 : Int32)).toNatClampNeg) := inb_of Sa48 ⟨by decide, by decide⟩
  obtain ⟨T49, h49, X49, e49, W49, st49⟩ := stZ X47 hx hZ e47 Ar48 (j := (6 : Int32)) hin48 (g := (mkF m 109 #[.val (.int x0_0), .val (.ref b1), .unset, .unset] [(.int (1 : Int32)), (.int (6 : Int32)), (.ref b35), (.ref b35)])) rfl rfl (hb hby at_109)
  have V49 : Arv Z h49 b35 k35 .boolean (11 : Int32) [(.int (0 : Int32)), (.int (0 : Int32)), (.int (0 : Int32)), (.int (0 : Int32)), (.int (0 : Int32)), (.int (0 : Int32)), (.int (nar .boolean (1 : Int32))), (.int (0 : Int32)), (.int (0 : Int32)), (.int (0 : Int32)), (.int (0 : Int32))] (.int (0 : Int32)) := Arv.set Ar48 qa48 Sa48 Na48 Ha48 Ga48 (fits_nar_bool _) W49 6 rfl (Nat.le_of_ble_eq_true rfl)
  rw [own_n1] at V49
  have N49 := Fr.snoc X49 N47 g_b35
  have Zs49 : n0 ≤ h49.size := Nat.le_trans Zs47 (Keep.of_wr W49).1
  have Ol49 : Old Z n0 h49 := (Ol47).wr W49 g_b35
  obtain ⟨cl50, Ar50, qa50, Sa50, Na50, Ha50, Ga50⟩ := V49
  have hin50 : ¬ ((7 : Int32) < 0 ∨ cl50.slots.size ≤ ((7 : Int32)).toNatClampNeg) := inb_of Sa50 ⟨by decide, by decide⟩
  obtain ⟨T51, h51, X51, e51, W51, st51⟩ := stZ X49 hx hZ e49 Ar50 (j := (7 : Int32)) hin50 (g := (mkF m 114 #[.val (.int x0_0), .val (.ref b1), .unset, .unset] [(.int (1 : Int32)), (.int (7 : Int32)), (.ref b35), (.ref b35)])) rfl rfl (hb hby at_114)
  have V51 : Arv Z h51 b35 k35 .boolean (11 : Int32) [(.int (0 : Int32)), (.int (0 : Int32)), (.int (0 : Int32)), (.int (0 : Int32)), (.int (0 : Int32)), (.int (0 : Int32)), (.int (1 : Int32)), (.int (nar .boolean (1 : Int32))), (.int (0 : Int32)), (.int (0 : Int32)), (.int (0 : Int32))] (.int (0 : Int32)) := Arv.set Ar50 qa50 Sa50 Na50 Ha50 Ga50 (fits_nar_bool _) W51 7 rfl (Nat.le_of_ble_eq_true rfl)
  rw [own_n1] at V51
  have N51 := Fr.snoc X51 N49 g_b35
  have Zs51 : n0 ≤ h51.size := Nat.le_trans Zs49 (Keep.of_wr W51).1
  have Ol51 : Old Z n0 h51 := (Ol49).wr W51 g_b35
  obtain ⟨cl52, Ar52, qa52, Sa52, Na52, Ha52, Ga52⟩ := V51
  have hin52 : ¬ ((8 : Int32) < 0 ∨ cl52.slots.size ≤ ((8 : Int32)).toNatClampNeg) := inb_of Sa52 ⟨by decide, by decide⟩
  obtain ⟨T53, h53, X53, e53, W53, st53⟩ := stZ X51 hx hZ e51 Ar52 (j := (8 : Int32)) hin52 (g := (mkF m 119 #[.val (.int x0_0), .val (.ref b1), .unset, .unset] [(.int (0 : Int32)), (.int (8 : Int32)), (.ref b35), (.ref b35)])) rfl rfl (hb hby at_119)
  have V53 : Arv Z h53 b35 k35 .boolean (11 : Int32) [(.int (0 : Int32)), (.int (0 : Int32)), (.int (0 : Int32)), (.int (0 : Int32)), (.int (0 : Int32)), (.int (0 : Int32)), (.int (1 : Int32)), (.int (1 : Int32)), (.int (nar .boolean (0 : Int32))), (.int (0 : Int32)), (.int (0 : Int32))] (.int (0 : Int32)) := Arv.set Ar52 qa52 Sa52 Na52 Ha52 Ga52 (fits_nar_bool _) W53 8 rfl (Nat.le_of_ble_eq_true rfl)
  rw [own_n0] at V53
  have N53 := Fr.snoc X53 N51 g_b35
  have Zs53 : n0 ≤ h53.size := Nat.le_trans Zs51 (Keep.of_wr W53).1
  have Ol53 : Old Z n0 h53 := (Ol51).wr W53 g_b35
  obtain ⟨cl54, Ar54, qa54, Sa54, Na54, Ha54, Ga54⟩ := V53
  have hin54 : ¬ ((9 : Int32) < 0 ∨ cl54.slots.size ≤ ((9 : Int32)).toNatClampNeg) := inb_of Sa54 ⟨by decide, by decide⟩
  obtain ⟨T55, h55, X55, e55, W55, st55⟩ := stZ X53 hx hZ e53 Ar54 (j := (9 : Int32)) hin54 (g := (mkF m 124 #[.val (.int x0_0), .val (.ref b1), .unset, .unset] [(.int (0 : Int32)), (.int (9 : Int32)), (.ref b35), (.ref b35)])) rfl rfl (hb hby at_124)
  have V55 : Arv Z h55 b35 k35 .boolean (11 : Int32) [(.int (0 : Int32)), (.int (0 : Int32)), (.int (0 : Int32)), (.int (0 : Int32)), (.int (0 : Int32)), (.int (0 : Int32)), (.int (1 : Int32)), (.int (1 : Int32)), (.int (0 : Int32)), (.int (nar .boolean (0 : Int32))), (.int (0 : Int32))] (.int (0 : Int32)) := Arv.set Ar54 qa54 Sa54 Na54 Ha54 Ga54 (fits_nar_bool _) W55 9 rfl (Nat.le_of_ble_eq_true rfl)
  rw [own_n0] at V55
  have N55 := Fr.snoc X55 N53 g_b35
  have Zs55 : n0 ≤ h55.size := Nat.le_trans Zs53 (Keep.of_wr W55).1
  have Ol55 : Old Z n0 h55 := (Ol53).wr W55 g_b35
  obtain ⟨cl56, Ar56, qa56, Sa56, Na56, Ha56, Ga56⟩ := V55
  have hin56 : ¬ ((10 : Int32) < 0 ∨ cl56.slots.size ≤ ((10 : Int32)).toNatClampNeg) := inb_of Sa56 ⟨by decide, by decide⟩
  obtain ⟨T57, h57, X57, e57, W57, st57⟩ := stZ X55 hx hZ e55 Ar56 (j := (10 : Int32)) hin56 (g := (mkF m 129 #[.val (.int x0_0), .val (.ref b1), .unset, .unset] [(.int (0 : Int32)), (.int (10 : Int32)), (.ref b35), (.ref b35)])) rfl rfl (hb hby at_129)
  have V57 : Arv Z h57 b35 k35 .boolean (11 : Int32) [(.int (0 : Int32)), (.int (0 : Int32)), (.int (0 : Int32)), (.int (0 : Int32)), (.int (0 : Int32)), (.int (0 : Int32)), (.int (1 : Int32)), (.int (1 : Int32)), (.int (0 : Int32)), (.int (0 : Int32)), (.int (nar .boolean (0 : Int32)))] (.int (0 : Int32)) := Arv.set Ar56 qa56 Sa56 Na56 Ha56 Ga56 (fits_nar_bool _) W57 10 rfl (Nat.le_of_ble_eq_true rfl)
  rw [own_n0] at V57
  have N57 := Fr.snoc X57 N55 g_b35
  have Zs57 : n0 ≤ h57.size := Nat.le_trans Zs55 (Keep.of_wr W57).1
  have Ol57 : Old Z n0 h57 := (Ol55).wr W57 g_b35
  have sg58 : ∀ t, Steps p.tables e below (T57.setTop (mkF m 139 #[.val (.int x0_0), .val (.ref b1), .val (.ref b35), .val (.int ((x0_0 &&& (2147483647 : Int32)) % (11 : Int32)))] [])) t → Steps p.tables e below (s₁.setTop (mkF m 0 #[.val (.int x0_0), .unset, .unset, .unset] [])) t := fun t kt => by
    show Steps p.tables e below (s₁.setTop (mkF m 0 #[.val (.int x0_0), .unset, .unset, .unset] [])) _
    refine XS.bipush X0.here hx rfl (hb hby at_0) ?_
    show Steps p.tables e below (s₁.setTop (mkF m 2 #[.val (.int x0_0), .unset, .unset, .unset] [(.int (11 : Int32))])) _
    refine st1 _ ?_
    show Steps p.tables e below (T1.setTop (mkF m 5 #[.val (.int x0_0), .unset, .unset, .unset] [(.ref b1)])) _
    refine XS.dup X1.here hx rfl (hb hby at_5) rfl rfl ?_
    show Steps p.tables e below (T1.setTop (mkF m 6 #[.val (.int x0_0), .unset, .unset, .unset] [(.ref b1), (.ref b1)])) _
    refine XS.iconst X1.here hx rfl (hb hby at_6) ?_
    show Steps p.tables e below (T1.setTop (mkF m 7 #[.val (.int x0_0), .unset, .unset, .unset] [(.int (0 : Int32)), (.ref b1), (.ref b1)])) _
    refine st2 _ ?_
    show Steps p.tables e below (T2.setTop (mkF m 10 #[.val (.int x0_0), .unset, .unset, .unset] [(.ref w_START_OBJECT), (.int (0 : Int32)), (.ref b1), (.ref b1)])) _
    refine st4 _ ?_
    show Steps p.tables e below (T4.setTop (mkF m 11 #[.val (.int x0_0), .unset, .unset, .unset] [(.ref b1)])) _
    refine XS.dup X4.here hx rfl (hb hby at_11) rfl rfl ?_
    show Steps p.tables e below (T4.setTop (mkF m 12 #[.val (.int x0_0), .unset, .unset, .unset] [(.ref b1), (.ref b1)])) _
    refine XS.iconst X4.here hx rfl (hb hby at_12) ?_
    show Steps p.tables e below (T4.setTop (mkF m 13 #[.val (.int x0_0), .unset, .unset, .unset] [(.int (1 : Int32)), (.ref b1), (.ref b1)])) _
    refine st5 _ ?_
    show Steps p.tables e below (T5.setTop (mkF m 16 #[.val (.int x0_0), .unset, .unset, .unset] [(.ref w_END_OBJECT), (.int (1 : Int32)), (.ref b1), (.ref b1)])) _
    refine st7 _ ?_
    show Steps p.tables e below (T7.setTop (mkF m 17 #[.val (.int x0_0), .unset, .unset, .unset] [(.ref b1)])) _
    refine XS.dup X7.here hx rfl (hb hby at_17) rfl rfl ?_
    show Steps p.tables e below (T7.setTop (mkF m 18 #[.val (.int x0_0), .unset, .unset, .unset] [(.ref b1), (.ref b1)])) _
    refine XS.iconst X7.here hx rfl (hb hby at_18) ?_
    show Steps p.tables e below (T7.setTop (mkF m 19 #[.val (.int x0_0), .unset, .unset, .unset] [(.int (2 : Int32)), (.ref b1), (.ref b1)])) _
    refine st8 _ ?_
    show Steps p.tables e below (T8.setTop (mkF m 22 #[.val (.int x0_0), .unset, .unset, .unset] [(.ref w_START_ARRAY), (.int (2 : Int32)), (.ref b1), (.ref b1)])) _
    refine st10 _ ?_
    show Steps p.tables e below (T10.setTop (mkF m 23 #[.val (.int x0_0), .unset, .unset, .unset] [(.ref b1)])) _
    refine XS.dup X10.here hx rfl (hb hby at_23) rfl rfl ?_
    show Steps p.tables e below (T10.setTop (mkF m 24 #[.val (.int x0_0), .unset, .unset, .unset] [(.ref b1), (.ref b1)])) _
    refine XS.iconst X10.here hx rfl (hb hby at_24) ?_
    show Steps p.tables e below (T10.setTop (mkF m 25 #[.val (.int x0_0), .unset, .unset, .unset] [(.int (3 : Int32)), (.ref b1), (.ref b1)])) _
    refine st11 _ ?_
    show Steps p.tables e below (T11.setTop (mkF m 28 #[.val (.int x0_0), .unset, .unset, .unset] [(.ref w_END_ARRAY), (.int (3 : Int32)), (.ref b1), (.ref b1)])) _
    refine st13 _ ?_
    show Steps p.tables e below (T13.setTop (mkF m 29 #[.val (.int x0_0), .unset, .unset, .unset] [(.ref b1)])) _
    refine XS.dup X13.here hx rfl (hb hby at_29) rfl rfl ?_
    show Steps p.tables e below (T13.setTop (mkF m 30 #[.val (.int x0_0), .unset, .unset, .unset] [(.ref b1), (.ref b1)])) _
    refine XS.iconst X13.here hx rfl (hb hby at_30) ?_
    show Steps p.tables e below (T13.setTop (mkF m 31 #[.val (.int x0_0), .unset, .unset, .unset] [(.int (4 : Int32)), (.ref b1), (.ref b1)])) _
    refine st14 _ ?_
    show Steps p.tables e below (T14.setTop (mkF m 34 #[.val (.int x0_0), .unset, .unset, .unset] [(.ref w_NAME), (.int (4 : Int32)), (.ref b1), (.ref b1)])) _
    refine st16 _ ?_
    show Steps p.tables e below (T16.setTop (mkF m 35 #[.val (.int x0_0), .unset, .unset, .unset] [(.ref b1)])) _
    refine XS.dup X16.here hx rfl (hb hby at_35) rfl rfl ?_
    show Steps p.tables e below (T16.setTop (mkF m 36 #[.val (.int x0_0), .unset, .unset, .unset] [(.ref b1), (.ref b1)])) _
    refine XS.iconst X16.here hx rfl (hb hby at_36) ?_
    show Steps p.tables e below (T16.setTop (mkF m 37 #[.val (.int x0_0), .unset, .unset, .unset] [(.int (5 : Int32)), (.ref b1), (.ref b1)])) _
    refine st17 _ ?_
    show Steps p.tables e below (T17.setTop (mkF m 40 #[.val (.int x0_0), .unset, .unset, .unset] [(.ref w_STRING), (.int (5 : Int32)), (.ref b1), (.ref b1)])) _
    refine st19 _ ?_
    show Steps p.tables e below (T19.setTop (mkF m 41 #[.val (.int x0_0), .unset, .unset, .unset] [(.ref b1)])) _
    refine XS.dup X19.here hx rfl (hb hby at_41) rfl rfl ?_
    show Steps p.tables e below (T19.setTop (mkF m 42 #[.val (.int x0_0), .unset, .unset, .unset] [(.ref b1), (.ref b1)])) _
    refine XS.bipush X19.here hx rfl (hb hby at_42) ?_
    show Steps p.tables e below (T19.setTop (mkF m 44 #[.val (.int x0_0), .unset, .unset, .unset] [(.int (6 : Int32)), (.ref b1), (.ref b1)])) _
    refine st20 _ ?_
    show Steps p.tables e below (T20.setTop (mkF m 47 #[.val (.int x0_0), .unset, .unset, .unset] [(.ref w_INTEGER), (.int (6 : Int32)), (.ref b1), (.ref b1)])) _
    refine st22 _ ?_
    show Steps p.tables e below (T22.setTop (mkF m 48 #[.val (.int x0_0), .unset, .unset, .unset] [(.ref b1)])) _
    refine XS.dup X22.here hx rfl (hb hby at_48) rfl rfl ?_
    show Steps p.tables e below (T22.setTop (mkF m 49 #[.val (.int x0_0), .unset, .unset, .unset] [(.ref b1), (.ref b1)])) _
    refine XS.bipush X22.here hx rfl (hb hby at_49) ?_
    show Steps p.tables e below (T22.setTop (mkF m 51 #[.val (.int x0_0), .unset, .unset, .unset] [(.int (7 : Int32)), (.ref b1), (.ref b1)])) _
    refine st23 _ ?_
    show Steps p.tables e below (T23.setTop (mkF m 54 #[.val (.int x0_0), .unset, .unset, .unset] [(.ref w_DECIMAL), (.int (7 : Int32)), (.ref b1), (.ref b1)])) _
    refine st25 _ ?_
    show Steps p.tables e below (T25.setTop (mkF m 55 #[.val (.int x0_0), .unset, .unset, .unset] [(.ref b1)])) _
    refine XS.dup X25.here hx rfl (hb hby at_55) rfl rfl ?_
    show Steps p.tables e below (T25.setTop (mkF m 56 #[.val (.int x0_0), .unset, .unset, .unset] [(.ref b1), (.ref b1)])) _
    refine XS.bipush X25.here hx rfl (hb hby at_56) ?_
    show Steps p.tables e below (T25.setTop (mkF m 58 #[.val (.int x0_0), .unset, .unset, .unset] [(.int (8 : Int32)), (.ref b1), (.ref b1)])) _
    refine st26 _ ?_
    show Steps p.tables e below (T26.setTop (mkF m 61 #[.val (.int x0_0), .unset, .unset, .unset] [(.ref w_TRUE), (.int (8 : Int32)), (.ref b1), (.ref b1)])) _
    refine st28 _ ?_
    show Steps p.tables e below (T28.setTop (mkF m 62 #[.val (.int x0_0), .unset, .unset, .unset] [(.ref b1)])) _
    refine XS.dup X28.here hx rfl (hb hby at_62) rfl rfl ?_
    show Steps p.tables e below (T28.setTop (mkF m 63 #[.val (.int x0_0), .unset, .unset, .unset] [(.ref b1), (.ref b1)])) _
    refine XS.bipush X28.here hx rfl (hb hby at_63) ?_
    show Steps p.tables e below (T28.setTop (mkF m 65 #[.val (.int x0_0), .unset, .unset, .unset] [(.int (9 : Int32)), (.ref b1), (.ref b1)])) _
    refine st29 _ ?_
    show Steps p.tables e below (T29.setTop (mkF m 68 #[.val (.int x0_0), .unset, .unset, .unset] [(.ref w_FALSE), (.int (9 : Int32)), (.ref b1), (.ref b1)])) _
    refine st31 _ ?_
    show Steps p.tables e below (T31.setTop (mkF m 69 #[.val (.int x0_0), .unset, .unset, .unset] [(.ref b1)])) _
    refine XS.dup X31.here hx rfl (hb hby at_69) rfl rfl ?_
    show Steps p.tables e below (T31.setTop (mkF m 70 #[.val (.int x0_0), .unset, .unset, .unset] [(.ref b1), (.ref b1)])) _
    refine XS.bipush X31.here hx rfl (hb hby at_70) ?_
    show Steps p.tables e below (T31.setTop (mkF m 72 #[.val (.int x0_0), .unset, .unset, .unset] [(.int (10 : Int32)), (.ref b1), (.ref b1)])) _
    refine st32 _ ?_
    show Steps p.tables e below (T32.setTop (mkF m 75 #[.val (.int x0_0), .unset, .unset, .unset] [(.ref w_NULL), (.int (10 : Int32)), (.ref b1), (.ref b1)])) _
    refine st34 _ ?_
    show Steps p.tables e below (T34.setTop (mkF m 76 #[.val (.int x0_0), .unset, .unset, .unset] [(.ref b1)])) _
    refine XS.astoreN X34.here hx rfl (hb hby at_76) rfl rfl (l' := #[.val (.int x0_0), .val (.ref b1), .unset, .unset]) rfl ?_
    show Steps p.tables e below (T34.setTop (mkF m 77 #[.val (.int x0_0), .val (.ref b1), .unset, .unset] [])) _
    refine XS.bipush X34.here hx rfl (hb hby at_77) ?_
    show Steps p.tables e below (T34.setTop (mkF m 79 #[.val (.int x0_0), .val (.ref b1), .unset, .unset] [(.int (11 : Int32))])) _
    refine st35 _ ?_
    show Steps p.tables e below (T35.setTop (mkF m 81 #[.val (.int x0_0), .val (.ref b1), .unset, .unset] [(.ref b35)])) _
    refine XS.dup X35.here hx rfl (hb hby at_81) rfl rfl ?_
    show Steps p.tables e below (T35.setTop (mkF m 82 #[.val (.int x0_0), .val (.ref b1), .unset, .unset] [(.ref b35), (.ref b35)])) _
    refine XS.iconst X35.here hx rfl (hb hby at_82) ?_
    show Steps p.tables e below (T35.setTop (mkF m 83 #[.val (.int x0_0), .val (.ref b1), .unset, .unset] [(.int (0 : Int32)), (.ref b35), (.ref b35)])) _
    refine XS.iconst X35.here hx rfl (hb hby at_83) ?_
    show Steps p.tables e below (T35.setTop (mkF m 84 #[.val (.int x0_0), .val (.ref b1), .unset, .unset] [(.int (0 : Int32)), (.int (0 : Int32)), (.ref b35), (.ref b35)])) _
    refine st37 _ ?_
    show Steps p.tables e below (T37.setTop (mkF m 85 #[.val (.int x0_0), .val (.ref b1), .unset, .unset] [(.ref b35)])) _
    refine XS.dup X37.here hx rfl (hb hby at_85) rfl rfl ?_
    show Steps p.tables e below (T37.setTop (mkF m 86 #[.val (.int x0_0), .val (.ref b1), .unset, .unset] [(.ref b35), (.ref b35)])) _
    refine XS.iconst X37.here hx rfl (hb hby at_86) ?_
    show Steps p.tables e below (T37.setTop (mkF m 87 #[.val (.int x0_0), .val (.ref b1), .unset, .unset] [(.int (1 : Int32)), (.ref b35), (.ref b35)])) _
    refine XS.iconst X37.here hx rfl (hb hby at_87) ?_
    show Steps p.tables e below (T37.setTop (mkF m 88 #[.val (.int x0_0), .val (.ref b1), .unset, .unset] [(.int (0 : Int32)), (.int (1 : Int32)), (.ref b35), (.ref b35)])) _
    refine st39 _ ?_
    show Steps p.tables e below (T39.setTop (mkF m 89 #[.val (.int x0_0), .val (.ref b1), .unset, .unset] [(.ref b35)])) _
    refine XS.dup X39.here hx rfl (hb hby at_89) rfl rfl ?_
    show Steps p.tables e below (T39.setTop (mkF m 90 #[.val (.int x0_0), .val (.ref b1), .unset, .unset] [(.ref b35), (.ref b35)])) _
    refine XS.iconst X39.here hx rfl (hb hby at_90) ?_
    show Steps p.tables e below (T39.setTop (mkF m 91 #[.val (.int x0_0), .val (.ref b1), .unset, .unset] [(.int (2 : Int32)), (.ref b35), (.ref b35)])) _
    refine XS.iconst X39.here hx rfl (hb hby at_91) ?_
    show Steps p.tables e below (T39.setTop (mkF m 92 #[.val (.int x0_0), .val (.ref b1), .unset, .unset] [(.int (0 : Int32)), (.int (2 : Int32)), (.ref b35), (.ref b35)])) _
    refine st41 _ ?_
    show Steps p.tables e below (T41.setTop (mkF m 93 #[.val (.int x0_0), .val (.ref b1), .unset, .unset] [(.ref b35)])) _
    refine XS.dup X41.here hx rfl (hb hby at_93) rfl rfl ?_
    show Steps p.tables e below (T41.setTop (mkF m 94 #[.val (.int x0_0), .val (.ref b1), .unset, .unset] [(.ref b35), (.ref b35)])) _
    refine XS.iconst X41.here hx rfl (hb hby at_94) ?_
    show Steps p.tables e below (T41.setTop (mkF m 95 #[.val (.int x0_0), .val (.ref b1), .unset, .unset] [(.int (3 : Int32)), (.ref b35), (.ref b35)])) _
    refine XS.iconst X41.here hx rfl (hb hby at_95) ?_
    show Steps p.tables e below (T41.setTop (mkF m 96 #[.val (.int x0_0), .val (.ref b1), .unset, .unset] [(.int (0 : Int32)), (.int (3 : Int32)), (.ref b35), (.ref b35)])) _
    refine st43 _ ?_
    show Steps p.tables e below (T43.setTop (mkF m 97 #[.val (.int x0_0), .val (.ref b1), .unset, .unset] [(.ref b35)])) _
    refine XS.dup X43.here hx rfl (hb hby at_97) rfl rfl ?_
    show Steps p.tables e below (T43.setTop (mkF m 98 #[.val (.int x0_0), .val (.ref b1), .unset, .unset] [(.ref b35), (.ref b35)])) _
    refine XS.iconst X43.here hx rfl (hb hby at_98) ?_
    show Steps p.tables e below (T43.setTop (mkF m 99 #[.val (.int x0_0), .val (.ref b1), .unset, .unset] [(.int (4 : Int32)), (.ref b35), (.ref b35)])) _
    refine XS.iconst X43.here hx rfl (hb hby at_99) ?_
    show Steps p.tables e below (T43.setTop (mkF m 100 #[.val (.int x0_0), .val (.ref b1), .unset, .unset] [(.int (0 : Int32)), (.int (4 : Int32)), (.ref b35), (.ref b35)])) _
    refine st45 _ ?_
    show Steps p.tables e below (T45.setTop (mkF m 101 #[.val (.int x0_0), .val (.ref b1), .unset, .unset] [(.ref b35)])) _
    refine XS.dup X45.here hx rfl (hb hby at_101) rfl rfl ?_
    show Steps p.tables e below (T45.setTop (mkF m 102 #[.val (.int x0_0), .val (.ref b1), .unset, .unset] [(.ref b35), (.ref b35)])) _
    refine XS.iconst X45.here hx rfl (hb hby at_102) ?_
    show Steps p.tables e below (T45.setTop (mkF m 103 #[.val (.int x0_0), .val (.ref b1), .unset, .unset] [(.int (5 : Int32)), (.ref b35), (.ref b35)])) _
    refine XS.iconst X45.here hx rfl (hb hby at_103) ?_
    show Steps p.tables e below (T45.setTop (mkF m 104 #[.val (.int x0_0), .val (.ref b1), .unset, .unset] [(.int (0 : Int32)), (.int (5 : Int32)), (.ref b35), (.ref b35)])) _
    refine st47 _ ?_
    show Steps p.tables e below (T47.setTop (mkF m 105 #[.val (.int x0_0), .val (.ref b1), .unset, .unset] [(.ref b35)])) _
    refine XS.dup X47.here hx rfl (hb hby at_105) rfl rfl ?_
    show Steps p.tables e below (T47.setTop (mkF m 106 #[.val (.int x0_0), .val (.ref b1), .unset, .unset] [(.ref b35), (.ref b35)])) _
    refine XS.bipush X47.here hx rfl (hb hby at_106) ?_
    show Steps p.tables e below (T47.setTop (mkF m 108 #[.val (.int x0_0), .val (.ref b1), .unset, .unset] [(.int (6 : Int32)), (.ref b35), (.ref b35)])) _
    refine XS.iconst X47.here hx rfl (hb hby at_108) ?_
    show Steps p.tables e below (T47.setTop (mkF m 109 #[.val (.int x0_0), .val (.ref b1), .unset, .unset] [(.int (1 : Int32)), (.int (6 : Int32)), (.ref b35), (.ref b35)])) _
    refine st49 _ ?_
    show Steps p.tables e below (T49.setTop (mkF m 110 #[.val (.int x0_0), .val (.ref b1), .unset, .unset] [(.ref b35)])) _
    refine XS.dup X49.here hx rfl (hb hby at_110) rfl rfl ?_
    show Steps p.tables e below (T49.setTop (mkF m 111 #[.val (.int x0_0), .val (.ref b1), .unset, .unset] [(.ref b35), (.ref b35)])) _
    refine XS.bipush X49.here hx rfl (hb hby at_111) ?_
    show Steps p.tables e below (T49.setTop (mkF m 113 #[.val (.int x0_0), .val (.ref b1), .unset, .unset] [(.int (7 : Int32)), (.ref b35), (.ref b35)])) _
    refine XS.iconst X49.here hx rfl (hb hby at_113) ?_
    show Steps p.tables e below (T49.setTop (mkF m 114 #[.val (.int x0_0), .val (.ref b1), .unset, .unset] [(.int (1 : Int32)), (.int (7 : Int32)), (.ref b35), (.ref b35)])) _
    refine st51 _ ?_
    show Steps p.tables e below (T51.setTop (mkF m 115 #[.val (.int x0_0), .val (.ref b1), .unset, .unset] [(.ref b35)])) _
    refine XS.dup X51.here hx rfl (hb hby at_115) rfl rfl ?_
    show Steps p.tables e below (T51.setTop (mkF m 116 #[.val (.int x0_0), .val (.ref b1), .unset, .unset] [(.ref b35), (.ref b35)])) _
    refine XS.bipush X51.here hx rfl (hb hby at_116) ?_
    show Steps p.tables e below (T51.setTop (mkF m 118 #[.val (.int x0_0), .val (.ref b1), .unset, .unset] [(.int (8 : Int32)), (.ref b35), (.ref b35)])) _
    refine XS.iconst X51.here hx rfl (hb hby at_118) ?_
    show Steps p.tables e below (T51.setTop (mkF m 119 #[.val (.int x0_0), .val (.ref b1), .unset, .unset] [(.int (0 : Int32)), (.int (8 : Int32)), (.ref b35), (.ref b35)])) _
    refine st53 _ ?_
    show Steps p.tables e below (T53.setTop (mkF m 120 #[.val (.int x0_0), .val (.ref b1), .unset, .unset] [(.ref b35)])) _
    refine XS.dup X53.here hx rfl (hb hby at_120) rfl rfl ?_
    show Steps p.tables e below (T53.setTop (mkF m 121 #[.val (.int x0_0), .val (.ref b1), .unset, .unset] [(.ref b35), (.ref b35)])) _
    refine XS.bipush X53.here hx rfl (hb hby at_121) ?_
    show Steps p.tables e below (T53.setTop (mkF m 123 #[.val (.int x0_0), .val (.ref b1), .unset, .unset] [(.int (9 : Int32)), (.ref b35), (.ref b35)])) _
    refine XS.iconst X53.here hx rfl (hb hby at_123) ?_
    show Steps p.tables e below (T53.setTop (mkF m 124 #[.val (.int x0_0), .val (.ref b1), .unset, .unset] [(.int (0 : Int32)), (.int (9 : Int32)), (.ref b35), (.ref b35)])) _
    refine st55 _ ?_
    show Steps p.tables e below (T55.setTop (mkF m 125 #[.val (.int x0_0), .val (.ref b1), .unset, .unset] [(.ref b35)])) _
    refine XS.dup X55.here hx rfl (hb hby at_125) rfl rfl ?_
    show Steps p.tables e below (T55.setTop (mkF m 126 #[.val (.int x0_0), .val (.ref b1), .unset, .unset] [(.ref b35), (.ref b35)])) _
    refine XS.bipush X55.here hx rfl (hb hby at_126) ?_
    show Steps p.tables e below (T55.setTop (mkF m 128 #[.val (.int x0_0), .val (.ref b1), .unset, .unset] [(.int (10 : Int32)), (.ref b35), (.ref b35)])) _
    refine XS.iconst X55.here hx rfl (hb hby at_128) ?_
    show Steps p.tables e below (T55.setTop (mkF m 129 #[.val (.int x0_0), .val (.ref b1), .unset, .unset] [(.int (0 : Int32)), (.int (10 : Int32)), (.ref b35), (.ref b35)])) _
    refine st57 _ ?_
    show Steps p.tables e below (T57.setTop (mkF m 130 #[.val (.int x0_0), .val (.ref b1), .unset, .unset] [(.ref b35)])) _
    refine XS.astoreN X57.here hx rfl (hb hby at_130) rfl rfl (l' := #[.val (.int x0_0), .val (.ref b1), .val (.ref b35), .unset]) rfl ?_
    show Steps p.tables e below (T57.setTop (mkF m 131 #[.val (.int x0_0), .val (.ref b1), .val (.ref b35), .unset] [])) _
    refine XS.iloadN X57.here hx rfl (hb hby at_131) rfl ?_
    show Steps p.tables e below (T57.setTop (mkF m 132 #[.val (.int x0_0), .val (.ref b1), .val (.ref b35), .unset] [(.int x0_0)])) _
    refine X57.ldcInt hx hown (mvT hZ (hw _ (List.mem_of_getElem? (i := 27) rfl))) (g := (mkF m 132 #[.val (.int x0_0), .val (.ref b1), .val (.ref b35), .unset] [(.int x0_0)])) rfl (hb hby at_132) _ ?_
    show Steps p.tables e below (T57.setTop (mkF m 134 #[.val (.int x0_0), .val (.ref b1), .val (.ref b35), .unset] [(.int (2147483647 : Int32)), (.int x0_0)])) _
    refine XS.iand X57.here hx rfl (hb hby at_134) rfl ?_
    show Steps p.tables e below (T57.setTop (mkF m 135 #[.val (.int x0_0), .val (.ref b1), .val (.ref b35), .unset] [(.int (x0_0 &&& (2147483647 : Int32)))])) _
    refine XS.bipush X57.here hx rfl (hb hby at_135) ?_
    show Steps p.tables e below (T57.setTop (mkF m 137 #[.val (.int x0_0), .val (.ref b1), .val (.ref b35), .unset] [(.int (11 : Int32)), (.int (x0_0 &&& (2147483647 : Int32)))])) _
    refine iremM X57 hx rfl (hb hby at_137) rfl (by decide : ¬ ((11 : Int32) = (0 : Int32))) ?_
    show Steps p.tables e below (T57.setTop (mkF m 138 #[.val (.int x0_0), .val (.ref b1), .val (.ref b35), .unset] [(.int ((x0_0 &&& (2147483647 : Int32)) % (11 : Int32)))])) _
    refine XS.istoreN X57.here hx rfl (hb hby at_138) rfl (l' := #[.val (.int x0_0), .val (.ref b1), .val (.ref b35), .val (.int ((x0_0 &&& (2147483647 : Int32)) % (11 : Int32)))]) rfl ?_
    exact kt
  obtain ⟨v138, hv138⟩ : ∃ z, z = ((x0_0 &&& (2147483647 : Int32)) % (11 : Int32)) := ⟨_, rfl⟩
  rw [← hv138] at sg58
  have sg59 : ∀ t, Steps p.tables e below (T57.setTop (mkF m 141 #[.val (.int x0_0), .val (.ref b1), .val (.ref b35), .val (.int v138)] [(.int v138), (.ref b1)])) t → Steps p.tables e below (T57.setTop (mkF m 139 #[.val (.int x0_0), .val (.ref b1), .val (.ref b35), .val (.int v138)] [])) t := fun t kt => by
    show Steps p.tables e below (T57.setTop (mkF m 139 #[.val (.int x0_0), .val (.ref b1), .val (.ref b35), .val (.int v138)] [])) _
    refine XS.aloadN X57.here hx rfl (hb hby at_139) rfl rfl ?_
    show Steps p.tables e below (T57.setTop (mkF m 140 #[.val (.int x0_0), .val (.ref b1), .val (.ref b35), .val (.int v138)] [(.ref b1)])) _
    refine XS.iloadN X57.here hx rfl (hb hby at_140) rfl ?_
    exact kt
  by_cases hc141_0 : v138 = (0 : Int32)
  · subst hc141_0
    have c60 := (Arv.other (Arv.other (Arv.other (Arv.other (Arv.other (Arv.other (Arv.other (Arv.other (Arv.other (Arv.other (Arv.other (V34.ext E35) W37 ne_b1_b35) W39 ne_b1_b35) W41 ne_b1_b35) W43 ne_b1_b35) W45 ne_b1_b35) W47 ne_b1_b35) W49 ne_b1_b35) W51 ne_b1_b35) W53 ne_b1_b35) W55 ne_b1_b35) W57 ne_b1_b35)
    obtain ⟨cl61, Ar61, qa61, Sa61, Na61, Ha61, Ga61⟩ := c60
    have hin61 : ¬ ((0 : Int32) < 0 ∨ cl61.slots.size ≤ ((0 : Int32)).toNatClampNeg) := inb_of Sa61 ⟨by decide, by decide⟩
    have hat61 : cl61.slots[((0 : Int32)).toNatClampNeg]? = some (.ref w_START_OBJECT) := Has.at Ha61 hin61 rfl
    have sg63 : ∀ t, Steps p.tables e below (T57.setTop (mkF m 142 #[.val (.int x0_0), .val (.ref b1), .val (.ref b35), .val (.int (0 : Int32))] [(.ref w_START_OBJECT)])) t → Steps p.tables e below (T57.setTop (mkF m 141 #[.val (.int x0_0), .val (.ref b1), .val (.ref b35), .val (.int (0 : Int32))] [(.int (0 : Int32)), (.ref b1)])) t := fun t kt => by
      show Steps p.tables e below (T57.setTop (mkF m 141 #[.val (.int x0_0), .val (.ref b1), .val (.ref b35), .val (.int (0 : Int32))] [(.int (0 : Int32)), (.ref b1)])) _
      refine X57.aaload hx (j := (0 : Int32)) (v := (.ref w_START_OBJECT)) (by rw [e57]; exact Ar61.1) (State.isArrayOf_alike hZ.alike Ar61.2.1) rfl Ar61.2.2 hin61 hat61 (g := (mkF m 141 #[.val (.int x0_0), .val (.ref b1), .val (.ref b35), .val (.int (0 : Int32))] [(.int (0 : Int32)), (.ref b1)])) rfl rfl (hb hby at_141) _ ?_
      exact kt
    obtain ⟨cq62, kq62, q62a, q62b, q62c⟩ := isOf hZ e57 ((World.ext Ol57.2 W).2.2.2.2.2.2.2.2.2.2.2.1)
    obtain ⟨rv62, _, ⟨T62, L62, k62, n62⟩, -, X62, ⟨Lc62, hQ62, l62, y62, z62⟩, st62⟩ := X57.virtualBack hx (y := (⟨"com/example/graticule/graticule/storage/JsonScanner$Token", "isNumber", "()Z"⟩ : MethodName)) (z := (⟨"com/example/graticule/graticule/storage/JsonScanner$Token", "isNumber", "()Z"⟩ : MethodName)) hown (mvT hZ (hw _ (List.mem_of_getElem? (i := 28) rfl))) (mvT hZ (hw _ (List.mem_of_getElem? (i := 29) rfl))) (notFace_of_selects (args := #[]) (mvT hZ (hw _ (List.mem_of_getElem? (i := 31) rfl)))) (mvT hZ (hw _ (List.mem_of_getElem? (i := 31) rfl))) (mvT hZ (hw _ (List.mem_of_getElem? (i := 30) rfl))) (by decide) (backOf (W := 0) (rm1 l Z a0 hw [] w_START_OBJECT w_START_OBJECT w_END_OBJECT w_START_ARRAY w_END_ARRAY w_NAME w_STRING w_INTEGER w_DECIMAL w_TRUE w_FALSE w_NULL h57 n0 Zs57 (World.ext Ol57.2 W)) hZ (hw _ (List.mem_of_getElem? (i := 32) rfl)) (hw _ (List.mem_of_getElem? (i := 3) rfl)) (by decide) (by decide)) q62a q62c (g := (mkF m 142 #[.val (.int x0_0), .val (.ref b1), .val (.ref b35), .val (.int (0 : Int32))] [(.ref w_START_OBJECT)])) rfl (by rw [hml]; rfl) (Steps.refl _) (argsL := []) (rest := []) (lenOf pd_0 rfl) rfl (by show 2 * 0 + _ ≤ _; exact Nat.le_of_eq rfl) (hb hby at_142) (fun _ _ => ⟨rfl, e57, (by decide : 2 + 0 ≤ _), (by decide : 22 + 0 ≤ _)⟩)
    dsimp only [Pt.U, Pt.locs, Pt.cells, Pt.slots] at X62 l62 y62 z62 st62 hQ62
    rw [l62, y62, z62] at X62
    obtain ⟨hv62, N62q, e62⟩ := hQ62
    have N62 := Fr.app N57 N62q
    have hf62 : f1 w_START_OBJECT w_START_OBJECT w_END_OBJECT w_START_ARRAY w_END_ARRAY w_NAME w_STRING w_INTEGER w_DECIMAL w_TRUE w_FALSE w_NULL = (0 : Int32) := by unfold f1; rw [if_neg (Fld.ne ((World.ext Ol57.2 W).2.2.2.2.2.2.2.2.2.2.2.2.2.2.2.2.2.2.2.2.2.2.1) ((World.ext Ol57.2 W).2.2.2.2.2.2.2.2.2.2.2.2.2.2.2.2.2.2.2.2.2.2.2.2.2.2.2.2.1) (by decide) : ¬ (w_START_OBJECT = w_INTEGER)), if_neg (Fld.ne ((World.ext Ol57.2 W).2.2.2.2.2.2.2.2.2.2.2.2.2.2.2.2.2.2.2.2.2.2.1) ((World.ext Ol57.2 W).2.2.2.2.2.2.2.2.2.2.2.2.2.2.2.2.2.2.2.2.2.2.2.2.2.2.2.2.2.1) (by decide) : ¬ (w_START_OBJECT = w_DECIMAL))]
    rw [hf62] at hv62
    subst hv62
    obtain ⟨cl64, Ar64, qa64, Sa64, Na64, Ha64, Ga64⟩ := V57
    have hin64 : ¬ ((0 : Int32) < 0 ∨ cl64.slots.size ≤ ((0 : Int32)).toNatClampNeg) := inb_of Sa64 ⟨by decide, by decide⟩
    have hat64 : cl64.slots[((0 : Int32)).toNatClampNeg]? = some (.int (0 : Int32)) := Has.at Ha64 hin64 rfl
    obtain ⟨fs, hr, hrun, hended, hW, hsame⟩ := X62.leave (v := some (.int (1 : Int32))) (fun h => by rw [Bd.returns] at h; cases h)
    refine ⟨_, _, pre0 _ (sg58 _ (sg59 _ (sg63 _ ?_))), hrun, hended, _, _, rfl, ?_, ⟨_, rfl⟩, hW, hsame.mono (by decide) (by decide)⟩
    · show Steps p.tables e below (T57.setTop (mkF m 142 #[.val (.int x0_0), .val (.ref b1), .val (.ref b35), .val (.int (0 : Int32))] [(.ref w_START_OBJECT)])) _
      refine st62.trans ?_
      show Steps p.tables e below (T62.setTop (mkF m 145 #[.val (.int x0_0), .val (.ref b1), .val (.ref b35), .val (.int (0 : Int32))] [(.int (0 : Int32))])) _
      refine XS.aloadN X62.here hx rfl (hb hby at_145) rfl rfl ?_
      show Steps p.tables e below (T62.setTop (mkF m 146 #[.val (.int x0_0), .val (.ref b1), .val (.ref b35), .val (.int (0 : Int32))] [(.ref b35), (.int (0 : Int32))])) _
      refine XS.iloadN X62.here hx rfl (hb hby at_146) rfl ?_
      show Steps p.tables e below (T62.setTop (mkF m 147 #[.val (.int x0_0), .val (.ref b1), .val (.ref b35), .val (.int (0 : Int32))] [(.int (0 : Int32)), (.ref b35), (.int (0 : Int32))])) _
      refine X62.baloadBooleans hx (j := (0 : Int32)) (v := (.int (0 : Int32))) (by rw [e62]; exact Ar64.1) (State.isArrayOf_alike hZ.alike Ar64.2.1) Ar64.2.2 hin64 hat64 (g := (mkF m 147 #[.val (.int x0_0), .val (.ref b1), .val (.ref b35), .val (.int (0 : Int32))] [(.int (0 : Int32)), (.ref b35), (.int (0 : Int32))])) rfl rfl (hb hby at_147) _ ?_
      show Steps p.tables e below (T62.setTop (mkF m 148 #[.val (.int x0_0), .val (.ref b1), .val (.ref b35), .val (.int (0 : Int32))] [(.int (0 : Int32)), (.int (0 : Int32))])) _
      refine XS.icmpNo X62.here hx rfl (hb hby at_148) rfl (teq (by decide : ((0 : Int32) = (0 : Int32)))).2 ?_
      show Steps p.tables e below (T62.setTop (mkF m 151 #[.val (.int x0_0), .val (.ref b1), .val (.ref b35), .val (.int (0 : Int32))] [])) _
      refine XS.iconst X62.here hx rfl (hb hby at_151) ?_
      show Steps p.tables e below (T62.setTop (mkF m 152 #[.val (.int x0_0), .val (.ref b1), .val (.ref b35), .val (.int (0 : Int32))] [(.int (1 : Int32))])) _
      refine XS.goto X62.here hx rfl (pc0 := 152) (pc' := 156) rfl (hb hby at_152) (by decide) (by decide) ?_
      show Steps p.tables e below (T62.setTop (mkF m 156 #[.val (.int x0_0), .val (.ref b1), .val (.ref b35), .val (.int (0 : Int32))] [(.int (1 : Int32))])) _
      exact retN X62 hx (t := .boolean) Bd.returns (by simp) (hb hby at_156) hr
    · show Q0 Z x0_0 w_START_OBJECT w_END_OBJECT w_START_ARRAY w_END_ARRAY w_NAME w_STRING w_INTEGER w_DECIMAL w_TRUE w_FALSE w_NULL h0 n0 _ T62.heap _
      rw [e62]
      exact ⟨rfl, N62⟩
  · by_cases hc141_1 : v138 = (1 : Int32)
    · subst hc141_1
      have c65 := (Arv.other (Arv.other (Arv.other (Arv.other (Arv.other (Arv.other (Arv.other (Arv.other (Arv.other (Arv.other (Arv.other (V34.ext E35) W37 ne_b1_b35) W39 ne_b1_b35) W41 ne_b1_b35) W43 ne_b1_b35) W45 ne_b1_b35) W47 ne_b1_b35) W49 ne_b1_b35) W51 ne_b1_b35) W53 ne_b1_b35) W55 ne_b1_b35) W57 ne_b1_b35)
      obtain ⟨cl66, Ar66, qa66, Sa66, Na66, Ha66, Ga66⟩ := c65
      have hin66 : ¬ ((1 : Int32) < 0 ∨ cl66.slots.size ≤ ((1 : Int32)).toNatClampNeg) := inb_of Sa66 ⟨by decide, by decide⟩
      have hat66 : cl66.slots[((1 : Int32)).toNatClampNeg]? = some (.ref w_END_OBJECT) := Has.at Ha66 hin66 rfl
      have sg68 : ∀ t, Steps p.tables e below (T57.setTop (mkF m 142 #[.val (.int x0_0), .val (.ref b1), .val (.ref b35), .val (.int (1 : Int32))] [(.ref w_END_OBJECT)])) t → Steps p.tables e below (T57.setTop (mkF m 141 #[.val (.int x0_0), .val (.ref b1), .val (.ref b35), .val (.int (1 : Int32))] [(.int (1 : Int32)), (.ref b1)])) t := fun t kt => by
        show Steps p.tables e below (T57.setTop (mkF m 141 #[.val (.int x0_0), .val (.ref b1), .val (.ref b35), .val (.int (1 : Int32))] [(.int (1 : Int32)), (.ref b1)])) _
        refine X57.aaload hx (j := (1 : Int32)) (v := (.ref w_END_OBJECT)) (by rw [e57]; exact Ar66.1) (State.isArrayOf_alike hZ.alike Ar66.2.1) rfl Ar66.2.2 hin66 hat66 (g := (mkF m 141 #[.val (.int x0_0), .val (.ref b1), .val (.ref b35), .val (.int (1 : Int32))] [(.int (1 : Int32)), (.ref b1)])) rfl rfl (hb hby at_141) _ ?_
        exact kt
      obtain ⟨cq67, kq67, q67a, q67b, q67c⟩ := isOf hZ e57 ((World.ext Ol57.2 W).2.2.2.2.2.2.2.2.2.2.2.2.1)
      obtain ⟨rv67, _, ⟨T67, L67, k67, n67⟩, -, X67, ⟨Lc67, hQ67, l67, y67, z67⟩, st67⟩ := X57.virtualBack hx (y := (⟨"com/example/graticule/graticule/storage/JsonScanner$Token", "isNumber", "()Z"⟩ : MethodName)) (z := (⟨"com/example/graticule/graticule/storage/JsonScanner$Token", "isNumber", "()Z"⟩ : MethodName)) hown (mvT hZ (hw _ (List.mem_of_getElem? (i := 28) rfl))) (mvT hZ (hw _ (List.mem_of_getElem? (i := 29) rfl))) (notFace_of_selects (args := #[]) (mvT hZ (hw _ (List.mem_of_getElem? (i := 31) rfl)))) (mvT hZ (hw _ (List.mem_of_getElem? (i := 31) rfl))) (mvT hZ (hw _ (List.mem_of_getElem? (i := 30) rfl))) (by decide) (backOf (W := 0) (rm1 l Z a0 hw [] w_END_OBJECT w_START_OBJECT w_END_OBJECT w_START_ARRAY w_END_ARRAY w_NAME w_STRING w_INTEGER w_DECIMAL w_TRUE w_FALSE w_NULL h57 n0 Zs57 (World.ext Ol57.2 W)) hZ (hw _ (List.mem_of_getElem? (i := 32) rfl)) (hw _ (List.mem_of_getElem? (i := 3) rfl)) (by decide) (by decide)) q67a q67c (g := (mkF m 142 #[.val (.int x0_0), .val (.ref b1), .val (.ref b35), .val (.int (1 : Int32))] [(.ref w_END_OBJECT)])) rfl (by rw [hml]; rfl) (Steps.refl _) (argsL := []) (rest := []) (lenOf pd_0 rfl) rfl (by show 2 * 0 + _ ≤ _; exact Nat.le_of_eq rfl) (hb hby at_142) (fun _ _ => ⟨rfl, e57, (by decide : 2 + 0 ≤ _), (by decide : 22 + 0 ≤ _)⟩)
      dsimp only [Pt.U, Pt.locs, Pt.cells, Pt.slots] at X67 l67 y67 z67 st67 hQ67
      rw [l67, y67, z67] at X67
      obtain ⟨hv67, N67q, e67⟩ := hQ67
      have N67 := Fr.app N57 N67q
      have hf67 : f1 w_END_OBJECT w_START_OBJECT w_END_OBJECT w_START_ARRAY w_END_ARRAY w_NAME w_STRING w_INTEGER w_DECIMAL w_TRUE w_FALSE w_NULL = (0 : Int32) := by unfold f1; rw [if_neg (Fld.ne ((World.ext Ol57.2 W).2.2.2.2.2.2.2.2.2.2.2.2.2.2.2.2.2.2.2.2.2.2.2.1) ((World.ext Ol57.2 W).2.2.2.2.2.2.2.2.2.2.2.2.2.2.2.2.2.2.2.2.2.2.2.2.2.2.2.2.1) (by decide) : ¬ (w_END_OBJECT = w_INTEGER)), if_neg (Fld.ne ((World.ext Ol57.2 W).2.2.2.2.2.2.2.2.2.2.2.2.2.2.2.2.2.2.2.2.2.2.2.1) ((World.ext Ol57.2 W).2.2.2.2.2.2.2.2.2.2.2.2.2.2.2.2.2.2.2.2.2.2.2.2.2.2.2.2.2.1) (by decide) : ¬ (w_END_OBJECT = w_DECIMAL))]
      rw [hf67] at hv67
      subst hv67
      obtain ⟨cl69, Ar69, qa69, Sa69, Na69, Ha69, Ga69⟩ := V57
      have hin69 : ¬ ((1 : Int32) < 0 ∨ cl69.slots.size ≤ ((1 : Int32)).toNatClampNeg) := inb_of Sa69 ⟨by decide, by decide⟩
      have hat69 : cl69.slots[((1 : Int32)).toNatClampNeg]? = some (.int (0 : Int32)) := Has.at Ha69 hin69 rfl
      obtain ⟨fs, hr, hrun, hended, hW, hsame⟩ := X67.leave (v := some (.int (1 : Int32))) (fun h => by rw [Bd.returns] at h; cases h)
      refine ⟨_, _, pre0 _ (sg58 _ (sg59 _ (sg68 _ ?_))), hrun, hended, _, _, rfl, ?_, ⟨_, rfl⟩, hW, hsame.mono (by decide) (by decide)⟩
      · show Steps p.tables e below (T57.setTop (mkF m 142 #[.val (.int x0_0), .val (.ref b1), .val (.ref b35), .val (.int (1 : Int32))] [(.ref w_END_OBJECT)])) _
        refine st67.trans ?_
        show Steps p.tables e below (T67.setTop (mkF m 145 #[.val (.int x0_0), .val (.ref b1), .val (.ref b35), .val (.int (1 : Int32))] [(.int (0 : Int32))])) _
        refine XS.aloadN X67.here hx rfl (hb hby at_145) rfl rfl ?_
        show Steps p.tables e below (T67.setTop (mkF m 146 #[.val (.int x0_0), .val (.ref b1), .val (.ref b35), .val (.int (1 : Int32))] [(.ref b35), (.int (0 : Int32))])) _
        refine XS.iloadN X67.here hx rfl (hb hby at_146) rfl ?_
        show Steps p.tables e below (T67.setTop (mkF m 147 #[.val (.int x0_0), .val (.ref b1), .val (.ref b35), .val (.int (1 : Int32))] [(.int (1 : Int32)), (.ref b35), (.int (0 : Int32))])) _
        refine X67.baloadBooleans hx (j := (1 : Int32)) (v := (.int (0 : Int32))) (by rw [e67]; exact Ar69.1) (State.isArrayOf_alike hZ.alike Ar69.2.1) Ar69.2.2 hin69 hat69 (g := (mkF m 147 #[.val (.int x0_0), .val (.ref b1), .val (.ref b35), .val (.int (1 : Int32))] [(.int (1 : Int32)), (.ref b35), (.int (0 : Int32))])) rfl rfl (hb hby at_147) _ ?_
        show Steps p.tables e below (T67.setTop (mkF m 148 #[.val (.int x0_0), .val (.ref b1), .val (.ref b35), .val (.int (1 : Int32))] [(.int (0 : Int32)), (.int (0 : Int32))])) _
        refine XS.icmpNo X67.here hx rfl (hb hby at_148) rfl (teq (by decide : ((0 : Int32) = (0 : Int32)))).2 ?_
        show Steps p.tables e below (T67.setTop (mkF m 151 #[.val (.int x0_0), .val (.ref b1), .val (.ref b35), .val (.int (1 : Int32))] [])) _
        refine XS.iconst X67.here hx rfl (hb hby at_151) ?_
        show Steps p.tables e below (T67.setTop (mkF m 152 #[.val (.int x0_0), .val (.ref b1), .val (.ref b35), .val (.int (1 : Int32))] [(.int (1 : Int32))])) _
        refine XS.goto X67.here hx rfl (pc0 := 152) (pc' := 156) rfl (hb hby at_152) (by decide) (by decide) ?_
        show Steps p.tables e below (T67.setTop (mkF m 156 #[.val (.int x0_0), .val (.ref b1), .val (.ref b35), .val (.int (1 : Int32))] [(.int (1 : Int32))])) _
        exact retN X67 hx (t := .boolean) Bd.returns (by simp) (hb hby at_156) hr
      · show Q0 Z x0_0 w_START_OBJECT w_END_OBJECT w_START_ARRAY w_END_ARRAY w_NAME w_STRING w_INTEGER w_DECIMAL w_TRUE w_FALSE w_NULL h0 n0 _ T67.heap _
        rw [e67]
        exact ⟨rfl, N67⟩
    · by_cases hc141_2 : v138 = (2 : Int32)
      · subst hc141_2
        have c70 := (Arv.other (Arv.other (Arv.other (Arv.other (Arv.other (Arv.other (Arv.other (Arv.other (Arv.other (Arv.other (Arv.other (V34.ext E35) W37 ne_b1_b35) W39 ne_b1_b35) W41 ne_b1_b35) W43 ne_b1_b35) W45 ne_b1_b35) W47 ne_b1_b35) W49 ne_b1_b35) W51 ne_b1_b35) W53 ne_b1_b35) W55 ne_b1_b35) W57 ne_b1_b35)
        obtain ⟨cl71, Ar71, qa71, Sa71, Na71, Ha71, Ga71⟩ := c70
        have hin71 : ¬ ((2 : Int32) < 0 ∨ cl71.slots.size ≤ ((2 : Int32)).toNatClampNeg) := inb_of Sa71 ⟨by decide, by decide⟩
        have hat71 : cl71.slots[((2 : Int32)).toNatClampNeg]? = some (.ref w_START_ARRAY) := Has.at Ha71 hin71 rfl
        have sg73 : ∀ t, Steps p.tables e below (T57.setTop (mkF m 142 #[.val (.int x0_0), .val (.ref b1), .val (.ref b35), .val (.int (2 : Int32))] [(.ref w_START_ARRAY)])) t → Steps p.tables e below (T57.setTop (mkF m 141 #[.val (.int x0_0), .val (.ref b1), .val (.ref b35), .val (.int (2 : Int32))] [(.int (2 : Int32)), (.ref b1)])) t := fun t kt => by
          show Steps p.tables e below (T57.setTop (mkF m 141 #[.val (.int x0_0), .val (.ref b1), .val (.ref b35), .val (.int (2 : Int32))] [(.int (2 : Int32)), (.ref b1)])) _
          refine X57.aaload hx (j := (2 : Int32)) (v := (.ref w_START_ARRAY)) (by rw [e57]; exact Ar71.1) (State.isArrayOf_alike hZ.alike Ar71.2.1) rfl Ar71.2.2 hin71 hat71 (g := (mkF m 141 #[.val (.int x0_0), .val (.ref b1), .val (.ref b35), .val (.int (2 : Int32))] [(.int (2 : Int32)), (.ref b1)])) rfl rfl (hb hby at_141) _ ?_
          exact kt
        obtain ⟨cq72, kq72, q72a, q72b, q72c⟩ := isOf hZ e57 ((World.ext Ol57.2 W).2.2.2.2.2.2.2.2.2.2.2.2.2.1)
        obtain ⟨rv72, _, ⟨T72, L72, k72, n72⟩, -, X72, ⟨Lc72, hQ72, l72, y72, z72⟩, st72⟩ := X57.virtualBack hx (y := (⟨"com/example/graticule/graticule/storage/JsonScanner$Token", "isNumber", "()Z"⟩ : MethodName)) (z := (⟨"com/example/graticule/graticule/storage/JsonScanner$Token", "isNumber", "()Z"⟩ : MethodName)) hown (mvT hZ (hw _ (List.mem_of_getElem? (i := 28) rfl))) (mvT hZ (hw _ (List.mem_of_getElem? (i := 29) rfl))) (notFace_of_selects (args := #[]) (mvT hZ (hw _ (List.mem_of_getElem? (i := 31) rfl)))) (mvT hZ (hw _ (List.mem_of_getElem? (i := 31) rfl))) (mvT hZ (hw _ (List.mem_of_getElem? (i := 30) rfl))) (by decide) (backOf (W := 0) (rm1 l Z a0 hw [] w_START_ARRAY w_START_OBJECT w_END_OBJECT w_START_ARRAY w_END_ARRAY w_NAME w_STRING w_INTEGER w_DECIMAL w_TRUE w_FALSE w_NULL h57 n0 Zs57 (World.ext Ol57.2 W)) hZ (hw _ (List.mem_of_getElem? (i := 32) rfl)) (hw _ (List.mem_of_getElem? (i := 3) rfl)) (by decide) (by decide)) q72a q72c (g := (mkF m 142 #[.val (.int x0_0), .val (.ref b1), .val (.ref b35), .val (.int (2 : Int32))] [(.ref w_START_ARRAY)])) rfl (by rw [hml]; rfl) (Steps.refl _) (argsL := []) (rest := []) (lenOf pd_0 rfl) rfl (by show 2 * 0 + _ ≤ _; exact Nat.le_of_eq rfl) (hb hby at_142) (fun _ _ => ⟨rfl, e57, (by decide : 2 + 0 ≤ _), (by decide : 22 + 0 ≤ _)⟩)
        dsimp only [Pt.U, Pt.locs, Pt.cells, Pt.slots] at X72 l72 y72 z72 st72 hQ72
        rw [l72, y72, z72] at X72
        obtain ⟨hv72, N72q, e72⟩ := hQ72
        have N72 := Fr.app N57 N72q
        have hf72 : f1 w_START_ARRAY w_START_OBJECT w_END_OBJECT w_START_ARRAY w_END_ARRAY w_NAME w_STRING w_INTEGER w_DECIMAL w_TRUE w_FALSE w_NULL = (0 : Int32) := by unfold f1; rw [if_neg (Fld.ne ((World.ext Ol57.2 W).2.2.2.2.2.2.2.2.2.2.2.2.2.2.2.2.2.2.2.2.2.2.2.2.1) ((World.ext Ol57.2 W).2.2.2.2.2.2.2.2.2.2.2.2.2.2.2.2.2.2.2.2.2.2.2.2.2.2.2.2.1) (by decide) : ¬ (w_START_ARRAY = w_INTEGER)), if_neg (Fld.ne ((World.ext Ol57.2 W).2.2.2.2.2.2.2.2.2.2.2.2.2.2.2.2.2.2.2.2.2.2.2.2.1) ((World.ext Ol57.2 W).2.2.2.2.2.2.2.2.2.2.2.2.2.2.2.2.2.2.2.2.2.2.2.2.2.2.2.2.2.1) (by decide) : ¬ (w_START_ARRAY = w_DECIMAL))]
        rw [hf72] at hv72
        subst hv72
        obtain ⟨cl74, Ar74, qa74, Sa74, Na74, Ha74, Ga74⟩ := V57
        have hin74 : ¬ ((2 : Int32) < 0 ∨ cl74.slots.size ≤ ((2 : Int32)).toNatClampNeg) := inb_of Sa74 ⟨by decide, by decide⟩
        have hat74 : cl74.slots[((2 : Int32)).toNatClampNeg]? = some (.int (0 : Int32)) := Has.at Ha74 hin74 rfl
        obtain ⟨fs, hr, hrun, hended, hW, hsame⟩ := X72.leave (v := some (.int (1 : Int32))) (fun h => by rw [Bd.returns] at h; cases h)
        refine ⟨_, _, pre0 _ (sg58 _ (sg59 _ (sg73 _ ?_))), hrun, hended, _, _, rfl, ?_, ⟨_, rfl⟩, hW, hsame.mono (by decide) (by decide)⟩
        · show Steps p.tables e below (T57.setTop (mkF m 142 #[.val (.int x0_0), .val (.ref b1), .val (.ref b35), .val (.int (2 : Int32))] [(.ref w_START_ARRAY)])) _
          refine st72.trans ?_
          show Steps p.tables e below (T72.setTop (mkF m 145 #[.val (.int x0_0), .val (.ref b1), .val (.ref b35), .val (.int (2 : Int32))] [(.int (0 : Int32))])) _
          refine XS.aloadN X72.here hx rfl (hb hby at_145) rfl rfl ?_
          show Steps p.tables e below (T72.setTop (mkF m 146 #[.val (.int x0_0), .val (.ref b1), .val (.ref b35), .val (.int (2 : Int32))] [(.ref b35), (.int (0 : Int32))])) _
          refine XS.iloadN X72.here hx rfl (hb hby at_146) rfl ?_
          show Steps p.tables e below (T72.setTop (mkF m 147 #[.val (.int x0_0), .val (.ref b1), .val (.ref b35), .val (.int (2 : Int32))] [(.int (2 : Int32)), (.ref b35), (.int (0 : Int32))])) _
          refine X72.baloadBooleans hx (j := (2 : Int32)) (v := (.int (0 : Int32))) (by rw [e72]; exact Ar74.1) (State.isArrayOf_alike hZ.alike Ar74.2.1) Ar74.2.2 hin74 hat74 (g := (mkF m 147 #[.val (.int x0_0), .val (.ref b1), .val (.ref b35), .val (.int (2 : Int32))] [(.int (2 : Int32)), (.ref b35), (.int (0 : Int32))])) rfl rfl (hb hby at_147) _ ?_
          show Steps p.tables e below (T72.setTop (mkF m 148 #[.val (.int x0_0), .val (.ref b1), .val (.ref b35), .val (.int (2 : Int32))] [(.int (0 : Int32)), (.int (0 : Int32))])) _
          refine XS.icmpNo X72.here hx rfl (hb hby at_148) rfl (teq (by decide : ((0 : Int32) = (0 : Int32)))).2 ?_
          show Steps p.tables e below (T72.setTop (mkF m 151 #[.val (.int x0_0), .val (.ref b1), .val (.ref b35), .val (.int (2 : Int32))] [])) _
          refine XS.iconst X72.here hx rfl (hb hby at_151) ?_
          show Steps p.tables e below (T72.setTop (mkF m 152 #[.val (.int x0_0), .val (.ref b1), .val (.ref b35), .val (.int (2 : Int32))] [(.int (1 : Int32))])) _
          refine XS.goto X72.here hx rfl (pc0 := 152) (pc' := 156) rfl (hb hby at_152) (by decide) (by decide) ?_
          show Steps p.tables e below (T72.setTop (mkF m 156 #[.val (.int x0_0), .val (.ref b1), .val (.ref b35), .val (.int (2 : Int32))] [(.int (1 : Int32))])) _
          exact retN X72 hx (t := .boolean) Bd.returns (by simp) (hb hby at_156) hr
        · show Q0 Z x0_0 w_START_OBJECT w_END_OBJECT w_START_ARRAY w_END_ARRAY w_NAME w_STRING w_INTEGER w_DECIMAL w_TRUE w_FALSE w_NULL h0 n0 _ T72.heap _
          rw [e72]
          exact ⟨rfl, N72⟩
      · by_cases hc141_3 : v138 = (3 : Int32)
        · subst hc141_3
          have c75 := (Arv.other (Arv.other (Arv.other (Arv.other (Arv.other (Arv.other (Arv.other (Arv.other (Arv.other (Arv.other (Arv.other (V34.ext E35) W37 ne_b1_b35) W39 ne_b1_b35) W41 ne_b1_b35) W43 ne_b1_b35) W45 ne_b1_b35) W47 ne_b1_b35) W49 ne_b1_b35) W51 ne_b1_b35) W53 ne_b1_b35) W55 ne_b1_b35) W57 ne_b1_b35)
          obtain ⟨cl76, Ar76, qa76, Sa76, Na76, Ha76, Ga76⟩ := c75
          have hin76 : ¬ ((3 : Int32) < 0 ∨ cl76.slots.size ≤ ((3 : Int32)).toNatClampNeg) := inb_of Sa76 ⟨by decide, by decide⟩
          have hat76 : cl76.slots[((3 : Int32)).toNatClampNeg]? = some (.ref w_END_ARRAY) := Has.at Ha76 hin76 rfl
          have sg78 : ∀ t, Steps p.tables e below (T57.setTop (mkF m 142 #[.val (.int x0_0), .val (.ref b1), .val (.ref b35), .val (.int (3 : Int32))] [(.ref w_END_ARRAY)])) t → Steps p.tables e below (T57.setTop (mkF m 141 #[.val (.int x0_0), .val (.ref b1), .val (.ref b35), .val (.int (3 : Int32))] [(.int (3 : Int32)), (.ref b1)])) t := fun t kt => by
            show Steps p.tables e below (T57.setTop (mkF m 141 #[.val (.int x0_0), .val (.ref b1), .val (.ref b35), .val (.int (3 : Int32))] [(.int (3 : Int32)), (.ref b1)])) _
            refine X57.aaload hx (j := (3 : Int32)) (v := (.ref w_END_ARRAY)) (by rw [e57]; exact Ar76.1) (State.isArrayOf_alike hZ.alike Ar76.2.1) rfl Ar76.2.2 hin76 hat76 (g := (mkF m 141 #[.val (.int x0_0), .val (.ref b1), .val (.ref b35), .val (.int (3 : Int32))] [(.int (3 : Int32)), (.ref b1)])) rfl rfl (hb hby at_141) _ ?_
            exact kt
          obtain ⟨cq77, kq77, q77a, q77b, q77c⟩ := isOf hZ e57 ((World.ext Ol57.2 W).2.2.2.2.2.2.2.2.2.2.2.2.2.2.1)
          obtain ⟨rv77, _, ⟨T77, L77, k77, n77⟩, -, X77, ⟨Lc77, hQ77, l77, y77, z77⟩, st77⟩ := X57.virtualBack hx (y := (⟨"com/example/graticule/graticule/storage/JsonScanner$Token", "isNumber", "()Z"⟩ : MethodName)) (z := (⟨"com/example/graticule/graticule/storage/JsonScanner$Token", "isNumber", "()Z"⟩ : MethodName)) hown (mvT hZ (hw _ (List.mem_of_getElem? (i := 28) rfl))) (mvT hZ (hw _ (List.mem_of_getElem? (i := 29) rfl))) (notFace_of_selects (args := #[]) (mvT hZ (hw _ (List.mem_of_getElem? (i := 31) rfl)))) (mvT hZ (hw _ (List.mem_of_getElem? (i := 31) rfl))) (mvT hZ (hw _ (List.mem_of_getElem? (i := 30) rfl))) (by decide) (backOf (W := 0) (rm1 l Z a0 hw [] w_END_ARRAY w_START_OBJECT w_END_OBJECT w_START_ARRAY w_END_ARRAY w_NAME w_STRING w_INTEGER w_DECIMAL w_TRUE w_FALSE w_NULL h57 n0 Zs57 (World.ext Ol57.2 W)) hZ (hw _ (List.mem_of_getElem? (i := 32) rfl)) (hw _ (List.mem_of_getElem? (i := 3) rfl)) (by decide) (by decide)) q77a q77c (g := (mkF m 142 #[.val (.int x0_0), .val (.ref b1), .val (.ref b35), .val (.int (3 : Int32))] [(.ref w_END_ARRAY)])) rfl (by rw [hml]; rfl) (Steps.refl _) (argsL := []) (rest := []) (lenOf pd_0 rfl) rfl (by show 2 * 0 + _ ≤ _; exact Nat.le_of_eq rfl) (hb hby at_142) (fun _ _ => ⟨rfl, e57, (by decide : 2 + 0 ≤ _), (by decide : 22 + 0 ≤ _)⟩)
          dsimp only [Pt.U, Pt.locs, Pt.cells, Pt.slots] at X77 l77 y77 z77 st77 hQ77
          rw [l77, y77, z77] at X77
          obtain ⟨hv77, N77q, e77⟩ := hQ77
          have N77 := Fr.app N57 N77q
          have hf77 : f1 w_END_ARRAY w_START_OBJECT w_END_OBJECT w_START_ARRAY w_END_ARRAY w_NAME w_STRING w_INTEGER w_DECIMAL w_TRUE w_FALSE w_NULL = (0 : Int32) := by unfold f1; rw [if_neg (Fld.ne ((World.ext Ol57.2 W).2.2.2.2.2.2.2.2.2.2.2.2.2.2.2.2.2.2.2.2.2.2.2.2.2.1) ((World.ext Ol57.2 W).2.2.2.2.2.2.2.2.2.2.2.2.2.2.2.2.2.2.2.2.2.2.2.2.2.2.2.2.1) (by decide) : ¬ (w_END_ARRAY = w_INTEGER)), if_neg (Fld.ne ((World.ext Ol57.2 W).2.2.2.2.2.2.2.2.2.2.2.2.2.2.2.2.2.2.2.2.2.2.2.2.2.1) ((World.ext Ol57.2 W).2.2.2.2.2.2.2.2.2.2.2.2.2.2.2.2.2.2.2.2.2.2.2.2.2.2.2.2.2.1) (by decide) : ¬ (w_END_ARRAY = w_DECIMAL))]
          rw [hf77] at hv77
          subst hv77
          obtain ⟨cl79, Ar79, qa79, Sa79, Na79, Ha79, Ga79⟩ := V57
          have hin79 : ¬ ((3 : Int32) < 0 ∨ cl79.slots.size ≤ ((3 : Int32)).toNatClampNeg) := inb_of Sa79 ⟨by decide, by decide⟩
          have hat79 : cl79.slots[((3 : Int32)).toNatClampNeg]? = some (.int (0 : Int32)) := Has.at Ha79 hin79 rfl
          obtain ⟨fs, hr, hrun, hended, hW, hsame⟩ := X77.leave (v := some (.int (1 : Int32))) (fun h => by rw [Bd.returns] at h; cases h)
          refine ⟨_, _, pre0 _ (sg58 _ (sg59 _ (sg78 _ ?_))), hrun, hended, _, _, rfl, ?_, ⟨_, rfl⟩, hW, hsame.mono (by decide) (by decide)⟩
          · show Steps p.tables e below (T57.setTop (mkF m 142 #[.val (.int x0_0), .val (.ref b1), .val (.ref b35), .val (.int (3 : Int32))] [(.ref w_END_ARRAY)])) _
            refine st77.trans ?_
            show Steps p.tables e below (T77.setTop (mkF m 145 #[.val (.int x0_0), .val (.ref b1), .val (.ref b35), .val (.int (3 : Int32))] [(.int (0 : Int32))])) _
            refine XS.aloadN X77.here hx rfl (hb hby at_145) rfl rfl ?_
            show Steps p.tables e below (T77.setTop (mkF m 146 #[.val (.int x0_0), .val (.ref b1), .val (.ref b35), .val (.int (3 : Int32))] [(.ref b35), (.int (0 : Int32))])) _
            refine XS.iloadN X77.here hx rfl (hb hby at_146) rfl ?_
            show Steps p.tables e below (T77.setTop (mkF m 147 #[.val (.int x0_0), .val (.ref b1), .val (.ref b35), .val (.int (3 : Int32))] [(.int (3 : Int32)), (.ref b35), (.int (0 : Int32))])) _
            refine X77.baloadBooleans hx (j := (3 : Int32)) (v := (.int (0 : Int32))) (by rw [e77]; exact Ar79.1) (State.isArrayOf_alike hZ.alike Ar79.2.1) Ar79.2.2 hin79 hat79 (g := (mkF m 147 #[.val (.int x0_0), .val (.ref b1), .val (.ref b35), .val (.int (3 : Int32))] [(.int (3 : Int32)), (.ref b35), (.int (0 : Int32))])) rfl rfl (hb hby at_147) _ ?_
            show Steps p.tables e below (T77.setTop (mkF m 148 #[.val (.int x0_0), .val (.ref b1), .val (.ref b35), .val (.int (3 : Int32))] [(.int (0 : Int32)), (.int (0 : Int32))])) _
            refine XS.icmpNo X77.here hx rfl (hb hby at_148) rfl (teq (by decide : ((0 : Int32) = (0 : Int32)))).2 ?_
            show Steps p.tables e below (T77.setTop (mkF m 151 #[.val (.int x0_0), .val (.ref b1), .val (.ref b35), .val (.int (3 : Int32))] [])) _
            refine XS.iconst X77.here hx rfl (hb hby at_151) ?_
            show Steps p.tables e below (T77.setTop (mkF m 152 #[.val (.int x0_0), .val (.ref b1), .val (.ref b35), .val (.int (3 : Int32))] [(.int (1 : Int32))])) _
            refine XS.goto X77.here hx rfl (pc0 := 152) (pc' := 156) rfl (hb hby at_152) (by decide) (by decide) ?_
            show Steps p.tables e below (T77.setTop (mkF m 156 #[.val (.int x0_0), .val (.ref b1), .val (.ref b35), .val (.int (3 : Int32))] [(.int (1 : Int32))])) _
            exact retN X77 hx (t := .boolean) Bd.returns (by simp) (hb hby at_156) hr
          · show Q0 Z x0_0 w_START_OBJECT w_END_OBJECT w_START_ARRAY w_END_ARRAY w_NAME w_STRING w_INTEGER w_DECIMAL w_TRUE w_FALSE w_NULL h0 n0 _ T77.heap _
            rw [e77]
            exact ⟨rfl, N77⟩
        · by_cases hc141_4 : v138 = (4 : Int32)
          · subst hc141_4
            have c80 := (Arv.other (Arv.other (Arv.other (Arv.other (Arv.other (Arv.other (Arv.other (Arv.other (Arv.other (Arv.other (Arv.other (V34.ext E35) W37 ne_b1_b35) W39 ne_b1_b35) W41 ne_b1_b35) W43 ne_b1_b35) W45 ne_b1_b35) W47 ne_b1_b35) W49 ne_b1_b35) W51 ne_b1_b35) W53 ne_b1_b35) W55 ne_b1_b35) W57 ne_b1_b35)
            obtain ⟨cl81, Ar81, qa81, Sa81, Na81, Ha81, Ga81⟩ := c80
            have hin81 : ¬ ((4 : Int32) < 0 ∨ cl81.slots.size ≤ ((4 : Int32)).toNatClampNeg) := inb_of Sa81 ⟨by decide, by decide⟩
            have hat81 : cl81.slots[((4 : Int32)).toNatClampNeg]? = some (.ref w_NAME) := Has.at Ha81 hin81 rfl
            have sg83 : ∀ t, Steps p.tables e below (T57.setTop (mkF m 142 #[.val (.int x0_0), .val (.ref b1), .val (.ref b35), .val (.int (4 : Int32))] [(.ref w_NAME)])) t → Steps p.tables e below (T57.setTop (mkF m 141 #[.val (.int x0_0), .val (.ref b1), .val (.ref b35), .val (.int (4 : Int32))] [(.int (4 : Int32)), (.ref b1)])) t := fun t kt => by
              show Steps p.tables e below (T57.setTop (mkF m 141 #[.val (.int x0_0), .val (.ref b1), .val (.ref b35), .val (.int (4 : Int32))] [(.int (4 : Int32)), (.ref b1)])) _
              refine X57.aaload hx (j := (4 : Int32)) (v := (.ref w_NAME)) (by rw [e57]; exact Ar81.1) (State.isArrayOf_alike hZ.alike Ar81.2.1) rfl Ar81.2.2 hin81 hat81 (g := (mkF m 141 #[.val (.int x0_0), .val (.ref b1), .val (.ref b35), .val (.int (4 : Int32))] [(.int (4 : Int32)), (.ref b1)])) rfl rfl (hb hby at_141) _ ?_
              exact kt
            obtain ⟨cq82, kq82, q82a, q82b, q82c⟩ := isOf hZ e57 ((World.ext Ol57.2 W).2.2.2.2.2.2.2.2.2.2.2.2.2.2.2.1)
            obtain ⟨rv82, _, ⟨T82, L82, k82, n82⟩, -, X82, ⟨Lc82, hQ82, l82, y82, z82⟩, st82⟩ := X57.virtualBack hx (y := (⟨"com/example/graticule/graticule/storage/JsonScanner$Token", "isNumber", "()Z"⟩ : MethodName)) (z := (⟨"com/example/graticule/graticule/storage/JsonScanner$Token", "isNumber", "()Z"⟩ : MethodName)) hown (mvT hZ (hw _ (List.mem_of_getElem? (i := 28) rfl))) (mvT hZ (hw _ (List.mem_of_getElem? (i := 29) rfl))) (notFace_of_selects (args := #[]) (mvT hZ (hw _ (List.mem_of_getElem? (i := 31) rfl)))) (mvT hZ (hw _ (List.mem_of_getElem? (i := 31) rfl))) (mvT hZ (hw _ (List.mem_of_getElem? (i := 30) rfl))) (by decide) (backOf (W := 0) (rm1 l Z a0 hw [] w_NAME w_START_OBJECT w_END_OBJECT w_START_ARRAY w_END_ARRAY w_NAME w_STRING w_INTEGER w_DECIMAL w_TRUE w_FALSE w_NULL h57 n0 Zs57 (World.ext Ol57.2 W)) hZ (hw _ (List.mem_of_getElem? (i := 32) rfl)) (hw _ (List.mem_of_getElem? (i := 3) rfl)) (by decide) (by decide)) q82a q82c (g := (mkF m 142 #[.val (.int x0_0), .val (.ref b1), .val (.ref b35), .val (.int (4 : Int32))] [(.ref w_NAME)])) rfl (by rw [hml]; rfl) (Steps.refl _) (argsL := []) (rest := []) (lenOf pd_0 rfl) rfl (by show 2 * 0 + _ ≤ _; exact Nat.le_of_eq rfl) (hb hby at_142) (fun _ _ => ⟨rfl, e57, (by decide : 2 + 0 ≤ _), (by decide : 22 + 0 ≤ _)⟩)
            dsimp only [Pt.U, Pt.locs, Pt.cells, Pt.slots] at X82 l82 y82 z82 st82 hQ82
            rw [l82, y82, z82] at X82
            obtain ⟨hv82, N82q, e82⟩ := hQ82
            have N82 := Fr.app N57 N82q
            have hf82 : f1 w_NAME w_START_OBJECT w_END_OBJECT w_START_ARRAY w_END_ARRAY w_NAME w_STRING w_INTEGER w_DECIMAL w_TRUE w_FALSE w_NULL = (0 : Int32) := by unfold f1; rw [if_neg (Fld.ne ((World.ext Ol57.2 W).2.2.2.2.2.2.2.2.2.2.2.2.2.2.2.2.2.2.2.2.2.2.2.2.2.2.1) ((World.ext Ol57.2 W).2.2.2.2.2.2.2.2.2.2.2.2.2.2.2.2.2.2.2.2.2.2.2.2.2.2.2.2.1) (by decide) : ¬ (w_NAME = w_INTEGER)), if_neg (Fld.ne ((World.ext Ol57.2 W).2.2.2.2.2.2.2.2.2.2.2.2.2.2.2.2.2.2.2.2.2.2.2.2.2.2.1) ((World.ext Ol57.2 W).2.2.2.2.2.2.2.2.2.2.2.2.2.2.2.2.2.2.2.2.2.2.2.2.2.2.2.2.2.1) (by decide) : ¬ (w_NAME = w_DECIMAL))]
            rw [hf82] at hv82
            subst hv82
            obtain ⟨cl84, Ar84, qa84, Sa84, Na84, Ha84, Ga84⟩ := V57
            have hin84 : ¬ ((4 : Int32) < 0 ∨ cl84.slots.size ≤ ((4 : Int32)).toNatClampNeg) := inb_of Sa84 ⟨by decide, by decide⟩
            have hat84 : cl84.slots[((4 : Int32)).toNatClampNeg]? = some (.int (0 : Int32)) := Has.at Ha84 hin84 rfl
            obtain ⟨fs, hr, hrun, hended, hW, hsame⟩ := X82.leave (v := some (.int (1 : Int32))) (fun h => by rw [Bd.returns] at h; cases h)
            refine ⟨_, _, pre0 _ (sg58 _ (sg59 _ (sg83 _ ?_))), hrun, hended, _, _, rfl, ?_, ⟨_, rfl⟩, hW, hsame.mono (by decide) (by decide)⟩
            · show Steps p.tables e below (T57.setTop (mkF m 142 #[.val (.int x0_0), .val (.ref b1), .val (.ref b35), .val (.int (4 : Int32))] [(.ref w_NAME)])) _
              refine st82.trans ?_
              show Steps p.tables e below (T82.setTop (mkF m 145 #[.val (.int x0_0), .val (.ref b1), .val (.ref b35), .val (.int (4 : Int32))] [(.int (0 : Int32))])) _
              refine XS.aloadN X82.here hx rfl (hb hby at_145) rfl rfl ?_
              show Steps p.tables e below (T82.setTop (mkF m 146 #[.val (.int x0_0), .val (.ref b1), .val (.ref b35), .val (.int (4 : Int32))] [(.ref b35), (.int (0 : Int32))])) _
              refine XS.iloadN X82.here hx rfl (hb hby at_146) rfl ?_
              show Steps p.tables e below (T82.setTop (mkF m 147 #[.val (.int x0_0), .val (.ref b1), .val (.ref b35), .val (.int (4 : Int32))] [(.int (4 : Int32)), (.ref b35), (.int (0 : Int32))])) _
              refine X82.baloadBooleans hx (j := (4 : Int32)) (v := (.int (0 : Int32))) (by rw [e82]; exact Ar84.1) (State.isArrayOf_alike hZ.alike Ar84.2.1) Ar84.2.2 hin84 hat84 (g := (mkF m 147 #[.val (.int x0_0), .val (.ref b1), .val (.ref b35), .val (.int (4 : Int32))] [(.int (4 : Int32)), (.ref b35), (.int (0 : Int32))])) rfl rfl (hb hby at_147) _ ?_
              show Steps p.tables e below (T82.setTop (mkF m 148 #[.val (.int x0_0), .val (.ref b1), .val (.ref b35), .val (.int (4 : Int32))] [(.int (0 : Int32)), (.int (0 : Int32))])) _
              refine XS.icmpNo X82.here hx rfl (hb hby at_148) rfl (teq (by decide : ((0 : Int32) = (0 : Int32)))).2 ?_
              show Steps p.tables e below (T82.setTop (mkF m 151 #[.val (.int x0_0), .val (.ref b1), .val (.ref b35), .val (.int (4 : Int32))] [])) _
              refine XS.iconst X82.here hx rfl (hb hby at_151) ?_
              show Steps p.tables e below (T82.setTop (mkF m 152 #[.val (.int x0_0), .val (.ref b1), .val (.ref b35), .val (.int (4 : Int32))] [(.int (1 : Int32))])) _
              refine XS.goto X82.here hx rfl (pc0 := 152) (pc' := 156) rfl (hb hby at_152) (by decide) (by decide) ?_
              show Steps p.tables e below (T82.setTop (mkF m 156 #[.val (.int x0_0), .val (.ref b1), .val (.ref b35), .val (.int (4 : Int32))] [(.int (1 : Int32))])) _
              exact retN X82 hx (t := .boolean) Bd.returns (by simp) (hb hby at_156) hr
            · show Q0 Z x0_0 w_START_OBJECT w_END_OBJECT w_START_ARRAY w_END_ARRAY w_NAME w_STRING w_INTEGER w_DECIMAL w_TRUE w_FALSE w_NULL h0 n0 _ T82.heap _
              rw [e82]
              exact ⟨rfl, N82⟩
          · by_cases hc141_5 : v138 = (5 : Int32)
            · subst hc141_5
              have c85 := (Arv.other (Arv.other (Arv.other (Arv.other (Arv.other (Arv.other (Arv.other (Arv.other (Arv.other (Arv.other (Arv.other (V34.ext E35) W37 ne_b1_b35) W39 ne_b1_b35) W41 ne_b1_b35) W43 ne_b1_b35) W45 ne_b1_b35) W47 ne_b1_b35) W49 ne_b1_b35) W51 ne_b1_b35) W53 ne_b1_b35) W55 ne_b1_b35) W57 ne_b1_b35)
              obtain ⟨cl86, Ar86, qa86, Sa86, Na86, Ha86, Ga86⟩ := c85
              have hin86 : ¬ ((5 : Int32) < 0 ∨ cl86.slots.size ≤ ((5 : Int32)).toNatClampNeg) := inb_of Sa86 ⟨by decide, by decide⟩
              have hat86 : cl86.slots[((5 : Int32)).toNatClampNeg]? = some (.ref w_STRING) := Has.at Ha86 hin86 rfl
              have sg88 : ∀ t, Steps p.tables e below (T57.setTop (mkF m 142 #[.val (.int x0_0), .val (.ref b1), .val (.ref b35), .val (.int (5 : Int32))] [(.ref w_STRING)])) t → Steps p.tables e below (T57.setTop (mkF m 141 #[.val (.int x0_0), .val (.ref b1), .val (.ref b35), .val (.int (5 : Int32))] [(.int (5 : Int32)), (.ref b1)])) t := fun t kt => by
                show Steps p.tables e below (T57.setTop (mkF m 141 #[.val (.int x0_0), .val (.ref b1), .val (.ref b35), .val (.int (5 : Int32))] [(.int (5 : Int32)), (.ref b1)])) _
                refine X57.aaload hx (j := (5 : Int32)) (v := (.ref w_STRING)) (by rw [e57]; exact Ar86.1) (State.isArrayOf_alike hZ.alike Ar86.2.1) rfl Ar86.2.2 hin86 hat86 (g := (mkF m 141 #[.val (.int x0_0), .val (.ref b1), .val (.ref b35), .val (.int (5 : Int32))] [(.int (5 : Int32)), (.ref b1)])) rfl rfl (hb hby at_141) _ ?_
                exact kt
              obtain ⟨cq87, kq87, q87a, q87b, q87c⟩ := isOf hZ e57 ((World.ext Ol57.2 W).2.2.2.2.2.2.2.2.2.2.2.2.2.2.2.2.1)
              obtain ⟨rv87, _, ⟨T87, L87, k87, n87⟩, -, X87, ⟨Lc87, hQ87, l87, y87, z87⟩, st87⟩ := X57.virtualBack hx (y := (⟨"com/example/graticule/graticule/storage/JsonScanner$Token", "isNumber", "()Z"⟩ : MethodName)) (z := (⟨"com/example/graticule/graticule/storage/JsonScanner$Token", "isNumber", "()Z"⟩ : MethodName)) hown (mvT hZ (hw _ (List.mem_of_getElem? (i := 28) rfl))) (mvT hZ (hw _ (List.mem_of_getElem? (i := 29) rfl))) (notFace_of_selects (args := #[]) (mvT hZ (hw _ (List.mem_of_getElem? (i := 31) rfl)))) (mvT hZ (hw _ (List.mem_of_getElem? (i := 31) rfl))) (mvT hZ (hw _ (List.mem_of_getElem? (i := 30) rfl))) (by decide) (backOf (W := 0) (rm1 l Z a0 hw [] w_STRING w_START_OBJECT w_END_OBJECT w_START_ARRAY w_END_ARRAY w_NAME w_STRING w_INTEGER w_DECIMAL w_TRUE w_FALSE w_NULL h57 n0 Zs57 (World.ext Ol57.2 W)) hZ (hw _ (List.mem_of_getElem? (i := 32) rfl)) (hw _ (List.mem_of_getElem? (i := 3) rfl)) (by decide) (by decide)) q87a q87c (g := (mkF m 142 #[.val (.int x0_0), .val (.ref b1), .val (.ref b35), .val (.int (5 : Int32))] [(.ref w_STRING)])) rfl (by rw [hml]; rfl) (Steps.refl _) (argsL := []) (rest := []) (lenOf pd_0 rfl) rfl (by show 2 * 0 + _ ≤ _; exact Nat.le_of_eq rfl) (hb hby at_142) (fun _ _ => ⟨rfl, e57, (by decide : 2 + 0 ≤ _), (by decide : 22 + 0 ≤ _)⟩)
              dsimp only [Pt.U, Pt.locs, Pt.cells, Pt.slots] at X87 l87 y87 z87 st87 hQ87
              rw [l87, y87, z87] at X87
              obtain ⟨hv87, N87q, e87⟩ := hQ87
              have N87 := Fr.app N57 N87q
              have hf87 : f1 w_STRING w_START_OBJECT w_END_OBJECT w_START_ARRAY w_END_ARRAY w_NAME w_STRING w_INTEGER w_DECIMAL w_TRUE w_FALSE w_NULL = (0 : Int32) := by unfold f1; rw [if_neg (Fld.ne ((World.ext Ol57.2 W).2.2.2.2.2.2.2.2.2.2.2.2.2.2.2.2.2.2.2.2.2.2.2.2.2.2.2.1) ((World.ext Ol57.2 W).2.2.2.2.2.2.2.2.2.2.2.2.2.2.2.2.2.2.2.2.2.2.2.2.2.2.2.2.1) (by decide) : ¬ (w_STRING = w_INTEGER)), if_neg (Fld.ne ((World.ext Ol57.2 W).2.2.2.2.2.2.2.2.2.2.2.2.2.2.2.2.2.2.2.2.2.2.2.2.2.2.2.1) ((World.ext Ol57.2 W).2.2.2.2.2.2.2.2.2.2.2.2.2.2.2.2.2.2.2.2.2.2.2.2.2.2.2.2.2.1) (by decide) : ¬ (w_STRING = w_DECIMAL))]
              rw [hf87] at hv87
              subst hv87
              obtain ⟨cl89, Ar89, qa89, Sa89, Na89, Ha89, Ga89⟩ := V57
              have hin89 : ¬ ((5 : Int32) < 0 ∨ cl89.slots.size ≤ ((5 : Int32)).toNatClampNeg) := inb_of Sa89 ⟨by decide, by decide⟩
              have hat89 : cl89.slots[((5 : Int32)).toNatClampNeg]? = some (.int (0 : Int32)) := Has.at Ha89 hin89 rfl
              obtain ⟨fs, hr, hrun, hended, hW, hsame⟩ := X87.leave (v := some (.int (1 : Int32))) (fun h => by rw [Bd.returns] at h; cases h)
              refine ⟨_, _, pre0 _ (sg58 _ (sg59 _ (sg88 _ ?_))), hrun, hended, _, _, rfl, ?_, ⟨_, rfl⟩, hW, hsame.mono (by decide) (by decide)⟩
              · show Steps p.tables e below (T57.setTop (mkF m 142 #[.val (.int x0_0), .val (.ref b1), .val (.ref b35), .val (.int (5 : Int32))] [(.ref w_STRING)])) _
                refine st87.trans ?_
                show Steps p.tables e below (T87.setTop (mkF m 145 #[.val (.int x0_0), .val (.ref b1), .val (.ref b35), .val (.int (5 : Int32))] [(.int (0 : Int32))])) _
                refine XS.aloadN X87.here hx rfl (hb hby at_145) rfl rfl ?_
                show Steps p.tables e below (T87.setTop (mkF m 146 #[.val (.int x0_0), .val (.ref b1), .val (.ref b35), .val (.int (5 : Int32))] [(.ref b35), (.int (0 : Int32))])) _
                refine XS.iloadN X87.here hx rfl (hb hby at_146) rfl ?_
                show Steps p.tables e below (T87.setTop (mkF m 147 #[.val (.int x0_0), .val (.ref b1), .val (.ref b35), .val (.int (5 : Int32))] [(.int (5 : Int32)), (.ref b35), (.int (0 : Int32))])) _
                refine X87.baloadBooleans hx (j := (5 : Int32)) (v := (.int (0 : Int32))) (by rw [e87]; exact Ar89.1) (State.isArrayOf_alike hZ.alike Ar89.2.1) Ar89.2.2 hin89 hat89 (g := (mkF m 147 #[.val (.int x0_0), .val (.ref b1), .val (.ref b35), .val (.int (5 : Int32))] [(.int (5 : Int32)), (.ref b35), (.int (0 : Int32))])) rfl rfl (hb hby at_147) _ ?_
                show Steps p.tables e below (T87.setTop (mkF m 148 #[.val (.int x0_0), .val (.ref b1), .val (.ref b35), .val (.int (5 : Int32))] [(.int (0 : Int32)), (.int (0 : Int32))])) _
                refine XS.icmpNo X87.here hx rfl (hb hby at_148) rfl (teq (by decide : ((0 : Int32) = (0 : Int32)))).2 ?_
                show Steps p.tables e below (T87.setTop (mkF m 151 #[.val (.int x0_0), .val (.ref b1), .val (.ref b35), .val (.int (5 : Int32))] [])) _
                refine XS.iconst X87.here hx rfl (hb hby at_151) ?_
                show Steps p.tables e below (T87.setTop (mkF m 152 #[.val (.int x0_0), .val (.ref b1), .val (.ref b35), .val (.int (5 : Int32))] [(.int (1 : Int32))])) _
                refine XS.goto X87.here hx rfl (pc0 := 152) (pc' := 156) rfl (hb hby at_152) (by decide) (by decide) ?_
                show Steps p.tables e below (T87.setTop (mkF m 156 #[.val (.int x0_0), .val (.ref b1), .val (.ref b35), .val (.int (5 : Int32))] [(.int (1 : Int32))])) _
                exact retN X87 hx (t := .boolean) Bd.returns (by simp) (hb hby at_156) hr
              · show Q0 Z x0_0 w_START_OBJECT w_END_OBJECT w_START_ARRAY w_END_ARRAY w_NAME w_STRING w_INTEGER w_DECIMAL w_TRUE w_FALSE w_NULL h0 n0 _ T87.heap _
                rw [e87]
                exact ⟨rfl, N87⟩
            · by_cases hc141_6 : v138 = (6 : Int32)
              · subst hc141_6
                have c90 := (Arv.other (Arv.other (Arv.other (Arv.other (Arv.other (Arv.other (Arv.other (Arv.other (Arv.other (Arv.other (Arv.other (V34.ext E35) W37 ne_b1_b35) W39 ne_b1_b35) W41 ne_b1_b35) W43 ne_b1_b35) W45 ne_b1_b35) W47 ne_b1_b35) W49 ne_b1_b35) W51 ne_b1_b35) W53 ne_b1_b35) W55 ne_b1_b35) W57 ne_b1_b35)
                obtain ⟨cl91, Ar91, qa91, Sa91, Na91, Ha91, Ga91⟩ := c90
                have hin91 : ¬ ((6 : Int32) < 0 ∨ cl91.slots.size ≤ ((6 : Int32)).toNatClampNeg) := inb_of Sa91 ⟨by decide, by decide⟩
                have hat91 : cl91.slots[((6 : Int32)).toNatClampNeg]? = some (.ref w_INTEGER) := Has.at Ha91 hin91 rfl
                have sg93 : ∀ t, Steps p.tables e below (T57.setTop (mkF m 142 #[.val (.int x0_0), .val (.ref b1), .val (.ref b35), .val (.int (6 : Int32))] [(.ref w_INTEGER)])) t → Steps p.tables e below (T57.setTop (mkF m 141 #[.val (.int x0_0), .val (.ref b1), .val (.ref b35), .val (.int (6 : Int32))] [(.int (6 : Int32)), (.ref b1)])) t := fun t kt => by
                  show Steps p.tables e below (T57.setTop (mkF m 141 #[.val (.int x0_0), .val (.ref b1), .val (.ref b35), .val (.int (6 : Int32))] [(.int (6 : Int32)), (.ref b1)])) _
                  refine X57.aaload hx (j := (6 : Int32)) (v := (.ref w_INTEGER)) (by rw [e57]; exact Ar91.1) (State.isArrayOf_alike hZ.alike Ar91.2.1) rfl Ar91.2.2 hin91 hat91 (g := (mkF m 141 #[.val (.int x0_0), .val (.ref b1), .val (.ref b35), .val (.int (6 : Int32))] [(.int (6 : Int32)), (.ref b1)])) rfl rfl (hb hby at_141) _ ?_
                  exact kt
                obtain ⟨cq92, kq92, q92a, q92b, q92c⟩ := isOf hZ e57 ((World.ext Ol57.2 W).2.2.2.2.2.2.2.2.2.2.2.2.2.2.2.2.2.1)
                obtain ⟨rv92, _, ⟨T92, L92, k92, n92⟩, -, X92, ⟨Lc92, hQ92, l92, y92, z92⟩, st92⟩ := X57.virtualBack hx (y := (⟨"com/example/graticule/graticule/storage/JsonScanner$Token", "isNumber", "()Z"⟩ : MethodName)) (z := (⟨"com/example/graticule/graticule/storage/JsonScanner$Token", "isNumber", "()Z"⟩ : MethodName)) hown (mvT hZ (hw _ (List.mem_of_getElem? (i := 28) rfl))) (mvT hZ (hw _ (List.mem_of_getElem? (i := 29) rfl))) (notFace_of_selects (args := #[]) (mvT hZ (hw _ (List.mem_of_getElem? (i := 31) rfl)))) (mvT hZ (hw _ (List.mem_of_getElem? (i := 31) rfl))) (mvT hZ (hw _ (List.mem_of_getElem? (i := 30) rfl))) (by decide) (backOf (W := 0) (rm1 l Z a0 hw [] w_INTEGER w_START_OBJECT w_END_OBJECT w_START_ARRAY w_END_ARRAY w_NAME w_STRING w_INTEGER w_DECIMAL w_TRUE w_FALSE w_NULL h57 n0 Zs57 (World.ext Ol57.2 W)) hZ (hw _ (List.mem_of_getElem? (i := 32) rfl)) (hw _ (List.mem_of_getElem? (i := 3) rfl)) (by decide) (by decide)) q92a q92c (g := (mkF m 142 #[.val (.int x0_0), .val (.ref b1), .val (.ref b35), .val (.int (6 : Int32))] [(.ref w_INTEGER)])) rfl (by rw [hml]; rfl) (Steps.refl _) (argsL := []) (rest := []) (lenOf pd_0 rfl) rfl (by show 2 * 0 + _ ≤ _; exact Nat.le_of_eq rfl) (hb hby at_142) (fun _ _ => ⟨rfl, e57, (by decide : 2 + 0 ≤ _), (by decide : 22 + 0 ≤ _)⟩)
                dsimp only [Pt.U, Pt.locs, Pt.cells, Pt.slots] at X92 l92 y92 z92 st92 hQ92
                rw [l92, y92, z92] at X92
                obtain ⟨hv92, N92q, e92⟩ := hQ92
                have N92 := Fr.app N57 N92q
                have hf92 : f1 w_INTEGER w_START_OBJECT w_END_OBJECT w_START_ARRAY w_END_ARRAY w_NAME w_STRING w_INTEGER w_DECIMAL w_TRUE w_FALSE w_NULL = (1 : Int32) := by unfold f1; rw [if_pos (rfl : w_INTEGER = w_INTEGER)]
                rw [hf92] at hv92
                subst hv92
                obtain ⟨cl94, Ar94, qa94, Sa94, Na94, Ha94, Ga94⟩ := V57
                have hin94 : ¬ ((6 : Int32) < 0 ∨ cl94.slots.size ≤ ((6 : Int32)).toNatClampNeg) := inb_of Sa94 ⟨by decide, by decide⟩
                have hat94 : cl94.slots[((6 : Int32)).toNatClampNeg]? = some (.int (1 : Int32)) := Has.at Ha94 hin94 rfl
                obtain ⟨fs, hr, hrun, hended, hW, hsame⟩ := X92.leave (v := some (.int (1 : Int32))) (fun h => by rw [Bd.returns] at h; cases h)
                refine ⟨_, _, pre0 _ (sg58 _ (sg59 _ (sg93 _ ?_))), hrun, hended, _, _, rfl, ?_, ⟨_, rfl⟩, hW, hsame.mono (by decide) (by decide)⟩
                · show Steps p.tables e below (T57.setTop (mkF m 142 #[.val (.int x0_0), .val (.ref b1), .val (.ref b35), .val (.int (6 : Int32))] [(.ref w_INTEGER)])) _
                  refine st92.trans ?_
                  show Steps p.tables e below (T92.setTop (mkF m 145 #[.val (.int x0_0), .val (.ref b1), .val (.ref b35), .val (.int (6 : Int32))] [(.int (1 : Int32))])) _
                  refine XS.aloadN X92.here hx rfl (hb hby at_145) rfl rfl ?_
                  show Steps p.tables e below (T92.setTop (mkF m 146 #[.val (.int x0_0), .val (.ref b1), .val (.ref b35), .val (.int (6 : Int32))] [(.ref b35), (.int (1 : Int32))])) _
                  refine XS.iloadN X92.here hx rfl (hb hby at_146) rfl ?_
                  show Steps p.tables e below (T92.setTop (mkF m 147 #[.val (.int x0_0), .val (.ref b1), .val (.ref b35), .val (.int (6 : Int32))] [(.int (6 : Int32)), (.ref b35), (.int (1 : Int32))])) _
                  refine X92.baloadBooleans hx (j := (6 : Int32)) (v := (.int (1 : Int32))) (by rw [e92]; exact Ar94.1) (State.isArrayOf_alike hZ.alike Ar94.2.1) Ar94.2.2 hin94 hat94 (g := (mkF m 147 #[.val (.int x0_0), .val (.ref b1), .val (.ref b35), .val (.int (6 : Int32))] [(.int (6 : Int32)), (.ref b35), (.int (1 : Int32))])) rfl rfl (hb hby at_147) _ ?_
                  show Steps p.tables e below (T92.setTop (mkF m 148 #[.val (.int x0_0), .val (.ref b1), .val (.ref b35), .val (.int (6 : Int32))] [(.int (1 : Int32)), (.int (1 : Int32))])) _
                  refine XS.icmpNo X92.here hx rfl (hb hby at_148) rfl (teq (by decide : ((1 : Int32) = (1 : Int32)))).2 ?_
                  show Steps p.tables e below (T92.setTop (mkF m 151 #[.val (.int x0_0), .val (.ref b1), .val (.ref b35), .val (.int (6 : Int32))] [])) _
                  refine XS.iconst X92.here hx rfl (hb hby at_151) ?_
                  show Steps p.tables e below (T92.setTop (mkF m 152 #[.val (.int x0_0), .val (.ref b1), .val (.ref b35), .val (.int (6 : Int32))] [(.int (1 : Int32))])) _
                  refine XS.goto X92.here hx rfl (pc0 := 152) (pc' := 156) rfl (hb hby at_152) (by decide) (by decide) ?_
                  show Steps p.tables e below (T92.setTop (mkF m 156 #[.val (.int x0_0), .val (.ref b1), .val (.ref b35), .val (.int (6 : Int32))] [(.int (1 : Int32))])) _
                  exact retN X92 hx (t := .boolean) Bd.returns (by simp) (hb hby at_156) hr
                · show Q0 Z x0_0 w_START_OBJECT w_END_OBJECT w_START_ARRAY w_END_ARRAY w_NAME w_STRING w_INTEGER w_DECIMAL w_TRUE w_FALSE w_NULL h0 n0 _ T92.heap _
                  rw [e92]
                  exact ⟨rfl, N92⟩
              · by_cases hc141_7 : v138 = (7 : Int32)
                · subst hc141_7
                  have c95 := (Arv.other (Arv.other (Arv.other (Arv.other (Arv.other (Arv.other (Arv.other (Arv.other (Arv.other (Arv.other (Arv.other (V34.ext E35) W37 ne_b1_b35) W39 ne_b1_b35) W41 ne_b1_b35) W43 ne_b1_b35) W45 ne_b1_b35) W47 ne_b1_b35) W49 ne_b1_b35) W51 ne_b1_b35) W53 ne_b1_b35) W55 ne_b1_b35) W57 ne_b1_b35)
                  obtain ⟨cl96, Ar96, qa96, Sa96, Na96, Ha96, Ga96⟩ := c95
                  have hin96 : ¬ ((7 : Int32) < 0 ∨ cl96.slots.size ≤ ((7 : Int32)).toNatClampNeg) := inb_of Sa96 ⟨by decide, by decide⟩
                  have hat96 : cl96.slots[((7 : Int32)).toNatClampNeg]? = some (.ref w_DECIMAL) := Has.at Ha96 hin96 rfl
                  have sg98 : ∀ t, Steps p.tables e below (T57.setTop (mkF m 142 #[.val (.int x0_0), .val (.ref b1), .val (.ref b35), .val (.int (7 : Int32))] [(.ref w_DECIMAL)])) t → Steps p.tables e below (T57.setTop (mkF m 141 #[.val (.int x0_0), .val (.ref b1), .val (.ref b35), .val (.int (7 : Int32))] [(.int (7 : Int32)), (.ref b1)])) t := fun t kt => by
                    show Steps p.tables e below (T57.setTop (mkF m 141 #[.val (.int x0_0), .val (.ref b1), .val (.ref b35), .val (.int (7 : Int32))] [(.int (7 : Int32)), (.ref b1)])) _
                    refine X57.aaload hx (j := (7 : Int32)) (v := (.ref w_DECIMAL)) (by rw [e57]; exact Ar96.1) (State.isArrayOf_alike hZ.alike Ar96.2.1) rfl Ar96.2.2 hin96 hat96 (g := (mkF m 141 #[.val (.int x0_0), .val (.ref b1), .val (.ref b35), .val (.int (7 : Int32))] [(.int (7 : Int32)), (.ref b1)])) rfl rfl (hb hby at_141) _ ?_
                    exact kt
                  obtain ⟨cq97, kq97, q97a, q97b, q97c⟩ := isOf hZ e57 ((World.ext Ol57.2 W).2.2.2.2.2.2.2.2.2.2.2.2.2.2.2.2.2.2.1)
                  obtain ⟨rv97, _, ⟨T97, L97, k97, n97⟩, -, X97, ⟨Lc97, hQ97, l97, y97, z97⟩, st97⟩ := X57.virtualBack hx (y := (⟨"com/example/graticule/graticule/storage/JsonScanner$Token", "isNumber", "()Z"⟩ : MethodName)) (z := (⟨"com/example/graticule/graticule/storage/JsonScanner$Token", "isNumber", "()Z"⟩ : MethodName)) hown (mvT hZ (hw _ (List.mem_of_getElem? (i := 28) rfl))) (mvT hZ (hw _ (List.mem_of_getElem? (i := 29) rfl))) (notFace_of_selects (args := #[]) (mvT hZ (hw _ (List.mem_of_getElem? (i := 31) rfl)))) (mvT hZ (hw _ (List.mem_of_getElem? (i := 31) rfl))) (mvT hZ (hw _ (List.mem_of_getElem? (i := 30) rfl))) (by decide) (backOf (W := 0) (rm1 l Z a0 hw [] w_DECIMAL w_START_OBJECT w_END_OBJECT w_START_ARRAY w_END_ARRAY w_NAME w_STRING w_INTEGER w_DECIMAL w_TRUE w_FALSE w_NULL h57 n0 Zs57 (World.ext Ol57.2 W)) hZ (hw _ (List.mem_of_getElem? (i := 32) rfl)) (hw _ (List.mem_of_getElem? (i := 3) rfl)) (by decide) (by decide)) q97a q97c (g := (mkF m 142 #[.val (.int x0_0), .val (.ref b1), .val (.ref b35), .val (.int (7 : Int32))] [(.ref w_DECIMAL)])) rfl (by rw [hml]; rfl) (Steps.refl _) (argsL := []) (rest := []) (lenOf pd_0 rfl) rfl (by show 2 * 0 + _ ≤ _; exact Nat.le_of_eq rfl) (hb hby at_142) (fun _ _ => ⟨rfl, e57, (by decide : 2 + 0 ≤ _), (by decide : 22 + 0 ≤ _)⟩)
                  dsimp only [Pt.U, Pt.locs, Pt.cells, Pt.slots] at X97 l97 y97 z97 st97 hQ97
                  rw [l97, y97, z97] at X97
                  obtain ⟨hv97, N97q, e97⟩ := hQ97
                  have N97 := Fr.app N57 N97q
                  have hf97 : f1 w_DECIMAL w_START_OBJECT w_END_OBJECT w_START_ARRAY w_END_ARRAY w_NAME w_STRING w_INTEGER w_DECIMAL w_TRUE w_FALSE w_NULL = (1 : Int32) := by unfold f1; rw [if_neg (Fld.ne ((World.ext Ol57.2 W).2.2.2.2.2.2.2.2.2.2.2.2.2.2.2.2.2.2.2.2.2.2.2.2.2.2.2.2.2.1) ((World.ext Ol57.2 W).2.2.2.2.2.2.2.2.2.2.2.2.2.2.2.2.2.2.2.2.2.2.2.2.2.2.2.2.1) (by decide) : ¬ (w_DECIMAL = w_INTEGER)), if_pos (rfl : w_DECIMAL = w_DECIMAL)]
                  rw [hf97] at hv97
                  subst hv97
                  obtain ⟨cl99, Ar99, qa99, Sa99, Na99, Ha99, Ga99⟩ := V57
                  have hin99 : ¬ ((7 : Int32) < 0 ∨ cl99.slots.size ≤ ((7 : Int32)).toNatClampNeg) := inb_of Sa99 ⟨by decide, by decide⟩
                  have hat99 : cl99.slots[((7 : Int32)).toNatClampNeg]? = some (.int (1 : Int32)) := Has.at Ha99 hin99 rfl
                  obtain ⟨fs, hr, hrun, hended, hW, hsame⟩ := X97.leave (v := some (.int (1 : Int32))) (fun h => by rw [Bd.returns] at h; cases h)
                  refine ⟨_, _, pre0 _ (sg58 _ (sg59 _ (sg98 _ ?_))), hrun, hended, _, _, rfl, ?_, ⟨_, rfl⟩, hW, hsame.mono (by decide) (by decide)⟩
                  · show Steps p.tables e below (T57.setTop (mkF m 142 #[.val (.int x0_0), .val (.ref b1), .val (.ref b35), .val (.int (7 : Int32))] [(.ref w_DECIMAL)])) _
                    refine st97.trans ?_
                    show Steps p.tables e below (T97.setTop (mkF m 145 #[.val (.int x0_0), .val (.ref b1), .val (.ref b35), .val (.int (7 : Int32))] [(.int (1 : Int32))])) _
                    refine XS.aloadN X97.here hx rfl (hb hby at_145) rfl rfl ?_
                    show Steps p.tables e below (T97.setTop (mkF m 146 #[.val (.int x0_0), .val (.ref b1), .val (.ref b35), .val (.int (7 : Int32))] [(.ref b35), (.int (1 : Int32))])) _
                    refine XS.iloadN X97.here hx rfl (hb hby at_146) rfl ?_
                    show Steps p.tables e below (T97.setTop (mkF m 147 #[.val (.int x0_0), .val (.ref b1), .val (.ref b35), .val (.int (7 : Int32))] [(.int (7 : Int32)), (.ref b35), (.int (1 : Int32))])) _
                    refine X97.baloadBooleans hx (j := (7 : Int32)) (v := (.int (1 : Int32))) (by rw [e97]; exact Ar99.1) (State.isArrayOf_alike hZ.alike Ar99.2.1) Ar99.2.2 hin99 hat99 (g := (mkF m 147 #[.val (.int x0_0), .val (.ref b1), .val (.ref b35), .val (.int (7 : Int32))] [(.int (7 : Int32)), (.ref b35), (.int (1 : Int32))])) rfl rfl (hb hby at_147) _ ?_
                    show Steps p.tables e below (T97.setTop (mkF m 148 #[.val (.int x0_0), .val (.ref b1), .val (.ref b35), .val (.int (7 : Int32))] [(.int (1 : Int32)), (.int (1 : Int32))])) _
                    refine XS.icmpNo X97.here hx rfl (hb hby at_148) rfl (teq (by decide : ((1 : Int32) = (1 : Int32)))).2 ?_
                    show Steps p.tables e below (T97.setTop (mkF m 151 #[.val (.int x0_0), .val (.ref b1), .val (.ref b35), .val (.int (7 : Int32))] [])) _
                    refine XS.iconst X97.here hx rfl (hb hby at_151) ?_
                    show Steps p.tables e below (T97.setTop (mkF m 152 #[.val (.int x0_0), .val (.ref b1), .val (.ref b35), .val (.int (7 : Int32))] [(.int (1 : Int32))])) _
                    refine XS.goto X97.here hx rfl (pc0 := 152) (pc' := 156) rfl (hb hby at_152) (by decide) (by decide) ?_
                    show Steps p.tables e below (T97.setTop (mkF m 156 #[.val (.int x0_0), .val (.ref b1), .val (.ref b35), .val (.int (7 : Int32))] [(.int (1 : Int32))])) _
                    exact retN X97 hx (t := .boolean) Bd.returns (by simp) (hb hby at_156) hr
                  · show Q0 Z x0_0 w_START_OBJECT w_END_OBJECT w_START_ARRAY w_END_ARRAY w_NAME w_STRING w_INTEGER w_DECIMAL w_TRUE w_FALSE w_NULL h0 n0 _ T97.heap _
                    rw [e97]
                    exact ⟨rfl, N97⟩
                · by_cases hc141_8 : v138 = (8 : Int32)
                  · subst hc141_8
                    have c100 := (Arv.other (Arv.other (Arv.other (Arv.other (Arv.other (Arv.other (Arv.other (Arv.other (Arv.other (Arv.other (Arv.other (V34.ext E35) W37 ne_b1_b35) W39 ne_b1_b35) W41 ne_b1_b35) W43 ne_b1_b35) W45 ne_b1_b35) W47 ne_b1_b35) W49 ne_b1_b35) W51 ne_b1_b35) W53 ne_b1_b35) W55 ne_b1_b35) W57 ne_b1_b35)
                    obtain ⟨cl101, Ar101, qa101, Sa101, Na101, Ha101, Ga101⟩ := c100
                    have hin101 : ¬ ((8 : Int32) < 0 ∨ cl101.slots.size ≤ ((8 : Int32)).toNatClampNeg) := inb_of Sa101 ⟨by decide, by decide⟩
                    have hat101 : cl101.slots[((8 : Int32)).toNatClampNeg]? = some (.ref w_TRUE) := Has.at Ha101 hin101 rfl
                    have sg103 : ∀ t, Steps p.tables e below (T57.setTop (mkF m 142 #[.val (.int x0_0), .val (.ref b1), .val (.ref b35), .val (.int (8 : Int32))] [(.ref w_TRUE)])) t → Steps p.tables e below (T57.setTop (mkF m 141 #[.val (.int x0_0), .val (.ref b1), .val (.ref b35), .val (.int (8 : Int32))] [(.int (8 : Int32)), (.ref b1)])) t := fun t kt => by
                      show Steps p.tables e below (T57.setTop (mkF m 141 #[.val (.int x0_0), .val (.ref b1), .val (.ref b35), .val (.int (8 : Int32))] [(.int (8 : Int32)), (.ref b1)])) _
                      refine X57.aaload hx (j := (8 : Int32)) (v := (.ref w_TRUE)) (by rw [e57]; exact Ar101.1) (State.isArrayOf_alike hZ.alike Ar101.2.1) rfl Ar101.2.2 hin101 hat101 (g := (mkF m 141 #[.val (.int x0_0), .val (.ref b1), .val (.ref b35), .val (.int (8 : Int32))] [(.int (8 : Int32)), (.ref b1)])) rfl rfl (hb hby at_141) _ ?_
                      exact kt
                    obtain ⟨cq102, kq102, q102a, q102b, q102c⟩ := isOf hZ e57 ((World.ext Ol57.2 W).2.2.2.2.2.2.2.2.2.2.2.2.2.2.2.2.2.2.2.1)
                    obtain ⟨rv102, _, ⟨T102, L102, k102, n102⟩, -, X102, ⟨Lc102, hQ102, l102, y102, z102⟩, st102⟩ := X57.virtualBack hx (y := (⟨"com/example/graticule/graticule/storage/JsonScanner$Token", "isNumber", "()Z"⟩ : MethodName)) (z := (⟨"com/example/graticule/graticule/storage/JsonScanner$Token", "isNumber", "()Z"⟩ : MethodName)) hown (mvT hZ (hw _ (List.mem_of_getElem? (i := 28) rfl))) (mvT hZ (hw _ (List.mem_of_getElem? (i := 29) rfl))) (notFace_of_selects (args := #[]) (mvT hZ (hw _ (List.mem_of_getElem? (i := 31) rfl)))) (mvT hZ (hw _ (List.mem_of_getElem? (i := 31) rfl))) (mvT hZ (hw _ (List.mem_of_getElem? (i := 30) rfl))) (by decide) (backOf (W := 0) (rm1 l Z a0 hw [] w_TRUE w_START_OBJECT w_END_OBJECT w_START_ARRAY w_END_ARRAY w_NAME w_STRING w_INTEGER w_DECIMAL w_TRUE w_FALSE w_NULL h57 n0 Zs57 (World.ext Ol57.2 W)) hZ (hw _ (List.mem_of_getElem? (i := 32) rfl)) (hw _ (List.mem_of_getElem? (i := 3) rfl)) (by decide) (by decide)) q102a q102c (g := (mkF m 142 #[.val (.int x0_0), .val (.ref b1), .val (.ref b35), .val (.int (8 : Int32))] [(.ref w_TRUE)])) rfl (by rw [hml]; rfl) (Steps.refl _) (argsL := []) (rest := []) (lenOf pd_0 rfl) rfl (by show 2 * 0 + _ ≤ _; exact Nat.le_of_eq rfl) (hb hby at_142) (fun _ _ => ⟨rfl, e57, (by decide : 2 + 0 ≤ _), (by decide : 22 + 0 ≤ _)⟩)
                    dsimp only [Pt.U, Pt.locs, Pt.cells, Pt.slots] at X102 l102 y102 z102 st102 hQ102
                    rw [l102, y102, z102] at X102
                    obtain ⟨hv102, N102q, e102⟩ := hQ102
                    have N102 := Fr.app N57 N102q
                    have hf102 : f1 w_TRUE w_START_OBJECT w_END_OBJECT w_START_ARRAY w_END_ARRAY w_NAME w_STRING w_INTEGER w_DECIMAL w_TRUE w_FALSE w_NULL = (0 : Int32) := by unfold f1; rw [if_neg (Fld.ne ((World.ext Ol57.2 W).2.2.2.2.2.2.2.2.2.2.2.2.2.2.2.2.2.2.2.2.2.2.2.2.2.2.2.2.2.2.1) ((World.ext Ol57.2 W).2.2.2.2.2.2.2.2.2.2.2.2.2.2.2.2.2.2.2.2.2.2.2.2.2.2.2.2.1) (by decide) : ¬ (w_TRUE = w_INTEGER)), if_neg (Fld.ne ((World.ext Ol57.2 W).2.2.2.2.2.2.2.2.2.2.2.2.2.2.2.2.2.2.2.2.2.2.2.2.2.2.2.2.2.2.1) ((World.ext Ol57.2 W).2.2.2.2.2.2.2.2.2.2.2.2.2.2.2.2.2.2.2.2.2.2.2.2.2.2.2.2.2.1) (by decide) : ¬ (w_TRUE = w_DECIMAL))]
                    rw [hf102] at hv102
                    subst hv102
                    obtain ⟨cl104, Ar104, qa104, Sa104, Na104, Ha104, Ga104⟩ := V57
                    have hin104 : ¬ ((8 : Int32) < 0 ∨ cl104.slots.size ≤ ((8 : Int32)).toNatClampNeg) := inb_of Sa104 ⟨by decide, by decide⟩
                    have hat104 : cl104.slots[((8 : Int32)).toNatClampNeg]? = some (.int (0 : Int32)) := Has.at Ha104 hin104 rfl
                    obtain ⟨fs, hr, hrun, hended, hW, hsame⟩ := X102.leave (v := some (.int (1 : Int32))) (fun h => by rw [Bd.returns] at h; cases h)
                    refine ⟨_, _, pre0 _ (sg58 _ (sg59 _ (sg103 _ ?_))), hrun, hended, _, _, rfl, ?_, ⟨_, rfl⟩, hW, hsame.mono (by decide) (by decide)⟩
                    · show Steps p.tables e below (T57.setTop (mkF m 142 #[.val (.int x0_0), .val (.ref b1), .val (.ref b35), .val (.int (8 : Int32))] [(.ref w_TRUE)])) _
                      refine st102.trans ?_
                      show Steps p.tables e below (T102.setTop (mkF m 145 #[.val (.int x0_0), .val (.ref b1), .val (.ref b35), .val (.int (8 : Int32))] [(.int (0 : Int32))])) _
                      refine XS.aloadN X102.here hx rfl (hb hby at_145) rfl rfl ?_
                      show Steps p.tables e below (T102.setTop (mkF m 146 #[.val (.int x0_0), .val (.ref b1), .val (.ref b35), .val (.int (8 : Int32))] [(.ref b35), (.int (0 : Int32))])) _
                      refine XS.iloadN X102.here hx rfl (hb hby at_146) rfl ?_
                      show Steps p.tables e below (T102.setTop (mkF m 147 #[.val (.int x0_0), .val (.ref b1), .val (.ref b35), .val (.int (8 : Int32))] [(.int (8 : Int32)), (.ref b35), (.int (0 : Int32))])) _
                      refine X102.baloadBooleans hx (j := (8 : Int32)) (v := (.int (0 : Int32))) (by rw [e102]; exact Ar104.1) (State.isArrayOf_alike hZ.alike Ar104.2.1) Ar104.2.2 hin104 hat104 (g := (mkF m 147 #[.val (.int x0_0), .val (.ref b1), .val (.ref b35), .val (.int (8 : Int32))] [(.int (8 : Int32)), (.ref b35), (.int (0 : Int32))])) rfl rfl (hb hby at_147) _ ?_
                      show Steps p.tables e below (T102.setTop (mkF m 148 #[.val (.int x0_0), .val (.ref b1), .val (.ref b35), .val (.int (8 : Int32))] [(.int (0 : Int32)), (.int (0 : Int32))])) _
                      refine XS.icmpNo X102.here hx rfl (hb hby at_148) rfl (teq (by decide : ((0 : Int32) = (0 : Int32)))).2 ?_
                      show Steps p.tables e below (T102.setTop (mkF m 151 #[.val (.int x0_0), .val (.ref b1), .val (.ref b35), .val (.int (8 : Int32))] [])) _
                      refine XS.iconst X102.here hx rfl (hb hby at_151) ?_
                      show Steps p.tables e below (T102.setTop (mkF m 152 #[.val (.int x0_0), .val (.ref b1), .val (.ref b35), .val (.int (8 : Int32))] [(.int (1 : Int32))])) _
                      refine XS.goto X102.here hx rfl (pc0 := 152) (pc' := 156) rfl (hb hby at_152) (by decide) (by decide) ?_
                      show Steps p.tables e below (T102.setTop (mkF m 156 #[.val (.int x0_0), .val (.ref b1), .val (.ref b35), .val (.int (8 : Int32))] [(.int (1 : Int32))])) _
                      exact retN X102 hx (t := .boolean) Bd.returns (by simp) (hb hby at_156) hr
                    · show Q0 Z x0_0 w_START_OBJECT w_END_OBJECT w_START_ARRAY w_END_ARRAY w_NAME w_STRING w_INTEGER w_DECIMAL w_TRUE w_FALSE w_NULL h0 n0 _ T102.heap _
                      rw [e102]
                      exact ⟨rfl, N102⟩
                  · by_cases hc141_9 : v138 = (9 : Int32)
                    · subst hc141_9
                      have c105 := (Arv.other (Arv.other (Arv.other (Arv.other (Arv.other (Arv.other (Arv.other (Arv.other (Arv.other (Arv.other (Arv.other (V34.ext E35) W37 ne_b1_b35) W39 ne_b1_b35) W41 ne_b1_b35) W43 ne_b1_b35) W45 ne_b1_b35) W47 ne_b1_b35) W49 ne_b1_b35) W51 ne_b1_b35) W53 ne_b1_b35) W55 ne_b1_b35) W57 ne_b1_b35)
                      obtain ⟨cl106, Ar106, qa106, Sa106, Na106, Ha106, Ga106⟩ := c105
                      have hin106 : ¬ ((9 : Int32) < 0 ∨ cl106.slots.size ≤ ((9 : Int32)).toNatClampNeg) := inb_of Sa106 ⟨by decide, by decide⟩
                      have hat106 : cl106.slots[((9 : Int32)).toNatClampNeg]? = some (.ref w_FALSE) := Has.at Ha106 hin106 rfl
                      have sg108 : ∀ t, Steps p.tables e below (T57.setTop (mkF m 142 #[.val (.int x0_0), .val (.ref b1), .val (.ref b35), .val (.int (9 : Int32))] [(.ref w_FALSE)])) t → Steps p.tables e below (T57.setTop (mkF m 141 #[.val (.int x0_0), .val (.ref b1), .val (.ref b35), .val (.int (9 : Int32))] [(.int (9 : Int32)), (.ref b1)])) t := fun t kt => by
                        show Steps p.tables e below (T57.setTop (mkF m 141 #[.val (.int x0_0), .val (.ref b1), .val (.ref b35), .val (.int (9 : Int32))] [(.int (9 : Int32)), (.ref b1)])) _
                        refine X57.aaload hx (j := (9 : Int32)) (v := (.ref w_FALSE)) (by rw [e57]; exact Ar106.1) (State.isArrayOf_alike hZ.alike Ar106.2.1) rfl Ar106.2.2 hin106 hat106 (g := (mkF m 141 #[.val (.int x0_0), .val (.ref b1), .val (.ref b35), .val (.int (9 : Int32))] [(.int (9 : Int32)), (.ref b1)])) rfl rfl (hb hby at_141) _ ?_
                        exact kt
                      obtain ⟨cq107, kq107, q107a, q107b, q107c⟩ := isOf hZ e57 ((World.ext Ol57.2 W).2.2.2.2.2.2.2.2.2.2.2.2.2.2.2.2.2.2.2.2.1)
                      obtain ⟨rv107, _, ⟨T107, L107, k107, n107⟩, -, X107, ⟨Lc107, hQ107, l107, y107, z107⟩, st107⟩ := X57.virtualBack hx (y := (⟨"com/example/graticule/graticule/storage/JsonScanner$Token", "isNumber", "()Z"⟩ : MethodName)) (z := (⟨"com/example/graticule/graticule/storage/JsonScanner$Token", "isNumber", "()Z"⟩ : MethodName)) hown (mvT hZ (hw _ (List.mem_of_getElem? (i := 28) rfl))) (mvT hZ (hw _ (List.mem_of_getElem? (i := 29) rfl))) (notFace_of_selects (args := #[]) (mvT hZ (hw _ (List.mem_of_getElem? (i := 31) rfl)))) (mvT hZ (hw _ (List.mem_of_getElem? (i := 31) rfl))) (mvT hZ (hw _ (List.mem_of_getElem? (i := 30) rfl))) (by decide) (backOf (W := 0) (rm1 l Z a0 hw [] w_FALSE w_START_OBJECT w_END_OBJECT w_START_ARRAY w_END_ARRAY w_NAME w_STRING w_INTEGER w_DECIMAL w_TRUE w_FALSE w_NULL h57 n0 Zs57 (World.ext Ol57.2 W)) hZ (hw _ (List.mem_of_getElem? (i := 32) rfl)) (hw _ (List.mem_of_getElem? (i := 3) rfl)) (by decide) (by decide)) q107a q107c (g := (mkF m 142 #[.val (.int x0_0), .val (.ref b1), .val (.ref b35), .val (.int (9 : Int32))] [(.ref w_FALSE)])) rfl (by rw [hml]; rfl) (Steps.refl _) (argsL := []) (rest := []) (lenOf pd_0 rfl) rfl (by show 2 * 0 + _ ≤ _; exact Nat.le_of_eq rfl) (hb hby at_142) (fun _ _ => ⟨rfl, e57, (by decide : 2 + 0 ≤ _), (by decide : 22 + 0 ≤ _)⟩)
                      dsimp only [Pt.U, Pt.locs, Pt.cells, Pt.slots] at X107 l107 y107 z107 st107 hQ107
                      rw [l107, y107, z107] at X107
                      obtain ⟨hv107, N107q, e107⟩ := hQ107
                      have N107 := Fr.app N57 N107q
                      have hf107 : f1 w_FALSE w_START_OBJECT w_END_OBJECT w_START_ARRAY w_END_ARRAY w_NAME w_STRING w_INTEGER w_DECIMAL w_TRUE w_FALSE w_NULL = (0 : Int32) := by unfold f1; rw [if_neg (Fld.ne ((World.ext Ol57.2 W).2.2.2.2.2.2.2.2.2.2.2.2.2.2.2.2.2.2.2.2.2.2.2.2.2.2.2.2.2.2.2.1) ((World.ext Ol57.2 W).2.2.2.2.2.2.2.2.2.2.2.2.2.2.2.2.2.2.2.2.2.2.2.2.2.2.2.2.1) (by decide) : ¬ (w_FALSE = w_INTEGER)), if_neg (Fld.ne ((World.ext Ol57.2 W).2.2.2.2.2.2.2.2.2.2.2.2.2.2.2.2.2.2.2.2.2.2.2.2.2.2.2.2.2.2.2.1) ((World.ext Ol57.2 W).2.2.2.2.2.2.2.2.2.2.2.2.2.2.2.2.2.2.2.2.2.2.2.2.2.2.2.2.2.1) (by decide) : ¬ (w_FALSE = w_DECIMAL))]
                      rw [hf107] at hv107
                      subst hv107
                      obtain ⟨cl109, Ar109, qa109, Sa109, Na109, Ha109, Ga109⟩ := V57
                      have hin109 : ¬ ((9 : Int32) < 0 ∨ cl109.slots.size ≤ ((9 : Int32)).toNatClampNeg) := inb_of Sa109 ⟨by decide, by decide⟩
                      have hat109 : cl109.slots[((9 : Int32)).toNatClampNeg]? = some (.int (0 : Int32)) := Has.at Ha109 hin109 rfl
                      obtain ⟨fs, hr, hrun, hended, hW, hsame⟩ := X107.leave (v := some (.int (1 : Int32))) (fun h => by rw [Bd.returns] at h; cases h)
                      refine ⟨_, _, pre0 _ (sg58 _ (sg59 _ (sg108 _ ?_))), hrun, hended, _, _, rfl, ?_, ⟨_, rfl⟩, hW, hsame.mono (by decide) (by decide)⟩
                      · show Steps p.tables e below (T57.setTop (mkF m 142 #[.val (.int x0_0), .val (.ref b1), .val (.ref b35), .val (.int (9 : Int32))] [(.ref w_FALSE)])) _
                        refine st107.trans ?_
                        show Steps p.tables e below (T107.setTop (mkF m 145 #[.val (.int x0_0), .val (.ref b1), .val (.ref b35), .val (.int (9 : Int32))] [(.int (0 : Int32))])) _
                        refine XS.aloadN X107.here hx rfl (hb hby at_145) rfl rfl ?_
                        show Steps p.tables e below (T107.setTop (mkF m 146 #[.val (.int x0_0), .val (.ref b1), .val (.ref b35), .val (.int (9 : Int32))] [(.ref b35), (.int (0 : Int32))])) _
                        refine XS.iloadN X107.here hx rfl (hb hby at_146) rfl ?_
                        show Steps p.tables e below (T107.setTop (mkF m 147 #[.val (.int x0_0), .val (.ref b1), .val (.ref b35), .val (.int (9 : Int32))] [(.int (9 : Int32)), (.ref b35), (.int (0 : Int32))])) _
                        refine X107.baloadBooleans hx (j := (9 : Int32)) (v := (.int (0 : Int32))) (by rw [e107]; exact Ar109.1) (State.isArrayOf_alike hZ.alike Ar109.2.1) Ar109.2.2 hin109 hat109 (g := (mkF m 147 #[.val (.int x0_0), .val (.ref b1), .val (.ref b35), .val (.int (9 : Int32))] [(.int (9 : Int32)), (.ref b35), (.int (0 : Int32))])) rfl rfl (hb hby at_147) _ ?_
                        show Steps p.tables e below (T107.setTop (mkF m 148 #[.val (.int x0_0), .val (.ref b1), .val (.ref b35), .val (.int (9 : Int32))] [(.int (0 : Int32)), (.int (0 : Int32))])) _
                        refine XS.icmpNo X107.here hx rfl (hb hby at_148) rfl (teq (by decide : ((0 : Int32) = (0 : Int32)))).2 ?_
                        show Steps p.tables e below (T107.setTop (mkF m 151 #[.val (.int x0_0), .val (.ref b1), .val (.ref b35), .val (.int (9 : Int32))] [])) _
                        refine XS.iconst X107.here hx rfl (hb hby at_151) ?_
                        show Steps p.tables e below (T107.setTop (mkF m 152 #[.val (.int x0_0), .val (.ref b1), .val (.ref b35), .val (.int (9 : Int32))] [(.int (1 : Int32))])) _
                        refine XS.goto X107.here hx rfl (pc0 := 152) (pc' := 156) rfl (hb hby at_152) (by decide) (by decide) ?_
                        show Steps p.tables e below (T107.setTop (mkF m 156 #[.val (.int x0_0), .val (.ref b1), .val (.ref b35), .val (.int (9 : Int32))] [(.int (1 : Int32))])) _
                        exact retN X107 hx (t := .boolean) Bd.returns (by simp) (hb hby at_156) hr
                      · show Q0 Z x0_0 w_START_OBJECT w_END_OBJECT w_START_ARRAY w_END_ARRAY w_NAME w_STRING w_INTEGER w_DECIMAL w_TRUE w_FALSE w_NULL h0 n0 _ T107.heap _
                        rw [e107]
                        exact ⟨rfl, N107⟩
                    · by_cases hc141_10 : v138 = (10 : Int32)
                      · subst hc141_10
                        have c110 := (Arv.other (Arv.other (Arv.other (Arv.other (Arv.other (Arv.other (Arv.other (Arv.other (Arv.other (Arv.other (Arv.other (V34.ext E35) W37 ne_b1_b35) W39 ne_b1_b35) W41 ne_b1_b35) W43 ne_b1_b35) W45 ne_b1_b35) W47 ne_b1_b35) W49 ne_b1_b35) W51 ne_b1_b35) W53 ne_b1_b35) W55 ne_b1_b35) W57 ne_b1_b35)
                        obtain ⟨cl111, Ar111, qa111, Sa111, Na111, Ha111, Ga111⟩ := c110
                        have hin111 : ¬ ((10 : Int32) < 0 ∨ cl111.slots.size ≤ ((10 : Int32)).toNatClampNeg) := inb_of Sa111 ⟨by decide, by decide⟩
                        have hat111 : cl111.slots[((10 : Int32)).toNatClampNeg]? = some (.ref w_NULL) := Has.at Ha111 hin111 rfl
                        have sg113 : ∀ t, Steps p.tables e below (T57.setTop (mkF m 142 #[.val (.int x0_0), .val (.ref b1), .val (.ref b35), .val (.int (10 : Int32))] [(.ref w_NULL)])) t → Steps p.tables e below (T57.setTop (mkF m 141 #[.val (.int x0_0), .val (.ref b1), .val (.ref b35), .val (.int (10 : Int32))] [(.int (10 : Int32)), (.ref b1)])) t := fun t kt => by
                          show Steps p.tables e below (T57.setTop (mkF m 141 #[.val (.int x0_0), .val (.ref b1), .val (.ref b35), .val (.int (10 : Int32))] [(.int (10 : Int32)), (.ref b1)])) _
                          refine X57.aaload hx (j := (10 : Int32)) (v := (.ref w_NULL)) (by rw [e57]; exact Ar111.1) (State.isArrayOf_alike hZ.alike Ar111.2.1) rfl Ar111.2.2 hin111 hat111 (g := (mkF m 141 #[.val (.int x0_0), .val (.ref b1), .val (.ref b35), .val (.int (10 : Int32))] [(.int (10 : Int32)), (.ref b1)])) rfl rfl (hb hby at_141) _ ?_
                          exact kt
                        obtain ⟨cq112, kq112, q112a, q112b, q112c⟩ := isOf hZ e57 ((World.ext Ol57.2 W).2.2.2.2.2.2.2.2.2.2.2.2.2.2.2.2.2.2.2.2.2.1)
                        obtain ⟨rv112, _, ⟨T112, L112, k112, n112⟩, -, X112, ⟨Lc112, hQ112, l112, y112, z112⟩, st112⟩ := X57.virtualBack hx (y := (⟨"com/example/graticule/graticule/storage/JsonScanner$Token", "isNumber", "()Z"⟩ : MethodName)) (z := (⟨"com/example/graticule/graticule/storage/JsonScanner$Token", "isNumber", "()Z"⟩ : MethodName)) hown (mvT hZ (hw _ (List.mem_of_getElem? (i := 28) rfl))) (mvT hZ (hw _ (List.mem_of_getElem? (i := 29) rfl))) (notFace_of_selects (args := #[]) (mvT hZ (hw _ (List.mem_of_getElem? (i := 31) rfl)))) (mvT hZ (hw _ (List.mem_of_getElem? (i := 31) rfl))) (mvT hZ (hw _ (List.mem_of_getElem? (i := 30) rfl))) (by decide) (backOf (W := 0) (rm1 l Z a0 hw [] w_NULL w_START_OBJECT w_END_OBJECT w_START_ARRAY w_END_ARRAY w_NAME w_STRING w_INTEGER w_DECIMAL w_TRUE w_FALSE w_NULL h57 n0 Zs57 (World.ext Ol57.2 W)) hZ (hw _ (List.mem_of_getElem? (i := 32) rfl)) (hw _ (List.mem_of_getElem? (i := 3) rfl)) (by decide) (by decide)) q112a q112c (g := (mkF m 142 #[.val (.int x0_0), .val (.ref b1), .val (.ref b35), .val (.int (10 : Int32))] [(.ref w_NULL)])) rfl (by rw [hml]; rfl) (Steps.refl _) (argsL := []) (rest := []) (lenOf pd_0 rfl) rfl (by show 2 * 0 + _ ≤ _; exact Nat.le_of_eq rfl) (hb hby at_142) (fun _ _ => ⟨rfl, e57, (by decide : 2 + 0 ≤ _), (by decide : 22 + 0 ≤ _)⟩)
                        dsimp only [Pt.U, Pt.locs, Pt.cells, Pt.slots] at X112 l112 y112 z112 st112 hQ112
                        rw [l112, y112, z112] at X112
                        obtain ⟨hv112, N112q, e112⟩ := hQ112
                        have N112 := Fr.app N57 N112q
                        have hf112 : f1 w_NULL w_START_OBJECT w_END_OBJECT w_START_ARRAY w_END_ARRAY w_NAME w_STRING w_INTEGER w_DECIMAL w_TRUE w_FALSE w_NULL = (0 : Int32) := by unfold f1; rw [if_neg (Fld.ne ((World.ext Ol57.2 W).2.2.2.2.2.2.2.2.2.2.2.2.2.2.2.2.2.2.2.2.2.2.2.2.2.2.2.2.2.2.2.2) ((World.ext Ol57.2 W).2.2.2.2.2.2.2.2.2.2.2.2.2.2.2.2.2.2.2.2.2.2.2.2.2.2.2.2.1) (by decide) : ¬ (w_NULL = w_INTEGER)), if_neg (Fld.ne ((World.ext Ol57.2 W).2.2.2.2.2.2.2.2.2.2.2.2.2.2.2.2.2.2.2.2.2.2.2.2.2.2.2.2.2.2.2.2) ((World.ext Ol57.2 W).2.2.2.2.2.2.2.2.2.2.2.2.2.2.2.2.2.2.2.2.2.2.2.2.2.2.2.2.2.1) (by decide) : ¬ (w_NULL = w_DECIMAL))]
                        rw [hf112] at hv112
                        subst hv112
                        obtain ⟨cl114, Ar114, qa114, Sa114, Na114, Ha114, Ga114⟩ := V57
                        have hin114 : ¬ ((10 : Int32) < 0 ∨ cl114.slots.size ≤ ((10 : Int32)).toNatClampNeg) := inb_of Sa114 ⟨by decide, by decide⟩
                        have hat114 : cl114.slots[((10 : Int32)).toNatClampNeg]? = some (.int (0 : Int32)) := Has.at Ha114 hin114 rfl
                        obtain ⟨fs, hr, hrun, hended, hW, hsame⟩ := X112.leave (v := some (.int (1 : Int32))) (fun h => by rw [Bd.returns] at h; cases h)
                        refine ⟨_, _, pre0 _ (sg58 _ (sg59 _ (sg113 _ ?_))), hrun, hended, _, _, rfl, ?_, ⟨_, rfl⟩, hW, hsame.mono (by decide) (by decide)⟩
                        · show Steps p.tables e below (T57.setTop (mkF m 142 #[.val (.int x0_0), .val (.ref b1), .val (.ref b35), .val (.int (10 : Int32))] [(.ref w_NULL)])) _
                          refine st112.trans ?_
                          show Steps p.tables e below (T112.setTop (mkF m 145 #[.val (.int x0_0), .val (.ref b1), .val (.ref b35), .val (.int (10 : Int32))] [(.int (0 : Int32))])) _
                          refine XS.aloadN X112.here hx rfl (hb hby at_145) rfl rfl ?_
                          show Steps p.tables e below (T112.setTop (mkF m 146 #[.val (.int x0_0), .val (.ref b1), .val (.ref b35), .val (.int (10 : Int32))] [(.ref b35), (.int (0 : Int32))])) _
                          refine XS.iloadN X112.here hx rfl (hb hby at_146) rfl ?_
                          show Steps p.tables e below (T112.setTop (mkF m 147 #[.val (.int x0_0), .val (.ref b1), .val (.ref b35), .val (.int (10 : Int32))] [(.int (10 : Int32)), (.ref b35), (.int (0 : Int32))])) _
                          refine X112.baloadBooleans hx (j := (10 : Int32)) (v := (.int (0 : Int32))) (by rw [e112]; exact Ar114.1) (State.isArrayOf_alike hZ.alike Ar114.2.1) Ar114.2.2 hin114 hat114 (g := (mkF m 147 #[.val (.int x0_0), .val (.ref b1), .val (.ref b35), .val (.int (10 : Int32))] [(.int (10 : Int32)), (.ref b35), (.int (0 : Int32))])) rfl rfl (hb hby at_147) _ ?_
                          show Steps p.tables e below (T112.setTop (mkF m 148 #[.val (.int x0_0), .val (.ref b1), .val (.ref b35), .val (.int (10 : Int32))] [(.int (0 : Int32)), (.int (0 : Int32))])) _
                          refine XS.icmpNo X112.here hx rfl (hb hby at_148) rfl (teq (by decide : ((0 : Int32) = (0 : Int32)))).2 ?_
                          show Steps p.tables e below (T112.setTop (mkF m 151 #[.val (.int x0_0), .val (.ref b1), .val (.ref b35), .val (.int (10 : Int32))] [])) _
                          refine XS.iconst X112.here hx rfl (hb hby at_151) ?_
                          show Steps p.tables e below (T112.setTop (mkF m 152 #[.val (.int x0_0), .val (.ref b1), .val (.ref b35), .val (.int (10 : Int32))] [(.int (1 : Int32))])) _
                          refine XS.goto X112.here hx rfl (pc0 := 152) (pc' := 156) rfl (hb hby at_152) (by decide) (by decide) ?_
                          show Steps p.tables e below (T112.setTop (mkF m 156 #[.val (.int x0_0), .val (.ref b1), .val (.ref b35), .val (.int (10 : Int32))] [(.int (1 : Int32))])) _
                          exact retN X112 hx (t := .boolean) Bd.returns (by simp) (hb hby at_156) hr
                        · show Q0 Z x0_0 w_START_OBJECT w_END_OBJECT w_START_ARRAY w_END_ARRAY w_NAME w_STRING w_INTEGER w_DECIMAL w_TRUE w_FALSE w_NULL h0 n0 _ T112.heap _
                          rw [e112]
                          exact ⟨rfl, N112⟩
                      · exact (own_i _ _ hv138 hc141_0 hc141_1 hc141_2 hc141_3 hc141_4 hc141_5 hc141_6 hc141_7 hc141_8 hc141_9 hc141_10).elim
set_option maxRecDepth 65536 in
set_option maxHeartbeats 40000000 in
theorem comes_1 {Post : Tables → Env → Array Value → State → Outcome → State → Prop} (hpost : ∀ tb e args s v u, (limb_1_1.after args s (.returned v) u = true ∧ limb_1_2.after args s (.returned v) u = true ∧ True) → FrameEnd s (.returned v) u (Jvm.fieldLocs frame_1_writes args s ++ Jvm.arrayLocs frame_1_arrays args s ++ Jvm.staticLocs frame_1_statics s) 16 128 → Post tb e args s (.returned v) u) :
    ArmFor flags0 classFile x code maxLocals ret World_1 tables_1 room_1 Calls_1 rest_1 Pre_1 Post := by
  intro l hfl _ _ p e ha hc hk s m args below hf hA hF happ hP
  obtain ⟨hcalls, hrest, hpre⟩ := hP
  obtain ⟨-, -, -, hnamed, -, -, -, hat⟩ := (Spec.applies_iff hf).mp happ
  obtain ⟨hg, hn⟩ := and_e (Cond.before_iff.mp (show (Jvm.Cond.and given_1 narrow_1).before args s = true from hpre))
  obtain ⟨g1, g2⟩ := and_e hg
  obtain ⟨w0, rfl⟩ : ∃ w0 : Value, args = #[w0] := by
    have hs : args.size = 1 := by simpa [Cond.value, given_1] using g1
    obtain ⟨L⟩ := args
    match L, hs with
    | [w0], _ => exact ⟨w0, rfl⟩
  have hw := fun d (hd : d ∈ tables_1) => atoms_spec (ws := Jvm.Cond.code x code maxLocals ret :: tables_1) hat d (List.mem_cons_of_mem _ hd)
  have hfit : Fit s := fun {y c} hc i hi => by
    obtain ⟨ha, rfl⟩ := Array.getElem?_eq_some_iff.mp hc
    have q := List.all_eq_true.mp ((Array.all_eq_true_iff_forall_mem.mp hF) _ (Array.getElem_mem ha)) i (List.mem_range.mpr hi)
    simpa [Array.getElem?_eq_getElem hi] using q
  obtain ⟨i0, ei0⟩ := is_v g2
  obtain rfl : w0 = (.int i0) := Option.some.inj ei0
  obtain ⟨m1, m2⟩ := and_e hn
  obtain ⟨m3, m4⟩ := and_e m2
  obtain ⟨m5, m6⟩ := and_e m4
  obtain ⟨m7, m8⟩ := and_e m6
  obtain ⟨m9, m10⟩ := and_e m8
  obtain ⟨m11, m12⟩ := and_e m10
  obtain ⟨m13, m14⟩ := and_e m12
  obtain ⟨m15, m16⟩ := and_e m14
  obtain ⟨m17, m18⟩ := and_e m16
  obtain ⟨m19, m20⟩ := and_e m18
  obtain ⟨m21, m22⟩ := and_e m20
  obtain ⟨m23, m24⟩ := and_e m22
  obtain ⟨m25, m26⟩ := and_e m24
  obtain ⟨m27, m28⟩ := and_e m26
  obtain ⟨m29, m30⟩ := and_e m28
  obtain ⟨m31, m32⟩ := and_e m30
  obtain ⟨m33, m34⟩ := and_e m32
  obtain ⟨m35, m36⟩ := and_e m34
  obtain ⟨m37, m38⟩ := and_e m36
  obtain ⟨m39, m40⟩ := and_e m38
  obtain ⟨m41, m42⟩ := and_e m40
  obtain ⟨w_START_OBJECT, evw_START_OBJECT⟩ := exa_v m1
  obtain ⟨w_END_OBJECT, evw_END_OBJECT⟩ := exa_v m3
  obtain ⟨w_START_ARRAY, evw_START_ARRAY⟩ := exa_v m5
  obtain ⟨w_END_ARRAY, evw_END_ARRAY⟩ := exa_v m7
  obtain ⟨w_NAME, evw_NAME⟩ := exa_v m9
  obtain ⟨w_STRING, evw_STRING⟩ := exa_v m11
  obtain ⟨w_INTEGER, evw_INTEGER⟩ := exa_v m13
  obtain ⟨w_DECIMAL, evw_DECIMAL⟩ := exa_v m15
  obtain ⟨w_TRUE, evw_TRUE⟩ := exa_v m17
  obtain ⟨w_FALSE, evw_FALSE⟩ := exa_v m19
  obtain ⟨w_NULL, evw_NULL⟩ := exa_v m21
  have WW : World s s.heap w_START_OBJECT w_END_OBJECT w_START_ARRAY w_END_ARRAY w_NAME w_STRING w_INTEGER w_DECIMAL w_TRUE w_FALSE w_NULL := ⟨Sta.start evw_START_OBJECT (Or.inr ⟨(hw _ (List.mem_of_getElem? (i := 3) rfl)), (hw _ (List.mem_of_getElem? (i := 4) rfl))⟩), Sta.start evw_END_OBJECT (Or.inr ⟨(hw _ (List.mem_of_getElem? (i := 3) rfl)), (hw _ (List.mem_of_getElem? (i := 7) rfl))⟩), Sta.start evw_START_ARRAY (Or.inr ⟨(hw _ (List.mem_of_getElem? (i := 3) rfl)), (hw _ (List.mem_of_getElem? (i := 9) rfl))⟩), Sta.start evw_END_ARRAY (Or.inr ⟨(hw _ (List.mem_of_getElem? (i := 3) rfl)), (hw _ (List.mem_of_getElem? (i := 11) rfl))⟩), Sta.start evw_NAME (Or.inr ⟨(hw _ (List.mem_of_getElem? (i := 3) rfl)), (hw _ (List.mem_of_getElem? (i := 13) rfl))⟩), Sta.start evw_STRING (Or.inr ⟨(hw _ (List.mem_of_getElem? (i := 3) rfl)), (hw _ (List.mem_of_getElem? (i := 15) rfl))⟩), Sta.start evw_INTEGER (Or.inr ⟨(hw _ (List.mem_of_getElem? (i := 3) rfl)), (hw _ (List.mem_of_getElem? (i := 17) rfl))⟩), Sta.start evw_DECIMAL (Or.inr ⟨(hw _ (List.mem_of_getElem? (i := 3) rfl)), (hw _ (List.mem_of_getElem? (i := 19) rfl))⟩), Sta.start evw_TRUE (Or.inr ⟨(hw _ (List.mem_of_getElem? (i := 3) rfl)), (hw _ (List.mem_of_getElem? (i := 21) rfl))⟩), Sta.start evw_FALSE (Or.inr ⟨(hw _ (List.mem_of_getElem? (i := 3) rfl)), (hw _ (List.mem_of_getElem? (i := 23) rfl))⟩), Sta.start evw_NULL (Or.inr ⟨(hw _ (List.mem_of_getElem? (i := 3) rfl)), (hw _ (List.mem_of_getElem? (i := 25) rfl))⟩), Exa.start evw_START_OBJECT m1, Exa.start evw_END_OBJECT m3, Exa.start evw_START_ARRAY m5, Exa.start evw_END_ARRAY m7, Exa.start evw_NAME m9, Exa.start evw_STRING m11, Exa.start evw_INTEGER m13, Exa.start evw_DECIMAL m15, Exa.start evw_TRUE m17, Exa.start evw_FALSE m19, Exa.start evw_NULL m21, Fld.start ((fld_at evw_START_OBJECT).symm.trans (own_eqI m23)), Fld.start ((fld_at evw_END_OBJECT).symm.trans (own_eqI m37)), Fld.start ((fld_at evw_START_ARRAY).symm.trans (own_eqI m33)), Fld.start ((fld_at evw_END_ARRAY).symm.trans (own_eqI m29)), Fld.start ((fld_at evw_NAME).symm.trans (own_eqI m42)), Fld.start ((fld_at evw_STRING).symm.trans (own_eqI m41)), Fld.start ((fld_at evw_INTEGER).symm.trans (own_eqI m25)), Fld.start ((fld_at evw_DECIMAL).symm.trans (own_eqI m27)), Fld.start ((fld_at evw_TRUE).symm.trans (own_eqI m31)), Fld.start ((fld_at evw_FALSE).symm.trans (own_eqI m39)), Fld.start ((fld_at evw_NULL).symm.trans (own_eqI m35))⟩
  obtain ⟨n, o, h1, h2, h3, _, L, rfl, ⟨rfl, N⟩, hq⟩ := rm0 l s _ hw tables_1 i0 w_START_OBJECT w_END_OBJECT w_START_ARRAY w_END_ARRAY w_NAME w_STRING w_INTEGER w_DECIMAL w_TRUE w_FALSE w_NULL s.heap s.heap.size (Nat.le_refl _) WW (Old.start s) p e ha hc hk s m _ below hf ((Spec.applies_iff_loose hf).mp happ).1 ⟨rfl, State.Warmed39.refl s, rfl⟩ trivial
  refine ⟨n, _, h1, h2, h3, hpost _ _ _ _ _ _ ⟨Cond.after_iff.mpr rfl, Cond.after_iff.mpr (eq_i res_at (Term.int_eval (1)) rfl), trivial⟩ ⟨hq.1, hq.2.1, (hq.2.2.sift fun y hy => Or.inr (N y hy)).mono (by decide) (by decide)⟩⟩
theorem main_1_1 : Claimed_1_1 := comes_1 fun _ _ _ _ _ _ h hF => ⟨h.1, hF⟩
theorem main_1_2 : Claimed_1_2 := comes_1 fun _ _ _ _ _ _ h hF => ⟨h.2.1, hF⟩
end Jvm.Pilot.@@N@@
namespace Jvm.Pilot.@@N@@
open Jvm Jvm.ClassFile Sem Op Lib Jvm.Free Jvm.Stand Jvm.Pilot.@@N@@.Jvm.D
/-! MADE BY PROGRAM (witnessworld.py) out of the Statement's table words and the real class files: 15 classes; the members and pool entries that the words name. The judged class is class 1, her method 1. -/
namespace start1
open Jvm.ClassFile
def u (s : String) : CpInfo := .utf8 (stringToUtf16 s)
/-- a pool by its gaps: so many unusable entries, then the entry; so many at the end -/
def gap : Nat → List CpInfo → List CpInfo
  | 0, r => r
  | n + 1, r => .unusable :: gap n r
def poolList (es : List (Nat × CpInfo)) (last : Nat) : List CpInfo := es.foldr (fun e r => gap e.1 (e.2 :: r)) (gap last [])
def pool (es : List (Nat × CpInfo)) (last : Nat) : Array CpInfo := ⟨poolList es last⟩
def fileOf (pool : Array CpInfo) (this : Nat) (attrs : Array Attribute := #[]) (ms : Array MethodInfo := #[]) (fl : Nat := 33) (sup : Nat := 0) (ifs : Array Nat := #[]) (fds : Array FieldInfo := #[]) : ClassFile where
  minorVersion := 0
  majorVersion := 65
  constantPool := pool
  accessFlags := fl
  thisClass := this
  superClass := sup
  interfaces := ifs
  fields := fds
  methods := ms
  attributes := attrs
def plain (name : String) (sup : Option ClassId) : Class where
  name := name
  kind := .ordinary
  loader := none
  accessFlags := 33
  super := sup
  interfaces := #[]
  cf := none
  fields := #[]
  methods := #[]
  instanceTypes := #[]
  staticTypes := #[]
  resolved := #[]
  callSites := []
  init := .initialized
  statics := none
  mirror := none

def pool0 : Array CpInfo := pool [(5, u "<init>"), (0, u "()V"), (1, .class_ 10), (1, u "java/lang/Object")] 113

def k0m0 : Method := { name := "<init>", desc := "()V", sig := { parameters := [], returnType := none }, accessFlags := 1, code := none }
/-- java/lang/Object -/
def k0 : Class := { plain "java/lang/Object" none with
  accessFlags := 33
  interfaces := #[]
  cf := some (fileOf pool0 8 #[] #[{ accessFlags := 1, nameIndex := 5, descriptorIndex := 6, attributes := #[] }] 33 0 #[] #[])
  fields := #[]
  methods := #[k0m0]
  instanceTypes := #[]
  staticTypes := #[]
  resolved := Array.replicate 124 none
  statics := none }

def pool1 : Array CpInfo := pool [(2, .class_ 4), (1, u "java/lang/Object"), (0, u "<init>"), (0, u "()V"), (0, .class_ 8), (0, u "com/example/graticule/graticule/storage/JsonScanner$Token"), (0, .fieldref 7 10), (0, .nameAndType 11 12), (0, u "START_OBJECT"), (0, u "Lcom/example/graticule/graticule/storage/JsonScanner$Token;"), (0, .fieldref 7 14), (0, .nameAndType 15 12), (0, u "END_OBJECT"), (0, .fieldref 7 17), (0, .nameAndType 18 12), (0, u "START_ARRAY"), (0, .fieldref 7 20), (0, .nameAndType 21 12), (0, u "END_ARRAY"), (0, .fieldref 7 23), (0, .nameAndType 24 12), (0, u "NAME"), (0, .fieldref 7 26), (0, .nameAndType 27 12), (0, u "STRING"), (0, .fieldref 7 29), (0, .nameAndType 30 12), (0, u "INTEGER"), (0, .fieldref 7 32), (0, .nameAndType 33 12), (0, u "DECIMAL"), (0, .fieldref 7 35), (0, .nameAndType 36 12), (0, u "TRUE"), (0, .fieldref 7 38), (0, .nameAndType 39 12), (0, u "FALSE"), (0, .fieldref 7 41), (0, .nameAndType 42 12), (0, u "NULL"), (0, .integer 2147483647), (0, .methodref 7 45), (0, .nameAndType 46 47), (0, u "isNumber"), (0, u "()Z"), (0, .class_ 49), (0, u "com/example/graticule/graticule/storage/TokenIsNumberPinLaw"), (2, u "law"), (0, u "(I)Z")] 11

def k1m0 : Method := { name := "<init>", desc := "()V", sig := { parameters := [], returnType := none }, accessFlags := 1, code := none }
def k1c1 : Code := { maxStack := 4, maxLocals := 4, code := code, exceptionTable := #[], attributes := #[] }
def k1m1 : Method := { name := "law", desc := "(I)Z", sig := { parameters := [.int], returnType := some .boolean }, accessFlags := 9, code := some k1c1 }
/-- com/example/graticule/graticule/storage/TokenIsNumberPinLaw -/
def k1 : Class := { plain "com/example/graticule/graticule/storage/TokenIsNumberPinLaw" (some 0) with
  accessFlags := 49
  interfaces := #[]
  cf := some (fileOf pool1 48 #[] #[{ accessFlags := 1, nameIndex := 5, descriptorIndex := 6, attributes := #[] }, { accessFlags := 9, nameIndex := 52, descriptorIndex := 53, attributes := #[] }] 49 2 #[] #[])
  fields := #[]
  methods := #[k1m0, k1m1]
  instanceTypes := #[]
  staticTypes := #[]
  resolved := Array.replicate 65 none
  statics := none }

def pool2 : Array CpInfo := pool [(1, .class_ 2), (0, u "java/lang/constant/Constable"), (0, .class_ 4), (0, u "java/lang/Object")] 6

/-- java/lang/constant/Constable -/
def k2 : Class := { plain "java/lang/constant/Constable" (some 0) with
  accessFlags := 1537
  interfaces := #[]
  cf := some (fileOf pool2 1 #[] #[] 1537 3 #[] #[])
  fields := #[]
  methods := #[]
  instanceTypes := #[]
  staticTypes := #[]
  resolved := Array.replicate 11 none
  statics := none }

def pool3 : Array CpInfo := pool [(1, .class_ 2), (0, u "java/lang/Comparable"), (0, .class_ 4), (0, u "java/lang/Object")] 7

/-- java/lang/Comparable -/
def k3 : Class := { plain "java/lang/Comparable" (some 0) with
  accessFlags := 1537
  interfaces := #[]
  cf := some (fileOf pool3 1 #[] #[] 1537 3 #[] #[])
  fields := #[]
  methods := #[]
  instanceTypes := #[]
  staticTypes := #[]
  resolved := Array.replicate 12 none
  statics := none }

def pool4 : Array CpInfo := pool [(1, .class_ 2), (0, u "java/io/Serializable"), (0, .class_ 4), (0, u "java/lang/Object")] 2

/-- java/io/Serializable -/
def k4 : Class := { plain "java/io/Serializable" (some 0) with
  accessFlags := 1537
  interfaces := #[]
  cf := some (fileOf pool4 1 #[] #[] 1537 3 #[] #[])
  fields := #[]
  methods := #[]
  instanceTypes := #[]
  staticTypes := #[]
  resolved := Array.replicate 7 none
  statics := none }

def pool5 : Array CpInfo := pool [(2, .class_ 4), (1, u "java/lang/Enum"), (0, u "name"), (0, u "Ljava/lang/String;"), (2, u "ordinal"), (0, u "I"), (1, .class_ 14), (1, u "java/lang/Object"), (4, u "hash"), (86, .class_ 108), (1, u "java/lang/Enum$EnumDesc"), (2, .class_ 112), (0, u "java/lang/constant/Constable"), (0, .class_ 114), (0, u "java/lang/Comparable"), (0, .class_ 116), (0, u "java/io/Serializable")] 87

/-- java/lang/Enum -/
def k5 : Class := { plain "java/lang/Enum" (some 0) with
  accessFlags := 1057
  interfaces := #[2, 3, 4]
  cf := some (fileOf pool5 2 #[.nestMembers #[106]] #[] 1057 12 #[111, 113, 115] #[{ accessFlags := 18, nameIndex := 5, descriptorIndex := 6, attributes := #[] }, { accessFlags := 18, nameIndex := 9, descriptorIndex := 10, attributes := #[] }, { accessFlags := 2, nameIndex := 19, descriptorIndex := 10, attributes := #[] }])
  fields := #[{ name := "name", type := (.object "java/lang/String"), accessFlags := 18, slot := 0, constantValue := 0 }, { name := "ordinal", type := .int, accessFlags := 18, slot := 1, constantValue := 0 }, { name := "hash", type := .int, accessFlags := 2, slot := 2, constantValue := 0 }]
  methods := #[]
  instanceTypes := #[(.object "java/lang/String"), .int, .int]
  staticTypes := #[]
  resolved := Array.replicate 204 none
  statics := none }

def pool6 : Array CpInfo := pool [(1, .class_ 2), (0, u "com/example/graticule/graticule/storage/JsonScanner$Token"), (2, u "START_OBJECT"), (0, u "Lcom/example/graticule/graticule/storage/JsonScanner$Token;"), (2, u "END_OBJECT"), (2, u "START_ARRAY"), (2, u "END_ARRAY"), (2, u "NAME"), (2, u "STRING"), (0, .fieldref 1 23), (0, .nameAndType 24 6), (0, u "INTEGER"), (0, .fieldref 1 26), (0, .nameAndType 27 6), (0, u "DECIMAL"), (2, u "TRUE"), (2, u "FALSE"), (2, u "NULL"), (2, u "$VALUES"), (0, u "[Lcom/example/graticule/graticule/storage/JsonScanner$Token;"), (6, .class_ 49), (1, u "java/lang/Enum"), (29, u "isNumber"), (0, u "()Z"), (6, .class_ 88), (0, u "com/example/graticule/graticule/storage/JsonScanner")] 2

def k6c0 : Code := { maxStack := 2, maxLocals := 1, code := prog_14_method_4_code, exceptionTable := #[], attributes := #[] }
def k6m0 : Method := { name := "isNumber", desc := "()Z", sig := { parameters := [], returnType := some .boolean }, accessFlags := 0, code := some k6c0 }
/-- com/example/graticule/graticule/storage/JsonScanner$Token -/
def k6 : Class := { plain "com/example/graticule/graticule/storage/JsonScanner$Token" (some 5) with
  accessFlags := 16432
  interfaces := #[]
  cf := some (fileOf pool6 1 #[.nestHost 87] #[{ accessFlags := 0, nameIndex := 79, descriptorIndex := 80, attributes := #[] }] 16432 47 #[] #[{ accessFlags := 16409, nameIndex := 5, descriptorIndex := 6, attributes := #[] }, { accessFlags := 16409, nameIndex := 9, descriptorIndex := 6, attributes := #[] }, { accessFlags := 16409, nameIndex := 12, descriptorIndex := 6, attributes := #[] }, { accessFlags := 16409, nameIndex := 15, descriptorIndex := 6, attributes := #[] }, { accessFlags := 16409, nameIndex := 18, descriptorIndex := 6, attributes := #[] }, { accessFlags := 16409, nameIndex := 21, descriptorIndex := 6, attributes := #[] }, { accessFlags := 16409, nameIndex := 24, descriptorIndex := 6, attributes := #[] }, { accessFlags := 16409, nameIndex := 27, descriptorIndex := 6, attributes := #[] }, { accessFlags := 16409, nameIndex := 30, descriptorIndex := 6, attributes := #[] }, { accessFlags := 16409, nameIndex := 33, descriptorIndex := 6, attributes := #[] }, { accessFlags := 16409, nameIndex := 36, descriptorIndex := 6, attributes := #[] }, { accessFlags := 4122, nameIndex := 39, descriptorIndex := 40, attributes := #[] }])
  fields := #[{ name := "START_OBJECT", type := (.object "com/example/graticule/graticule/storage/JsonScanner$Token"), accessFlags := 16409, slot := 0, constantValue := 0 }, { name := "END_OBJECT", type := (.object "com/example/graticule/graticule/storage/JsonScanner$Token"), accessFlags := 16409, slot := 1, constantValue := 0 }, { name := "START_ARRAY", type := (.object "com/example/graticule/graticule/storage/JsonScanner$Token"), accessFlags := 16409, slot := 2, constantValue := 0 }, { name := "END_ARRAY", type := (.object "com/example/graticule/graticule/storage/JsonScanner$Token"), accessFlags := 16409, slot := 3, constantValue := 0 }, { name := "NAME", type := (.object "com/example/graticule/graticule/storage/JsonScanner$Token"), accessFlags := 16409, slot := 4, constantValue := 0 }, { name := "STRING", type := (.object "com/example/graticule/graticule/storage/JsonScanner$Token"), accessFlags := 16409, slot := 5, constantValue := 0 }, { name := "INTEGER", type := (.object "com/example/graticule/graticule/storage/JsonScanner$Token"), accessFlags := 16409, slot := 6, constantValue := 0 }, { name := "DECIMAL", type := (.object "com/example/graticule/graticule/storage/JsonScanner$Token"), accessFlags := 16409, slot := 7, constantValue := 0 }, { name := "TRUE", type := (.object "com/example/graticule/graticule/storage/JsonScanner$Token"), accessFlags := 16409, slot := 8, constantValue := 0 }, { name := "FALSE", type := (.object "com/example/graticule/graticule/storage/JsonScanner$Token"), accessFlags := 16409, slot := 9, constantValue := 0 }, { name := "NULL", type := (.object "com/example/graticule/graticule/storage/JsonScanner$Token"), accessFlags := 16409, slot := 10, constantValue := 0 }, { name := "$VALUES", type := (.array (.object "com/example/graticule/graticule/storage/JsonScanner$Token")), accessFlags := 4122, slot := 11, constantValue := 0 }]
  methods := #[k6m0]
  instanceTypes := #[(.object "java/lang/String"), .int, .int]
  staticTypes := #[(.object "com/example/graticule/graticule/storage/JsonScanner$Token"), (.object "com/example/graticule/graticule/storage/JsonScanner$Token"), (.object "com/example/graticule/graticule/storage/JsonScanner$Token"), (.object "com/example/graticule/graticule/storage/JsonScanner$Token"), (.object "com/example/graticule/graticule/storage/JsonScanner$Token"), (.object "com/example/graticule/graticule/storage/JsonScanner$Token"), (.object "com/example/graticule/graticule/storage/JsonScanner$Token"), (.object "com/example/graticule/graticule/storage/JsonScanner$Token"), (.object "com/example/graticule/graticule/storage/JsonScanner$Token"), (.object "com/example/graticule/graticule/storage/JsonScanner$Token"), (.object "com/example/graticule/graticule/storage/JsonScanner$Token"), (.array (.object "com/example/graticule/graticule/storage/JsonScanner$Token"))]
  resolved := Array.replicate 91 none
  statics := some 0 }

def pool7 : Array CpInfo := pool [(1, u "java/lang/Cloneable"), (0, .class_ 1), (0, u "java/lang/Object"), (0, .class_ 3)] 3

/-- java/lang/Cloneable -/
def k7 : Class := { plain "java/lang/Cloneable" (some 0) with
  accessFlags := 1537
  interfaces := #[]
  cf := some (fileOf pool7 2 #[] #[] 1537 4 #[] #[])
  fields := #[]
  methods := #[]
  instanceTypes := #[]
  staticTypes := #[]
  resolved := Array.replicate 8 none
  statics := none }

/-- the primitive boolean -/
def k8 : Class := { plain "boolean" none with kind := .primitive 'Z', accessFlags := 0x411 }
/-- [Z -/
def k9 : Class := { plain "[Z" (some 0) with kind := .array 8 .boolean, interfaces := #[7, 4], accessFlags := 1041 }

/-- the primitive byte -/
def k10 : Class := { plain "byte" none with kind := .primitive 'B', accessFlags := 0x411 }
/-- [B -/
def k11 : Class := { plain "[B" (some 0) with kind := .array 10 .byte, interfaces := #[7, 4], accessFlags := 1041 }

/-- the primitive int -/
def k12 : Class := { plain "int" none with kind := .primitive 'I', accessFlags := 0x411 }
/-- [I -/
def k13 : Class := { plain "[I" (some 0) with kind := .array 12 .int, interfaces := #[7, 4], accessFlags := 1041 }

/-- [Lcom/example/graticule/graticule/storage/JsonScanner$Token; -/
def k14 : Class := { plain "[Lcom/example/graticule/graticule/storage/JsonScanner$Token;" (some 0) with kind := .array 6 (.object "com/example/graticule/graticule/storage/JsonScanner$Token"), interfaces := #[7, 4], accessFlags := 1041 }

def heap : Heap := #[{ cls := 6, slots := #[.ref 1, .ref 2, .ref 3, .ref 4, .ref 5, .ref 6, .ref 7, .ref 8, .ref 9, .ref 10, .ref 11, .null], vm := .statics 6 },
  { cls := 6, slots := #[.null, .int 0, .int 0], vm := .none },
  { cls := 6, slots := #[.null, .int 1, .int 0], vm := .none },
  { cls := 6, slots := #[.null, .int 2, .int 0], vm := .none },
  { cls := 6, slots := #[.null, .int 3, .int 0], vm := .none },
  { cls := 6, slots := #[.null, .int 4, .int 0], vm := .none },
  { cls := 6, slots := #[.null, .int 5, .int 0], vm := .none },
  { cls := 6, slots := #[.null, .int 6, .int 0], vm := .none },
  { cls := 6, slots := #[.null, .int 7, .int 0], vm := .none },
  { cls := 6, slots := #[.null, .int 8, .int 0], vm := .none },
  { cls := 6, slots := #[.null, .int 9, .int 0], vm := .none },
  { cls := 6, slots := #[.null, .int 10, .int 0], vm := .none }]
def classes : Array Class := #[k0, k1, k2, k3, k4, k5, k6, k7, k8, k9, k10, k11, k12, k13, k14]
def interned : List (Array UInt16 × Addr) := []
def slotsUsed : Nat := 45
def theMethod : MethodId := ⟨1, 1⟩
def args0 : Array Value := #[.int 5]
def aboutOver (below : List Frame) : State where
  vm := { classes := classes, interned := interned.toArray }
  heap := heap
  slotsUsed := slotsUsed
  threads := #[{ frames := .invoking theMethod args0 :: below }]
def below0 : List Frame := [.native { method := ⟨0, 0⟩, args := #[] }]
def about1 : State := aboutOver below0
def p0 : Program := .bare "" "" ""
def e0 : Env := launch0.env 0 0 0
theorem w_frames : about1.frames = Frame.invoking theMethod args0 :: below0 := rfl
set_option maxRecDepth 65536 in
theorem w_args : argsFit about1.vm theMethod args0 = true := by decide +kernel
set_option maxRecDepth 65536 in
theorem w_heap : heapFits about1 = true := by decide +kernel
set_option maxRecDepth 65536 in
theorem w_runnable : about1.curStatus? = some .runnable := by decide +kernel
set_option maxRecDepth 65536 in
theorem w_alone : about1.alone = true := by decide +kernel
set_option maxRecDepth 65536 in
theorem w_named : about1.methodNamed? x = some theMethod := by decide +kernel
set_option maxRecDepth 65536 in
theorem w_hears : about1.hears theMethod below0 = true := by decide +kernel
set_option maxRecDepth 65536 in
theorem w_ripe : about1.ripe theMethod args0 below0 = true := by decide +kernel
theorem w_running : about1.status = .running := rfl
set_option maxRecDepth 65536 in
theorem w_room : about1.hasRoom e0.platform room_1 = true :=
  launch0.hasRoom_least _ room_1 (by decide +kernel) (by decide +kernel) (by decide +kernel) (by decide +kernel) (by decide +kernel) (by decide +kernel)
theorem allAtoms_all (ts : List Jvm.Cond) (a : Array Jvm.Value) (st : Jvm.State) : (allAtoms ts).before a st = ts.all (fun c => c.before a st) := by
  induction ts with
  | nil => rfl
  | cons c t ih =>
    show (Jvm.Cond.and c (allAtoms t)).before a st = _
    rw [Jvm.Cond.before_and, ih, List.all_cons]
def words1 : List Jvm.Cond := Jvm.Cond.code x code maxLocals ret :: tables_1
/-- a 'code' word, met by the world's own term for the bytes: nothing is compared byte by byte -/
theorem code_word {y : MethodName} {bytes : ByteArray} {mx : Nat} {rt : Option FieldType} {a : Array Value} {s : State} {m : MethodId} {meth : Method} {c : Code} (h1 : s.methodNamed? y = some m) (h2 : s.vm.method? m = some meth) (h3 : meth.code = some c) (h4 : c.code = bytes)
    (h5 : (c.maxLocals == mx && c.exceptionTable.isEmpty && decide (c.maxStack ≤ mostOperands) && decide (meth.sig.returnType = rt) && !meth.locks && decide (parseMethodDescriptor y.desc = some meth.sig)) = true) : (Jvm.Cond.code y bytes mx rt).before a s = true := by
  simp only [Bool.and_eq_true, beq_iff_eq, Bool.not_eq_true', decide_eq_true_eq] at h5
  obtain ⟨⟨⟨⟨⟨g1, g2⟩, g3⟩, g4⟩, g5⟩, g6⟩ := h5
  simp [Cond.before, Cond.holds, Cond.value, h1, h2, h3, h4, g1, g2, g3, g4, g5, g6]
def isCode : Jvm.Cond → Bool
  | .code _ _ _ _ => true
  | _ => false
theorem all_split {L : List Jvm.Cond} {P : Jvm.Cond → Bool} (h1 : L.all (fun c => isCode c || P c) = true) (h2 : ∀ c ∈ L.filter isCode, P c = true) : L.all P = true := by
  refine List.all_eq_true.mpr fun c hc => ?_
  have h := List.all_eq_true.mp h1 c hc
  rcases Bool.eq_false_or_eq_true (isCode c) with hi | hi
  · exact h2 c (List.mem_filter.mpr ⟨hc, hi⟩)
  · simpa [hi] using h
set_option maxRecDepth 65536 in
theorem w_c0 : (Jvm.Cond.code x code maxLocals ret).before args0 about1 = true := code_word (m := ⟨1, 1⟩) (meth := k1m1) (c := k1c1) (by decide +kernel) rfl rfl rfl (by decide +kernel)
set_option maxRecDepth 65536 in
theorem w_c1 : (Jvm.Cond.code ({ cls := "com/example/graticule/graticule/storage/JsonScanner$Token", name := "isNumber", desc := "()Z" } : Jvm.MethodName) prog_14_method_4_code (1 : Nat) (Option.some Jvm.ClassFile.FieldType.boolean)).before args0 about1 = true := code_word (m := ⟨6, 0⟩) (meth := k6m0) (c := k6c0) (by decide +kernel) rfl rfl rfl (by decide +kernel)
def codes1 : List Jvm.Cond := [Jvm.Cond.code x code maxLocals ret, Jvm.Cond.code ({ cls := "com/example/graticule/graticule/storage/JsonScanner$Token", name := "isNumber", desc := "()Z" } : Jvm.MethodName) prog_14_method_4_code (1 : Nat) (Option.some Jvm.ClassFile.FieldType.boolean)]
set_option maxRecDepth 65536 in
theorem codes_eq : words1.filter isCode = codes1 := rfl
theorem w_codes : ∀ c ∈ words1.filter isCode, c.before args0 about1 = true := by
  rw [codes_eq]
  intro c hc
  simp only [codes1, List.mem_cons, List.not_mem_nil, or_false] at hc
  rcases hc with rfl | rfl
  · exact w_c0
  · exact w_c1
set_option maxRecDepth 65536 in
theorem w_t1 : (words1.take 24).all (fun c => isCode c || c.before args0 about1) = true := by decide +kernel
set_option maxRecDepth 65536 in
theorem w_t2 : (words1.drop 24).all (fun c => isCode c || c.before args0 about1) = true := by decide +kernel
theorem w_tables : (allAtoms (Jvm.Cond.code x code maxLocals ret :: tables_1)).before args0 about1 = true := by
  rw [allAtoms_all]
  show words1.all (fun c => c.before args0 about1) = true
  refine all_split ?_ w_codes
  rw [← List.take_append_drop 24 words1, List.all_append, w_t1, w_t2]
  rfl
set_option maxRecDepth 65536 in
theorem w_case : (Jvm.Cond.and given_1 narrow_1).before args0 about1 = true := by decide +kernel
theorem w_applies : (headSpec (Jvm.Cond.code x code maxLocals ret :: tables_1) room_1).applies x e0.platform about1 = true :=
  (Spec.applies_iff w_frames).mpr ⟨w_running, w_runnable, w_alone, w_named, w_hears, w_ripe, w_room, w_tables⟩
theorem atStart : AtStart classFile x code maxLocals ret World_1 tables_1 room_1 Calls_1 rest_1 Pre_1 launch0 p0 e0 about1 theMethod args0 below0 :=
  ⟨lists_1, trivial, launch0.admits_env _ _ _, launch0.least_env, fairChoices_fair.cas, fairChoices_fair.clock, w_frames, w_args, w_heap, w_applies, trivial, trivial, w_case⟩
end start1
theorem witness_1 : WitnessClaimed_1 := ⟨start1.p0, start1.e0, start1.about1, start1.theMethod, start1.args0, start1.below0, start1.atStart⟩
end Jvm.Pilot.@@N@@
