import JvmDerived
import JvmDerived.Pilot.@@N@@Statement
import JvmDerived.Pilot.@@N@@Code
set_option linter.unusedVariables false
set_option linter.unusedSimpArgs false
@@BLOCK:NumsL.lean.txt@@
@@BLOCK:Masks.lean.txt@@
namespace Jvm.RoadKit
open Sem ClassFile Op Lib Jvm.Stand Jvm.Free Jvm.LawKit
section New
variable {p : Program} {l : Launch} {e : Env} {R : Room} {s : State} {m : MethodId} {args : Array Value} {below : List Frame} {meth : Method} {c : Code} {T : State} {locs : List Loc} {cells slots : Nat}
theorem retI (X : Stand p l e R s m args below meth c T locs cells slots) (hx : p.tables.exec = Jvm.exec) {pc : Nat} {Ls : Array Slot} {z : Int32} {rest : List Value} (hret : meth.sig.returnType = some .int) (hd : decode c.code pc = .ok (.ireturn, 1)) {fs : List Frame}
    (hl : ∀ (f : JFrame) (acts : List Action), f.method = m → f.locked = none → f.entered = [] → (doReturn e (T.setTop f) acts (some (.int z))).1 = T.setFrames fs) : Steps p.tables e below (T.setTop (mkF m pc Ls (.int z :: rest))) (T.setFrames fs) := by
  have hm' : T.vm.method? m = some meth := X.method'
  have hn : narrow .int (.int z) = .int z := rfl
  show Steps p.tables e below (T.setTop { method := m, pc := pc, locals := Ls, stack := _ :: rest, locked := none }) _
  jvm_step X.here [X.here.top, hx, hd, hm', hret, hn]
  first | (intro acts; rw [hl _ acts rfl rfl rfl]) | rw [hl _ _ rfl rfl rfl]
  exact Steps.refl _
end New
end Jvm.RoadKit
namespace Jvm.Pilot.@@N@@
open Jvm Jvm.ClassFile Sem Op Lib Jvm.Free Jvm.Stand Jvm.LawKit Jvm.RoadKit Bundle Jvm.Pilot.@@N@@.Jvm.D
theorem own_lrem (x y : Int64) : x - (x / y) * y = x % y := Int64.toInt_inj.mp (by rw [Jvm.Kit.i64_rem, Int64.toInt_mod])
theorem lremM {p : Program} {l : Launch} {e : Env} {R : Room} {s : State} {m : MethodId} {args : Array Value} {below : List Frame} {meth : Method} {c : Code} {T : State} {locs : List Loc} {cells slots : Nat} {g : JFrame} {target : State} (X : Stand p l e R s m args below meth c T locs cells slots) (hx : p.tables.exec = Jvm.exec) (hg : g.method = m) {x y : Int64} {rest : List Value} (hd : decode c.code g.pc = .ok (.lrem, 1)) (hs : g.stack = .long y :: .long x :: rest) (hy : y ≠ 0)
    (hr : Steps p.tables e below (T.setTop { g with pc := g.pc + 1, stack := .long (x % y) :: rest }) target) : Steps p.tables e below (T.setTop g) target := by
  exact XS.lrem X.here hx hg hd hs hy (by rw [own_lrem]; exact hr)
theorem own_eqI {args : Array Value} {s : State} {t : Jvm.Term} {n : Int32} (h : (Jvm.Cond.eq t (.int n)).value args s none s [] = some true) : t.eval args s none [] s = some (.int n) := by
  obtain ⟨x, y, hx, hy, k1, k2⟩ := cmp_v (Or.inl h)
  obtain rfl : y = .int n := Option.some.inj (hy.symm.trans (Term.int_eval n))
  obtain ⟨z, rfl⟩ := k2
  have q : z = n := by simpa [Jvm.Cond.value, hx, hy] using h
  rw [hx, q]

theorem own_nsroot {Z : State} {a0 : Array Value} {O K : String} {n : Nat} (w : (Jvm.Cond.noSuperclass O).before a0 Z = true) (wi : (Jvm.Cond.instantiable K n).before a0 Z = true) (hn : O ≠ K) : NS Z O K := by
  obtain ⟨c, k, h1, h2, h3, -, -⟩ := Cond.noSuperclass_spec w
  obtain ⟨t, kt, g1, -⟩ := Cond.instantiable_spec wi
  have ne := ids_ne h1 g1 hn
  refine ⟨c, t, h1, g1, fun fuel => ?_⟩
  cases fuel with
  | zero => rfl
  | succ f => simp [Vm.isSubclassAux, ne, h2, h3]
theorem own_no {Z : State} {a0 : Array Value} {C S K : String} {n : Nat} (w : (Jvm.Cond.superclass C S).before a0 Z = true) (wi : (Jvm.Cond.instantiable K n).before a0 Z = true) (N : NS Z C K) (hn : C ≠ K) : ∃ c t, Z.vm.findClass C = some c ∧ Z.vm.findClass K = some t ∧ Z.vm.assignable c t = false := by
  obtain ⟨c, t, h0, g0, n3⟩ := N
  obtain ⟨p, k, kp, h1, h2, h3, h4, h5, -, h7⟩ := Cond.superclass_spec h0 w
  obtain ⟨t', k', g1, g2, g3, g4, -⟩ := Cond.instantiable_spec wi
  cases g0.symm.trans g1
  have ne := ids_ne h0 g0 hn
  have g5 : k'.isInterface = false := by revert g4; cases k'.isInterface <;> simp
  refine ⟨c, t, h0, g0, ?_⟩
  show Z.vm.assignableAux (255 + 1) c t = false
  simp [Vm.assignableAux, ne, h2, g2, h5, g3, g5, Vm.isSubclass, n3]

theorem own_jI (x : Int32) (h1 : ¬ (x < (-128 : Int32))) (h2 : ¬ ((127 : Int32) < x)) : ¬ (x + (128 : Int32)) < 0 ∧ (x + (128 : Int32)) < 256 := by
  rw [Int32.lt_iff_toInt_lt] at h1 h2
  rw [Int32.lt_iff_toInt_lt, Int32.lt_iff_toInt_lt]
  have e := c_iadd x 128
  have r := rng32 (x + 128)
  have a1 : (-128 : Int32).toInt = -128 := by decide
  have a2 : (127 : Int32).toInt = 127 := by decide
  have a3 : (128 : Int32).toInt = 128 := by decide
  have a4 : (0 : Int32).toInt = 0 := by decide
  have a5 : (256 : Int32).toInt = 256 := by decide
  omega

theorem own_len {args : Array Value} {s : State} {t : Jvm.Term} {a : Addr} {cl : Cell} {ty : FieldType} {n : Int32} (ev : t.eval args s none [] s = some (.ref a)) (A : Arr s s.heap a cl ty) (h : (Jvm.Term.length t).eval args s none [] s = some (.int n)) : cl.slots.size < 2 ^ 31 ∧ cl.slots.size.toInt32 = n := by
  have q := A.fin (Vm.Alike.refl _)
  by_cases hs : cl.slots.size < 2 ^ 31
  · exact ⟨hs, Value.int.inj (Option.some.inj ((len_f ev q hs).symm.trans h))⟩
  · exfalso
    simp [Jvm.Term.eval, ev, q, hs] at h
theorem own_sub {args : Array Value} {s : State} {j : Int32} (hj : ¬ j < 0) : (Jvm.Term.sub (.index 0) (.int 128)).eval args s none [j.toNatClampNeg] s = some (.int (j - 128)) := by
  simp [Jvm.Term.eval, (back32 hj).1]

theorem own_wS {Z : State} {a0 : Array Value} (hw : ∀ d ∈ tables_1, d.before a0 Z = true) : ∀ a ∈ Bundle.stringAtoms, a.before a0 Z = true := by
  intro a ha
  simp only [Bundle.stringAtoms, List.mem_cons, List.not_mem_nil, or_false] at ha
  rcases ha with rfl | rfl | rfl | rfl | rfl | rfl | rfl
  · exact (hw _ (List.mem_of_getElem? (i := 24) rfl))
  · exact (hw _ (List.mem_of_getElem? (i := 25) rfl))
  · exact (hw _ (List.mem_of_getElem? (i := 26) rfl))
  · exact (hw _ (List.mem_of_getElem? (i := 27) rfl))
  · exact (hw _ (List.mem_of_getElem? (i := 28) rfl))
  · exact (hw _ (List.mem_of_getElem? (i := 29) rfl))
  · exact (hw _ (List.mem_of_getElem? (i := 30) rfl))
theorem own_ext {h h' : Heap} (K : Keep h h' []) : Ext h h' := ⟨K.1, fun a c q => K.2.1 a c q nin0⟩


def World (Z : State) (h : Heap) (w_IR w_R w_U w_IW w_W : Addr) : Prop :=
  Sta Z h "com/example/libdmutex/libdmutex/core/Mode" "IR" "Lcom/example/libdmutex/libdmutex/core/Mode;" (.ref w_IR) ∧
  Sta Z h "com/example/libdmutex/libdmutex/core/Mode" "R" "Lcom/example/libdmutex/libdmutex/core/Mode;" (.ref w_R) ∧
  Sta Z h "com/example/libdmutex/libdmutex/core/Mode" "U" "Lcom/example/libdmutex/libdmutex/core/Mode;" (.ref w_U) ∧
  Sta Z h "com/example/libdmutex/libdmutex/core/Mode" "IW" "Lcom/example/libdmutex/libdmutex/core/Mode;" (.ref w_IW) ∧
  Sta Z h "com/example/libdmutex/libdmutex/core/Mode" "W" "Lcom/example/libdmutex/libdmutex/core/Mode;" (.ref w_W) ∧
  Exa Z h w_IR "com/example/libdmutex/libdmutex/core/Mode" ∧
  Exa Z h w_R "com/example/libdmutex/libdmutex/core/Mode" ∧
  Exa Z h w_U "com/example/libdmutex/libdmutex/core/Mode" ∧
  Exa Z h w_IW "com/example/libdmutex/libdmutex/core/Mode" ∧
  Exa Z h w_W "com/example/libdmutex/libdmutex/core/Mode" ∧
  Fld Z h w_IR "java/lang/Enum" "ordinal" "I" (.int (0 : Int32)) ∧
  Fld Z h w_R "java/lang/Enum" "ordinal" "I" (.int (1 : Int32)) ∧
  Fld Z h w_U "java/lang/Enum" "ordinal" "I" (.int (2 : Int32)) ∧
  Fld Z h w_IW "java/lang/Enum" "ordinal" "I" (.int (3 : Int32)) ∧
  Fld Z h w_W "java/lang/Enum" "ordinal" "I" (.int (4 : Int32))
theorem World.ext {Z : State} {h h' : Heap} {w_IR w_R w_U w_IW w_W : Addr} (E : Ext h h') (W : World Z h w_IR w_R w_U w_IW w_W) : World Z h' w_IR w_R w_U w_IW w_W :=
  ⟨Sta.ext E W.1, Sta.ext E W.2.1, Sta.ext E W.2.2.1, Sta.ext E W.2.2.2.1, Sta.ext E W.2.2.2.2.1, Exa.ext E W.2.2.2.2.2.1, Exa.ext E W.2.2.2.2.2.2.1, Exa.ext E W.2.2.2.2.2.2.2.1, Exa.ext E W.2.2.2.2.2.2.2.2.1, Exa.ext E W.2.2.2.2.2.2.2.2.2.1, Fld.ext E W.2.2.2.2.2.2.2.2.2.2.1, Fld.ext E W.2.2.2.2.2.2.2.2.2.2.2.1, Fld.ext E W.2.2.2.2.2.2.2.2.2.2.2.2.1, Fld.ext E W.2.2.2.2.2.2.2.2.2.2.2.2.2.1, Fld.ext E W.2.2.2.2.2.2.2.2.2.2.2.2.2.2⟩
theorem d1_0 : decode method_2_code 0 = .ok (.iload_n 0, 1) := by decide +kernel
theorem d1_1 : decode method_2_code 1 = .ok (.ldc 7, 2) := by decide +kernel
theorem d1_3 : decode method_2_code 3 = .ok (.iand, 1) := by decide +kernel
theorem d1_4 : decode method_2_code 4 = .ok (.iconst 5, 1) := by decide +kernel
theorem d1_5 : decode method_2_code 5 = .ok (.irem, 1) := by decide +kernel
theorem d1_6 : decode method_2_code 6 = .ok (.istore_n 1, 1) := by decide +kernel
theorem d1_7 : decode method_2_code 7 = .ok (.iload_n 1, 1) := by decide +kernel
theorem d1_8 : decode method_2_code 8 = .ok (.ifCond .ne 7, 3) := by decide +kernel
theorem d1_11 : decode method_2_code 11 = .ok (.getstatic 8, 3) := by decide +kernel
theorem d1_14 : decode method_2_code 14 = .ok (.areturn, 1) := by decide +kernel
theorem d1_15 : decode method_2_code 15 = .ok (.iload_n 1, 1) := by decide +kernel
theorem d1_16 : decode method_2_code 16 = .ok (.iconst 1, 1) := by decide +kernel
theorem d1_17 : decode method_2_code 17 = .ok (.if_icmp .ne 7, 3) := by decide +kernel
theorem d1_20 : decode method_2_code 20 = .ok (.getstatic 14, 3) := by decide +kernel
theorem d1_23 : decode method_2_code 23 = .ok (.areturn, 1) := by decide +kernel
theorem d1_24 : decode method_2_code 24 = .ok (.iload_n 1, 1) := by decide +kernel
theorem d1_25 : decode method_2_code 25 = .ok (.iconst 2, 1) := by decide +kernel
theorem d1_26 : decode method_2_code 26 = .ok (.if_icmp .ne 7, 3) := by decide +kernel
theorem d1_29 : decode method_2_code 29 = .ok (.getstatic 17, 3) := by decide +kernel
theorem d1_32 : decode method_2_code 32 = .ok (.areturn, 1) := by decide +kernel
theorem d1_33 : decode method_2_code 33 = .ok (.iload_n 1, 1) := by decide +kernel
theorem d1_34 : decode method_2_code 34 = .ok (.iconst 3, 1) := by decide +kernel
theorem d1_35 : decode method_2_code 35 = .ok (.if_icmp .ne 7, 3) := by decide +kernel
theorem d1_38 : decode method_2_code 38 = .ok (.getstatic 20, 3) := by decide +kernel
theorem d1_41 : decode method_2_code 41 = .ok (.areturn, 1) := by decide +kernel
theorem d1_42 : decode method_2_code 42 = .ok (.getstatic 23, 3) := by decide +kernel
theorem d1_45 : decode method_2_code 45 = .ok (.areturn, 1) := by decide +kernel
theorem pn_0 : plainName "com/example/libdmutex/libdmutex/core/QueuedEqualsPinLaw" = true := by first | (simp [plainName, overriddenIn]; done) | decide +kernel
theorem ef_1 (m : MethodId) (x1_0 : Int32) : entryFrame m #[(.int x1_0)] 2 = mkF m 0 #[.val (.int x1_0), .unset] [] := by first | (simp [entryFrame, mkF, argsToLocals, Value.category]; done) | rfl
def f1 (x1_0 : Int32) (w_IR w_R w_U w_IW w_W : Addr) : Addr := if ((x1_0 &&& (2147483647 : Int32)) % (5 : Int32)) = (0 : Int32) then w_IR else if ((x1_0 &&& (2147483647 : Int32)) % (5 : Int32)) = (1 : Int32) then w_R else if ((x1_0 &&& (2147483647 : Int32)) % (5 : Int32)) = (2 : Int32) then w_U else if ((x1_0 &&& (2147483647 : Int32)) % (5 : Int32)) = (3 : Int32) then w_IW else w_W
def Q1 (Z : State) (x1_0 : Int32) (w_IR w_R w_U w_IW w_W : Addr) (h0 : Heap) (n0 : Nat) (v : Option Value) (h : Heap) (L : List Loc) : Prop := v = some (.ref (f1 x1_0 w_IR w_R w_U w_IW w_W)) ∧ Fr n0 L ∧ h = h0
set_option maxRecDepth 65536 in
set_option maxHeartbeats 40000000 in
theorem rm1 (l : Launch) (Z : State) (a0 : Array Value) (hw : ∀ d ∈ tables_1, d.before a0 Z = true) (ws : List Jvm.Cond) (x1_0 : Int32) (w_IR w_R w_U w_IW w_W : Addr) (h0 : Heap) (n0 : Nat) (Z0 : n0 ≤ h0.size) (W : World Z h0 w_IR w_R w_U w_IW w_W) :
    MetFree l (⟨"com/example/libdmutex/libdmutex/core/QueuedEqualsPinLaw", "mode", "(I)Lcom/example/libdmutex/libdmutex/core/Mode;"⟩ : MethodName) (head1 (Jvm.Cond.code (⟨"com/example/libdmutex/libdmutex/core/QueuedEqualsPinLaw", "mode", "(I)Lcom/example/libdmutex/libdmutex/core/Mode;"⟩ : MethodName) method_2_code 2 (some (.object "com/example/libdmutex/libdmutex/core/Mode")) :: ws) ({ frames := 0, cells := 0, slots := 0, locals := 0 } : Room)) (fun a U => a = #[(.int x1_0)] ∧ Z.Warmed39 U.vm ∧ U.heap = h0) (fun _ _ _ _ _ => True) (fun _ U o U' => ∃ v L, o = .returned v ∧ Q1 Z x1_0 w_IR w_R w_U w_IW w_W h0 n0 v U'.heap L ∧ FrameEnd U o U' L ({ frames := 0, cells := 0, slots := 0, locals := 0 } : Room).cells ({ frames := 0, cells := 0, slots := 0, locals := 0 } : Room).slots) := by
  refine MetFree.of_bodySF (plainFor_of_name pn_0) hisR ?_
  intro p e s m args below meth c s₁ Bd hml0 hP hK
  obtain ⟨rfl, hZ, hh⟩ := hP
  have hx := Bd.exec
  have hby := Bd.bytes
  have hml : c.maxLocals = 2 := hml0
  have hown : s.vm.findClass "com/example/libdmutex/libdmutex/core/QueuedEqualsPinLaw" = some m.cls := findClass_of_methodNamed Bd.named
  have hnm := (name_of_methodNamed Bd.named Bd.method).1
  have X0 : Stand p l e ({ frames := 0, cells := 0, slots := 0, locals := 0 } : Room) s m #[(.int x1_0)] below meth c s₁ [] 0 0 := Stand.of_body Bd
  have e0 : s₁.heap = h0 := by rw [← hh, Bd.state]; rfl
  have N0 := Fr.nil n0
  have pre0 : ∀ t, Steps p.tables e below (s₁.setTop (mkF m 0 #[.val (.int x1_0), .unset] [])) t → Steps p.tables e below (s₁.setTop (entryFrame m #[(.int x1_0)] 2)) t := fun t k => castTop (ef_1 m x1_0) k
  have sg1 : ∀ t, Steps p.tables e below (s₁.setTop (mkF m 8 #[.val (.int x1_0), .val (.int ((x1_0 &&& (2147483647 : Int32)) % (5 : Int32)))] [(.int ((x1_0 &&& (2147483647 : Int32)) % (5 : Int32)))])) t → Steps p.tables e below (s₁.setTop (mkF m 0 #[.val (.int x1_0), .unset] [])) t := fun t kt => by
    show Steps p.tables e below (s₁.setTop (mkF m 0 #[.val (.int x1_0), .unset] [])) _
    refine XS.iloadN X0.here hx rfl (hb hby d1_0) rfl ?_
    show Steps p.tables e below (s₁.setTop (mkF m 1 #[.val (.int x1_0), .unset] [(.int x1_0)])) _
    refine X0.ldcInt hx hown (mvT hZ (hw _ (List.mem_of_getElem? (i := 4) rfl))) (g := (mkF m 1 #[.val (.int x1_0), .unset] [(.int x1_0)])) rfl (hb hby d1_1) _ ?_
    show Steps p.tables e below (s₁.setTop (mkF m 3 #[.val (.int x1_0), .unset] [(.int (2147483647 : Int32)), (.int x1_0)])) _
    refine XS.iand X0.here hx rfl (hb hby d1_3) rfl ?_
    show Steps p.tables e below (s₁.setTop (mkF m 4 #[.val (.int x1_0), .unset] [(.int (x1_0 &&& (2147483647 : Int32)))])) _
    refine XS.iconst X0.here hx rfl (hb hby d1_4) ?_
    show Steps p.tables e below (s₁.setTop (mkF m 5 #[.val (.int x1_0), .unset] [(.int (5 : Int32)), (.int (x1_0 &&& (2147483647 : Int32)))])) _
    refine iremM X0 hx rfl (hb hby d1_5) rfl (by decide : ¬ ((5 : Int32) = (0 : Int32))) ?_
    show Steps p.tables e below (s₁.setTop (mkF m 6 #[.val (.int x1_0), .unset] [(.int ((x1_0 &&& (2147483647 : Int32)) % (5 : Int32)))])) _
    refine XS.istoreN X0.here hx rfl (hb hby d1_6) rfl (l' := #[.val (.int x1_0), .val (.int ((x1_0 &&& (2147483647 : Int32)) % (5 : Int32)))]) rfl ?_
    show Steps p.tables e below (s₁.setTop (mkF m 7 #[.val (.int x1_0), .val (.int ((x1_0 &&& (2147483647 : Int32)) % (5 : Int32)))] [])) _
    refine XS.iloadN X0.here hx rfl (hb hby d1_7) rfl ?_
    exact kt
  by_cases hc8_2 : ((x1_0 &&& (2147483647 : Int32)) % (5 : Int32)) = (0 : Int32)
  · obtain ⟨T3, X3, e3, st3⟩ := getS2 X0 hx hZ hown (host := "") (Or.inl (hw _ (List.mem_of_getElem? (i := 8) rfl))) Via.refl e0 (W.1) (g := (mkF m 11 #[.val (.int x1_0), .val (.int ((x1_0 &&& (2147483647 : Int32)) % (5 : Int32)))] [])) rfl (hb hby d1_11)
    obtain ⟨fs, hr, hrun, hended, hW, hsame⟩ := X3.leave (v := some (.ref w_IR)) (fun h => by rw [Bd.returns] at h; cases h)
    refine ⟨_, _, pre0 _ (sg1 _ ?_), hrun, hended, _, _, rfl, ?_, ⟨_, rfl⟩, hW, hsame.mono (by decide) (by decide)⟩
    · show Steps p.tables e below (s₁.setTop (mkF m 8 #[.val (.int x1_0), .val (.int ((x1_0 &&& (2147483647 : Int32)) % (5 : Int32)))] [(.int ((x1_0 &&& (2147483647 : Int32)) % (5 : Int32)))])) _
      refine XS.ifNo X0.here hx rfl (hb hby d1_8) rfl ((if0 _ _).trans (teq hc8_2).2) ?_
      show Steps p.tables e below (s₁.setTop (mkF m 11 #[.val (.int x1_0), .val (.int ((x1_0 &&& (2147483647 : Int32)) % (5 : Int32)))] [])) _
      refine st3 _ ?_
      show Steps p.tables e below (T3.setTop (mkF m 14 #[.val (.int x1_0), .val (.int ((x1_0 &&& (2147483647 : Int32)) % (5 : Int32)))] [(.ref w_IR)])) _
      exact retOut X3 hx Bd.returns rfl (Or.inr (Or.inr (Or.inr (Or.inr ⟨rfl, rfl, rfl⟩)))) (hb hby d1_14) hr
    · exact ⟨congrArg (fun z => some (Value.ref z)) (show w_IR = f1 x1_0 w_IR w_R w_U w_IW w_W from by unfold f1; rw [if_pos hc8_2]), N0, e3⟩
  · have sg4 : ∀ t, Steps p.tables e below (s₁.setTop (mkF m 17 #[.val (.int x1_0), .val (.int ((x1_0 &&& (2147483647 : Int32)) % (5 : Int32)))] [(.int (1 : Int32)), (.int ((x1_0 &&& (2147483647 : Int32)) % (5 : Int32)))])) t → Steps p.tables e below (s₁.setTop (mkF m 8 #[.val (.int x1_0), .val (.int ((x1_0 &&& (2147483647 : Int32)) % (5 : Int32)))] [(.int ((x1_0 &&& (2147483647 : Int32)) % (5 : Int32)))])) t := fun t kt => by
      show Steps p.tables e below (s₁.setTop (mkF m 8 #[.val (.int x1_0), .val (.int ((x1_0 &&& (2147483647 : Int32)) % (5 : Int32)))] [(.int ((x1_0 &&& (2147483647 : Int32)) % (5 : Int32)))])) _
      refine XS.ifYes X0.here hx rfl (pc0 := 8) (pc' := 15) rfl (hb hby d1_8) rfl ((if0 _ _).trans (feq hc8_2).2) (by decide) (by decide) ?_
      show Steps p.tables e below (s₁.setTop (mkF m 15 #[.val (.int x1_0), .val (.int ((x1_0 &&& (2147483647 : Int32)) % (5 : Int32)))] [])) _
      refine XS.iloadN X0.here hx rfl (hb hby d1_15) rfl ?_
      show Steps p.tables e below (s₁.setTop (mkF m 16 #[.val (.int x1_0), .val (.int ((x1_0 &&& (2147483647 : Int32)) % (5 : Int32)))] [(.int ((x1_0 &&& (2147483647 : Int32)) % (5 : Int32)))])) _
      refine XS.iconst X0.here hx rfl (hb hby d1_16) ?_
      exact kt
    by_cases hc17_5 : ((x1_0 &&& (2147483647 : Int32)) % (5 : Int32)) = (1 : Int32)
    · obtain ⟨T6, X6, e6, st6⟩ := getS2 X0 hx hZ hown (host := "") (Or.inl (hw _ (List.mem_of_getElem? (i := 75) rfl))) Via.refl e0 (W.2.1) (g := (mkF m 20 #[.val (.int x1_0), .val (.int ((x1_0 &&& (2147483647 : Int32)) % (5 : Int32)))] [])) rfl (hb hby d1_20)
      obtain ⟨fs, hr, hrun, hended, hW, hsame⟩ := X6.leave (v := some (.ref w_R)) (fun h => by rw [Bd.returns] at h; cases h)
      refine ⟨_, _, pre0 _ (sg1 _ (sg4 _ ?_)), hrun, hended, _, _, rfl, ?_, ⟨_, rfl⟩, hW, hsame.mono (by decide) (by decide)⟩
      · show Steps p.tables e below (s₁.setTop (mkF m 17 #[.val (.int x1_0), .val (.int ((x1_0 &&& (2147483647 : Int32)) % (5 : Int32)))] [(.int (1 : Int32)), (.int ((x1_0 &&& (2147483647 : Int32)) % (5 : Int32)))])) _
        refine XS.icmpNo X0.here hx rfl (hb hby d1_17) rfl (teq hc17_5).2 ?_
        show Steps p.tables e below (s₁.setTop (mkF m 20 #[.val (.int x1_0), .val (.int ((x1_0 &&& (2147483647 : Int32)) % (5 : Int32)))] [])) _
        refine st6 _ ?_
        show Steps p.tables e below (T6.setTop (mkF m 23 #[.val (.int x1_0), .val (.int ((x1_0 &&& (2147483647 : Int32)) % (5 : Int32)))] [(.ref w_R)])) _
        exact retOut X6 hx Bd.returns rfl (Or.inr (Or.inr (Or.inr (Or.inr ⟨rfl, rfl, rfl⟩)))) (hb hby d1_23) hr
      · exact ⟨congrArg (fun z => some (Value.ref z)) (show w_R = f1 x1_0 w_IR w_R w_U w_IW w_W from by unfold f1; rw [if_neg hc8_2, if_pos hc17_5]), N0, e6⟩
    · have sg7 : ∀ t, Steps p.tables e below (s₁.setTop (mkF m 26 #[.val (.int x1_0), .val (.int ((x1_0 &&& (2147483647 : Int32)) % (5 : Int32)))] [(.int (2 : Int32)), (.int ((x1_0 &&& (2147483647 : Int32)) % (5 : Int32)))])) t → Steps p.tables e below (s₁.setTop (mkF m 17 #[.val (.int x1_0), .val (.int ((x1_0 &&& (2147483647 : Int32)) % (5 : Int32)))] [(.int (1 : Int32)), (.int ((x1_0 &&& (2147483647 : Int32)) % (5 : Int32)))])) t := fun t kt => by
        show Steps p.tables e below (s₁.setTop (mkF m 17 #[.val (.int x1_0), .val (.int ((x1_0 &&& (2147483647 : Int32)) % (5 : Int32)))] [(.int (1 : Int32)), (.int ((x1_0 &&& (2147483647 : Int32)) % (5 : Int32)))])) _
        refine XS.icmpYes X0.here hx rfl (pc0 := 17) (pc' := 24) rfl (hb hby d1_17) rfl (feq hc17_5).2 (by decide) (by decide) ?_
        show Steps p.tables e below (s₁.setTop (mkF m 24 #[.val (.int x1_0), .val (.int ((x1_0 &&& (2147483647 : Int32)) % (5 : Int32)))] [])) _
        refine XS.iloadN X0.here hx rfl (hb hby d1_24) rfl ?_
        show Steps p.tables e below (s₁.setTop (mkF m 25 #[.val (.int x1_0), .val (.int ((x1_0 &&& (2147483647 : Int32)) % (5 : Int32)))] [(.int ((x1_0 &&& (2147483647 : Int32)) % (5 : Int32)))])) _
        refine XS.iconst X0.here hx rfl (hb hby d1_25) ?_
        exact kt
      by_cases hc26_8 : ((x1_0 &&& (2147483647 : Int32)) % (5 : Int32)) = (2 : Int32)
      · obtain ⟨T9, X9, e9, st9⟩ := getS2 X0 hx hZ hown (host := "") (Or.inl (hw _ (List.mem_of_getElem? (i := 5) rfl))) Via.refl e0 (W.2.2.1) (g := (mkF m 29 #[.val (.int x1_0), .val (.int ((x1_0 &&& (2147483647 : Int32)) % (5 : Int32)))] [])) rfl (hb hby d1_29)
        obtain ⟨fs, hr, hrun, hended, hW, hsame⟩ := X9.leave (v := some (.ref w_U)) (fun h => by rw [Bd.returns] at h; cases h)
        refine ⟨_, _, pre0 _ (sg1 _ (sg4 _ (sg7 _ ?_))), hrun, hended, _, _, rfl, ?_, ⟨_, rfl⟩, hW, hsame.mono (by decide) (by decide)⟩
        · show Steps p.tables e below (s₁.setTop (mkF m 26 #[.val (.int x1_0), .val (.int ((x1_0 &&& (2147483647 : Int32)) % (5 : Int32)))] [(.int (2 : Int32)), (.int ((x1_0 &&& (2147483647 : Int32)) % (5 : Int32)))])) _
          refine XS.icmpNo X0.here hx rfl (hb hby d1_26) rfl (teq hc26_8).2 ?_
          show Steps p.tables e below (s₁.setTop (mkF m 29 #[.val (.int x1_0), .val (.int ((x1_0 &&& (2147483647 : Int32)) % (5 : Int32)))] [])) _
          refine st9 _ ?_
          show Steps p.tables e below (T9.setTop (mkF m 32 #[.val (.int x1_0), .val (.int ((x1_0 &&& (2147483647 : Int32)) % (5 : Int32)))] [(.ref w_U)])) _
          exact retOut X9 hx Bd.returns rfl (Or.inr (Or.inr (Or.inr (Or.inr ⟨rfl, rfl, rfl⟩)))) (hb hby d1_32) hr
        · exact ⟨congrArg (fun z => some (Value.ref z)) (show w_U = f1 x1_0 w_IR w_R w_U w_IW w_W from by unfold f1; rw [if_neg hc8_2, if_neg hc17_5, if_pos hc26_8]), N0, e9⟩
      · have sg10 : ∀ t, Steps p.tables e below (s₁.setTop (mkF m 35 #[.val (.int x1_0), .val (.int ((x1_0 &&& (2147483647 : Int32)) % (5 : Int32)))] [(.int (3 : Int32)), (.int ((x1_0 &&& (2147483647 : Int32)) % (5 : Int32)))])) t → Steps p.tables e below (s₁.setTop (mkF m 26 #[.val (.int x1_0), .val (.int ((x1_0 &&& (2147483647 : Int32)) % (5 : Int32)))] [(.int (2 : Int32)), (.int ((x1_0 &&& (2147483647 : Int32)) % (5 : Int32)))])) t := fun t kt => by
          show Steps p.tables e below (s₁.setTop (mkF m 26 #[.val (.int x1_0), .val (.int ((x1_0 &&& (2147483647 : Int32)) % (5 : Int32)))] [(.int (2 : Int32)), (.int ((x1_0 &&& (2147483647 : Int32)) % (5 : Int32)))])) _
          refine XS.icmpYes X0.here hx rfl (pc0 := 26) (pc' := 33) rfl (hb hby d1_26) rfl (feq hc26_8).2 (by decide) (by decide) ?_
          show Steps p.tables e below (s₁.setTop (mkF m 33 #[.val (.int x1_0), .val (.int ((x1_0 &&& (2147483647 : Int32)) % (5 : Int32)))] [])) _
          refine XS.iloadN X0.here hx rfl (hb hby d1_33) rfl ?_
          show Steps p.tables e below (s₁.setTop (mkF m 34 #[.val (.int x1_0), .val (.int ((x1_0 &&& (2147483647 : Int32)) % (5 : Int32)))] [(.int ((x1_0 &&& (2147483647 : Int32)) % (5 : Int32)))])) _
          refine XS.iconst X0.here hx rfl (hb hby d1_34) ?_
          exact kt
        by_cases hc35_11 : ((x1_0 &&& (2147483647 : Int32)) % (5 : Int32)) = (3 : Int32)
        · obtain ⟨T12, X12, e12, st12⟩ := getS2 X0 hx hZ hown (host := "") (Or.inl (hw _ (List.mem_of_getElem? (i := 46) rfl))) Via.refl e0 (W.2.2.2.1) (g := (mkF m 38 #[.val (.int x1_0), .val (.int ((x1_0 &&& (2147483647 : Int32)) % (5 : Int32)))] [])) rfl (hb hby d1_38)
          obtain ⟨fs, hr, hrun, hended, hW, hsame⟩ := X12.leave (v := some (.ref w_IW)) (fun h => by rw [Bd.returns] at h; cases h)
          refine ⟨_, _, pre0 _ (sg1 _ (sg4 _ (sg7 _ (sg10 _ ?_)))), hrun, hended, _, _, rfl, ?_, ⟨_, rfl⟩, hW, hsame.mono (by decide) (by decide)⟩
          · show Steps p.tables e below (s₁.setTop (mkF m 35 #[.val (.int x1_0), .val (.int ((x1_0 &&& (2147483647 : Int32)) % (5 : Int32)))] [(.int (3 : Int32)), (.int ((x1_0 &&& (2147483647 : Int32)) % (5 : Int32)))])) _
            refine XS.icmpNo X0.here hx rfl (hb hby d1_35) rfl (teq hc35_11).2 ?_
            show Steps p.tables e below (s₁.setTop (mkF m 38 #[.val (.int x1_0), .val (.int ((x1_0 &&& (2147483647 : Int32)) % (5 : Int32)))] [])) _
            refine st12 _ ?_
            show Steps p.tables e below (T12.setTop (mkF m 41 #[.val (.int x1_0), .val (.int ((x1_0 &&& (2147483647 : Int32)) % (5 : Int32)))] [(.ref w_IW)])) _
            exact retOut X12 hx Bd.returns rfl (Or.inr (Or.inr (Or.inr (Or.inr ⟨rfl, rfl, rfl⟩)))) (hb hby d1_41) hr
          · exact ⟨congrArg (fun z => some (Value.ref z)) (show w_IW = f1 x1_0 w_IR w_R w_U w_IW w_W from by unfold f1; rw [if_neg hc8_2, if_neg hc17_5, if_neg hc26_8, if_pos hc35_11]), N0, e12⟩
        · obtain ⟨T13, X13, e13, st13⟩ := getS2 X0 hx hZ hown (host := "") (Or.inl (hw _ (List.mem_of_getElem? (i := 72) rfl))) Via.refl e0 (W.2.2.2.2.1) (g := (mkF m 42 #[.val (.int x1_0), .val (.int ((x1_0 &&& (2147483647 : Int32)) % (5 : Int32)))] [])) rfl (hb hby d1_42)
          obtain ⟨fs, hr, hrun, hended, hW, hsame⟩ := X13.leave (v := some (.ref w_W)) (fun h => by rw [Bd.returns] at h; cases h)
          refine ⟨_, _, pre0 _ (sg1 _ (sg4 _ (sg7 _ (sg10 _ ?_)))), hrun, hended, _, _, rfl, ?_, ⟨_, rfl⟩, hW, hsame.mono (by decide) (by decide)⟩
          · show Steps p.tables e below (s₁.setTop (mkF m 35 #[.val (.int x1_0), .val (.int ((x1_0 &&& (2147483647 : Int32)) % (5 : Int32)))] [(.int (3 : Int32)), (.int ((x1_0 &&& (2147483647 : Int32)) % (5 : Int32)))])) _
            refine XS.icmpYes X0.here hx rfl (pc0 := 35) (pc' := 42) rfl (hb hby d1_35) rfl (feq hc35_11).2 (by decide) (by decide) ?_
            show Steps p.tables e below (s₁.setTop (mkF m 42 #[.val (.int x1_0), .val (.int ((x1_0 &&& (2147483647 : Int32)) % (5 : Int32)))] [])) _
            refine st13 _ ?_
            show Steps p.tables e below (T13.setTop (mkF m 45 #[.val (.int x1_0), .val (.int ((x1_0 &&& (2147483647 : Int32)) % (5 : Int32)))] [(.ref w_W)])) _
            exact retOut X13 hx Bd.returns rfl (Or.inr (Or.inr (Or.inr (Or.inr ⟨rfl, rfl, rfl⟩)))) (hb hby d1_45) hr
          · exact ⟨congrArg (fun z => some (Value.ref z)) (show w_W = f1 x1_0 w_IR w_R w_U w_IW w_W from by unfold f1; rw [if_neg hc8_2, if_neg hc17_5, if_neg hc26_8, if_neg hc35_11]), N0, e13⟩
theorem own_exa {Z : State} {h : Heap} (i : Int32) (w_IR w_R w_U w_IW w_W : Addr) (W : World Z h w_IR w_R w_U w_IW w_W) : Exa Z h (f1 i w_IR w_R w_U w_IW w_W) "com/example/libdmutex/libdmutex/core/Mode" := by
  unfold f1
  by_cases h0 : ((i &&& (2147483647 : Int32)) % (5 : Int32)) = (0 : Int32)
  · rw [if_pos h0]; exact (W.2.2.2.2.2.1)
  rw [if_neg h0]
  by_cases h1 : ((i &&& (2147483647 : Int32)) % (5 : Int32)) = (1 : Int32)
  · rw [if_pos h1]; exact (W.2.2.2.2.2.2.1)
  rw [if_neg h1]
  by_cases h2 : ((i &&& (2147483647 : Int32)) % (5 : Int32)) = (2 : Int32)
  · rw [if_pos h2]; exact (W.2.2.2.2.2.2.2.1)
  rw [if_neg h2]
  by_cases h3 : ((i &&& (2147483647 : Int32)) % (5 : Int32)) = (3 : Int32)
  · rw [if_pos h3]; exact (W.2.2.2.2.2.2.2.2.1)
  rw [if_neg h3]
  exact (W.2.2.2.2.2.2.2.2.2.1)
theorem d4_0 : decode jdk_31_method_11_code 0 = .ok (.aload_n 0, 1) := by decide +kernel
theorem d4_1 : decode jdk_31_method_11_code 1 = .ok (.ifnonnull 12, 3) := by decide +kernel
theorem d4_13 : decode jdk_31_method_11_code 13 = .ok (.aload_n 0, 1) := by decide +kernel
theorem d4_14 : decode jdk_31_method_11_code 14 = .ok (.areturn, 1) := by decide +kernel
theorem pn_1 : plainName "java/util/Objects" = true := by first | (simp [plainName, overriddenIn]; done) | decide +kernel
theorem ef_4 (m : MethodId) (x4_0 : Addr) (x4_1 : Addr) : entryFrame m #[(.ref x4_0), (.ref x4_1)] 2 = mkF m 0 #[.val (.ref x4_0), .val (.ref x4_1)] [] := by first | (simp [entryFrame, mkF, argsToLocals, Value.category]; done) | rfl
def f4 (x4_0 : Addr) (x4_1 : Addr) : Addr := x4_0
def Q4 (Z : State) (x4_0 : Addr) (x4_1 : Addr) (h0 : Heap) (n0 : Nat) (v : Option Value) (h : Heap) (L : List Loc) : Prop := v = some (.ref (f4 x4_0 x4_1)) ∧ Fr n0 L ∧ h = h0
set_option maxRecDepth 65536 in
set_option maxHeartbeats 40000000 in
theorem rm4 (l : Launch) (Z : State) (a0 : Array Value) (hw : ∀ d ∈ tables_1, d.before a0 Z = true) (ws : List Jvm.Cond) (x4_0 : Addr) (x4_1 : Addr) (h0 : Heap) (n0 : Nat) (Z0 : n0 ≤ h0.size) :
    MetFree l (⟨"java/util/Objects", "requireNonNull", "(Ljava/lang/Object;Ljava/lang/String;)Ljava/lang/Object;"⟩ : MethodName) (head1 (Jvm.Cond.code (⟨"java/util/Objects", "requireNonNull", "(Ljava/lang/Object;Ljava/lang/String;)Ljava/lang/Object;"⟩ : MethodName) jdk_31_method_11_code 2 (some (.object "java/lang/Object")) :: ws) ({ frames := 0, cells := 0, slots := 0, locals := 0 } : Room)) (fun a U => a = #[(.ref x4_0), (.ref x4_1)] ∧ Z.Warmed39 U.vm ∧ U.heap = h0) (fun _ _ _ _ _ => True) (fun _ U o U' => ∃ v L, o = .returned v ∧ Q4 Z x4_0 x4_1 h0 n0 v U'.heap L ∧ FrameEnd U o U' L ({ frames := 0, cells := 0, slots := 0, locals := 0 } : Room).cells ({ frames := 0, cells := 0, slots := 0, locals := 0 } : Room).slots) := by
  refine MetFree.of_bodySF (plainFor_of_name pn_1) hisR ?_
  intro p e s m args below meth c s₁ Bd hml0 hP hK
  obtain ⟨rfl, hZ, hh⟩ := hP
  have hx := Bd.exec
  have hby := Bd.bytes
  have hml : c.maxLocals = 2 := hml0
  have hown : s.vm.findClass "java/util/Objects" = some m.cls := findClass_of_methodNamed Bd.named
  have hnm := (name_of_methodNamed Bd.named Bd.method).1
  have X0 : Stand p l e ({ frames := 0, cells := 0, slots := 0, locals := 0 } : Room) s m #[(.ref x4_0), (.ref x4_1)] below meth c s₁ [] 0 0 := Stand.of_body Bd
  have e0 : s₁.heap = h0 := by rw [← hh, Bd.state]; rfl
  have N0 := Fr.nil n0
  have pre0 : ∀ t, Steps p.tables e below (s₁.setTop (mkF m 0 #[.val (.ref x4_0), .val (.ref x4_1)] [])) t → Steps p.tables e below (s₁.setTop (entryFrame m #[(.ref x4_0), (.ref x4_1)] 2)) t := fun t k => castTop (ef_4 m x4_0 x4_1) k
  obtain ⟨fs, hr, hrun, hended, hW, hsame⟩ := X0.leave (v := some (.ref x4_0)) (fun h => by rw [Bd.returns] at h; cases h)
  refine ⟨_, _, pre0 _ (?_), hrun, hended, _, _, rfl, ?_, ⟨_, rfl⟩, hW, hsame.mono (by decide) (by decide)⟩
  · show Steps p.tables e below (s₁.setTop (mkF m 0 #[.val (.ref x4_0), .val (.ref x4_1)] [])) _
    refine XS.aloadN X0.here hx rfl (hb hby d4_0) rfl rfl ?_
    show Steps p.tables e below (s₁.setTop (mkF m 1 #[.val (.ref x4_0), .val (.ref x4_1)] [(.ref x4_0)])) _
    refine XS.ifnonnullYes X0.here hx rfl (pc0 := 1) (pc' := 13) rfl (hb hby d4_1) rfl (by decide) (by decide) ?_
    show Steps p.tables e below (s₁.setTop (mkF m 13 #[.val (.ref x4_0), .val (.ref x4_1)] [])) _
    refine XS.aloadN X0.here hx rfl (hb hby d4_13) rfl rfl ?_
    show Steps p.tables e below (s₁.setTop (mkF m 14 #[.val (.ref x4_0), .val (.ref x4_1)] [(.ref x4_0)])) _
    exact retOut X0 hx Bd.returns rfl (Or.inr (Or.inr (Or.inr (Or.inr ⟨rfl, rfl, rfl⟩)))) (hb hby d4_14) hr
  · exact ⟨rfl, N0, e0⟩
theorem pd_0 : parseMethodDescriptor "(Ljava/lang/Object;Ljava/lang/String;)Ljava/lang/Object;" = some ⟨[(.object "java/lang/Object"), (.object "java/lang/String")], some (.object "java/lang/Object")⟩ := by decide +kernel
theorem d2_0 : decode prog_62_method_1_code 0 = .ok (.aload_n 0, 1) := by decide +kernel
theorem d2_1 : decode prog_62_method_1_code 1 = .ok (.invokespecial 1, 3) := by decide +kernel
theorem d2_4 : decode prog_62_method_1_code 4 = .ok (.aload_n 0, 1) := by decide +kernel
theorem d2_5 : decode prog_62_method_1_code 5 = .ok (.iload_n 1, 1) := by decide +kernel
theorem d2_6 : decode prog_62_method_1_code 6 = .ok (.putfield 7, 3) := by decide +kernel
theorem d2_9 : decode prog_62_method_1_code 9 = .ok (.aload_n 0, 1) := by decide +kernel
theorem d2_10 : decode prog_62_method_1_code 10 = .ok (.lload_n 2, 1) := by decide +kernel
theorem d2_11 : decode prog_62_method_1_code 11 = .ok (.putfield 13, 3) := by decide +kernel
theorem d2_14 : decode prog_62_method_1_code 14 = .ok (.aload_n 0, 1) := by decide +kernel
theorem d2_15 : decode prog_62_method_1_code 15 = .ok (.aload 4, 2) := by decide +kernel
theorem d2_17 : decode prog_62_method_1_code 17 = .ok (.ldc 17, 2) := by decide +kernel
theorem d2_19 : decode prog_62_method_1_code 19 = .ok (.invokestatic 19, 3) := by decide +kernel
theorem d2_22 : decode prog_62_method_1_code 22 = .ok (.checkcast 25, 3) := by decide +kernel
theorem d2_25 : decode prog_62_method_1_code 25 = .ok (.putfield 27, 3) := by decide +kernel
theorem d2_28 : decode prog_62_method_1_code 28 = .ok (.return_, 1) := by decide +kernel
theorem pn_2 : plainName "com/example/libdmutex/libdmutex/core/TokenTree$Token$Queued" = true := by first | (simp [plainName, overriddenIn]; done) | decide +kernel
theorem ef_2 (m : MethodId) (x2_0 : Addr) (x2_1 : Int32) (x2_2 : Int64) (x2_3 : Addr) : entryFrame m #[(.ref x2_0), (.int x2_1), (.long x2_2), (.ref x2_3)] 5 = mkF m 0 #[.val (.ref x2_0), .val (.int x2_1), .val (.long x2_2), .second, .val (.ref x2_3)] [] := by first | (simp [entryFrame, mkF, argsToLocals, Value.category]; done) | rfl
def Q2 (Z : State) (x2_0 : Addr) (x2_1 : Int32) (x2_2 : Int64) (x2_3 : Addr) (h0 : Heap) (n0 : Nat) (v : Option Value) (h : Heap) (L : List Loc) : Prop := v = none ∧ Fr n0 L ∧ Keep h0 h [x2_0] ∧ Exa Z h x2_0 "com/example/libdmutex/libdmutex/core/TokenTree$Token$Queued" ∧ Fld Z h x2_0 "com/example/libdmutex/libdmutex/core/TokenTree$Token$Queued" "peer" "I" (.int x2_1) ∧ Fld Z h x2_0 "com/example/libdmutex/libdmutex/core/TokenTree$Token$Queued" "ticket" "J" (.long x2_2) ∧ Fld Z h x2_0 "com/example/libdmutex/libdmutex/core/TokenTree$Token$Queued" "mode" "Lcom/example/libdmutex/libdmutex/core/Mode;" (.ref x2_3)
set_option maxRecDepth 65536 in
set_option maxHeartbeats 40000000 in
theorem rm2 (l : Launch) (Z : State) (a0 : Array Value) (hw : ∀ d ∈ tables_1, d.before a0 Z = true) (ws : List Jvm.Cond) (x2_0 : Addr) (x2_1 : Int32) (x2_2 : Int64) (x2_3 : Addr) (h0 : Heap) (n0 : Nat) (Z0 : n0 ≤ h0.size) (Exa0 : Exa Z h0 x2_0 "com/example/libdmutex/libdmutex/core/TokenTree$Token$Queued") (g_x2_0 : n0 ≤ x2_0) (Fo_peer : Fld Z h0 x2_0 "com/example/libdmutex/libdmutex/core/TokenTree$Token$Queued" "peer" "I" (.int (0 : Int32))) (Fo_ticket : Fld Z h0 x2_0 "com/example/libdmutex/libdmutex/core/TokenTree$Token$Queued" "ticket" "J" (.long (0 : Int64))) (Fo_mode : Fld Z h0 x2_0 "com/example/libdmutex/libdmutex/core/TokenTree$Token$Queued" "mode" "Lcom/example/libdmutex/libdmutex/core/Mode;" .null) (Exa3 : Exa Z h0 x2_3 "com/example/libdmutex/libdmutex/core/Mode") :
    MetFree l (⟨"com/example/libdmutex/libdmutex/core/TokenTree$Token$Queued", "<init>", "(IJLcom/example/libdmutex/libdmutex/core/Mode;)V"⟩ : MethodName) (head1 (Jvm.Cond.code (⟨"com/example/libdmutex/libdmutex/core/TokenTree$Token$Queued", "<init>", "(IJLcom/example/libdmutex/libdmutex/core/Mode;)V"⟩ : MethodName) prog_62_method_1_code 5 none :: ws) ({ frames := 1, cells := 2, slots := 20, locals := 14 } : Room)) (fun a U => a = #[(.ref x2_0), (.int x2_1), (.long x2_2), (.ref x2_3)] ∧ Z.Warmed39 U.vm ∧ U.heap = h0) (fun _ _ _ _ _ => True) (fun _ U o U' => ∃ v L, o = .returned v ∧ Q2 Z x2_0 x2_1 x2_2 x2_3 h0 n0 v U'.heap L ∧ ReturnedEndW U o U' L ({ frames := 1, cells := 2, slots := 20, locals := 14 } : Room).cells ({ frames := 1, cells := 2, slots := 20, locals := 14 } : Room).slots) := by
  refine MetFree.of_bodySF (plainFor_of_name pn_2) hisR ?_
  intro p e s m args below meth c s₁ Bd hml0 hP hK
  obtain ⟨rfl, hZ, hh⟩ := hP
  have hx := Bd.exec
  have hby := Bd.bytes
  have hml : c.maxLocals = 5 := hml0
  have hown : s.vm.findClass "com/example/libdmutex/libdmutex/core/TokenTree$Token$Queued" = some m.cls := findClass_of_methodNamed Bd.named
  have hnm := (name_of_methodNamed Bd.named Bd.method).1
  have X0 : Stand p l e ({ frames := 1, cells := 2, slots := 20, locals := 14 } : Room) s m #[(.ref x2_0), (.int x2_1), (.long x2_2), (.ref x2_3)] below meth c s₁ [] 0 0 := Stand.of_body Bd
  have e0 : s₁.heap = h0 := by rw [← hh, Bd.state]; rfl
  have N0 := Fr.nil n0
  have pre0 : ∀ t, Steps p.tables e below (s₁.setTop (mkF m 0 #[.val (.ref x2_0), .val (.int x2_1), .val (.long x2_2), .second, .val (.ref x2_3)] [])) t → Steps p.tables e below (s₁.setTop (entryFrame m #[(.ref x2_0), (.int x2_1), (.long x2_2), (.ref x2_3)] 5)) t := fun t k => castTop (ef_2 m x2_0 x2_1 x2_2 x2_3) k
  have hS0 : s.Since s.vm h0.size := (State.WarmedH.refl s).since _
  have hk0 : h0.size ≤ h0.size := Nat.le_refl _
  obtain ⟨T1, X1, e1, st1⟩ := initO X0 hx hZ hown (hw _ (List.mem_of_getElem? (i := 16) rfl)) (hw _ (List.mem_of_getElem? (i := 17) rfl)) (hw _ (List.mem_of_getElem? (i := 18) rfl)) e0 (g := (mkF m 1 #[.val (.ref x2_0), .val (.int x2_1), .val (.long x2_2), .second, .val (.ref x2_3)] [(.ref x2_0)])) rfl (by rw [hml]; rfl) rfl (hb hby d2_1) (by decide) (W := 0) (by show 2 * 0 + _ ≤ _; exact Nat.le_of_eq rfl) (by decide)
  obtain ⟨T2, h2, X2, e2, W2, st2⟩ := putF X1 hx hZ hown (host := "") (Or.inl (hw _ (List.mem_of_getElem? (i := 19) rfl))) Via.refl e1 Fo_peer Exa0 (Or.inr ⟨(hw _ (List.mem_of_getElem? (i := 20) rfl)), rfl, hnm⟩) (hw _ (List.mem_of_getElem? (i := 11) rfl)) (ty := .int) (by decide) rfl rfl (g := (mkF m 6 #[.val (.ref x2_0), .val (.int x2_1), .val (.long x2_2), .second, .val (.ref x2_3)] [(.int x2_1), (.ref x2_0)])) rfl rfl (hb hby d2_6)
  have Fw2 := Fld.same W2 Fo_peer
  have N2 := Fr.snoc X2 N0 g_x2_0
  have Zs2 : n0 ≤ h2.size := Nat.le_trans Z0 (Keep.of_wr W2).1
  have hk2 := Nat.le_trans hk0 (Keep.of_wr W2).1
  have KC2 : Keep h0 h2 [x2_0] := (Keep.refl h0 [x2_0]).wr W2 (Or.inl (List.mem_of_getElem? (i := 0) rfl))
  have c3 := (Fld.other W2 Fo_ticket (Or.inr (slot_ne (Or.inr (hw _ (List.mem_of_getElem? (i := 22) rfl))) (Or.inr (hw _ (List.mem_of_getElem? (i := 20) rfl))) (by decide) (t := .long) (t' := .int) (by decide) (by decide))))
  have c4 := (Exa.wr W2 Exa0)
  obtain ⟨T5, h5, X5, e5, W5, st5⟩ := putF X2 hx hZ hown (host := "") (Or.inl (hw _ (List.mem_of_getElem? (i := 21) rfl))) Via.refl e2 c3 c4 (Or.inr ⟨(hw _ (List.mem_of_getElem? (i := 22) rfl)), rfl, hnm⟩) (hw _ (List.mem_of_getElem? (i := 11) rfl)) (ty := .long) (by decide) rfl rfl (g := (mkF m 11 #[.val (.ref x2_0), .val (.int x2_1), .val (.long x2_2), .second, .val (.ref x2_3)] [(.long x2_2), (.ref x2_0)])) rfl rfl (hb hby d2_11)
  have Fw5 := Fld.same W5 c3
  have N5 := Fr.snoc X5 N2 g_x2_0
  have Zs5 : n0 ≤ h5.size := Nat.le_trans Zs2 (Keep.of_wr W5).1
  have hk5 := Nat.le_trans hk2 (Keep.of_wr W5).1
  have KC5 : Keep h0 h5 [x2_0] := (KC2).wr W5 (Or.inl (List.mem_of_getElem? (i := 0) rfl))
  have sg6 : ∀ t, Steps p.tables e below (T5.setTop (mkF m 17 #[.val (.ref x2_0), .val (.int x2_1), .val (.long x2_2), .second, .val (.ref x2_3)] [(.ref x2_3), (.ref x2_0)])) t → Steps p.tables e below (s₁.setTop (mkF m 0 #[.val (.ref x2_0), .val (.int x2_1), .val (.long x2_2), .second, .val (.ref x2_3)] [])) t := fun t kt => by
    show Steps p.tables e below (s₁.setTop (mkF m 0 #[.val (.ref x2_0), .val (.int x2_1), .val (.long x2_2), .second, .val (.ref x2_3)] [])) _
    refine XS.aloadN X0.here hx rfl (hb hby d2_0) rfl rfl ?_
    show Steps p.tables e below (s₁.setTop (mkF m 1 #[.val (.ref x2_0), .val (.int x2_1), .val (.long x2_2), .second, .val (.ref x2_3)] [(.ref x2_0)])) _
    refine st1 _ ?_
    show Steps p.tables e below (T1.setTop (mkF m 4 #[.val (.ref x2_0), .val (.int x2_1), .val (.long x2_2), .second, .val (.ref x2_3)] [])) _
    refine XS.aloadN X1.here hx rfl (hb hby d2_4) rfl rfl ?_
    show Steps p.tables e below (T1.setTop (mkF m 5 #[.val (.ref x2_0), .val (.int x2_1), .val (.long x2_2), .second, .val (.ref x2_3)] [(.ref x2_0)])) _
    refine XS.iloadN X1.here hx rfl (hb hby d2_5) rfl ?_
    show Steps p.tables e below (T1.setTop (mkF m 6 #[.val (.ref x2_0), .val (.int x2_1), .val (.long x2_2), .second, .val (.ref x2_3)] [(.int x2_1), (.ref x2_0)])) _
    refine st2 _ ?_
    show Steps p.tables e below (T2.setTop (mkF m 9 #[.val (.ref x2_0), .val (.int x2_1), .val (.long x2_2), .second, .val (.ref x2_3)] [])) _
    refine XS.aloadN X2.here hx rfl (hb hby d2_9) rfl rfl ?_
    show Steps p.tables e below (T2.setTop (mkF m 10 #[.val (.ref x2_0), .val (.int x2_1), .val (.long x2_2), .second, .val (.ref x2_3)] [(.ref x2_0)])) _
    refine XS.lloadN X2.here hx rfl (hb hby d2_10) rfl ?_
    show Steps p.tables e below (T2.setTop (mkF m 11 #[.val (.ref x2_0), .val (.int x2_1), .val (.long x2_2), .second, .val (.ref x2_3)] [(.long x2_2), (.ref x2_0)])) _
    refine st5 _ ?_
    show Steps p.tables e below (T5.setTop (mkF m 14 #[.val (.ref x2_0), .val (.int x2_1), .val (.long x2_2), .second, .val (.ref x2_3)] [])) _
    refine XS.aloadN X5.here hx rfl (hb hby d2_14) rfl rfl ?_
    show Steps p.tables e below (T5.setTop (mkF m 15 #[.val (.ref x2_0), .val (.int x2_1), .val (.long x2_2), .second, .val (.ref x2_3)] [(.ref x2_0)])) _
    refine XS.aload X5.here hx rfl (hb hby d2_15) rfl rfl ?_
    exact kt
  obtain ⟨a7, T7, h7, k7, X7, e7, E7, hS7, hk7, hZ, hown, st7⟩ := ldcS (s := s) (vm0 := s.vm) X5 hx hZ hown (hw _ (List.mem_of_getElem? (i := 23) rfl)) (own_wS hw) e5 hS0 hk5 (g := (mkF m 17 #[.val (.ref x2_0), .val (.int x2_1), .val (.long x2_2), .second, .val (.ref x2_3)] [(.ref x2_3), (.ref x2_0)])) rfl (hb hby d2_17) (n := 16) (by decide) (by decide) (by decide) (by decide)
  have Zs7 : n0 ≤ h7.size := Nat.le_trans Zs5 E7.1
  have KC7 : Keep h0 h7 [x2_0] := (KC5).ext E7
  have sg9 : ∀ t, Steps p.tables e below (T7.setTop (mkF m 19 #[.val (.ref x2_0), .val (.int x2_1), .val (.long x2_2), .second, .val (.ref x2_3)] [(.ref a7), (.ref x2_3), (.ref x2_0)])) t → Steps p.tables e below (T5.setTop (mkF m 17 #[.val (.ref x2_0), .val (.int x2_1), .val (.long x2_2), .second, .val (.ref x2_3)] [(.ref x2_3), (.ref x2_0)])) t := fun t kt => by
    show Steps p.tables e below (T5.setTop (mkF m 17 #[.val (.ref x2_0), .val (.int x2_1), .val (.long x2_2), .second, .val (.ref x2_3)] [(.ref x2_3), (.ref x2_0)])) _
    refine st7 _ ?_
    exact kt
  obtain ⟨v8, _, ⟨T8, L8, k8, n8⟩, -, X8, ⟨Lc8, hQ8, l8, y8, z8⟩, st8⟩ := Jvm.LawKit.callS X7 hx (y := (⟨"java/util/Objects", "requireNonNull", "(Ljava/lang/Object;Ljava/lang/String;)Ljava/lang/Object;"⟩ : MethodName)) hown (mvT hZ (hw _ (List.mem_of_getElem? (i := 31) rfl))) (mvT hZ (hw _ (List.mem_of_getElem? (i := 32) rfl))) (mvT hZ (hw _ (List.mem_of_getElem? (i := 33) rfl))) (mvT hZ (hw _ (List.mem_of_getElem? (i := 34) rfl))) (by decide) (backOf (W := 1) (rm4 l Z a0 hw [] x2_3 a7 h7 n0 Zs7) hZ (hw _ (List.mem_of_getElem? (i := 34) rfl)) (hw _ (List.mem_of_getElem? (i := 33) rfl)) (by decide) (by decide)) (g := (mkF m 19 #[.val (.ref x2_0), .val (.int x2_1), .val (.long x2_2), .second, .val (.ref x2_3)] [(.ref a7), (.ref x2_3), (.ref x2_0)])) rfl (by rw [hml]; rfl) (argsL := [(.ref x2_3), (.ref a7)]) (rest := [(.ref x2_0)]) (lenOf pd_0 rfl) rfl (by show 2 * 0 + _ ≤ _; exact Nat.le_of_eq rfl) (hb hby d2_19) (fun _ _ => ⟨rfl, e7, (by decide : 2 + 0 ≤ _), (by decide : 20 + 0 ≤ _)⟩)
  dsimp only [Pt.U, Pt.locs, Pt.cells, Pt.slots] at X8 l8 y8 z8 st8 hQ8
  subst l8 y8 z8
  obtain ⟨hv8, N8q, e8⟩ := hQ8
  have N8 := Fr.app N5 N8q
  have hf8 : f4 x2_3 a7 = x2_3 := rfl
  rw [hf8] at hv8
  subst hv8
  have c10 := (Exa.ext E7 (Exa.wr W5 (Exa.wr W2 Exa3)))
  obtain ⟨T11, X11, e11, st11⟩ := castY X8 hx hZ hown (hw _ (List.mem_of_getElem? (i := 35) rfl)) e8 (Ins.self c10) (g := (mkF m 22 #[.val (.ref x2_0), .val (.int x2_1), .val (.long x2_2), .second, .val (.ref x2_3)] [(.ref x2_3), (.ref x2_0)])) rfl rfl (hb hby d2_22)
  have c12 := (Fld.ext E7 (Fld.other W5 (Fld.other W2 Fo_mode (Or.inr (slot_ne (Or.inr (hw _ (List.mem_of_getElem? (i := 38) rfl))) (Or.inr (hw _ (List.mem_of_getElem? (i := 20) rfl))) (by decide) (t := (.object "com/example/libdmutex/libdmutex/core/Mode")) (t' := .int) (by decide) (by decide)))) (Or.inr (slot_ne (Or.inr (hw _ (List.mem_of_getElem? (i := 38) rfl))) (Or.inr (hw _ (List.mem_of_getElem? (i := 22) rfl))) (by decide) (t := (.object "com/example/libdmutex/libdmutex/core/Mode")) (t' := .long) (by decide) (by decide)))))
  have c13 := (Exa.ext E7 (Exa.wr W5 c4))
  obtain ⟨T14, h14, X14, e14, W14, st14⟩ := putF X11 hx hZ hown (host := "") (Or.inl (hw _ (List.mem_of_getElem? (i := 37) rfl))) Via.refl e11 c12 c13 (Or.inr ⟨(hw _ (List.mem_of_getElem? (i := 38) rfl)), rfl, hnm⟩) (hw _ (List.mem_of_getElem? (i := 11) rfl)) (ty := (.object "com/example/libdmutex/libdmutex/core/Mode")) (by decide) rfl rfl (g := (mkF m 25 #[.val (.ref x2_0), .val (.int x2_1), .val (.long x2_2), .second, .val (.ref x2_3)] [(.ref x2_3), (.ref x2_0)])) rfl rfl (hb hby d2_25)
  have Fw14 := Fld.same W14 c12
  have N14 := Fr.snoc X14 N8 g_x2_0
  have Zs14 : n0 ≤ h14.size := Nat.le_trans Zs7 (Keep.of_wr W14).1
  have hk14 := Nat.le_trans hk7 (Keep.of_wr W14).1
  have KC14 : Keep h0 h14 [x2_0] := (KC7).wr W14 (Or.inl (List.mem_of_getElem? (i := 0) rfl))
  have c15 := (Exa.wr W14 c13)
  have c16 := (Fld.other W14 (Fld.ext E7 (Fld.other W5 Fw2 (Or.inr (slot_ne (Or.inr (hw _ (List.mem_of_getElem? (i := 20) rfl))) (Or.inr (hw _ (List.mem_of_getElem? (i := 22) rfl))) (by decide) (t := .int) (t' := .long) (by decide) (by decide))))) (Or.inr (slot_ne (Or.inr (hw _ (List.mem_of_getElem? (i := 20) rfl))) (Or.inr (hw _ (List.mem_of_getElem? (i := 38) rfl))) (by decide) (t := .int) (t' := (.object "com/example/libdmutex/libdmutex/core/Mode")) (by decide) (by decide))))
  have c17 := (Fld.other W14 (Fld.ext E7 Fw5) (Or.inr (slot_ne (Or.inr (hw _ (List.mem_of_getElem? (i := 22) rfl))) (Or.inr (hw _ (List.mem_of_getElem? (i := 38) rfl))) (by decide) (t := .long) (t' := (.object "com/example/libdmutex/libdmutex/core/Mode")) (by decide) (by decide))))
  obtain ⟨fs, hr, hrun, hended, hRW⟩ := Stand.leaveW (s := s) (vm₁ := T7.vm) X14 hS7 (by rw [e14]; exact hk14) (v := none) (fun _ => rfl)
  refine ⟨_, _, pre0 _ (sg6 _ (sg9 _ ?_)), hrun, hended, _, _, rfl, ?_, hRW.1, hRW.2.1, hRW.2.2.1, hRW.2.2.2.mono (by decide) (by decide)⟩
  · show Steps p.tables e below (T7.setTop (mkF m 19 #[.val (.ref x2_0), .val (.int x2_1), .val (.long x2_2), .second, .val (.ref x2_3)] [(.ref a7), (.ref x2_3), (.ref x2_0)])) _
    refine st8 _ ?_
    show Steps p.tables e below (T8.setTop (mkF m 22 #[.val (.ref x2_0), .val (.int x2_1), .val (.long x2_2), .second, .val (.ref x2_3)] [(.ref x2_3), (.ref x2_0)])) _
    refine st11 _ ?_
    show Steps p.tables e below (T11.setTop (mkF m 25 #[.val (.ref x2_0), .val (.int x2_1), .val (.long x2_2), .second, .val (.ref x2_3)] [(.ref x2_3), (.ref x2_0)])) _
    refine st14 _ ?_
    show Steps p.tables e below (T14.setTop (mkF m 28 #[.val (.ref x2_0), .val (.int x2_1), .val (.long x2_2), .second, .val (.ref x2_3)] [])) _
    exact X14.returnOut hx Bd.returns (hb hby d2_28) hr
  · show Q2 Z x2_0 x2_1 x2_2 x2_3 h0 n0 _ T14.heap _
    rw [e14]
    exact ⟨rfl, N14, KC14, c15, c16, c17, Fw14⟩
theorem d5o_0 : decode prog_62_method_5_code 0 = .ok (.aload_n 1, 1) := by decide +kernel
theorem d5o_1 : decode prog_62_method_5_code 1 = .ok (.instanceof 8, 3) := by decide +kernel
theorem d5o_4 : decode prog_62_method_5_code 4 = .ok (.ifCond .eq 46, 3) := by decide +kernel
theorem d5o_7 : decode prog_62_method_5_code 7 = .ok (.aload_n 1, 1) := by decide +kernel
theorem d5o_8 : decode prog_62_method_5_code 8 = .ok (.checkcast 8, 3) := by decide +kernel
theorem d5o_11 : decode prog_62_method_5_code 11 = .ok (.astore_n 2, 1) := by decide +kernel
theorem d5o_12 : decode prog_62_method_5_code 12 = .ok (.aload_n 0, 1) := by decide +kernel
theorem d5o_13 : decode prog_62_method_5_code 13 = .ok (.getfield 7, 3) := by decide +kernel
theorem d5o_16 : decode prog_62_method_5_code 16 = .ok (.aload_n 2, 1) := by decide +kernel
theorem d5o_17 : decode prog_62_method_5_code 17 = .ok (.getfield 7, 3) := by decide +kernel
theorem d5o_20 : decode prog_62_method_5_code 20 = .ok (.if_icmp .ne 30, 3) := by decide +kernel
theorem d5o_23 : decode prog_62_method_5_code 23 = .ok (.aload_n 0, 1) := by decide +kernel
theorem d5o_24 : decode prog_62_method_5_code 24 = .ok (.getfield 13, 3) := by decide +kernel
theorem d5o_27 : decode prog_62_method_5_code 27 = .ok (.aload_n 2, 1) := by decide +kernel
theorem d5o_28 : decode prog_62_method_5_code 28 = .ok (.getfield 13, 3) := by decide +kernel
theorem d5o_31 : decode prog_62_method_5_code 31 = .ok (.lcmp, 1) := by decide +kernel
theorem d5o_32 : decode prog_62_method_5_code 32 = .ok (.ifCond .ne 18, 3) := by decide +kernel
theorem d5o_35 : decode prog_62_method_5_code 35 = .ok (.aload_n 0, 1) := by decide +kernel
theorem d5o_36 : decode prog_62_method_5_code 36 = .ok (.getfield 27, 3) := by decide +kernel
theorem d5o_39 : decode prog_62_method_5_code 39 = .ok (.aload_n 2, 1) := by decide +kernel
theorem d5o_40 : decode prog_62_method_5_code 40 = .ok (.getfield 27, 3) := by decide +kernel
theorem d5o_43 : decode prog_62_method_5_code 43 = .ok (.if_acmp .ne 7, 3) := by decide +kernel
theorem d5o_46 : decode prog_62_method_5_code 46 = .ok (.iconst 1, 1) := by decide +kernel
theorem d5o_47 : decode prog_62_method_5_code 47 = .ok (.goto 4, 3) := by decide +kernel
theorem d5o_50 : decode prog_62_method_5_code 50 = .ok (.iconst 0, 1) := by decide +kernel
theorem d5o_51 : decode prog_62_method_5_code 51 = .ok (.ireturn, 1) := by decide +kernel
theorem ef_5o (m : MethodId) (x5o_0 : Addr) (x5o_1 : Addr) : entryFrame m #[(.ref x5o_0), (.ref x5o_1)] 3 = mkF m 0 #[.val (.ref x5o_0), .val (.ref x5o_1), .unset] [] := by first | (simp [entryFrame, mkF, argsToLocals, Value.category]; done) | rfl
def f5o (x5o_0 : Addr) (x5o_1 : Addr) (u0_peer : Int32) (u0_ticket : Int64) (u0_mode : Addr) (u1_peer : Int32) (u1_ticket : Int64) (u1_mode : Addr) : Int32 := if u0_peer = u1_peer then (if u0_ticket = u1_ticket then (if u0_mode = u1_mode then (1 : Int32) else (0 : Int32)) else (0 : Int32)) else (0 : Int32)
def Q5o (Z : State) (x5o_0 : Addr) (x5o_1 : Addr) (u0_peer : Int32) (u0_ticket : Int64) (u0_mode : Addr) (u1_peer : Int32) (u1_ticket : Int64) (u1_mode : Addr) (h0 : Heap) (n0 : Nat) (v : Option Value) (h : Heap) (L : List Loc) : Prop := v = some (.int (f5o x5o_0 x5o_1 u0_peer u0_ticket u0_mode u1_peer u1_ticket u1_mode)) ∧ Fr n0 L ∧ h = h0
set_option maxRecDepth 65536 in
set_option maxHeartbeats 40000000 in
theorem rm5o (l : Launch) (Z : State) (a0 : Array Value) (hw : ∀ d ∈ tables_1, d.before a0 Z = true) (ws : List Jvm.Cond) (x5o_0 : Addr) (x5o_1 : Addr) (u0_peer : Int32) (u0_ticket : Int64) (u0_mode : Addr) (u1_peer : Int32) (u1_ticket : Int64) (u1_mode : Addr) (h0 : Heap) (n0 : Nat) (Z0 : n0 ≤ h0.size) (Exa0 : Exa Z h0 x5o_0 "com/example/libdmutex/libdmutex/core/TokenTree$Token$Queued") (Exa1 : Exa Z h0 x5o_1 "com/example/libdmutex/libdmutex/core/TokenTree$Token$Queued") (Fl0_peer : Fld Z h0 x5o_0 "com/example/libdmutex/libdmutex/core/TokenTree$Token$Queued" "peer" "I" (.int u0_peer)) (Fl0_ticket : Fld Z h0 x5o_0 "com/example/libdmutex/libdmutex/core/TokenTree$Token$Queued" "ticket" "J" (.long u0_ticket)) (Fl0_mode : Fld Z h0 x5o_0 "com/example/libdmutex/libdmutex/core/TokenTree$Token$Queued" "mode" "Lcom/example/libdmutex/libdmutex/core/Mode;" (.ref u0_mode)) (Fl1_peer : Fld Z h0 x5o_1 "com/example/libdmutex/libdmutex/core/TokenTree$Token$Queued" "peer" "I" (.int u1_peer)) (Fl1_ticket : Fld Z h0 x5o_1 "com/example/libdmutex/libdmutex/core/TokenTree$Token$Queued" "ticket" "J" (.long u1_ticket)) (Fl1_mode : Fld Z h0 x5o_1 "com/example/libdmutex/libdmutex/core/TokenTree$Token$Queued" "mode" "Lcom/example/libdmutex/libdmutex/core/Mode;" (.ref u1_mode)) :
    MetFree l (⟨"com/example/libdmutex/libdmutex/core/TokenTree$Token$Queued", "equals", "(Ljava/lang/Object;)Z"⟩ : MethodName) (head1 (Jvm.Cond.code (⟨"com/example/libdmutex/libdmutex/core/TokenTree$Token$Queued", "equals", "(Ljava/lang/Object;)Z"⟩ : MethodName) prog_62_method_5_code 3 (some .boolean) :: ws) ({ frames := 0, cells := 0, slots := 0, locals := 0 } : Room)) (fun a U => a = #[(.ref x5o_0), (.ref x5o_1)] ∧ Z.Warmed39 U.vm ∧ U.heap = h0) (fun _ _ _ _ _ => True) (fun _ U o U' => ∃ v L, o = .returned v ∧ Q5o Z x5o_0 x5o_1 u0_peer u0_ticket u0_mode u1_peer u1_ticket u1_mode h0 n0 v U'.heap L ∧ FrameEnd U o U' L ({ frames := 0, cells := 0, slots := 0, locals := 0 } : Room).cells ({ frames := 0, cells := 0, slots := 0, locals := 0 } : Room).slots) := by
  refine MetFree.of_bodySF (plainFor_of_name pn_2) hisR ?_
  intro p e s m args below meth c s₁ Bd hml0 hP hK
  obtain ⟨rfl, hZ, hh⟩ := hP
  have hx := Bd.exec
  have hby := Bd.bytes
  have hml : c.maxLocals = 3 := hml0
  have hown : s.vm.findClass "com/example/libdmutex/libdmutex/core/TokenTree$Token$Queued" = some m.cls := findClass_of_methodNamed Bd.named
  have hnm := (name_of_methodNamed Bd.named Bd.method).1
  have X0 : Stand p l e ({ frames := 0, cells := 0, slots := 0, locals := 0 } : Room) s m #[(.ref x5o_0), (.ref x5o_1)] below meth c s₁ [] 0 0 := Stand.of_body Bd
  have e0 : s₁.heap = h0 := by rw [← hh, Bd.state]; rfl
  have N0 := Fr.nil n0
  have pre0 : ∀ t, Steps p.tables e below (s₁.setTop (mkF m 0 #[.val (.ref x5o_0), .val (.ref x5o_1), .unset] [])) t → Steps p.tables e below (s₁.setTop (entryFrame m #[(.ref x5o_0), (.ref x5o_1)] 3)) t := fun t k => castTop (ef_5o m x5o_0 x5o_1) k
  obtain ⟨T1, X1, e1, st1⟩ := instY X0 hx hZ hown (hw _ (List.mem_of_getElem? (i := 44) rfl)) e0 (Ins.self Exa1) (g := (mkF m 1 #[.val (.ref x5o_0), .val (.ref x5o_1), .unset] [(.ref x5o_1)])) rfl rfl (hb hby d5o_1)
  obtain ⟨T2, X2, e2, st2⟩ := castY X1 hx hZ hown (hw _ (List.mem_of_getElem? (i := 44) rfl)) e1 (Ins.self Exa1) (g := (mkF m 8 #[.val (.ref x5o_0), .val (.ref x5o_1), .unset] [(.ref x5o_1)])) rfl rfl (hb hby d5o_8)
  obtain ⟨T3, X3, e3, st3⟩ := getF X2 hx hZ hown (host := "") (Or.inl (hw _ (List.mem_of_getElem? (i := 19) rfl))) Via.refl e2 Fl0_peer (g := (mkF m 13 #[.val (.ref x5o_0), .val (.ref x5o_1), .val (.ref x5o_1)] [(.ref x5o_0)])) rfl rfl (hb hby d5o_13)
  obtain ⟨T4, X4, e4, st4⟩ := getF X3 hx hZ hown (host := "") (Or.inl (hw _ (List.mem_of_getElem? (i := 19) rfl))) Via.refl e3 Fl1_peer (g := (mkF m 17 #[.val (.ref x5o_0), .val (.ref x5o_1), .val (.ref x5o_1)] [(.ref x5o_1), (.int u0_peer)])) rfl rfl (hb hby d5o_17)
  have sg5 : ∀ t, Steps p.tables e below (T4.setTop (mkF m 20 #[.val (.ref x5o_0), .val (.ref x5o_1), .val (.ref x5o_1)] [(.int u1_peer), (.int u0_peer)])) t → Steps p.tables e below (s₁.setTop (mkF m 0 #[.val (.ref x5o_0), .val (.ref x5o_1), .unset] [])) t := fun t kt => by
    show Steps p.tables e below (s₁.setTop (mkF m 0 #[.val (.ref x5o_0), .val (.ref x5o_1), .unset] [])) _
    refine XS.aloadN X0.here hx rfl (hb hby d5o_0) rfl rfl ?_
    show Steps p.tables e below (s₁.setTop (mkF m 1 #[.val (.ref x5o_0), .val (.ref x5o_1), .unset] [(.ref x5o_1)])) _
    refine st1 _ ?_
    show Steps p.tables e below (T1.setTop (mkF m 4 #[.val (.ref x5o_0), .val (.ref x5o_1), .unset] [(.int (1 : Int32))])) _
    refine XS.ifNo X1.here hx rfl (hb hby d5o_4) rfl ((if0 _ _).trans (feq (by decide : ¬ ((1 : Int32) = (0 : Int32)))).1) ?_
    show Steps p.tables e below (T1.setTop (mkF m 7 #[.val (.ref x5o_0), .val (.ref x5o_1), .unset] [])) _
    refine XS.aloadN X1.here hx rfl (hb hby d5o_7) rfl rfl ?_
    show Steps p.tables e below (T1.setTop (mkF m 8 #[.val (.ref x5o_0), .val (.ref x5o_1), .unset] [(.ref x5o_1)])) _
    refine st2 _ ?_
    show Steps p.tables e below (T2.setTop (mkF m 11 #[.val (.ref x5o_0), .val (.ref x5o_1), .unset] [(.ref x5o_1)])) _
    refine XS.astoreN X2.here hx rfl (hb hby d5o_11) rfl rfl (l' := #[.val (.ref x5o_0), .val (.ref x5o_1), .val (.ref x5o_1)]) rfl ?_
    show Steps p.tables e below (T2.setTop (mkF m 12 #[.val (.ref x5o_0), .val (.ref x5o_1), .val (.ref x5o_1)] [])) _
    refine XS.aloadN X2.here hx rfl (hb hby d5o_12) rfl rfl ?_
    show Steps p.tables e below (T2.setTop (mkF m 13 #[.val (.ref x5o_0), .val (.ref x5o_1), .val (.ref x5o_1)] [(.ref x5o_0)])) _
    refine st3 _ ?_
    show Steps p.tables e below (T3.setTop (mkF m 16 #[.val (.ref x5o_0), .val (.ref x5o_1), .val (.ref x5o_1)] [(.int u0_peer)])) _
    refine XS.aloadN X3.here hx rfl (hb hby d5o_16) rfl rfl ?_
    show Steps p.tables e below (T3.setTop (mkF m 17 #[.val (.ref x5o_0), .val (.ref x5o_1), .val (.ref x5o_1)] [(.ref x5o_1), (.int u0_peer)])) _
    refine st4 _ ?_
    exact kt
  by_cases hc20_6 : u0_peer = u1_peer
  · obtain ⟨T7, X7, e7, st7⟩ := getF X4 hx hZ hown (host := "") (Or.inl (hw _ (List.mem_of_getElem? (i := 21) rfl))) Via.refl e4 Fl0_ticket (g := (mkF m 24 #[.val (.ref x5o_0), .val (.ref x5o_1), .val (.ref x5o_1)] [(.ref x5o_0)])) rfl rfl (hb hby d5o_24)
    obtain ⟨T8, X8, e8, st8⟩ := getF X7 hx hZ hown (host := "") (Or.inl (hw _ (List.mem_of_getElem? (i := 21) rfl))) Via.refl e7 Fl1_ticket (g := (mkF m 28 #[.val (.ref x5o_0), .val (.ref x5o_1), .val (.ref x5o_1)] [(.ref x5o_1), (.long u0_ticket)])) rfl rfl (hb hby d5o_28)
    have sg9 : ∀ t, Steps p.tables e below (T8.setTop (mkF m 32 #[.val (.ref x5o_0), .val (.ref x5o_1), .val (.ref x5o_1)] [(.int (lcmpW u0_ticket u1_ticket))])) t → Steps p.tables e below (T4.setTop (mkF m 20 #[.val (.ref x5o_0), .val (.ref x5o_1), .val (.ref x5o_1)] [(.int u1_peer), (.int u0_peer)])) t := fun t kt => by
      show Steps p.tables e below (T4.setTop (mkF m 20 #[.val (.ref x5o_0), .val (.ref x5o_1), .val (.ref x5o_1)] [(.int u1_peer), (.int u0_peer)])) _
      refine XS.icmpNo X4.here hx rfl (hb hby d5o_20) rfl (teq hc20_6).2 ?_
      show Steps p.tables e below (T4.setTop (mkF m 23 #[.val (.ref x5o_0), .val (.ref x5o_1), .val (.ref x5o_1)] [])) _
      refine XS.aloadN X4.here hx rfl (hb hby d5o_23) rfl rfl ?_
      show Steps p.tables e below (T4.setTop (mkF m 24 #[.val (.ref x5o_0), .val (.ref x5o_1), .val (.ref x5o_1)] [(.ref x5o_0)])) _
      refine st7 _ ?_
      show Steps p.tables e below (T7.setTop (mkF m 27 #[.val (.ref x5o_0), .val (.ref x5o_1), .val (.ref x5o_1)] [(.long u0_ticket)])) _
      refine XS.aloadN X7.here hx rfl (hb hby d5o_27) rfl rfl ?_
      show Steps p.tables e below (T7.setTop (mkF m 28 #[.val (.ref x5o_0), .val (.ref x5o_1), .val (.ref x5o_1)] [(.ref x5o_1), (.long u0_ticket)])) _
      refine st8 _ ?_
      show Steps p.tables e below (T8.setTop (mkF m 31 #[.val (.ref x5o_0), .val (.ref x5o_1), .val (.ref x5o_1)] [(.long u1_ticket), (.long u0_ticket)])) _
      refine XS.lcmp X8.here hx rfl (hb hby d5o_31) rfl ?_
      exact kt
    by_cases hc32_10 : u0_ticket = u1_ticket
    · obtain ⟨T11, X11, e11, st11⟩ := getF X8 hx hZ hown (host := "") (Or.inl (hw _ (List.mem_of_getElem? (i := 37) rfl))) Via.refl e8 Fl0_mode (g := (mkF m 36 #[.val (.ref x5o_0), .val (.ref x5o_1), .val (.ref x5o_1)] [(.ref x5o_0)])) rfl rfl (hb hby d5o_36)
      obtain ⟨T12, X12, e12, st12⟩ := getF X11 hx hZ hown (host := "") (Or.inl (hw _ (List.mem_of_getElem? (i := 37) rfl))) Via.refl e11 Fl1_mode (g := (mkF m 40 #[.val (.ref x5o_0), .val (.ref x5o_1), .val (.ref x5o_1)] [(.ref x5o_1), (.ref u0_mode)])) rfl rfl (hb hby d5o_40)
      have sg13 : ∀ t, Steps p.tables e below (T12.setTop (mkF m 43 #[.val (.ref x5o_0), .val (.ref x5o_1), .val (.ref x5o_1)] [(.ref u1_mode), (.ref u0_mode)])) t → Steps p.tables e below (T8.setTop (mkF m 32 #[.val (.ref x5o_0), .val (.ref x5o_1), .val (.ref x5o_1)] [(.int (lcmpW u0_ticket u1_ticket))])) t := fun t kt => by
        show Steps p.tables e below (T8.setTop (mkF m 32 #[.val (.ref x5o_0), .val (.ref x5o_1), .val (.ref x5o_1)] [(.int (lcmpW u0_ticket u1_ticket))])) _
        refine XS.ifNo X8.here hx rfl (hb hby d5o_32) rfl ((if0 _ _).trans (teq ((lw_eq _ _).mpr hc32_10)).2) ?_
        show Steps p.tables e below (T8.setTop (mkF m 35 #[.val (.ref x5o_0), .val (.ref x5o_1), .val (.ref x5o_1)] [])) _
        refine XS.aloadN X8.here hx rfl (hb hby d5o_35) rfl rfl ?_
        show Steps p.tables e below (T8.setTop (mkF m 36 #[.val (.ref x5o_0), .val (.ref x5o_1), .val (.ref x5o_1)] [(.ref x5o_0)])) _
        refine st11 _ ?_
        show Steps p.tables e below (T11.setTop (mkF m 39 #[.val (.ref x5o_0), .val (.ref x5o_1), .val (.ref x5o_1)] [(.ref u0_mode)])) _
        refine XS.aloadN X11.here hx rfl (hb hby d5o_39) rfl rfl ?_
        show Steps p.tables e below (T11.setTop (mkF m 40 #[.val (.ref x5o_0), .val (.ref x5o_1), .val (.ref x5o_1)] [(.ref x5o_1), (.ref u0_mode)])) _
        refine st12 _ ?_
        exact kt
      by_cases hc43_14 : u0_mode = u1_mode
      · obtain ⟨fs, hr, hrun, hended, hW, hsame⟩ := X12.leave (v := some (.int (1 : Int32))) (fun h => by rw [Bd.returns] at h; cases h)
        refine ⟨_, _, pre0 _ (sg5 _ (sg9 _ (sg13 _ ?_))), hrun, hended, _, _, rfl, ?_, ⟨_, rfl⟩, hW, hsame.mono (by decide) (by decide)⟩
        · show Steps p.tables e below (T12.setTop (mkF m 43 #[.val (.ref x5o_0), .val (.ref x5o_1), .val (.ref x5o_1)] [(.ref u1_mode), (.ref u0_mode)])) _
          refine Jvm.RoadKit.acmp (g := (mkF m 43 #[.val (.ref x5o_0), .val (.ref x5o_1), .val (.ref x5o_1)] [(.ref u1_mode), (.ref u0_mode)])) X12 hx rfl rfl rfl (pc0 := 43) (pc' := 46) (same := true) rfl (hb hby d5o_43) rfl (decide_eq_true (congrArg Value.ref hc43_14)) (by decide) (by decide) ?_
          show Steps p.tables e below (T12.setTop (mkF m 46 #[.val (.ref x5o_0), .val (.ref x5o_1), .val (.ref x5o_1)] [])) _
          refine XS.iconst X12.here hx rfl (hb hby d5o_46) ?_
          show Steps p.tables e below (T12.setTop (mkF m 47 #[.val (.ref x5o_0), .val (.ref x5o_1), .val (.ref x5o_1)] [(.int (1 : Int32))])) _
          refine XS.goto X12.here hx rfl (pc0 := 47) (pc' := 51) rfl (hb hby d5o_47) (by decide) (by decide) ?_
          show Steps p.tables e below (T12.setTop (mkF m 51 #[.val (.ref x5o_0), .val (.ref x5o_1), .val (.ref x5o_1)] [(.int (1 : Int32))])) _
          exact retN X12 hx (t := .boolean) Bd.returns (by simp) (hb hby d5o_51) hr
        · exact ⟨congrArg (fun z => some (Value.int z)) (show (1 : Int32) = f5o x5o_0 x5o_1 u0_peer u0_ticket u0_mode u1_peer u1_ticket u1_mode from by unfold f5o; rw [if_pos hc20_6, if_pos hc32_10, if_pos hc43_14]), N0, e12⟩
      · obtain ⟨fs, hr, hrun, hended, hW, hsame⟩ := X12.leave (v := some (.int (0 : Int32))) (fun h => by rw [Bd.returns] at h; cases h)
        refine ⟨_, _, pre0 _ (sg5 _ (sg9 _ (sg13 _ ?_))), hrun, hended, _, _, rfl, ?_, ⟨_, rfl⟩, hW, hsame.mono (by decide) (by decide)⟩
        · show Steps p.tables e below (T12.setTop (mkF m 43 #[.val (.ref x5o_0), .val (.ref x5o_1), .val (.ref x5o_1)] [(.ref u1_mode), (.ref u0_mode)])) _
          refine Jvm.RoadKit.acmp (g := (mkF m 43 #[.val (.ref x5o_0), .val (.ref x5o_1), .val (.ref x5o_1)] [(.ref u1_mode), (.ref u0_mode)])) X12 hx rfl rfl rfl (pc0 := 43) (pc' := 50) (same := false) rfl (hb hby d5o_43) rfl (decide_eq_false fun q => hc43_14 (Value.ref.inj q)) (by decide) (by decide) ?_
          show Steps p.tables e below (T12.setTop (mkF m 50 #[.val (.ref x5o_0), .val (.ref x5o_1), .val (.ref x5o_1)] [])) _
          refine XS.iconst X12.here hx rfl (hb hby d5o_50) ?_
          show Steps p.tables e below (T12.setTop (mkF m 51 #[.val (.ref x5o_0), .val (.ref x5o_1), .val (.ref x5o_1)] [(.int (0 : Int32))])) _
          exact retN X12 hx (t := .boolean) Bd.returns (by simp) (hb hby d5o_51) hr
        · exact ⟨congrArg (fun z => some (Value.int z)) (show (0 : Int32) = f5o x5o_0 x5o_1 u0_peer u0_ticket u0_mode u1_peer u1_ticket u1_mode from by unfold f5o; rw [if_pos hc20_6, if_pos hc32_10, if_neg hc43_14]), N0, e12⟩
    · obtain ⟨fs, hr, hrun, hended, hW, hsame⟩ := X8.leave (v := some (.int (0 : Int32))) (fun h => by rw [Bd.returns] at h; cases h)
      refine ⟨_, _, pre0 _ (sg5 _ (sg9 _ ?_)), hrun, hended, _, _, rfl, ?_, ⟨_, rfl⟩, hW, hsame.mono (by decide) (by decide)⟩
      · show Steps p.tables e below (T8.setTop (mkF m 32 #[.val (.ref x5o_0), .val (.ref x5o_1), .val (.ref x5o_1)] [(.int (lcmpW u0_ticket u1_ticket))])) _
        refine XS.ifYes X8.here hx rfl (pc0 := 32) (pc' := 50) rfl (hb hby d5o_32) rfl ((if0 _ _).trans (feq (mt (lw_eq _ _).mp hc32_10)).2) (by decide) (by decide) ?_
        show Steps p.tables e below (T8.setTop (mkF m 50 #[.val (.ref x5o_0), .val (.ref x5o_1), .val (.ref x5o_1)] [])) _
        refine XS.iconst X8.here hx rfl (hb hby d5o_50) ?_
        show Steps p.tables e below (T8.setTop (mkF m 51 #[.val (.ref x5o_0), .val (.ref x5o_1), .val (.ref x5o_1)] [(.int (0 : Int32))])) _
        exact retN X8 hx (t := .boolean) Bd.returns (by simp) (hb hby d5o_51) hr
      · exact ⟨congrArg (fun z => some (Value.int z)) (show (0 : Int32) = f5o x5o_0 x5o_1 u0_peer u0_ticket u0_mode u1_peer u1_ticket u1_mode from by unfold f5o; rw [if_pos hc20_6, if_neg hc32_10]), N0, e8⟩
  · obtain ⟨fs, hr, hrun, hended, hW, hsame⟩ := X4.leave (v := some (.int (0 : Int32))) (fun h => by rw [Bd.returns] at h; cases h)
    refine ⟨_, _, pre0 _ (sg5 _ ?_), hrun, hended, _, _, rfl, ?_, ⟨_, rfl⟩, hW, hsame.mono (by decide) (by decide)⟩
    · show Steps p.tables e below (T4.setTop (mkF m 20 #[.val (.ref x5o_0), .val (.ref x5o_1), .val (.ref x5o_1)] [(.int u1_peer), (.int u0_peer)])) _
      refine XS.icmpYes X4.here hx rfl (pc0 := 20) (pc' := 50) rfl (hb hby d5o_20) rfl (feq hc20_6).2 (by decide) (by decide) ?_
      show Steps p.tables e below (T4.setTop (mkF m 50 #[.val (.ref x5o_0), .val (.ref x5o_1), .val (.ref x5o_1)] [])) _
      refine XS.iconst X4.here hx rfl (hb hby d5o_50) ?_
      show Steps p.tables e below (T4.setTop (mkF m 51 #[.val (.ref x5o_0), .val (.ref x5o_1), .val (.ref x5o_1)] [(.int (0 : Int32))])) _
      exact retN X4 hx (t := .boolean) Bd.returns (by simp) (hb hby d5o_51) hr
    · exact ⟨congrArg (fun z => some (Value.int z)) (show (0 : Int32) = f5o x5o_0 x5o_1 u0_peer u0_ticket u0_mode u1_peer u1_ticket u1_mode from by unfold f5o; rw [if_neg hc20_6]), N0, e4⟩
theorem d5n_0 : decode prog_62_method_5_code 0 = .ok (.aload_n 1, 1) := by decide +kernel
theorem d5n_1 : decode prog_62_method_5_code 1 = .ok (.instanceof 8, 3) := by decide +kernel
theorem d5n_4 : decode prog_62_method_5_code 4 = .ok (.ifCond .eq 46, 3) := by decide +kernel
theorem d5n_50 : decode prog_62_method_5_code 50 = .ok (.iconst 0, 1) := by decide +kernel
theorem d5n_51 : decode prog_62_method_5_code 51 = .ok (.ireturn, 1) := by decide +kernel
theorem ef_5n (m : MethodId) (x5n_0 : Addr) : entryFrame m #[(.ref x5n_0), .null] 3 = mkF m 0 #[.val (.ref x5n_0), .val .null, .unset] [] := by first | (simp [entryFrame, mkF, argsToLocals, Value.category]; done) | rfl
def f5n (x5n_0 : Addr) : Int32 := (0 : Int32)
def Q5n (Z : State) (x5n_0 : Addr) (h0 : Heap) (n0 : Nat) (v : Option Value) (h : Heap) (L : List Loc) : Prop := v = some (.int (f5n x5n_0)) ∧ Fr n0 L ∧ h = h0
set_option maxRecDepth 65536 in
set_option maxHeartbeats 40000000 in
theorem rm5n (l : Launch) (Z : State) (a0 : Array Value) (hw : ∀ d ∈ tables_1, d.before a0 Z = true) (ws : List Jvm.Cond) (x5n_0 : Addr) (h0 : Heap) (n0 : Nat) (Z0 : n0 ≤ h0.size) (Exa0 : Exa Z h0 x5n_0 "com/example/libdmutex/libdmutex/core/TokenTree$Token$Queued") :
    MetFree l (⟨"com/example/libdmutex/libdmutex/core/TokenTree$Token$Queued", "equals", "(Ljava/lang/Object;)Z"⟩ : MethodName) (head1 (Jvm.Cond.code (⟨"com/example/libdmutex/libdmutex/core/TokenTree$Token$Queued", "equals", "(Ljava/lang/Object;)Z"⟩ : MethodName) prog_62_method_5_code 3 (some .boolean) :: ws) ({ frames := 0, cells := 0, slots := 0, locals := 0 } : Room)) (fun a U => a = #[(.ref x5n_0), .null] ∧ Z.Warmed39 U.vm ∧ U.heap = h0) (fun _ _ _ _ _ => True) (fun _ U o U' => ∃ v L, o = .returned v ∧ Q5n Z x5n_0 h0 n0 v U'.heap L ∧ FrameEnd U o U' L ({ frames := 0, cells := 0, slots := 0, locals := 0 } : Room).cells ({ frames := 0, cells := 0, slots := 0, locals := 0 } : Room).slots) := by
  refine MetFree.of_bodySF (plainFor_of_name pn_2) hisR ?_
  intro p e s m args below meth c s₁ Bd hml0 hP hK
  obtain ⟨rfl, hZ, hh⟩ := hP
  have hx := Bd.exec
  have hby := Bd.bytes
  have hml : c.maxLocals = 3 := hml0
  have hown : s.vm.findClass "com/example/libdmutex/libdmutex/core/TokenTree$Token$Queued" = some m.cls := findClass_of_methodNamed Bd.named
  have hnm := (name_of_methodNamed Bd.named Bd.method).1
  have X0 : Stand p l e ({ frames := 0, cells := 0, slots := 0, locals := 0 } : Room) s m #[(.ref x5n_0), .null] below meth c s₁ [] 0 0 := Stand.of_body Bd
  have e0 : s₁.heap = h0 := by rw [← hh, Bd.state]; rfl
  have N0 := Fr.nil n0
  have pre0 : ∀ t, Steps p.tables e below (s₁.setTop (mkF m 0 #[.val (.ref x5n_0), .val .null, .unset] [])) t → Steps p.tables e below (s₁.setTop (entryFrame m #[(.ref x5n_0), .null] 3)) t := fun t k => castTop (ef_5n m x5n_0) k
  obtain ⟨fs, hr, hrun, hended, hW, hsame⟩ := X0.leave (v := some (.int (0 : Int32))) (fun h => by rw [Bd.returns] at h; cases h)
  refine ⟨_, _, pre0 _ (?_), hrun, hended, _, _, rfl, ?_, ⟨_, rfl⟩, hW, hsame.mono (by decide) (by decide)⟩
  · show Steps p.tables e below (s₁.setTop (mkF m 0 #[.val (.ref x5n_0), .val .null, .unset] [])) _
    refine XS.aloadN X0.here hx rfl (hb hby d5n_0) rfl rfl ?_
    show Steps p.tables e below (s₁.setTop (mkF m 1 #[.val (.ref x5n_0), .val .null, .unset] [.null])) _
    refine X0.instanceofNull hx (g := (mkF m 1 #[.val (.ref x5n_0), .val .null, .unset] [.null])) rfl rfl (hb hby d5n_1) _ ?_
    show Steps p.tables e below (s₁.setTop (mkF m 4 #[.val (.ref x5n_0), .val .null, .unset] [(.int (0 : Int32))])) _
    refine XS.ifYes X0.here hx rfl (pc0 := 4) (pc' := 50) rfl (hb hby d5n_4) rfl ((if0 _ _).trans (teq (by decide : ((0 : Int32) = (0 : Int32)))).1) (by decide) (by decide) ?_
    show Steps p.tables e below (s₁.setTop (mkF m 50 #[.val (.ref x5n_0), .val .null, .unset] [])) _
    refine XS.iconst X0.here hx rfl (hb hby d5n_50) ?_
    show Steps p.tables e below (s₁.setTop (mkF m 51 #[.val (.ref x5n_0), .val .null, .unset] [(.int (0 : Int32))])) _
    exact retN X0 hx (t := .boolean) Bd.returns (by simp) (hb hby d5n_51) hr
  · exact ⟨rfl, N0, e0⟩
theorem d5i_0 : decode prog_62_method_5_code 0 = .ok (.aload_n 1, 1) := by decide +kernel
theorem d5i_1 : decode prog_62_method_5_code 1 = .ok (.instanceof 8, 3) := by decide +kernel
theorem d5i_4 : decode prog_62_method_5_code 4 = .ok (.ifCond .eq 46, 3) := by decide +kernel
theorem d5i_50 : decode prog_62_method_5_code 50 = .ok (.iconst 0, 1) := by decide +kernel
theorem d5i_51 : decode prog_62_method_5_code 51 = .ok (.ireturn, 1) := by decide +kernel
theorem ef_5i (m : MethodId) (x5i_0 : Addr) (x5i_1 : Addr) : entryFrame m #[(.ref x5i_0), (.ref x5i_1)] 3 = mkF m 0 #[.val (.ref x5i_0), .val (.ref x5i_1), .unset] [] := by first | (simp [entryFrame, mkF, argsToLocals, Value.category]; done) | rfl
def f5i (x5i_0 : Addr) (x5i_1 : Addr) : Int32 := (0 : Int32)
def Q5i (Z : State) (x5i_0 : Addr) (x5i_1 : Addr) (h0 : Heap) (n0 : Nat) (v : Option Value) (h : Heap) (L : List Loc) : Prop := v = some (.int (f5i x5i_0 x5i_1)) ∧ Fr n0 L ∧ h = h0
set_option maxRecDepth 65536 in
set_option maxHeartbeats 40000000 in
theorem rm5i (l : Launch) (Z : State) (a0 : Array Value) (hw : ∀ d ∈ tables_1, d.before a0 Z = true) (ws : List Jvm.Cond) (x5i_0 : Addr) (x5i_1 : Addr) (h0 : Heap) (n0 : Nat) (Z0 : n0 ≤ h0.size) (Exa1 : Exa Z h0 x5i_1 "java/lang/Integer") :
    MetFree l (⟨"com/example/libdmutex/libdmutex/core/TokenTree$Token$Queued", "equals", "(Ljava/lang/Object;)Z"⟩ : MethodName) (head1 (Jvm.Cond.code (⟨"com/example/libdmutex/libdmutex/core/TokenTree$Token$Queued", "equals", "(Ljava/lang/Object;)Z"⟩ : MethodName) prog_62_method_5_code 3 (some .boolean) :: ws) ({ frames := 0, cells := 0, slots := 0, locals := 0 } : Room)) (fun a U => a = #[(.ref x5i_0), (.ref x5i_1)] ∧ Z.Warmed39 U.vm ∧ U.heap = h0) (fun _ _ _ _ _ => True) (fun _ U o U' => ∃ v L, o = .returned v ∧ Q5i Z x5i_0 x5i_1 h0 n0 v U'.heap L ∧ FrameEnd U o U' L ({ frames := 0, cells := 0, slots := 0, locals := 0 } : Room).cells ({ frames := 0, cells := 0, slots := 0, locals := 0 } : Room).slots) := by
  refine MetFree.of_bodySF (plainFor_of_name pn_2) hisR ?_
  intro p e s m args below meth c s₁ Bd hml0 hP hK
  obtain ⟨rfl, hZ, hh⟩ := hP
  have hx := Bd.exec
  have hby := Bd.bytes
  have hml : c.maxLocals = 3 := hml0
  have hown : s.vm.findClass "com/example/libdmutex/libdmutex/core/TokenTree$Token$Queued" = some m.cls := findClass_of_methodNamed Bd.named
  have hnm := (name_of_methodNamed Bd.named Bd.method).1
  have X0 : Stand p l e ({ frames := 0, cells := 0, slots := 0, locals := 0 } : Room) s m #[(.ref x5i_0), (.ref x5i_1)] below meth c s₁ [] 0 0 := Stand.of_body Bd
  have e0 : s₁.heap = h0 := by rw [← hh, Bd.state]; rfl
  have N0 := Fr.nil n0
  have pre0 : ∀ t, Steps p.tables e below (s₁.setTop (mkF m 0 #[.val (.ref x5i_0), .val (.ref x5i_1), .unset] [])) t → Steps p.tables e below (s₁.setTop (entryFrame m #[(.ref x5i_0), (.ref x5i_1)] 3)) t := fun t k => castTop (ef_5i m x5i_0 x5i_1) k
  obtain ⟨T1, X1, e1, st1⟩ := instNo X0 hx hZ hown (hw _ (List.mem_of_getElem? (i := 44) rfl)) e0 Exa1 (own_no (hw _ (List.mem_of_getElem? (i := 69) rfl)) (hw _ (List.mem_of_getElem? (i := 11) rfl)) (NS.step (hw _ (List.mem_of_getElem? (i := 69) rfl)) (NS.step (hw _ (List.mem_of_getElem? (i := 70) rfl)) (own_nsroot (hw _ (List.mem_of_getElem? (i := 71) rfl)) (hw _ (List.mem_of_getElem? (i := 11) rfl)) (by decide)) (by decide)) (by decide)) (by decide)) (g := (mkF m 1 #[.val (.ref x5i_0), .val (.ref x5i_1), .unset] [(.ref x5i_1)])) rfl rfl (hb hby d5i_1)
  obtain ⟨fs, hr, hrun, hended, hW, hsame⟩ := X1.leave (v := some (.int (0 : Int32))) (fun h => by rw [Bd.returns] at h; cases h)
  refine ⟨_, _, pre0 _ (?_), hrun, hended, _, _, rfl, ?_, ⟨_, rfl⟩, hW, hsame.mono (by decide) (by decide)⟩
  · show Steps p.tables e below (s₁.setTop (mkF m 0 #[.val (.ref x5i_0), .val (.ref x5i_1), .unset] [])) _
    refine XS.aloadN X0.here hx rfl (hb hby d5i_0) rfl rfl ?_
    show Steps p.tables e below (s₁.setTop (mkF m 1 #[.val (.ref x5i_0), .val (.ref x5i_1), .unset] [(.ref x5i_1)])) _
    refine st1 _ ?_
    show Steps p.tables e below (T1.setTop (mkF m 4 #[.val (.ref x5i_0), .val (.ref x5i_1), .unset] [(.int (0 : Int32))])) _
    refine XS.ifYes X1.here hx rfl (pc0 := 4) (pc' := 50) rfl (hb hby d5i_4) rfl ((if0 _ _).trans (teq (by decide : ((0 : Int32) = (0 : Int32)))).1) (by decide) (by decide) ?_
    show Steps p.tables e below (T1.setTop (mkF m 50 #[.val (.ref x5i_0), .val (.ref x5i_1), .unset] [])) _
    refine XS.iconst X1.here hx rfl (hb hby d5i_50) ?_
    show Steps p.tables e below (T1.setTop (mkF m 51 #[.val (.ref x5i_0), .val (.ref x5i_1), .unset] [(.int (0 : Int32))])) _
    exact retN X1 hx (t := .boolean) Bd.returns (by simp) (hb hby d5i_51) hr
  · exact ⟨rfl, N0, e1⟩
theorem d8_0 : decode jdk_18_method_1_code 0 = .ok (.aload_n 0, 1) := by decide +kernel
theorem d8_1 : decode jdk_18_method_1_code 1 = .ok (.invokespecial 1, 3) := by decide +kernel
theorem d8_4 : decode jdk_18_method_1_code 4 = .ok (.return_, 1) := by decide +kernel
theorem pn_3 : plainName "java/lang/Number" = true := by first | (simp [plainName, overriddenIn]; done) | decide +kernel
theorem ef_8 (m : MethodId) (x8_0 : Addr) : entryFrame m #[(.ref x8_0)] 1 = mkF m 0 #[.val (.ref x8_0)] [] := by first | (simp [entryFrame, mkF, argsToLocals, Value.category]; done) | rfl
def Q8 (Z : State) (x8_0 : Addr) (h0 : Heap) (n0 : Nat) (v : Option Value) (h : Heap) (L : List Loc) : Prop := v = none ∧ Fr n0 L ∧ h = h0
set_option maxRecDepth 65536 in
set_option maxHeartbeats 40000000 in
theorem rm8 (l : Launch) (Z : State) (a0 : Array Value) (hw : ∀ d ∈ tables_1, d.before a0 Z = true) (ws : List Jvm.Cond) (x8_0 : Addr) (h0 : Heap) (n0 : Nat) (Z0 : n0 ≤ h0.size) :
    MetFree l (⟨"java/lang/Number", "<init>", "()V"⟩ : MethodName) (head1 (Jvm.Cond.code (⟨"java/lang/Number", "<init>", "()V"⟩ : MethodName) jdk_18_method_1_code 1 none :: ws) ({ frames := 1, cells := 0, slots := 0, locals := 12 } : Room)) (fun a U => a = #[(.ref x8_0)] ∧ Z.Warmed39 U.vm ∧ U.heap = h0) (fun _ _ _ _ _ => True) (fun _ U o U' => ∃ v L, o = .returned v ∧ Q8 Z x8_0 h0 n0 v U'.heap L ∧ FrameEnd U o U' L ({ frames := 1, cells := 0, slots := 0, locals := 12 } : Room).cells ({ frames := 1, cells := 0, slots := 0, locals := 12 } : Room).slots) := by
  refine MetFree.of_bodySF (plainFor_of_name pn_3) hisR ?_
  intro p e s m args below meth c s₁ Bd hml0 hP hK
  obtain ⟨rfl, hZ, hh⟩ := hP
  have hx := Bd.exec
  have hby := Bd.bytes
  have hml : c.maxLocals = 1 := hml0
  have hown : s.vm.findClass "java/lang/Number" = some m.cls := findClass_of_methodNamed Bd.named
  have hnm := (name_of_methodNamed Bd.named Bd.method).1
  have X0 : Stand p l e ({ frames := 1, cells := 0, slots := 0, locals := 12 } : Room) s m #[(.ref x8_0)] below meth c s₁ [] 0 0 := Stand.of_body Bd
  have e0 : s₁.heap = h0 := by rw [← hh, Bd.state]; rfl
  have N0 := Fr.nil n0
  have pre0 : ∀ t, Steps p.tables e below (s₁.setTop (mkF m 0 #[.val (.ref x8_0)] [])) t → Steps p.tables e below (s₁.setTop (entryFrame m #[(.ref x8_0)] 1)) t := fun t k => castTop (ef_8 m x8_0) k
  obtain ⟨T1, X1, e1, st1⟩ := initO X0 hx hZ hown (hw _ (List.mem_of_getElem? (i := 66) rfl)) (hw _ (List.mem_of_getElem? (i := 17) rfl)) (hw _ (List.mem_of_getElem? (i := 18) rfl)) e0 (g := (mkF m 1 #[.val (.ref x8_0)] [(.ref x8_0)])) rfl (by rw [hml]; rfl) rfl (hb hby d8_1) (by decide) (W := 0) (by show 2 * 0 + _ ≤ _; exact Nat.le_of_eq rfl) (by decide)
  obtain ⟨fs, hr, hrun, hended, hW, hsame⟩ := X1.leave (v := none) (fun _ => rfl)
  refine ⟨_, _, pre0 _ (?_), hrun, hended, _, _, rfl, ?_, ⟨_, rfl⟩, hW, hsame.mono (by decide) (by decide)⟩
  · show Steps p.tables e below (s₁.setTop (mkF m 0 #[.val (.ref x8_0)] [])) _
    refine XS.aloadN X0.here hx rfl (hb hby d8_0) rfl rfl ?_
    show Steps p.tables e below (s₁.setTop (mkF m 1 #[.val (.ref x8_0)] [(.ref x8_0)])) _
    refine st1 _ ?_
    show Steps p.tables e below (T1.setTop (mkF m 4 #[.val (.ref x8_0)] [])) _
    exact X1.returnOut hx Bd.returns (hb hby d8_4) hr
  · exact ⟨rfl, N0, e1⟩
theorem pd_1 : parseMethodDescriptor "()V" = some ⟨[], none⟩ := by decide +kernel
theorem d7_0 : decode jdk_33_method_23_code 0 = .ok (.aload_n 0, 1) := by decide +kernel
theorem d7_1 : decode jdk_33_method_23_code 1 = .ok (.invokespecial 202, 3) := by decide +kernel
theorem d7_4 : decode jdk_33_method_23_code 4 = .ok (.aload_n 0, 1) := by decide +kernel
theorem d7_5 : decode jdk_33_method_23_code 5 = .ok (.iload_n 1, 1) := by decide +kernel
theorem d7_6 : decode jdk_33_method_23_code 6 = .ok (.putfield 205, 3) := by decide +kernel
theorem d7_9 : decode jdk_33_method_23_code 9 = .ok (.return_, 1) := by decide +kernel
theorem pn_4 : plainName "java/lang/Integer" = true := by first | (simp [plainName, overriddenIn]; done) | decide +kernel
theorem ef_7 (m : MethodId) (x7_0 : Addr) (x7_1 : Int32) : entryFrame m #[(.ref x7_0), (.int x7_1)] 2 = mkF m 0 #[.val (.ref x7_0), .val (.int x7_1)] [] := by first | (simp [entryFrame, mkF, argsToLocals, Value.category]; done) | rfl
def Q7 (Z : State) (x7_0 : Addr) (x7_1 : Int32) (h0 : Heap) (n0 : Nat) (v : Option Value) (h : Heap) (L : List Loc) : Prop := v = none ∧ Fr n0 L ∧ Keep h0 h [x7_0] ∧ Exa Z h x7_0 "java/lang/Integer" ∧ Fld Z h x7_0 "java/lang/Integer" "value" "I" (.int x7_1)
set_option maxRecDepth 65536 in
set_option maxHeartbeats 40000000 in
theorem rm7 (l : Launch) (Z : State) (a0 : Array Value) (hw : ∀ d ∈ tables_1, d.before a0 Z = true) (ws : List Jvm.Cond) (x7_0 : Addr) (x7_1 : Int32) (h0 : Heap) (n0 : Nat) (Z0 : n0 ≤ h0.size) (Exa0 : Exa Z h0 x7_0 "java/lang/Integer") (g_x7_0 : n0 ≤ x7_0) (Fo_value : Fld Z h0 x7_0 "java/lang/Integer" "value" "I" (.int (0 : Int32))) :
    MetFree l (⟨"java/lang/Integer", "<init>", "(I)V"⟩ : MethodName) (head1 (Jvm.Cond.code (⟨"java/lang/Integer", "<init>", "(I)V"⟩ : MethodName) jdk_33_method_23_code 2 none :: ws) ({ frames := 2, cells := 0, slots := 0, locals := 24 } : Room)) (fun a U => a = #[(.ref x7_0), (.int x7_1)] ∧ Z.Warmed39 U.vm ∧ U.heap = h0) (fun _ _ _ _ _ => True) (fun _ U o U' => ∃ v L, o = .returned v ∧ Q7 Z x7_0 x7_1 h0 n0 v U'.heap L ∧ FrameEnd U o U' L ({ frames := 2, cells := 0, slots := 0, locals := 24 } : Room).cells ({ frames := 2, cells := 0, slots := 0, locals := 24 } : Room).slots) := by
  refine MetFree.of_bodySF (plainFor_of_name pn_4) hisR ?_
  intro p e s m args below meth c s₁ Bd hml0 hP hK
  obtain ⟨rfl, hZ, hh⟩ := hP
  have hx := Bd.exec
  have hby := Bd.bytes
  have hml : c.maxLocals = 2 := hml0
  have hown : s.vm.findClass "java/lang/Integer" = some m.cls := findClass_of_methodNamed Bd.named
  have hnm := (name_of_methodNamed Bd.named Bd.method).1
  have X0 : Stand p l e ({ frames := 2, cells := 0, slots := 0, locals := 24 } : Room) s m #[(.ref x7_0), (.int x7_1)] below meth c s₁ [] 0 0 := Stand.of_body Bd
  have e0 : s₁.heap = h0 := by rw [← hh, Bd.state]; rfl
  have N0 := Fr.nil n0
  have pre0 : ∀ t, Steps p.tables e below (s₁.setTop (mkF m 0 #[.val (.ref x7_0), .val (.int x7_1)] [])) t → Steps p.tables e below (s₁.setTop (entryFrame m #[(.ref x7_0), (.int x7_1)] 2)) t := fun t k => castTop (ef_7 m x7_0 x7_1) k
  have sg2 : ∀ t, Steps p.tables e below (s₁.setTop (mkF m 1 #[.val (.ref x7_0), .val (.int x7_1)] [(.ref x7_0)])) t → Steps p.tables e below (s₁.setTop (mkF m 0 #[.val (.ref x7_0), .val (.int x7_1)] [])) t := fun t kt => by
    show Steps p.tables e below (s₁.setTop (mkF m 0 #[.val (.ref x7_0), .val (.int x7_1)] [])) _
    refine XS.aloadN X0.here hx rfl (hb hby d7_0) rfl rfl ?_
    exact kt
  obtain ⟨v1, _, ⟨T1, L1, k1, n1⟩, -, X1, ⟨Lc1, hQ1, l1, y1, z1⟩, st1⟩ := X0.specialBack hx (y := (⟨"java/lang/Number", "<init>", "()V"⟩ : MethodName)) rfl hown (mvT hZ (hw _ (List.mem_of_getElem? (i := 60) rfl))) (mvT hZ (hw _ (List.mem_of_getElem? (i := 61) rfl))) (mvT hZ (hw _ (List.mem_of_getElem? (i := 65) rfl))) (by decide) (backOf (W := 0) (rm8 l Z a0 hw [] x7_0 h0 n0 Z0) hZ (hw _ (List.mem_of_getElem? (i := 65) rfl)) (hw _ (List.mem_of_getElem? (i := 64) rfl)) (by decide) (by decide)) (g := (mkF m 1 #[.val (.ref x7_0), .val (.int x7_1)] [(.ref x7_0)])) rfl (by rw [hml]; rfl) (Steps.refl _) (a := x7_0) (argsL := []) (rest := []) (lenOf pd_1 rfl) rfl (by show 2 * 0 + _ ≤ _; exact Nat.le_of_eq rfl) (hb hby d7_1) (fun _ _ => ⟨rfl, e0, (by decide : 0 + 0 ≤ _), (by decide : 0 + 0 ≤ _)⟩)
  dsimp only [Pt.U, Pt.locs, Pt.cells, Pt.slots] at X1 l1 y1 z1 st1 hQ1
  subst l1 y1 z1
  obtain ⟨hv1, N1q, e1⟩ := hQ1
  have N1 := Fr.app N0 N1q
  subst hv1
  obtain ⟨T3, h3, X3, e3, W3, st3⟩ := putF X1 hx hZ hown (host := "") (Or.inl (hw _ (List.mem_of_getElem? (i := 67) rfl))) Via.refl e1 Fo_value Exa0 (Or.inr ⟨(hw _ (List.mem_of_getElem? (i := 68) rfl)), rfl, hnm⟩) (hw _ (List.mem_of_getElem? (i := 55) rfl)) (ty := .int) (by decide) rfl rfl (g := (mkF m 6 #[.val (.ref x7_0), .val (.int x7_1)] [(.int x7_1), (.ref x7_0)])) rfl rfl (hb hby d7_6)
  have Fw3 := Fld.same W3 Fo_value
  have N3 := Fr.snoc X3 N1 g_x7_0
  have Zs3 : n0 ≤ h3.size := Nat.le_trans Z0 (Keep.of_wr W3).1
  have KC3 : Keep h0 h3 [x7_0] := (Keep.refl h0 [x7_0]).wr W3 (Or.inl (List.mem_of_getElem? (i := 0) rfl))
  have c4 := (Exa.wr W3 Exa0)
  obtain ⟨fs, hr, hrun, hended, hW, hsame⟩ := X3.leave (v := none) (fun _ => rfl)
  refine ⟨_, _, pre0 _ (sg2 _ ?_), hrun, hended, _, _, rfl, ?_, ⟨_, rfl⟩, hW, hsame.mono (by decide) (by decide)⟩
  · show Steps p.tables e below (s₁.setTop (mkF m 1 #[.val (.ref x7_0), .val (.int x7_1)] [(.ref x7_0)])) _
    refine st1.trans ?_
    show Steps p.tables e below (T1.setTop (mkF m 4 #[.val (.ref x7_0), .val (.int x7_1)] [])) _
    refine XS.aloadN X1.here hx rfl (hb hby d7_4) rfl rfl ?_
    show Steps p.tables e below (T1.setTop (mkF m 5 #[.val (.ref x7_0), .val (.int x7_1)] [(.ref x7_0)])) _
    refine XS.iloadN X1.here hx rfl (hb hby d7_5) rfl ?_
    show Steps p.tables e below (T1.setTop (mkF m 6 #[.val (.ref x7_0), .val (.int x7_1)] [(.int x7_1), (.ref x7_0)])) _
    refine st3 _ ?_
    show Steps p.tables e below (T3.setTop (mkF m 9 #[.val (.ref x7_0), .val (.int x7_1)] [])) _
    exact X3.returnOut hx Bd.returns (hb hby d7_9) hr
  · show Q7 Z x7_0 x7_1 h0 n0 _ T3.heap _
    rw [e3]
    exact ⟨rfl, N3, KC3, c4, Fw3⟩
theorem pd_2 : parseMethodDescriptor "(I)V" = some ⟨[.int], none⟩ := by decide +kernel
theorem d6_0 : decode jdk_33_method_22_code 0 = .ok (.iload_n 0, 1) := by decide +kernel
theorem d6_1 : decode jdk_33_method_22_code 1 = .ok (.bipush (-128), 2) := by decide +kernel
theorem d6_3 : decode jdk_33_method_22_code 3 = .ok (.if_icmp .lt 20, 3) := by decide +kernel
theorem d6_6 : decode jdk_33_method_22_code 6 = .ok (.iload_n 0, 1) := by decide +kernel
theorem d6_7 : decode jdk_33_method_22_code 7 = .ok (.getstatic 191, 3) := by decide +kernel
theorem d6_10 : decode jdk_33_method_22_code 10 = .ok (.if_icmp .gt 13, 3) := by decide +kernel
theorem d6_13 : decode jdk_33_method_22_code 13 = .ok (.getstatic 195, 3) := by decide +kernel
theorem d6_16 : decode jdk_33_method_22_code 16 = .ok (.iload_n 0, 1) := by decide +kernel
theorem d6_17 : decode jdk_33_method_22_code 17 = .ok (.sipush 128, 3) := by decide +kernel
theorem d6_20 : decode jdk_33_method_22_code 20 = .ok (.iadd, 1) := by decide +kernel
theorem d6_21 : decode jdk_33_method_22_code 21 = .ok (.aaload, 1) := by decide +kernel
theorem d6_22 : decode jdk_33_method_22_code 22 = .ok (.areturn, 1) := by decide +kernel
theorem d6_23 : decode jdk_33_method_22_code 23 = .ok (.new 1, 3) := by decide +kernel
theorem d6_26 : decode jdk_33_method_22_code 26 = .ok (.dup, 1) := by decide +kernel
theorem d6_27 : decode jdk_33_method_22_code 27 = .ok (.iload_n 0, 1) := by decide +kernel
theorem d6_28 : decode jdk_33_method_22_code 28 = .ok (.invokespecial 199, 3) := by decide +kernel
theorem d6_31 : decode jdk_33_method_22_code 31 = .ok (.areturn, 1) := by decide +kernel
theorem ef_6 (m : MethodId) (x6_0 : Int32) : entryFrame m #[(.int x6_0)] 1 = mkF m 0 #[.val (.int x6_0)] [] := by first | (simp [entryFrame, mkF, argsToLocals, Value.category]; done) | rfl
def Q6 (Z : State) (x6_0 : Int32) (cA : Addr) (cl : Cell) (h0 : Heap) (n0 : Nat) (v : Option Value) (h : Heap) (L : List Loc) : Prop := ∃ r, v = some (.ref r) ∧ Fr n0 L ∧ Keep h0 h [] ∧ Exa Z h r "java/lang/Integer"
set_option maxRecDepth 65536 in
set_option maxHeartbeats 40000000 in
theorem rm6 (l : Launch) (Z : State) (a0 : Array Value) (hw : ∀ d ∈ tables_1, d.before a0 Z = true) (ws : List Jvm.Cond) (x6_0 : Int32) (cA : Addr) (cl : Cell) (h0 : Heap) (n0 : Nat) (Z0 : n0 ≤ h0.size) (O0 : Old Z n0 h0) (JC : Bxs Z cA cl "java/lang/Integer" "I" 256 (fun j => .int (j - 128))) (SC : Sta Z Z.heap "java/lang/Integer$IntegerCache" "cache" "[Ljava/lang/Integer;" (.ref cA)) (SH : Sta Z Z.heap "java/lang/Integer$IntegerCache" "high" "I" (.int (127 : Int32))) :
    MetFree l (⟨"java/lang/Integer", "valueOf", "(I)Ljava/lang/Integer;"⟩ : MethodName) (head1 (Jvm.Cond.code (⟨"java/lang/Integer", "valueOf", "(I)Ljava/lang/Integer;"⟩ : MethodName) jdk_33_method_22_code 1 (some (.object "java/lang/Integer")) :: ws) ({ frames := 3, cells := 1, slots := 1, locals := 38 } : Room)) (fun a U => a = #[(.int x6_0)] ∧ Z.Warmed39 U.vm ∧ U.heap = h0) (fun _ _ _ _ _ => True) (fun _ U o U' => ∃ v L, o = .returned v ∧ Q6 Z x6_0 cA cl h0 n0 v U'.heap L ∧ FrameEnd U o U' L ({ frames := 3, cells := 1, slots := 1, locals := 38 } : Room).cells ({ frames := 3, cells := 1, slots := 1, locals := 38 } : Room).slots) := by
  refine MetFree.of_bodySF (plainFor_of_name pn_4) hisR ?_
  intro p e s m args below meth c s₁ Bd hml0 hP hK
  obtain ⟨rfl, hZ, hh⟩ := hP
  have hx := Bd.exec
  have hby := Bd.bytes
  have hml : c.maxLocals = 1 := hml0
  have hown : s.vm.findClass "java/lang/Integer" = some m.cls := findClass_of_methodNamed Bd.named
  have hnm := (name_of_methodNamed Bd.named Bd.method).1
  have X0 : Stand p l e ({ frames := 3, cells := 1, slots := 1, locals := 38 } : Room) s m #[(.int x6_0)] below meth c s₁ [] 0 0 := Stand.of_body Bd
  have e0 : s₁.heap = h0 := by rw [← hh, Bd.state]; rfl
  have N0 := Fr.nil n0
  have pre0 : ∀ t, Steps p.tables e below (s₁.setTop (mkF m 0 #[.val (.int x6_0)] [])) t → Steps p.tables e below (s₁.setTop (entryFrame m #[(.int x6_0)] 1)) t := fun t k => castTop (ef_6 m x6_0) k
  have sg1 : ∀ t, Steps p.tables e below (s₁.setTop (mkF m 3 #[.val (.int x6_0)] [(.int (-128 : Int32)), (.int x6_0)])) t → Steps p.tables e below (s₁.setTop (mkF m 0 #[.val (.int x6_0)] [])) t := fun t kt => by
    show Steps p.tables e below (s₁.setTop (mkF m 0 #[.val (.int x6_0)] [])) _
    refine XS.iloadN X0.here hx rfl (hb hby d6_0) rfl ?_
    show Steps p.tables e below (s₁.setTop (mkF m 1 #[.val (.int x6_0)] [(.int x6_0)])) _
    refine XS.bipush X0.here hx rfl (hb hby d6_1) ?_
    exact kt
  by_cases hc3_2 : x6_0 < (-128 : Int32)
  · obtain ⟨T3, h3, X3, e3, E3, A3, D3, -, st3⟩ := newO X0 hx hZ hown (hw _ (List.mem_of_getElem? (i := 54) rfl)) (hw _ (List.mem_of_getElem? (i := 55) rfl)) (hw _ (List.mem_of_getElem? (i := 50) rfl)) e0 (g := (mkF m 23 #[.val (.int x6_0)] [])) rfl (hb hby d6_23) (by decide) (by decide)
    obtain ⟨b3, g3⟩ : ∃ z, z = h0.size := ⟨_, rfl⟩
    rw [← g3] at A3 D3 st3
    have g_b3 : n0 ≤ b3 := Nat.le_trans Z0 (Nat.le_of_eq g3.symm)
    have sz_b3 : h0.size ≤ b3 := Nat.le_trans (Keep.refl h0 []).1 (Nat.le_of_eq g3.symm)
    have Zs3 : n0 ≤ h3.size := Nat.le_trans Z0 E3.1
    have KC3 : Keep h0 h3 [] := (Keep.refl h0 []).ext E3
    have Ol3 : Old Z n0 h3 := (O0).ext E3
    have F_value_b3 : Fld Z h3 b3 "java/lang/Integer" "value" "I" (.int (0 : Int32)) := D3 (Or.inr (hw _ (List.mem_of_getElem? (i := 68) rfl))) (ty := .int) (by decide)
    have sg5 : ∀ t, Steps p.tables e below (T3.setTop (mkF m 28 #[.val (.int x6_0)] [(.int x6_0), (.ref b3), (.ref b3)])) t → Steps p.tables e below (s₁.setTop (mkF m 3 #[.val (.int x6_0)] [(.int (-128 : Int32)), (.int x6_0)])) t := fun t kt => by
      show Steps p.tables e below (s₁.setTop (mkF m 3 #[.val (.int x6_0)] [(.int (-128 : Int32)), (.int x6_0)])) _
      refine XS.icmpYes X0.here hx rfl (pc0 := 3) (pc' := 23) rfl (hb hby d6_3) rfl (tlt hc3_2).1 (by decide) (by decide) ?_
      show Steps p.tables e below (s₁.setTop (mkF m 23 #[.val (.int x6_0)] [])) _
      refine st3 _ ?_
      show Steps p.tables e below (T3.setTop (mkF m 26 #[.val (.int x6_0)] [(.ref b3)])) _
      refine XS.dup X3.here hx rfl (hb hby d6_26) rfl rfl ?_
      show Steps p.tables e below (T3.setTop (mkF m 27 #[.val (.int x6_0)] [(.ref b3), (.ref b3)])) _
      refine XS.iloadN X3.here hx rfl (hb hby d6_27) rfl ?_
      exact kt
    obtain ⟨v4, _, ⟨T4, L4, k4, n4⟩, -, X4, ⟨Lc4, hQ4, l4, y4, z4⟩, st4⟩ := X3.specialBack hx (y := (⟨"java/lang/Integer", "<init>", "(I)V"⟩ : MethodName)) rfl hown (mvT hZ (hw _ (List.mem_of_getElem? (i := 56) rfl))) (mvT hZ (hw _ (List.mem_of_getElem? (i := 57) rfl))) (mvT hZ (hw _ (List.mem_of_getElem? (i := 59) rfl))) (by decide) (backOf (W := 1) (rm7 l Z a0 hw [] b3 x6_0 h3 n0 Zs3 A3 g_b3 F_value_b3) hZ (hw _ (List.mem_of_getElem? (i := 59) rfl)) (hw _ (List.mem_of_getElem? (i := 50) rfl)) (by decide) (by decide)) (g := (mkF m 28 #[.val (.int x6_0)] [(.int x6_0), (.ref b3), (.ref b3)])) rfl (by rw [hml]; rfl) (Steps.refl _) (a := b3) (argsL := [(.int x6_0)]) (rest := [(.ref b3)]) (lenOf pd_2 rfl) rfl (by show 2 * 0 + _ ≤ _; exact Nat.le_of_eq rfl) (hb hby d6_28) (fun _ _ => ⟨rfl, e3, (by decide : 1 + 0 ≤ _), (by decide : 1 + 0 ≤ _)⟩)
    dsimp only [Pt.U, Pt.locs, Pt.cells, Pt.slots] at X4 l4 y4 z4 st4 hQ4
    subst l4 y4 z4
    obtain ⟨rfl, N4q, K4, Ex4, Fq4_value⟩ := hQ4
    have N4 := Fr.app N0 N4q
    have Zs4 : n0 ≤ T4.heap.size := Nat.le_trans Zs3 K4.1
    have KC4 : Keep h0 T4.heap [] := (KC3).trans K4 (allS (Or.inr sz_b3) all0)
    have Ol4 : Old Z n0 T4.heap := (Ol3).keep K4 (allS g_b3 all0)
    obtain ⟨fs, hr, hrun, hended, hW, hsame⟩ := X4.leave (v := some (.ref b3)) (fun h => by rw [Bd.returns] at h; cases h)
    refine ⟨_, _, pre0 _ (sg1 _ (sg5 _ ?_)), hrun, hended, _, _, rfl, ?_, ⟨_, rfl⟩, hW, hsame.mono (by decide) (by decide)⟩
    · show Steps p.tables e below (T3.setTop (mkF m 28 #[.val (.int x6_0)] [(.int x6_0), (.ref b3), (.ref b3)])) _
      refine st4.trans ?_
      show Steps p.tables e below (T4.setTop (mkF m 31 #[.val (.int x6_0)] [(.ref b3)])) _
      exact retOut X4 hx Bd.returns rfl (Or.inr (Or.inr (Or.inr (Or.inr ⟨rfl, rfl, rfl⟩)))) (hb hby d6_31) hr
    · show Q6 Z x6_0 cA cl h0 n0 _ T4.heap _
      exact ⟨b3, rfl, N4, KC4, Ex4⟩
  · obtain ⟨T6, X6, e6, st6⟩ := getS2 X0 hx hZ hown (host := "") (Or.inl (hw _ (List.mem_of_getElem? (i := 52) rfl))) Via.refl e0 (Sta.ext O0.2 SH) (g := (mkF m 7 #[.val (.int x6_0)] [(.int x6_0)])) rfl (hb hby d6_7)
    have sg7 : ∀ t, Steps p.tables e below (T6.setTop (mkF m 10 #[.val (.int x6_0)] [(.int (127 : Int32)), (.int x6_0)])) t → Steps p.tables e below (s₁.setTop (mkF m 3 #[.val (.int x6_0)] [(.int (-128 : Int32)), (.int x6_0)])) t := fun t kt => by
      show Steps p.tables e below (s₁.setTop (mkF m 3 #[.val (.int x6_0)] [(.int (-128 : Int32)), (.int x6_0)])) _
      refine XS.icmpNo X0.here hx rfl (hb hby d6_3) rfl (flt hc3_2).1 ?_
      show Steps p.tables e below (s₁.setTop (mkF m 6 #[.val (.int x6_0)] [])) _
      refine XS.iloadN X0.here hx rfl (hb hby d6_6) rfl ?_
      show Steps p.tables e below (s₁.setTop (mkF m 7 #[.val (.int x6_0)] [(.int x6_0)])) _
      refine st6 _ ?_
      exact kt
    by_cases hc10_8 : (127 : Int32) < x6_0
    · obtain ⟨T9, h9, X9, e9, E9, A9, D9, -, st9⟩ := newO X6 hx hZ hown (hw _ (List.mem_of_getElem? (i := 54) rfl)) (hw _ (List.mem_of_getElem? (i := 55) rfl)) (hw _ (List.mem_of_getElem? (i := 50) rfl)) e6 (g := (mkF m 23 #[.val (.int x6_0)] [])) rfl (hb hby d6_23) (by decide) (by decide)
      obtain ⟨b9, g9⟩ : ∃ z, z = h0.size := ⟨_, rfl⟩
      rw [← g9] at A9 D9 st9
      have g_b9 : n0 ≤ b9 := Nat.le_trans Z0 (Nat.le_of_eq g9.symm)
      have sz_b9 : h0.size ≤ b9 := Nat.le_trans (Keep.refl h0 []).1 (Nat.le_of_eq g9.symm)
      have Zs9 : n0 ≤ h9.size := Nat.le_trans Z0 E9.1
      have KC9 : Keep h0 h9 [] := (Keep.refl h0 []).ext E9
      have Ol9 : Old Z n0 h9 := (O0).ext E9
      have F_value_b9 : Fld Z h9 b9 "java/lang/Integer" "value" "I" (.int (0 : Int32)) := D9 (Or.inr (hw _ (List.mem_of_getElem? (i := 68) rfl))) (ty := .int) (by decide)
      have sg11 : ∀ t, Steps p.tables e below (T9.setTop (mkF m 28 #[.val (.int x6_0)] [(.int x6_0), (.ref b9), (.ref b9)])) t → Steps p.tables e below (T6.setTop (mkF m 10 #[.val (.int x6_0)] [(.int (127 : Int32)), (.int x6_0)])) t := fun t kt => by
        show Steps p.tables e below (T6.setTop (mkF m 10 #[.val (.int x6_0)] [(.int (127 : Int32)), (.int x6_0)])) _
        refine XS.icmpYes X6.here hx rfl (pc0 := 10) (pc' := 23) rfl (hb hby d6_10) rfl (tlt hc10_8).2.2.1 (by decide) (by decide) ?_
        show Steps p.tables e below (T6.setTop (mkF m 23 #[.val (.int x6_0)] [])) _
        refine st9 _ ?_
        show Steps p.tables e below (T9.setTop (mkF m 26 #[.val (.int x6_0)] [(.ref b9)])) _
        refine XS.dup X9.here hx rfl (hb hby d6_26) rfl rfl ?_
        show Steps p.tables e below (T9.setTop (mkF m 27 #[.val (.int x6_0)] [(.ref b9), (.ref b9)])) _
        refine XS.iloadN X9.here hx rfl (hb hby d6_27) rfl ?_
        exact kt
      obtain ⟨v10, _, ⟨T10, L10, k10, n10⟩, -, X10, ⟨Lc10, hQ10, l10, y10, z10⟩, st10⟩ := X9.specialBack hx (y := (⟨"java/lang/Integer", "<init>", "(I)V"⟩ : MethodName)) rfl hown (mvT hZ (hw _ (List.mem_of_getElem? (i := 56) rfl))) (mvT hZ (hw _ (List.mem_of_getElem? (i := 57) rfl))) (mvT hZ (hw _ (List.mem_of_getElem? (i := 59) rfl))) (by decide) (backOf (W := 1) (rm7 l Z a0 hw [] b9 x6_0 h9 n0 Zs9 A9 g_b9 F_value_b9) hZ (hw _ (List.mem_of_getElem? (i := 59) rfl)) (hw _ (List.mem_of_getElem? (i := 50) rfl)) (by decide) (by decide)) (g := (mkF m 28 #[.val (.int x6_0)] [(.int x6_0), (.ref b9), (.ref b9)])) rfl (by rw [hml]; rfl) (Steps.refl _) (a := b9) (argsL := [(.int x6_0)]) (rest := [(.ref b9)]) (lenOf pd_2 rfl) rfl (by show 2 * 0 + _ ≤ _; exact Nat.le_of_eq rfl) (hb hby d6_28) (fun _ _ => ⟨rfl, e9, (by decide : 1 + 0 ≤ _), (by decide : 1 + 0 ≤ _)⟩)
      dsimp only [Pt.U, Pt.locs, Pt.cells, Pt.slots] at X10 l10 y10 z10 st10 hQ10
      subst l10 y10 z10
      obtain ⟨rfl, N10q, K10, Ex10, Fq10_value⟩ := hQ10
      have N10 := Fr.app N0 N10q
      have Zs10 : n0 ≤ T10.heap.size := Nat.le_trans Zs9 K10.1
      have KC10 : Keep h0 T10.heap [] := (KC9).trans K10 (allS (Or.inr sz_b9) all0)
      have Ol10 : Old Z n0 T10.heap := (Ol9).keep K10 (allS g_b9 all0)
      obtain ⟨fs, hr, hrun, hended, hW, hsame⟩ := X10.leave (v := some (.ref b9)) (fun h => by rw [Bd.returns] at h; cases h)
      refine ⟨_, _, pre0 _ (sg1 _ (sg7 _ (sg11 _ ?_))), hrun, hended, _, _, rfl, ?_, ⟨_, rfl⟩, hW, hsame.mono (by decide) (by decide)⟩
      · show Steps p.tables e below (T9.setTop (mkF m 28 #[.val (.int x6_0)] [(.int x6_0), (.ref b9), (.ref b9)])) _
        refine st10.trans ?_
        show Steps p.tables e below (T10.setTop (mkF m 31 #[.val (.int x6_0)] [(.ref b9)])) _
        exact retOut X10 hx Bd.returns rfl (Or.inr (Or.inr (Or.inr (Or.inr ⟨rfl, rfl, rfl⟩)))) (hb hby d6_31) hr
      · show Q6 Z x6_0 cA cl h0 n0 _ T10.heap _
        exact ⟨b9, rfl, N10, KC10, Ex10⟩
    · obtain ⟨T12, X12, e12, st12⟩ := getS2 X6 hx hZ hown (host := "") (Or.inl (hw _ (List.mem_of_getElem? (i := 74) rfl))) Via.refl e6 (Sta.ext O0.2 SC) (g := (mkF m 13 #[.val (.int x6_0)] [])) rfl (hb hby d6_13)
      have hin := inb_of JC.2.1 (own_jI x6_0 hc3_2 hc10_8)
      obtain ⟨r, hsl, hE, hF⟩ := JC.2.2.2 _ hin
      obtain ⟨fs, hr, hrun, hended, hW, hsame⟩ := X12.leave (v := some (.ref r)) (fun h => by rw [Bd.returns] at h; cases h)
      refine ⟨_, _, pre0 _ (sg1 _ (sg7 _ ?_)), hrun, hended, _, _, rfl, ?_, ⟨_, rfl⟩, hW, hsame.mono (by decide) (by decide)⟩
      · show Steps p.tables e below (T6.setTop (mkF m 10 #[.val (.int x6_0)] [(.int (127 : Int32)), (.int x6_0)])) _
        refine XS.icmpNo X6.here hx rfl (hb hby d6_10) rfl (flt hc10_8).2.2.1 ?_
        show Steps p.tables e below (T6.setTop (mkF m 13 #[.val (.int x6_0)] [])) _
        refine st12 _ ?_
        show Steps p.tables e below (T12.setTop (mkF m 16 #[.val (.int x6_0)] [(.ref cA)])) _
        refine XS.iloadN X12.here hx rfl (hb hby d6_16) rfl ?_
        show Steps p.tables e below (T12.setTop (mkF m 17 #[.val (.int x6_0)] [(.int x6_0), (.ref cA)])) _
        refine XS.sipush X12.here hx rfl (hb hby d6_17) ?_
        show Steps p.tables e below (T12.setTop (mkF m 20 #[.val (.int x6_0)] [(.int (128 : Int32)), (.int x6_0), (.ref cA)])) _
        refine XS.iadd X12.here hx rfl (hb hby d6_20) rfl ?_
        show Steps p.tables e below (T12.setTop (mkF m 21 #[.val (.int x6_0)] [(.int (x6_0 + (128 : Int32))), (.ref cA)])) _
        refine X12.aaload hx (j := (x6_0 + (128 : Int32))) (v := (.ref r)) (by rw [e12]; exact (Arr.ext O0.2 JC.1).1) (State.isArrayOf_alike hZ.alike JC.1.2.1) rfl JC.1.2.2 hin hsl (g := (mkF m 21 #[.val (.int x6_0)] [(.int (x6_0 + (128 : Int32))), (.ref cA)])) rfl rfl (hb hby d6_21) _ ?_
        show Steps p.tables e below (T12.setTop (mkF m 22 #[.val (.int x6_0)] [(.ref r)])) _
        exact retOut X12 hx Bd.returns rfl (Or.inr (Or.inr (Or.inr (Or.inr ⟨rfl, rfl, rfl⟩)))) (hb hby d6_22) hr
      · show Q6 Z x6_0 cA cl h0 n0 _ T12.heap _
        rw [e12]
        exact ⟨r, rfl, N0, Keep.refl h0 [], (Exa.ext O0.2 hE)⟩
theorem pd_3 : parseMethodDescriptor "(I)Lcom/example/libdmutex/libdmutex/core/Mode;" = some ⟨[.int], some (.object "com/example/libdmutex/libdmutex/core/Mode")⟩ := by decide +kernel
theorem pd_4 : parseMethodDescriptor "(IJLcom/example/libdmutex/libdmutex/core/Mode;)V" = some ⟨[.int, .long, (.object "com/example/libdmutex/libdmutex/core/Mode")], none⟩ := by decide +kernel
theorem pd_5 : parseMethodDescriptor "(Ljava/lang/Object;)Z" = some ⟨[(.object "java/lang/Object")], some .boolean⟩ := by decide +kernel
theorem pd_6 : parseMethodDescriptor "(I)Ljava/lang/Integer;" = some ⟨[.int], some (.object "java/lang/Integer")⟩ := by decide +kernel
theorem ef_0 (m : MethodId) (x0_0 : Int32) (x0_1 : Int64) (x0_2 : Int32) (x0_3 : Int64) (x0_4 : Int32) (x0_5 : Int32) : entryFrame m #[(.int x0_0), (.long x0_1), (.int x0_2), (.long x0_3), (.int x0_4), (.int x0_5)] maxLocals = mkF m 0 #[.val (.int x0_0), .val (.long x0_1), .second, .val (.int x0_2), .val (.long x0_3), .second, .val (.int x0_4), .val (.int x0_5), .unset, .unset, .unset, .unset, .unset, .unset, .unset, .unset, .unset] [] := by first | (simp [entryFrame, mkF, argsToLocals, Value.category, maxLocals]; done) | rfl
def Q0 (Z : State) (x0_0 : Int32) (x0_1 : Int64) (x0_2 : Int32) (x0_3 : Int64) (x0_4 : Int32) (x0_5 : Int32) (w_IR w_R w_U w_IW w_W : Addr) (cA : Addr) (cl : Cell) (h0 : Heap) (n0 : Nat) (v : Option Value) (h : Heap) (L : List Loc) : Prop := v = some (.int 1) ∧ Fr n0 L
set_option maxRecDepth 65536 in
set_option maxHeartbeats 40000000 in
theorem rm0 (l : Launch) (Z : State) (a0 : Array Value) (hw : ∀ d ∈ tables_1, d.before a0 Z = true) (ws : List Jvm.Cond) (x0_0 : Int32) (x0_1 : Int64) (x0_2 : Int32) (x0_3 : Int64) (x0_4 : Int32) (x0_5 : Int32) (w_IR w_R w_U w_IW w_W : Addr) (cA : Addr) (cl : Cell) (h0 : Heap) (n0 : Nat) (Z0 : n0 ≤ h0.size) (W : World Z Z.heap w_IR w_R w_U w_IW w_W) (O0 : Old Z n0 h0) (JC : Bxs Z cA cl "java/lang/Integer" "I" 256 (fun j => .int (j - 128))) (SC : Sta Z Z.heap "java/lang/Integer$IntegerCache" "cache" "[Ljava/lang/Integer;" (.ref cA)) (SH : Sta Z Z.heap "java/lang/Integer$IntegerCache" "high" "I" (.int (127 : Int32))) :
    MetFree l x (head1 (Jvm.Cond.code x code maxLocals ret :: ws) room_1) (fun a U => a = #[(.int x0_0), (.long x0_1), (.int x0_2), (.long x0_3), (.int x0_4), (.int x0_5)] ∧ Z.Warmed39 U.vm ∧ U.heap = h0) (fun _ _ _ _ _ => True) (fun _ U o U' => ∃ v L, o = .returned v ∧ Q0 Z x0_0 x0_1 x0_2 x0_3 x0_4 x0_5 w_IR w_R w_U w_IW w_W cA cl h0 n0 v U'.heap L ∧ ReturnedEndW U o U' L room_1.cells room_1.slots) := by
  refine MetFree.of_bodySF (plainFor_of_name pn_0) hisR ?_
  intro p e s m args below meth c s₁ Bd hml0 hP hK
  obtain ⟨rfl, hZ, hh⟩ := hP
  have hx := Bd.exec
  have hby := Bd.bytes
  have hml : c.maxLocals = 17 := hml0
  have hown : s.vm.findClass "com/example/libdmutex/libdmutex/core/QueuedEqualsPinLaw" = some m.cls := findClass_of_methodNamed Bd.named
  have hnm := (name_of_methodNamed Bd.named Bd.method).1
  have X0 : Stand p l e room_1 s m #[(.int x0_0), (.long x0_1), (.int x0_2), (.long x0_3), (.int x0_4), (.int x0_5)] below meth c s₁ [] 0 0 := Stand.of_body Bd
  have e0 : s₁.heap = h0 := by rw [← hh, Bd.state]; rfl
  have N0 := Fr.nil n0
  have pre0 : ∀ t, Steps p.tables e below (s₁.setTop (mkF m 0 #[.val (.int x0_0), .val (.long x0_1), .second, .val (.int x0_2), .val (.long x0_3), .second, .val (.int x0_4), .val (.int x0_5), .unset, .unset, .unset, .unset, .unset, .unset, .unset, .unset, .unset] [])) t → Steps p.tables e below (s₁.setTop (entryFrame m #[(.int x0_0), (.long x0_1), (.int x0_2), (.long x0_3), (.int x0_4), (.int x0_5)] maxLocals)) t := fun t k => castTop (ef_0 m x0_0 x0_1 x0_2 x0_3 x0_4 x0_5) k
  have hS0 : s.Since s.vm h0.size := (State.WarmedH.refl s).since _
  have hk0 : h0.size ≤ h0.size := Nat.le_refl _
  have sg1 : ∀ t, Steps p.tables e below (s₁.setTop (mkF m 4 #[.val (.int x0_0), .val (.long x0_1), .second, .val (.int x0_2), .val (.long x0_3), .second, .val (.int x0_4), .val (.int x0_5), .unset, .unset, .unset, .unset, .unset, .unset, .unset, .unset, .unset] [(.int (x0_5 &&& (1 : Int32)))])) t → Steps p.tables e below (s₁.setTop (mkF m 0 #[.val (.int x0_0), .val (.long x0_1), .second, .val (.int x0_2), .val (.long x0_3), .second, .val (.int x0_4), .val (.int x0_5), .unset, .unset, .unset, .unset, .unset, .unset, .unset, .unset, .unset] [])) t := fun t kt => by
    show Steps p.tables e below (s₁.setTop (mkF m 0 #[.val (.int x0_0), .val (.long x0_1), .second, .val (.int x0_2), .val (.long x0_3), .second, .val (.int x0_4), .val (.int x0_5), .unset, .unset, .unset, .unset, .unset, .unset, .unset, .unset, .unset] [])) _
    refine XS.iload X0.here hx rfl (hb hby at_0) rfl ?_
    show Steps p.tables e below (s₁.setTop (mkF m 2 #[.val (.int x0_0), .val (.long x0_1), .second, .val (.int x0_2), .val (.long x0_3), .second, .val (.int x0_4), .val (.int x0_5), .unset, .unset, .unset, .unset, .unset, .unset, .unset, .unset, .unset] [(.int x0_5)])) _
    refine XS.iconst X0.here hx rfl (hb hby at_2) ?_
    show Steps p.tables e below (s₁.setTop (mkF m 3 #[.val (.int x0_0), .val (.long x0_1), .second, .val (.int x0_2), .val (.long x0_3), .second, .val (.int x0_4), .val (.int x0_5), .unset, .unset, .unset, .unset, .unset, .unset, .unset, .unset, .unset] [(.int (1 : Int32)), (.int x0_5)])) _
    refine XS.iand X0.here hx rfl (hb hby at_3) rfl ?_
    exact kt
  have sg2 : ∀ t, Steps p.tables e below (s₁.setTop (mkF m 12 #[.val (.int x0_0), .val (.long x0_1), .second, .val (.int x0_2), .val (.long x0_3), .second, .val (.int x0_4), .val (.int x0_5), .unset, .unset, .unset, .unset, .unset, .unset, .unset, .unset, .unset] [(.int (if (x0_5 &&& (1 : Int32)) = (0 : Int32) then x0_2 else x0_0))])) t → Steps p.tables e below (s₁.setTop (mkF m 4 #[.val (.int x0_0), .val (.long x0_1), .second, .val (.int x0_2), .val (.long x0_3), .second, .val (.int x0_4), .val (.int x0_5), .unset, .unset, .unset, .unset, .unset, .unset, .unset, .unset, .unset] [(.int (x0_5 &&& (1 : Int32)))])) t := fun t kt => by
    by_cases hm : (x0_5 &&& (1 : Int32)) = (0 : Int32)
    · rw [if_pos hm] at kt
      show Steps p.tables e below (s₁.setTop (mkF m 4 #[.val (.int x0_0), .val (.long x0_1), .second, .val (.int x0_2), .val (.long x0_3), .second, .val (.int x0_4), .val (.int x0_5), .unset, .unset, .unset, .unset, .unset, .unset, .unset, .unset, .unset] [(.int (x0_5 &&& (1 : Int32)))])) _
      refine XS.ifYes X0.here hx rfl (pc0 := 4) (pc' := 11) rfl (hb hby at_4) rfl ((if0 _ _).trans (teq hm).1) (by decide) (by decide) ?_
      show Steps p.tables e below (s₁.setTop (mkF m 11 #[.val (.int x0_0), .val (.long x0_1), .second, .val (.int x0_2), .val (.long x0_3), .second, .val (.int x0_4), .val (.int x0_5), .unset, .unset, .unset, .unset, .unset, .unset, .unset, .unset, .unset] [])) _
      refine XS.iloadN X0.here hx rfl (hb hby at_11) rfl ?_
      exact kt
    · rw [if_neg hm] at kt
      show Steps p.tables e below (s₁.setTop (mkF m 4 #[.val (.int x0_0), .val (.long x0_1), .second, .val (.int x0_2), .val (.long x0_3), .second, .val (.int x0_4), .val (.int x0_5), .unset, .unset, .unset, .unset, .unset, .unset, .unset, .unset, .unset] [(.int (x0_5 &&& (1 : Int32)))])) _
      refine XS.ifNo X0.here hx rfl (hb hby at_4) rfl ((if0 _ _).trans (feq hm).1) ?_
      show Steps p.tables e below (s₁.setTop (mkF m 7 #[.val (.int x0_0), .val (.long x0_1), .second, .val (.int x0_2), .val (.long x0_3), .second, .val (.int x0_4), .val (.int x0_5), .unset, .unset, .unset, .unset, .unset, .unset, .unset, .unset, .unset] [])) _
      refine XS.iloadN X0.here hx rfl (hb hby at_7) rfl ?_
      show Steps p.tables e below (s₁.setTop (mkF m 8 #[.val (.int x0_0), .val (.long x0_1), .second, .val (.int x0_2), .val (.long x0_3), .second, .val (.int x0_4), .val (.int x0_5), .unset, .unset, .unset, .unset, .unset, .unset, .unset, .unset, .unset] [(.int x0_0)])) _
      refine XS.goto X0.here hx rfl (pc0 := 8) (pc' := 12) rfl (hb hby at_8) (by decide) (by decide) ?_
      exact kt
  have sg3 : ∀ t, Steps p.tables e below (s₁.setTop (mkF m 14 #[.val (.int x0_0), .val (.long x0_1), .second, .val (.int x0_2), .val (.long x0_3), .second, .val (.int x0_4), .val (.int x0_5), .val (.int (if (x0_5 &&& (1 : Int32)) = (0 : Int32) then x0_2 else x0_0)), .unset, .unset, .unset, .unset, .unset, .unset, .unset, .unset] [])) t → Steps p.tables e below (s₁.setTop (mkF m 12 #[.val (.int x0_0), .val (.long x0_1), .second, .val (.int x0_2), .val (.long x0_3), .second, .val (.int x0_4), .val (.int x0_5), .unset, .unset, .unset, .unset, .unset, .unset, .unset, .unset, .unset] [(.int (if (x0_5 &&& (1 : Int32)) = (0 : Int32) then x0_2 else x0_0))])) t := fun t kt => by
    show Steps p.tables e below (s₁.setTop (mkF m 12 #[.val (.int x0_0), .val (.long x0_1), .second, .val (.int x0_2), .val (.long x0_3), .second, .val (.int x0_4), .val (.int x0_5), .unset, .unset, .unset, .unset, .unset, .unset, .unset, .unset, .unset] [(.int (if (x0_5 &&& (1 : Int32)) = (0 : Int32) then x0_2 else x0_0))])) _
    refine XS.istore X0.here hx rfl (hb hby at_12) rfl (l' := #[.val (.int x0_0), .val (.long x0_1), .second, .val (.int x0_2), .val (.long x0_3), .second, .val (.int x0_4), .val (.int x0_5), .val (.int (if (x0_5 &&& (1 : Int32)) = (0 : Int32) then x0_2 else x0_0)), .unset, .unset, .unset, .unset, .unset, .unset, .unset, .unset]) rfl ?_
    exact kt
  obtain ⟨v12, hv12⟩ : ∃ z, z = (if (x0_5 &&& (1 : Int32)) = (0 : Int32) then x0_2 else x0_0) := ⟨_, rfl⟩
  rw [← hv12] at sg2 sg3
  have sg4 : ∀ t, Steps p.tables e below (s₁.setTop (mkF m 18 #[.val (.int x0_0), .val (.long x0_1), .second, .val (.int x0_2), .val (.long x0_3), .second, .val (.int x0_4), .val (.int x0_5), .val (.int v12), .unset, .unset, .unset, .unset, .unset, .unset, .unset, .unset] [(.int (x0_5 &&& (2 : Int32)))])) t → Steps p.tables e below (s₁.setTop (mkF m 14 #[.val (.int x0_0), .val (.long x0_1), .second, .val (.int x0_2), .val (.long x0_3), .second, .val (.int x0_4), .val (.int x0_5), .val (.int v12), .unset, .unset, .unset, .unset, .unset, .unset, .unset, .unset] [])) t := fun t kt => by
    show Steps p.tables e below (s₁.setTop (mkF m 14 #[.val (.int x0_0), .val (.long x0_1), .second, .val (.int x0_2), .val (.long x0_3), .second, .val (.int x0_4), .val (.int x0_5), .val (.int v12), .unset, .unset, .unset, .unset, .unset, .unset, .unset, .unset] [])) _
    refine XS.iload X0.here hx rfl (hb hby at_14) rfl ?_
    show Steps p.tables e below (s₁.setTop (mkF m 16 #[.val (.int x0_0), .val (.long x0_1), .second, .val (.int x0_2), .val (.long x0_3), .second, .val (.int x0_4), .val (.int x0_5), .val (.int v12), .unset, .unset, .unset, .unset, .unset, .unset, .unset, .unset] [(.int x0_5)])) _
    refine XS.iconst X0.here hx rfl (hb hby at_16) ?_
    show Steps p.tables e below (s₁.setTop (mkF m 17 #[.val (.int x0_0), .val (.long x0_1), .second, .val (.int x0_2), .val (.long x0_3), .second, .val (.int x0_4), .val (.int x0_5), .val (.int v12), .unset, .unset, .unset, .unset, .unset, .unset, .unset, .unset] [(.int (2 : Int32)), (.int x0_5)])) _
    refine XS.iand X0.here hx rfl (hb hby at_17) rfl ?_
    exact kt
  have sg5 : ∀ t, Steps p.tables e below (s₁.setTop (mkF m 27 #[.val (.int x0_0), .val (.long x0_1), .second, .val (.int x0_2), .val (.long x0_3), .second, .val (.int x0_4), .val (.int x0_5), .val (.int v12), .unset, .unset, .unset, .unset, .unset, .unset, .unset, .unset] [(.long (if (x0_5 &&& (2 : Int32)) = (0 : Int32) then x0_3 else x0_1))])) t → Steps p.tables e below (s₁.setTop (mkF m 18 #[.val (.int x0_0), .val (.long x0_1), .second, .val (.int x0_2), .val (.long x0_3), .second, .val (.int x0_4), .val (.int x0_5), .val (.int v12), .unset, .unset, .unset, .unset, .unset, .unset, .unset, .unset] [(.int (x0_5 &&& (2 : Int32)))])) t := fun t kt => by
    by_cases hm : (x0_5 &&& (2 : Int32)) = (0 : Int32)
    · rw [if_pos hm] at kt
      show Steps p.tables e below (s₁.setTop (mkF m 18 #[.val (.int x0_0), .val (.long x0_1), .second, .val (.int x0_2), .val (.long x0_3), .second, .val (.int x0_4), .val (.int x0_5), .val (.int v12), .unset, .unset, .unset, .unset, .unset, .unset, .unset, .unset] [(.int (x0_5 &&& (2 : Int32)))])) _
      refine XS.ifYes X0.here hx rfl (pc0 := 18) (pc' := 25) rfl (hb hby at_18) rfl ((if0 _ _).trans (teq hm).1) (by decide) (by decide) ?_
      show Steps p.tables e below (s₁.setTop (mkF m 25 #[.val (.int x0_0), .val (.long x0_1), .second, .val (.int x0_2), .val (.long x0_3), .second, .val (.int x0_4), .val (.int x0_5), .val (.int v12), .unset, .unset, .unset, .unset, .unset, .unset, .unset, .unset] [])) _
      refine XS.lload X0.here hx rfl (hb hby at_25) rfl ?_
      exact kt
    · rw [if_neg hm] at kt
      show Steps p.tables e below (s₁.setTop (mkF m 18 #[.val (.int x0_0), .val (.long x0_1), .second, .val (.int x0_2), .val (.long x0_3), .second, .val (.int x0_4), .val (.int x0_5), .val (.int v12), .unset, .unset, .unset, .unset, .unset, .unset, .unset, .unset] [(.int (x0_5 &&& (2 : Int32)))])) _
      refine XS.ifNo X0.here hx rfl (hb hby at_18) rfl ((if0 _ _).trans (feq hm).1) ?_
      show Steps p.tables e below (s₁.setTop (mkF m 21 #[.val (.int x0_0), .val (.long x0_1), .second, .val (.int x0_2), .val (.long x0_3), .second, .val (.int x0_4), .val (.int x0_5), .val (.int v12), .unset, .unset, .unset, .unset, .unset, .unset, .unset, .unset] [])) _
      refine XS.lloadN X0.here hx rfl (hb hby at_21) rfl ?_
      show Steps p.tables e below (s₁.setTop (mkF m 22 #[.val (.int x0_0), .val (.long x0_1), .second, .val (.int x0_2), .val (.long x0_3), .second, .val (.int x0_4), .val (.int x0_5), .val (.int v12), .unset, .unset, .unset, .unset, .unset, .unset, .unset, .unset] [(.long x0_1)])) _
      refine XS.goto X0.here hx rfl (pc0 := 22) (pc' := 27) rfl (hb hby at_22) (by decide) (by decide) ?_
      exact kt
  have sg6 : ∀ t, Steps p.tables e below (s₁.setTop (mkF m 29 #[.val (.int x0_0), .val (.long x0_1), .second, .val (.int x0_2), .val (.long x0_3), .second, .val (.int x0_4), .val (.int x0_5), .val (.int v12), .val (.long (if (x0_5 &&& (2 : Int32)) = (0 : Int32) then x0_3 else x0_1)), .second, .unset, .unset, .unset, .unset, .unset, .unset] [])) t → Steps p.tables e below (s₁.setTop (mkF m 27 #[.val (.int x0_0), .val (.long x0_1), .second, .val (.int x0_2), .val (.long x0_3), .second, .val (.int x0_4), .val (.int x0_5), .val (.int v12), .unset, .unset, .unset, .unset, .unset, .unset, .unset, .unset] [(.long (if (x0_5 &&& (2 : Int32)) = (0 : Int32) then x0_3 else x0_1))])) t := fun t kt => by
    show Steps p.tables e below (s₁.setTop (mkF m 27 #[.val (.int x0_0), .val (.long x0_1), .second, .val (.int x0_2), .val (.long x0_3), .second, .val (.int x0_4), .val (.int x0_5), .val (.int v12), .unset, .unset, .unset, .unset, .unset, .unset, .unset, .unset] [(.long (if (x0_5 &&& (2 : Int32)) = (0 : Int32) then x0_3 else x0_1))])) _
    refine XS.lstore X0.here hx rfl (hb hby at_27) rfl (l' := #[.val (.int x0_0), .val (.long x0_1), .second, .val (.int x0_2), .val (.long x0_3), .second, .val (.int x0_4), .val (.int x0_5), .val (.int v12), .val (.long (if (x0_5 &&& (2 : Int32)) = (0 : Int32) then x0_3 else x0_1)), .second, .unset, .unset, .unset, .unset, .unset, .unset]) rfl ?_
    exact kt
  obtain ⟨v27, hv27⟩ : ∃ z, z = (if (x0_5 &&& (2 : Int32)) = (0 : Int32) then x0_3 else x0_1) := ⟨_, rfl⟩
  rw [← hv27] at sg5 sg6
  have sg8 : ∀ t, Steps p.tables e below (s₁.setTop (mkF m 31 #[.val (.int x0_0), .val (.long x0_1), .second, .val (.int x0_2), .val (.long x0_3), .second, .val (.int x0_4), .val (.int x0_5), .val (.int v12), .val (.long v27), .second, .unset, .unset, .unset, .unset, .unset, .unset] [(.int x0_4)])) t → Steps p.tables e below (s₁.setTop (mkF m 29 #[.val (.int x0_0), .val (.long x0_1), .second, .val (.int x0_2), .val (.long x0_3), .second, .val (.int x0_4), .val (.int x0_5), .val (.int v12), .val (.long v27), .second, .unset, .unset, .unset, .unset, .unset, .unset] [])) t := fun t kt => by
    show Steps p.tables e below (s₁.setTop (mkF m 29 #[.val (.int x0_0), .val (.long x0_1), .second, .val (.int x0_2), .val (.long x0_3), .second, .val (.int x0_4), .val (.int x0_5), .val (.int v12), .val (.long v27), .second, .unset, .unset, .unset, .unset, .unset, .unset] [])) _
    refine XS.iload X0.here hx rfl (hb hby at_29) rfl ?_
    exact kt
  obtain ⟨v7, _, ⟨T7, L7, k7, n7⟩, -, X7, ⟨Lc7, hQ7, l7, y7, z7⟩, st7⟩ := Jvm.LawKit.callS X0 hx (y := (⟨"com/example/libdmutex/libdmutex/core/QueuedEqualsPinLaw", "mode", "(I)Lcom/example/libdmutex/libdmutex/core/Mode;"⟩ : MethodName)) hown (mvT hZ (hw _ (List.mem_of_getElem? (i := 0) rfl))) (mvT hZ (hw _ (List.mem_of_getElem? (i := 1) rfl))) (mvT hZ (hw _ (List.mem_of_getElem? (i := 2) rfl))) (mvT hZ (hw _ (List.mem_of_getElem? (i := 3) rfl))) (by decide) (backOf (W := 0) (rm1 l Z a0 hw [] x0_4 w_IR w_R w_U w_IW w_W h0 n0 Z0 (World.ext O0.2 W)) hZ (hw _ (List.mem_of_getElem? (i := 3) rfl)) (hw _ (List.mem_of_getElem? (i := 2) rfl)) (by decide) (by decide)) (g := (mkF m 31 #[.val (.int x0_0), .val (.long x0_1), .second, .val (.int x0_2), .val (.long x0_3), .second, .val (.int x0_4), .val (.int x0_5), .val (.int v12), .val (.long v27), .second, .unset, .unset, .unset, .unset, .unset, .unset] [(.int x0_4)])) rfl (by rw [hml]; rfl) (argsL := [(.int x0_4)]) (rest := []) (lenOf pd_3 rfl) rfl (by show 2 * 0 + _ ≤ _; exact Nat.le_of_eq rfl) (hb hby at_31) (fun _ _ => ⟨rfl, e0, (by decide : 0 + 0 ≤ _), (by decide : 0 + 0 ≤ _)⟩)
  dsimp only [Pt.U, Pt.locs, Pt.cells, Pt.slots] at X7 l7 y7 z7 st7 hQ7
  subst l7 y7 z7
  obtain ⟨hv7, N7q, e7⟩ := hQ7
  have N7 := Fr.app N0 N7q
  subst hv7
  have sg9 : ∀ t, Steps p.tables e below (T7.setTop (mkF m 40 #[.val (.int x0_0), .val (.long x0_1), .second, .val (.int x0_2), .val (.long x0_3), .second, .val (.int x0_4), .val (.int x0_5), .val (.int v12), .val (.long v27), .second, .val (.ref (f1 x0_4 w_IR w_R w_U w_IW w_W)), .unset, .unset, .unset, .unset, .unset] [(.int (x0_5 &&& (4 : Int32)))])) t → Steps p.tables e below (s₁.setTop (mkF m 31 #[.val (.int x0_0), .val (.long x0_1), .second, .val (.int x0_2), .val (.long x0_3), .second, .val (.int x0_4), .val (.int x0_5), .val (.int v12), .val (.long v27), .second, .unset, .unset, .unset, .unset, .unset, .unset] [(.int x0_4)])) t := fun t kt => by
    show Steps p.tables e below (s₁.setTop (mkF m 31 #[.val (.int x0_0), .val (.long x0_1), .second, .val (.int x0_2), .val (.long x0_3), .second, .val (.int x0_4), .val (.int x0_5), .val (.int v12), .val (.long v27), .second, .unset, .unset, .unset, .unset, .unset, .unset] [(.int x0_4)])) _
    refine st7 _ ?_
    show Steps p.tables e below (T7.setTop (mkF m 34 #[.val (.int x0_0), .val (.long x0_1), .second, .val (.int x0_2), .val (.long x0_3), .second, .val (.int x0_4), .val (.int x0_5), .val (.int v12), .val (.long v27), .second, .unset, .unset, .unset, .unset, .unset, .unset] [(.ref (f1 x0_4 w_IR w_R w_U w_IW w_W))])) _
    refine XS.astore X7.here hx rfl (hb hby at_34) rfl rfl (l' := #[.val (.int x0_0), .val (.long x0_1), .second, .val (.int x0_2), .val (.long x0_3), .second, .val (.int x0_4), .val (.int x0_5), .val (.int v12), .val (.long v27), .second, .val (.ref (f1 x0_4 w_IR w_R w_U w_IW w_W)), .unset, .unset, .unset, .unset, .unset]) rfl ?_
    show Steps p.tables e below (T7.setTop (mkF m 36 #[.val (.int x0_0), .val (.long x0_1), .second, .val (.int x0_2), .val (.long x0_3), .second, .val (.int x0_4), .val (.int x0_5), .val (.int v12), .val (.long v27), .second, .val (.ref (f1 x0_4 w_IR w_R w_U w_IW w_W)), .unset, .unset, .unset, .unset, .unset] [])) _
    refine XS.iload X7.here hx rfl (hb hby at_36) rfl ?_
    show Steps p.tables e below (T7.setTop (mkF m 38 #[.val (.int x0_0), .val (.long x0_1), .second, .val (.int x0_2), .val (.long x0_3), .second, .val (.int x0_4), .val (.int x0_5), .val (.int v12), .val (.long v27), .second, .val (.ref (f1 x0_4 w_IR w_R w_U w_IW w_W)), .unset, .unset, .unset, .unset, .unset] [(.int x0_5)])) _
    refine XS.iconst X7.here hx rfl (hb hby at_38) ?_
    show Steps p.tables e below (T7.setTop (mkF m 39 #[.val (.int x0_0), .val (.long x0_1), .second, .val (.int x0_2), .val (.long x0_3), .second, .val (.int x0_4), .val (.int x0_5), .val (.int v12), .val (.long v27), .second, .val (.ref (f1 x0_4 w_IR w_R w_U w_IW w_W)), .unset, .unset, .unset, .unset, .unset] [(.int (4 : Int32)), (.int x0_5)])) _
    refine XS.iand X7.here hx rfl (hb hby at_39) rfl ?_
    exact kt
  by_cases hc40_10 : (x0_5 &&& (4 : Int32)) = (0 : Int32)
  · have sg12 : ∀ t, Steps p.tables e below (T7.setTop (mkF m 53 #[.val (.int x0_0), .val (.long x0_1), .second, .val (.int x0_2), .val (.long x0_3), .second, .val (.int x0_4), .val (.int x0_5), .val (.int v12), .val (.long v27), .second, .val (.ref (f1 x0_4 w_IR w_R w_U w_IW w_W)), .unset, .unset, .unset, .unset, .unset] [(.int ((x0_4.toUInt32 >>> ((8 : Int32) &&& 31).toUInt32).toInt32))])) t → Steps p.tables e below (T7.setTop (mkF m 40 #[.val (.int x0_0), .val (.long x0_1), .second, .val (.int x0_2), .val (.long x0_3), .second, .val (.int x0_4), .val (.int x0_5), .val (.int v12), .val (.long v27), .second, .val (.ref (f1 x0_4 w_IR w_R w_U w_IW w_W)), .unset, .unset, .unset, .unset, .unset] [(.int (x0_5 &&& (4 : Int32)))])) t := fun t kt => by
      show Steps p.tables e below (T7.setTop (mkF m 40 #[.val (.int x0_0), .val (.long x0_1), .second, .val (.int x0_2), .val (.long x0_3), .second, .val (.int x0_4), .val (.int x0_5), .val (.int v12), .val (.long v27), .second, .val (.ref (f1 x0_4 w_IR w_R w_U w_IW w_W)), .unset, .unset, .unset, .unset, .unset] [(.int (x0_5 &&& (4 : Int32)))])) _
      refine XS.ifYes X7.here hx rfl (pc0 := 40) (pc' := 48) rfl (hb hby at_40) rfl ((if0 _ _).trans (teq hc40_10).1) (by decide) (by decide) ?_
      show Steps p.tables e below (T7.setTop (mkF m 48 #[.val (.int x0_0), .val (.long x0_1), .second, .val (.int x0_2), .val (.long x0_3), .second, .val (.int x0_4), .val (.int x0_5), .val (.int v12), .val (.long v27), .second, .val (.ref (f1 x0_4 w_IR w_R w_U w_IW w_W)), .unset, .unset, .unset, .unset, .unset] [])) _
      refine XS.iload X7.here hx rfl (hb hby at_48) rfl ?_
      show Steps p.tables e below (T7.setTop (mkF m 50 #[.val (.int x0_0), .val (.long x0_1), .second, .val (.int x0_2), .val (.long x0_3), .second, .val (.int x0_4), .val (.int x0_5), .val (.int v12), .val (.long v27), .second, .val (.ref (f1 x0_4 w_IR w_R w_U w_IW w_W)), .unset, .unset, .unset, .unset, .unset] [(.int x0_4)])) _
      refine XS.bipush X7.here hx rfl (hb hby at_50) ?_
      show Steps p.tables e below (T7.setTop (mkF m 52 #[.val (.int x0_0), .val (.long x0_1), .second, .val (.int x0_2), .val (.long x0_3), .second, .val (.int x0_4), .val (.int x0_5), .val (.int v12), .val (.long v27), .second, .val (.ref (f1 x0_4 w_IR w_R w_U w_IW w_W)), .unset, .unset, .unset, .unset, .unset] [(.int (8 : Int32)), (.int x0_4)])) _
      refine XS.iushr X7.here hx rfl (hb hby at_52) rfl ?_
      exact kt
    obtain ⟨v11, _, ⟨T11, L11, k11, n11⟩, -, X11, ⟨Lc11, hQ11, l11, y11, z11⟩, st11⟩ := Jvm.LawKit.callS X7 hx (y := (⟨"com/example/libdmutex/libdmutex/core/QueuedEqualsPinLaw", "mode", "(I)Lcom/example/libdmutex/libdmutex/core/Mode;"⟩ : MethodName)) hown (mvT hZ (hw _ (List.mem_of_getElem? (i := 0) rfl))) (mvT hZ (hw _ (List.mem_of_getElem? (i := 1) rfl))) (mvT hZ (hw _ (List.mem_of_getElem? (i := 2) rfl))) (mvT hZ (hw _ (List.mem_of_getElem? (i := 3) rfl))) (by decide) (backOf (W := 0) (rm1 l Z a0 hw [] ((x0_4.toUInt32 >>> ((8 : Int32) &&& 31).toUInt32).toInt32) w_IR w_R w_U w_IW w_W h0 n0 Z0 (World.ext O0.2 W)) hZ (hw _ (List.mem_of_getElem? (i := 3) rfl)) (hw _ (List.mem_of_getElem? (i := 2) rfl)) (by decide) (by decide)) (g := (mkF m 53 #[.val (.int x0_0), .val (.long x0_1), .second, .val (.int x0_2), .val (.long x0_3), .second, .val (.int x0_4), .val (.int x0_5), .val (.int v12), .val (.long v27), .second, .val (.ref (f1 x0_4 w_IR w_R w_U w_IW w_W)), .unset, .unset, .unset, .unset, .unset] [(.int ((x0_4.toUInt32 >>> ((8 : Int32) &&& 31).toUInt32).toInt32))])) rfl (by rw [hml]; rfl) (argsL := [(.int ((x0_4.toUInt32 >>> ((8 : Int32) &&& 31).toUInt32).toInt32))]) (rest := []) (lenOf pd_3 rfl) rfl (by show 2 * 0 + _ ≤ _; exact Nat.le_of_eq rfl) (hb hby at_53) (fun _ _ => ⟨rfl, e7, (by decide : 0 + 0 ≤ _), (by decide : 0 + 0 ≤ _)⟩)
    dsimp only [Pt.U, Pt.locs, Pt.cells, Pt.slots] at X11 l11 y11 z11 st11 hQ11
    subst l11 y11 z11
    obtain ⟨hv11, N11q, e11⟩ := hQ11
    have N11 := Fr.app N7 N11q
    subst hv11
    obtain ⟨T13, h13, X13, e13, E13, A13, D13, -, st13⟩ := newO X11 hx hZ hown (hw _ (List.mem_of_getElem? (i := 10) rfl)) (hw _ (List.mem_of_getElem? (i := 11) rfl)) (hw _ (List.mem_of_getElem? (i := 12) rfl)) e11 (g := (mkF m 58 #[.val (.int x0_0), .val (.long x0_1), .second, .val (.int x0_2), .val (.long x0_3), .second, .val (.int x0_4), .val (.int x0_5), .val (.int v12), .val (.long v27), .second, .val (.ref (f1 x0_4 w_IR w_R w_U w_IW w_W)), .val (.ref (f1 ((x0_4.toUInt32 >>> ((8 : Int32) &&& 31).toUInt32).toInt32) w_IR w_R w_U w_IW w_W)), .unset, .unset, .unset, .unset] [])) rfl (hb hby at_58) (by decide) (by decide)
    obtain ⟨b13, g13⟩ : ∃ z, z = h0.size := ⟨_, rfl⟩
    rw [← g13] at A13 D13 st13
    have g_b13 : n0 ≤ b13 := Nat.le_trans Z0 (Nat.le_of_eq g13.symm)
    have Zs13 : n0 ≤ h13.size := Nat.le_trans Z0 E13.1
    have hk13 := Nat.le_trans hk0 E13.1
    have Ol13 : Old Z n0 h13 := (O0).ext E13
    have F_peer_b13 : Fld Z h13 b13 "com/example/libdmutex/libdmutex/core/TokenTree$Token$Queued" "peer" "I" (.int (0 : Int32)) := D13 (Or.inr (hw _ (List.mem_of_getElem? (i := 20) rfl))) (ty := .int) (by decide)
    have F_ticket_b13 : Fld Z h13 b13 "com/example/libdmutex/libdmutex/core/TokenTree$Token$Queued" "ticket" "J" (.long (0 : Int64)) := D13 (Or.inr (hw _ (List.mem_of_getElem? (i := 22) rfl))) (ty := .long) (by decide)
    have F_mode_b13 : Fld Z h13 b13 "com/example/libdmutex/libdmutex/core/TokenTree$Token$Queued" "mode" "Lcom/example/libdmutex/libdmutex/core/Mode;" .null := D13 (Or.inr (hw _ (List.mem_of_getElem? (i := 38) rfl))) (ty := (.object "com/example/libdmutex/libdmutex/core/Mode")) (by decide)
    have sg15 : ∀ t, Steps p.tables e below (T13.setTop (mkF m 66 #[.val (.int x0_0), .val (.long x0_1), .second, .val (.int x0_2), .val (.long x0_3), .second, .val (.int x0_4), .val (.int x0_5), .val (.int v12), .val (.long v27), .second, .val (.ref (f1 x0_4 w_IR w_R w_U w_IW w_W)), .val (.ref (f1 ((x0_4.toUInt32 >>> ((8 : Int32) &&& 31).toUInt32).toInt32) w_IR w_R w_U w_IW w_W)), .unset, .unset, .unset, .unset] [(.ref (f1 x0_4 w_IR w_R w_U w_IW w_W)), (.long x0_1), (.int x0_0), (.ref b13), (.ref b13)])) t → Steps p.tables e below (T7.setTop (mkF m 53 #[.val (.int x0_0), .val (.long x0_1), .second, .val (.int x0_2), .val (.long x0_3), .second, .val (.int x0_4), .val (.int x0_5), .val (.int v12), .val (.long v27), .second, .val (.ref (f1 x0_4 w_IR w_R w_U w_IW w_W)), .unset, .unset, .unset, .unset, .unset] [(.int ((x0_4.toUInt32 >>> ((8 : Int32) &&& 31).toUInt32).toInt32))])) t := fun t kt => by
      show Steps p.tables e below (T7.setTop (mkF m 53 #[.val (.int x0_0), .val (.long x0_1), .second, .val (.int x0_2), .val (.long x0_3), .second, .val (.int x0_4), .val (.int x0_5), .val (.int v12), .val (.long v27), .second, .val (.ref (f1 x0_4 w_IR w_R w_U w_IW w_W)), .unset, .unset, .unset, .unset, .unset] [(.int ((x0_4.toUInt32 >>> ((8 : Int32) &&& 31).toUInt32).toInt32))])) _
      refine st11 _ ?_
      show Steps p.tables e below (T11.setTop (mkF m 56 #[.val (.int x0_0), .val (.long x0_1), .second, .val (.int x0_2), .val (.long x0_3), .second, .val (.int x0_4), .val (.int x0_5), .val (.int v12), .val (.long v27), .second, .val (.ref (f1 x0_4 w_IR w_R w_U w_IW w_W)), .unset, .unset, .unset, .unset, .unset] [(.ref (f1 ((x0_4.toUInt32 >>> ((8 : Int32) &&& 31).toUInt32).toInt32) w_IR w_R w_U w_IW w_W))])) _
      refine XS.astore X11.here hx rfl (hb hby at_56) rfl rfl (l' := #[.val (.int x0_0), .val (.long x0_1), .second, .val (.int x0_2), .val (.long x0_3), .second, .val (.int x0_4), .val (.int x0_5), .val (.int v12), .val (.long v27), .second, .val (.ref (f1 x0_4 w_IR w_R w_U w_IW w_W)), .val (.ref (f1 ((x0_4.toUInt32 >>> ((8 : Int32) &&& 31).toUInt32).toInt32) w_IR w_R w_U w_IW w_W)), .unset, .unset, .unset, .unset]) rfl ?_
      show Steps p.tables e below (T11.setTop (mkF m 58 #[.val (.int x0_0), .val (.long x0_1), .second, .val (.int x0_2), .val (.long x0_3), .second, .val (.int x0_4), .val (.int x0_5), .val (.int v12), .val (.long v27), .second, .val (.ref (f1 x0_4 w_IR w_R w_U w_IW w_W)), .val (.ref (f1 ((x0_4.toUInt32 >>> ((8 : Int32) &&& 31).toUInt32).toInt32) w_IR w_R w_U w_IW w_W)), .unset, .unset, .unset, .unset] [])) _
      refine st13 _ ?_
      show Steps p.tables e below (T13.setTop (mkF m 61 #[.val (.int x0_0), .val (.long x0_1), .second, .val (.int x0_2), .val (.long x0_3), .second, .val (.int x0_4), .val (.int x0_5), .val (.int v12), .val (.long v27), .second, .val (.ref (f1 x0_4 w_IR w_R w_U w_IW w_W)), .val (.ref (f1 ((x0_4.toUInt32 >>> ((8 : Int32) &&& 31).toUInt32).toInt32) w_IR w_R w_U w_IW w_W)), .unset, .unset, .unset, .unset] [(.ref b13)])) _
      refine XS.dup X13.here hx rfl (hb hby at_61) rfl rfl ?_
      show Steps p.tables e below (T13.setTop (mkF m 62 #[.val (.int x0_0), .val (.long x0_1), .second, .val (.int x0_2), .val (.long x0_3), .second, .val (.int x0_4), .val (.int x0_5), .val (.int v12), .val (.long v27), .second, .val (.ref (f1 x0_4 w_IR w_R w_U w_IW w_W)), .val (.ref (f1 ((x0_4.toUInt32 >>> ((8 : Int32) &&& 31).toUInt32).toInt32) w_IR w_R w_U w_IW w_W)), .unset, .unset, .unset, .unset] [(.ref b13), (.ref b13)])) _
      refine XS.iloadN X13.here hx rfl (hb hby at_62) rfl ?_
      show Steps p.tables e below (T13.setTop (mkF m 63 #[.val (.int x0_0), .val (.long x0_1), .second, .val (.int x0_2), .val (.long x0_3), .second, .val (.int x0_4), .val (.int x0_5), .val (.int v12), .val (.long v27), .second, .val (.ref (f1 x0_4 w_IR w_R w_U w_IW w_W)), .val (.ref (f1 ((x0_4.toUInt32 >>> ((8 : Int32) &&& 31).toUInt32).toInt32) w_IR w_R w_U w_IW w_W)), .unset, .unset, .unset, .unset] [(.int x0_0), (.ref b13), (.ref b13)])) _
      refine XS.lloadN X13.here hx rfl (hb hby at_63) rfl ?_
      show Steps p.tables e below (T13.setTop (mkF m 64 #[.val (.int x0_0), .val (.long x0_1), .second, .val (.int x0_2), .val (.long x0_3), .second, .val (.int x0_4), .val (.int x0_5), .val (.int v12), .val (.long v27), .second, .val (.ref (f1 x0_4 w_IR w_R w_U w_IW w_W)), .val (.ref (f1 ((x0_4.toUInt32 >>> ((8 : Int32) &&& 31).toUInt32).toInt32) w_IR w_R w_U w_IW w_W)), .unset, .unset, .unset, .unset] [(.long x0_1), (.int x0_0), (.ref b13), (.ref b13)])) _
      refine XS.aload X13.here hx rfl (hb hby at_64) rfl rfl ?_
      exact kt
    obtain ⟨v14, _, ⟨T14, L14, k14, n14⟩, -, X14, hSq14, hgq14, ⟨Lc14, hQ14, l14, y14, z14⟩, st14⟩ := X13.specialBackS hx (y := (⟨"com/example/libdmutex/libdmutex/core/TokenTree$Token$Queued", "<init>", "(IJLcom/example/libdmutex/libdmutex/core/Mode;)V"⟩ : MethodName)) rfl hown (mvT hZ (hw _ (List.mem_of_getElem? (i := 13) rfl))) (mvT hZ (hw _ (List.mem_of_getElem? (i := 14) rfl))) (mvT hZ (hw _ (List.mem_of_getElem? (i := 15) rfl))) (by decide) (backOfS (W := 1) (rm2 l Z a0 hw [] b13 x0_0 x0_1 (f1 x0_4 w_IR w_R w_U w_IW w_W) h13 n0 Zs13 A13 g_b13 F_peer_b13 F_ticket_b13 F_mode_b13 (own_exa _ w_IR w_R w_U w_IW w_W (World.ext Ol13.2 W))) hZ (hw _ (List.mem_of_getElem? (i := 15) rfl)) (hw _ (List.mem_of_getElem? (i := 12) rfl)) (by decide) (by decide)) (g := (mkF m 66 #[.val (.int x0_0), .val (.long x0_1), .second, .val (.int x0_2), .val (.long x0_3), .second, .val (.int x0_4), .val (.int x0_5), .val (.int v12), .val (.long v27), .second, .val (.ref (f1 x0_4 w_IR w_R w_U w_IW w_W)), .val (.ref (f1 ((x0_4.toUInt32 >>> ((8 : Int32) &&& 31).toUInt32).toInt32) w_IR w_R w_U w_IW w_W)), .unset, .unset, .unset, .unset] [(.ref (f1 x0_4 w_IR w_R w_U w_IW w_W)), (.long x0_1), (.int x0_0), (.ref b13), (.ref b13)])) rfl (by rw [hml]; rfl) (Steps.refl _) (a := b13) (argsL := [(.int x0_0), (.long x0_1), (.ref (f1 x0_4 w_IR w_R w_U w_IW w_W))]) (rest := [(.ref b13)]) (lenOf pd_4 rfl) rfl (by show 2 * 0 + _ ≤ _; exact Nat.le_of_eq rfl) (hb hby at_66) (fun _ _ => ⟨rfl, e13, (by decide : 1 + 2 ≤ _), (by decide : 3 + 20 ≤ _)⟩)
    dsimp only [Pt.U, Pt.locs, Pt.cells, Pt.slots] at X14 l14 y14 z14 st14 hQ14 hSq14 hgq14
    subst l14 y14 z14
    obtain ⟨Xr14, hS14, hZ, hown⟩ := rebS (s := s) (vm0 := s.vm) hS0 (by rw [e13]; exact hk13) X14 hSq14 hgq14 hZ hown
    have hk14 : T14.heap.size ≤ T14.heap.size := Nat.le_refl _
    obtain ⟨rfl, N14q, K14, Ex14, Fq14_peer, Fq14_ticket, Fq14_mode⟩ := hQ14
    have N14 := Fr.app N11 N14q
    have Zs14 : n0 ≤ T14.heap.size := Nat.le_trans Zs13 K14.1
    have Ol14 : Old Z n0 T14.heap := (Ol13).keep K14 (allS g_b13 all0)
    obtain ⟨T16, h16, X16, e16, E16, A16, D16, -, st16⟩ := newO Xr14 hx hZ hown (hw _ (List.mem_of_getElem? (i := 10) rfl)) (hw _ (List.mem_of_getElem? (i := 11) rfl)) (hw _ (List.mem_of_getElem? (i := 12) rfl)) rfl (g := (mkF m 71 #[.val (.int x0_0), .val (.long x0_1), .second, .val (.int x0_2), .val (.long x0_3), .second, .val (.int x0_4), .val (.int x0_5), .val (.int v12), .val (.long v27), .second, .val (.ref (f1 x0_4 w_IR w_R w_U w_IW w_W)), .val (.ref (f1 ((x0_4.toUInt32 >>> ((8 : Int32) &&& 31).toUInt32).toInt32) w_IR w_R w_U w_IW w_W)), .val (.ref b13), .unset, .unset, .unset] [])) rfl (hb hby at_71) (by decide) (by decide)
    obtain ⟨b16, g16⟩ : ∃ z, z = T14.heap.size := ⟨_, rfl⟩
    rw [← g16] at A16 D16 st16
    have g_b16 : n0 ≤ b16 := Nat.le_trans Zs14 (Nat.le_of_eq g16.symm)
    have ne_b13_b16 : b13 ≠ b16 := Nat.ne_of_lt (Nat.lt_of_lt_of_le Ex14.lt (Nat.le_of_eq g16.symm))
    have Zs16 : n0 ≤ h16.size := Nat.le_trans Zs14 E16.1
    have hk16 := Nat.le_trans hk14 E16.1
    have Ol16 : Old Z n0 h16 := (Ol14).ext E16
    have F_peer_b16 : Fld Z h16 b16 "com/example/libdmutex/libdmutex/core/TokenTree$Token$Queued" "peer" "I" (.int (0 : Int32)) := D16 (Or.inr (hw _ (List.mem_of_getElem? (i := 20) rfl))) (ty := .int) (by decide)
    have F_ticket_b16 : Fld Z h16 b16 "com/example/libdmutex/libdmutex/core/TokenTree$Token$Queued" "ticket" "J" (.long (0 : Int64)) := D16 (Or.inr (hw _ (List.mem_of_getElem? (i := 22) rfl))) (ty := .long) (by decide)
    have F_mode_b16 : Fld Z h16 b16 "com/example/libdmutex/libdmutex/core/TokenTree$Token$Queued" "mode" "Lcom/example/libdmutex/libdmutex/core/Mode;" .null := D16 (Or.inr (hw _ (List.mem_of_getElem? (i := 38) rfl))) (ty := (.object "com/example/libdmutex/libdmutex/core/Mode")) (by decide)
    have sg18 : ∀ t, Steps p.tables e below (T16.setTop (mkF m 81 #[.val (.int x0_0), .val (.long x0_1), .second, .val (.int x0_2), .val (.long x0_3), .second, .val (.int x0_4), .val (.int x0_5), .val (.int v12), .val (.long v27), .second, .val (.ref (f1 x0_4 w_IR w_R w_U w_IW w_W)), .val (.ref (f1 ((x0_4.toUInt32 >>> ((8 : Int32) &&& 31).toUInt32).toInt32) w_IR w_R w_U w_IW w_W)), .val (.ref b13), .unset, .unset, .unset] [(.ref (f1 ((x0_4.toUInt32 >>> ((8 : Int32) &&& 31).toUInt32).toInt32) w_IR w_R w_U w_IW w_W)), (.long v27), (.int v12), (.ref b16), (.ref b16)])) t → Steps p.tables e below (T13.setTop (mkF m 66 #[.val (.int x0_0), .val (.long x0_1), .second, .val (.int x0_2), .val (.long x0_3), .second, .val (.int x0_4), .val (.int x0_5), .val (.int v12), .val (.long v27), .second, .val (.ref (f1 x0_4 w_IR w_R w_U w_IW w_W)), .val (.ref (f1 ((x0_4.toUInt32 >>> ((8 : Int32) &&& 31).toUInt32).toInt32) w_IR w_R w_U w_IW w_W)), .unset, .unset, .unset, .unset] [(.ref (f1 x0_4 w_IR w_R w_U w_IW w_W)), (.long x0_1), (.int x0_0), (.ref b13), (.ref b13)])) t := fun t kt => by
      show Steps p.tables e below (T13.setTop (mkF m 66 #[.val (.int x0_0), .val (.long x0_1), .second, .val (.int x0_2), .val (.long x0_3), .second, .val (.int x0_4), .val (.int x0_5), .val (.int v12), .val (.long v27), .second, .val (.ref (f1 x0_4 w_IR w_R w_U w_IW w_W)), .val (.ref (f1 ((x0_4.toUInt32 >>> ((8 : Int32) &&& 31).toUInt32).toInt32) w_IR w_R w_U w_IW w_W)), .unset, .unset, .unset, .unset] [(.ref (f1 x0_4 w_IR w_R w_U w_IW w_W)), (.long x0_1), (.int x0_0), (.ref b13), (.ref b13)])) _
      refine st14.trans ?_
      show Steps p.tables e below (T14.setTop (mkF m 69 #[.val (.int x0_0), .val (.long x0_1), .second, .val (.int x0_2), .val (.long x0_3), .second, .val (.int x0_4), .val (.int x0_5), .val (.int v12), .val (.long v27), .second, .val (.ref (f1 x0_4 w_IR w_R w_U w_IW w_W)), .val (.ref (f1 ((x0_4.toUInt32 >>> ((8 : Int32) &&& 31).toUInt32).toInt32) w_IR w_R w_U w_IW w_W)), .unset, .unset, .unset, .unset] [(.ref b13)])) _
      refine XS.astore Xr14.here hx rfl (hb hby at_69) rfl rfl (l' := #[.val (.int x0_0), .val (.long x0_1), .second, .val (.int x0_2), .val (.long x0_3), .second, .val (.int x0_4), .val (.int x0_5), .val (.int v12), .val (.long v27), .second, .val (.ref (f1 x0_4 w_IR w_R w_U w_IW w_W)), .val (.ref (f1 ((x0_4.toUInt32 >>> ((8 : Int32) &&& 31).toUInt32).toInt32) w_IR w_R w_U w_IW w_W)), .val (.ref b13), .unset, .unset, .unset]) rfl ?_
      show Steps p.tables e below (T14.setTop (mkF m 71 #[.val (.int x0_0), .val (.long x0_1), .second, .val (.int x0_2), .val (.long x0_3), .second, .val (.int x0_4), .val (.int x0_5), .val (.int v12), .val (.long v27), .second, .val (.ref (f1 x0_4 w_IR w_R w_U w_IW w_W)), .val (.ref (f1 ((x0_4.toUInt32 >>> ((8 : Int32) &&& 31).toUInt32).toInt32) w_IR w_R w_U w_IW w_W)), .val (.ref b13), .unset, .unset, .unset] [])) _
      refine st16 _ ?_
      show Steps p.tables e below (T16.setTop (mkF m 74 #[.val (.int x0_0), .val (.long x0_1), .second, .val (.int x0_2), .val (.long x0_3), .second, .val (.int x0_4), .val (.int x0_5), .val (.int v12), .val (.long v27), .second, .val (.ref (f1 x0_4 w_IR w_R w_U w_IW w_W)), .val (.ref (f1 ((x0_4.toUInt32 >>> ((8 : Int32) &&& 31).toUInt32).toInt32) w_IR w_R w_U w_IW w_W)), .val (.ref b13), .unset, .unset, .unset] [(.ref b16)])) _
      refine XS.dup X16.here hx rfl (hb hby at_74) rfl rfl ?_
      show Steps p.tables e below (T16.setTop (mkF m 75 #[.val (.int x0_0), .val (.long x0_1), .second, .val (.int x0_2), .val (.long x0_3), .second, .val (.int x0_4), .val (.int x0_5), .val (.int v12), .val (.long v27), .second, .val (.ref (f1 x0_4 w_IR w_R w_U w_IW w_W)), .val (.ref (f1 ((x0_4.toUInt32 >>> ((8 : Int32) &&& 31).toUInt32).toInt32) w_IR w_R w_U w_IW w_W)), .val (.ref b13), .unset, .unset, .unset] [(.ref b16), (.ref b16)])) _
      refine XS.iload X16.here hx rfl (hb hby at_75) rfl ?_
      show Steps p.tables e below (T16.setTop (mkF m 77 #[.val (.int x0_0), .val (.long x0_1), .second, .val (.int x0_2), .val (.long x0_3), .second, .val (.int x0_4), .val (.int x0_5), .val (.int v12), .val (.long v27), .second, .val (.ref (f1 x0_4 w_IR w_R w_U w_IW w_W)), .val (.ref (f1 ((x0_4.toUInt32 >>> ((8 : Int32) &&& 31).toUInt32).toInt32) w_IR w_R w_U w_IW w_W)), .val (.ref b13), .unset, .unset, .unset] [(.int v12), (.ref b16), (.ref b16)])) _
      refine XS.lload X16.here hx rfl (hb hby at_77) rfl ?_
      show Steps p.tables e below (T16.setTop (mkF m 79 #[.val (.int x0_0), .val (.long x0_1), .second, .val (.int x0_2), .val (.long x0_3), .second, .val (.int x0_4), .val (.int x0_5), .val (.int v12), .val (.long v27), .second, .val (.ref (f1 x0_4 w_IR w_R w_U w_IW w_W)), .val (.ref (f1 ((x0_4.toUInt32 >>> ((8 : Int32) &&& 31).toUInt32).toInt32) w_IR w_R w_U w_IW w_W)), .val (.ref b13), .unset, .unset, .unset] [(.long v27), (.int v12), (.ref b16), (.ref b16)])) _
      refine XS.aload X16.here hx rfl (hb hby at_79) rfl rfl ?_
      exact kt
    obtain ⟨v17, _, ⟨T17, L17, k17, n17⟩, -, X17, hSq17, hgq17, ⟨Lc17, hQ17, l17, y17, z17⟩, st17⟩ := X16.specialBackS hx (y := (⟨"com/example/libdmutex/libdmutex/core/TokenTree$Token$Queued", "<init>", "(IJLcom/example/libdmutex/libdmutex/core/Mode;)V"⟩ : MethodName)) rfl hown (mvT hZ (hw _ (List.mem_of_getElem? (i := 13) rfl))) (mvT hZ (hw _ (List.mem_of_getElem? (i := 14) rfl))) (mvT hZ (hw _ (List.mem_of_getElem? (i := 15) rfl))) (by decide) (backOfS (W := 1) (rm2 l Z a0 hw [] b16 v12 v27 (f1 ((x0_4.toUInt32 >>> ((8 : Int32) &&& 31).toUInt32).toInt32) w_IR w_R w_U w_IW w_W) h16 n0 Zs16 A16 g_b16 F_peer_b16 F_ticket_b16 F_mode_b16 (own_exa _ w_IR w_R w_U w_IW w_W (World.ext Ol16.2 W))) hZ (hw _ (List.mem_of_getElem? (i := 15) rfl)) (hw _ (List.mem_of_getElem? (i := 12) rfl)) (by decide) (by decide)) (g := (mkF m 81 #[.val (.int x0_0), .val (.long x0_1), .second, .val (.int x0_2), .val (.long x0_3), .second, .val (.int x0_4), .val (.int x0_5), .val (.int v12), .val (.long v27), .second, .val (.ref (f1 x0_4 w_IR w_R w_U w_IW w_W)), .val (.ref (f1 ((x0_4.toUInt32 >>> ((8 : Int32) &&& 31).toUInt32).toInt32) w_IR w_R w_U w_IW w_W)), .val (.ref b13), .unset, .unset, .unset] [(.ref (f1 ((x0_4.toUInt32 >>> ((8 : Int32) &&& 31).toUInt32).toInt32) w_IR w_R w_U w_IW w_W)), (.long v27), (.int v12), (.ref b16), (.ref b16)])) rfl (by rw [hml]; rfl) (Steps.refl _) (a := b16) (argsL := [(.int v12), (.long v27), (.ref (f1 ((x0_4.toUInt32 >>> ((8 : Int32) &&& 31).toUInt32).toInt32) w_IR w_R w_U w_IW w_W))]) (rest := [(.ref b16)]) (lenOf pd_4 rfl) rfl (by show 2 * 0 + _ ≤ _; exact Nat.le_of_eq rfl) (hb hby at_81) (fun _ _ => ⟨rfl, e16, (by decide : 4 + 2 ≤ _), (by decide : 26 + 20 ≤ _)⟩)
    dsimp only [Pt.U, Pt.locs, Pt.cells, Pt.slots] at X17 l17 y17 z17 st17 hQ17 hSq17 hgq17
    subst l17 y17 z17
    obtain ⟨Xr17, hS17, hZ, hown⟩ := rebS (s := s) (vm0 := T14.vm) hS14 (by rw [e16]; exact hk16) X17 hSq17 hgq17 hZ hown
    have hk17 : T17.heap.size ≤ T17.heap.size := Nat.le_refl _
    obtain ⟨rfl, N17q, K17, Ex17, Fq17_peer, Fq17_ticket, Fq17_mode⟩ := hQ17
    have N17 := Fr.app N14 N17q
    have Zs17 : n0 ≤ T17.heap.size := Nat.le_trans Zs16 K17.1
    have Ol17 : Old Z n0 T17.heap := (Ol16).keep K17 (allS g_b16 all0)
    have sg19 : ∀ t, Steps p.tables e below (T17.setTop (mkF m 89 #[.val (.int x0_0), .val (.long x0_1), .second, .val (.int x0_2), .val (.long x0_3), .second, .val (.int x0_4), .val (.int x0_5), .val (.int v12), .val (.long v27), .second, .val (.ref (f1 x0_4 w_IR w_R w_U w_IW w_W)), .val (.ref (f1 ((x0_4.toUInt32 >>> ((8 : Int32) &&& 31).toUInt32).toInt32) w_IR w_R w_U w_IW w_W)), .val (.ref b13), .val (.ref b16), .unset, .unset] [(.int v12), (.int x0_0)])) t → Steps p.tables e below (T16.setTop (mkF m 81 #[.val (.int x0_0), .val (.long x0_1), .second, .val (.int x0_2), .val (.long x0_3), .second, .val (.int x0_4), .val (.int x0_5), .val (.int v12), .val (.long v27), .second, .val (.ref (f1 x0_4 w_IR w_R w_U w_IW w_W)), .val (.ref (f1 ((x0_4.toUInt32 >>> ((8 : Int32) &&& 31).toUInt32).toInt32) w_IR w_R w_U w_IW w_W)), .val (.ref b13), .unset, .unset, .unset] [(.ref (f1 ((x0_4.toUInt32 >>> ((8 : Int32) &&& 31).toUInt32).toInt32) w_IR w_R w_U w_IW w_W)), (.long v27), (.int v12), (.ref b16), (.ref b16)])) t := fun t kt => by
      show Steps p.tables e below (T16.setTop (mkF m 81 #[.val (.int x0_0), .val (.long x0_1), .second, .val (.int x0_2), .val (.long x0_3), .second, .val (.int x0_4), .val (.int x0_5), .val (.int v12), .val (.long v27), .second, .val (.ref (f1 x0_4 w_IR w_R w_U w_IW w_W)), .val (.ref (f1 ((x0_4.toUInt32 >>> ((8 : Int32) &&& 31).toUInt32).toInt32) w_IR w_R w_U w_IW w_W)), .val (.ref b13), .unset, .unset, .unset] [(.ref (f1 ((x0_4.toUInt32 >>> ((8 : Int32) &&& 31).toUInt32).toInt32) w_IR w_R w_U w_IW w_W)), (.long v27), (.int v12), (.ref b16), (.ref b16)])) _
      refine st17.trans ?_
      show Steps p.tables e below (T17.setTop (mkF m 84 #[.val (.int x0_0), .val (.long x0_1), .second, .val (.int x0_2), .val (.long x0_3), .second, .val (.int x0_4), .val (.int x0_5), .val (.int v12), .val (.long v27), .second, .val (.ref (f1 x0_4 w_IR w_R w_U w_IW w_W)), .val (.ref (f1 ((x0_4.toUInt32 >>> ((8 : Int32) &&& 31).toUInt32).toInt32) w_IR w_R w_U w_IW w_W)), .val (.ref b13), .unset, .unset, .unset] [(.ref b16)])) _
      refine XS.astore Xr17.here hx rfl (hb hby at_84) rfl rfl (l' := #[.val (.int x0_0), .val (.long x0_1), .second, .val (.int x0_2), .val (.long x0_3), .second, .val (.int x0_4), .val (.int x0_5), .val (.int v12), .val (.long v27), .second, .val (.ref (f1 x0_4 w_IR w_R w_U w_IW w_W)), .val (.ref (f1 ((x0_4.toUInt32 >>> ((8 : Int32) &&& 31).toUInt32).toInt32) w_IR w_R w_U w_IW w_W)), .val (.ref b13), .val (.ref b16), .unset, .unset]) rfl ?_
      show Steps p.tables e below (T17.setTop (mkF m 86 #[.val (.int x0_0), .val (.long x0_1), .second, .val (.int x0_2), .val (.long x0_3), .second, .val (.int x0_4), .val (.int x0_5), .val (.int v12), .val (.long v27), .second, .val (.ref (f1 x0_4 w_IR w_R w_U w_IW w_W)), .val (.ref (f1 ((x0_4.toUInt32 >>> ((8 : Int32) &&& 31).toUInt32).toInt32) w_IR w_R w_U w_IW w_W)), .val (.ref b13), .val (.ref b16), .unset, .unset] [])) _
      refine XS.iloadN Xr17.here hx rfl (hb hby at_86) rfl ?_
      show Steps p.tables e below (T17.setTop (mkF m 87 #[.val (.int x0_0), .val (.long x0_1), .second, .val (.int x0_2), .val (.long x0_3), .second, .val (.int x0_4), .val (.int x0_5), .val (.int v12), .val (.long v27), .second, .val (.ref (f1 x0_4 w_IR w_R w_U w_IW w_W)), .val (.ref (f1 ((x0_4.toUInt32 >>> ((8 : Int32) &&& 31).toUInt32).toInt32) w_IR w_R w_U w_IW w_W)), .val (.ref b13), .val (.ref b16), .unset, .unset] [(.int x0_0)])) _
      refine XS.iload Xr17.here hx rfl (hb hby at_87) rfl ?_
      exact kt
    by_cases hc89_20 : x0_0 = v12
    · have sg21 : ∀ t, Steps p.tables e below (T17.setTop (mkF m 96 #[.val (.int x0_0), .val (.long x0_1), .second, .val (.int x0_2), .val (.long x0_3), .second, .val (.int x0_4), .val (.int x0_5), .val (.int v12), .val (.long v27), .second, .val (.ref (f1 x0_4 w_IR w_R w_U w_IW w_W)), .val (.ref (f1 ((x0_4.toUInt32 >>> ((8 : Int32) &&& 31).toUInt32).toInt32) w_IR w_R w_U w_IW w_W)), .val (.ref b13), .val (.ref b16), .unset, .unset] [(.int (lcmpW x0_1 v27))])) t → Steps p.tables e below (T17.setTop (mkF m 89 #[.val (.int x0_0), .val (.long x0_1), .second, .val (.int x0_2), .val (.long x0_3), .second, .val (.int x0_4), .val (.int x0_5), .val (.int v12), .val (.long v27), .second, .val (.ref (f1 x0_4 w_IR w_R w_U w_IW w_W)), .val (.ref (f1 ((x0_4.toUInt32 >>> ((8 : Int32) &&& 31).toUInt32).toInt32) w_IR w_R w_U w_IW w_W)), .val (.ref b13), .val (.ref b16), .unset, .unset] [(.int v12), (.int x0_0)])) t := fun t kt => by
        show Steps p.tables e below (T17.setTop (mkF m 89 #[.val (.int x0_0), .val (.long x0_1), .second, .val (.int x0_2), .val (.long x0_3), .second, .val (.int x0_4), .val (.int x0_5), .val (.int v12), .val (.long v27), .second, .val (.ref (f1 x0_4 w_IR w_R w_U w_IW w_W)), .val (.ref (f1 ((x0_4.toUInt32 >>> ((8 : Int32) &&& 31).toUInt32).toInt32) w_IR w_R w_U w_IW w_W)), .val (.ref b13), .val (.ref b16), .unset, .unset] [(.int v12), (.int x0_0)])) _
        refine XS.icmpNo Xr17.here hx rfl (hb hby at_89) rfl (teq hc89_20).2 ?_
        show Steps p.tables e below (T17.setTop (mkF m 92 #[.val (.int x0_0), .val (.long x0_1), .second, .val (.int x0_2), .val (.long x0_3), .second, .val (.int x0_4), .val (.int x0_5), .val (.int v12), .val (.long v27), .second, .val (.ref (f1 x0_4 w_IR w_R w_U w_IW w_W)), .val (.ref (f1 ((x0_4.toUInt32 >>> ((8 : Int32) &&& 31).toUInt32).toInt32) w_IR w_R w_U w_IW w_W)), .val (.ref b13), .val (.ref b16), .unset, .unset] [])) _
        refine XS.lloadN Xr17.here hx rfl (hb hby at_92) rfl ?_
        show Steps p.tables e below (T17.setTop (mkF m 93 #[.val (.int x0_0), .val (.long x0_1), .second, .val (.int x0_2), .val (.long x0_3), .second, .val (.int x0_4), .val (.int x0_5), .val (.int v12), .val (.long v27), .second, .val (.ref (f1 x0_4 w_IR w_R w_U w_IW w_W)), .val (.ref (f1 ((x0_4.toUInt32 >>> ((8 : Int32) &&& 31).toUInt32).toInt32) w_IR w_R w_U w_IW w_W)), .val (.ref b13), .val (.ref b16), .unset, .unset] [(.long x0_1)])) _
        refine XS.lload Xr17.here hx rfl (hb hby at_93) rfl ?_
        show Steps p.tables e below (T17.setTop (mkF m 95 #[.val (.int x0_0), .val (.long x0_1), .second, .val (.int x0_2), .val (.long x0_3), .second, .val (.int x0_4), .val (.int x0_5), .val (.int v12), .val (.long v27), .second, .val (.ref (f1 x0_4 w_IR w_R w_U w_IW w_W)), .val (.ref (f1 ((x0_4.toUInt32 >>> ((8 : Int32) &&& 31).toUInt32).toInt32) w_IR w_R w_U w_IW w_W)), .val (.ref b13), .val (.ref b16), .unset, .unset] [(.long v27), (.long x0_1)])) _
        refine XS.lcmp Xr17.here hx rfl (hb hby at_95) rfl ?_
        exact kt
      by_cases hc96_22 : x0_1 = v27
      · have sg23 : ∀ t, Steps p.tables e below (T17.setTop (mkF m 103 #[.val (.int x0_0), .val (.long x0_1), .second, .val (.int x0_2), .val (.long x0_3), .second, .val (.int x0_4), .val (.int x0_5), .val (.int v12), .val (.long v27), .second, .val (.ref (f1 x0_4 w_IR w_R w_U w_IW w_W)), .val (.ref (f1 ((x0_4.toUInt32 >>> ((8 : Int32) &&& 31).toUInt32).toInt32) w_IR w_R w_U w_IW w_W)), .val (.ref b13), .val (.ref b16), .unset, .unset] [(.ref (f1 ((x0_4.toUInt32 >>> ((8 : Int32) &&& 31).toUInt32).toInt32) w_IR w_R w_U w_IW w_W)), (.ref (f1 x0_4 w_IR w_R w_U w_IW w_W))])) t → Steps p.tables e below (T17.setTop (mkF m 96 #[.val (.int x0_0), .val (.long x0_1), .second, .val (.int x0_2), .val (.long x0_3), .second, .val (.int x0_4), .val (.int x0_5), .val (.int v12), .val (.long v27), .second, .val (.ref (f1 x0_4 w_IR w_R w_U w_IW w_W)), .val (.ref (f1 ((x0_4.toUInt32 >>> ((8 : Int32) &&& 31).toUInt32).toInt32) w_IR w_R w_U w_IW w_W)), .val (.ref b13), .val (.ref b16), .unset, .unset] [(.int (lcmpW x0_1 v27))])) t := fun t kt => by
          show Steps p.tables e below (T17.setTop (mkF m 96 #[.val (.int x0_0), .val (.long x0_1), .second, .val (.int x0_2), .val (.long x0_3), .second, .val (.int x0_4), .val (.int x0_5), .val (.int v12), .val (.long v27), .second, .val (.ref (f1 x0_4 w_IR w_R w_U w_IW w_W)), .val (.ref (f1 ((x0_4.toUInt32 >>> ((8 : Int32) &&& 31).toUInt32).toInt32) w_IR w_R w_U w_IW w_W)), .val (.ref b13), .val (.ref b16), .unset, .unset] [(.int (lcmpW x0_1 v27))])) _
          refine XS.ifNo Xr17.here hx rfl (hb hby at_96) rfl ((if0 _ _).trans (teq ((lw_eq _ _).mpr hc96_22)).2) ?_
          show Steps p.tables e below (T17.setTop (mkF m 99 #[.val (.int x0_0), .val (.long x0_1), .second, .val (.int x0_2), .val (.long x0_3), .second, .val (.int x0_4), .val (.int x0_5), .val (.int v12), .val (.long v27), .second, .val (.ref (f1 x0_4 w_IR w_R w_U w_IW w_W)), .val (.ref (f1 ((x0_4.toUInt32 >>> ((8 : Int32) &&& 31).toUInt32).toInt32) w_IR w_R w_U w_IW w_W)), .val (.ref b13), .val (.ref b16), .unset, .unset] [])) _
          refine XS.aload Xr17.here hx rfl (hb hby at_99) rfl rfl ?_
          show Steps p.tables e below (T17.setTop (mkF m 101 #[.val (.int x0_0), .val (.long x0_1), .second, .val (.int x0_2), .val (.long x0_3), .second, .val (.int x0_4), .val (.int x0_5), .val (.int v12), .val (.long v27), .second, .val (.ref (f1 x0_4 w_IR w_R w_U w_IW w_W)), .val (.ref (f1 ((x0_4.toUInt32 >>> ((8 : Int32) &&& 31).toUInt32).toInt32) w_IR w_R w_U w_IW w_W)), .val (.ref b13), .val (.ref b16), .unset, .unset] [(.ref (f1 x0_4 w_IR w_R w_U w_IW w_W))])) _
          refine XS.aload Xr17.here hx rfl (hb hby at_101) rfl rfl ?_
          exact kt
        by_cases hc103_24 : (f1 x0_4 w_IR w_R w_U w_IW w_W) = (f1 ((x0_4.toUInt32 >>> ((8 : Int32) &&& 31).toUInt32).toInt32) w_IR w_R w_U w_IW w_W)
        · have sg25 : ∀ t, Steps p.tables e below (T17.setTop (mkF m 121 #[.val (.int x0_0), .val (.long x0_1), .second, .val (.int x0_2), .val (.long x0_3), .second, .val (.int x0_4), .val (.int x0_5), .val (.int v12), .val (.long v27), .second, .val (.ref (f1 x0_4 w_IR w_R w_U w_IW w_W)), .val (.ref (f1 ((x0_4.toUInt32 >>> ((8 : Int32) &&& 31).toUInt32).toInt32) w_IR w_R w_U w_IW w_W)), .val (.ref b13), .val (.ref b16), .val (.int (1 : Int32)), .val (.int (((x0_5.toUInt32 >>> ((3 : Int32) &&& 31).toUInt32).toInt32) &&& (3 : Int32)))] [])) t → Steps p.tables e below (T17.setTop (mkF m 103 #[.val (.int x0_0), .val (.long x0_1), .second, .val (.int x0_2), .val (.long x0_3), .second, .val (.int x0_4), .val (.int x0_5), .val (.int v12), .val (.long v27), .second, .val (.ref (f1 x0_4 w_IR w_R w_U w_IW w_W)), .val (.ref (f1 ((x0_4.toUInt32 >>> ((8 : Int32) &&& 31).toUInt32).toInt32) w_IR w_R w_U w_IW w_W)), .val (.ref b13), .val (.ref b16), .unset, .unset] [(.ref (f1 ((x0_4.toUInt32 >>> ((8 : Int32) &&& 31).toUInt32).toInt32) w_IR w_R w_U w_IW w_W)), (.ref (f1 x0_4 w_IR w_R w_U w_IW w_W))])) t := fun t kt => by
            show Steps p.tables e below (T17.setTop (mkF m 103 #[.val (.int x0_0), .val (.long x0_1), .second, .val (.int x0_2), .val (.long x0_3), .second, .val (.int x0_4), .val (.int x0_5), .val (.int v12), .val (.long v27), .second, .val (.ref (f1 x0_4 w_IR w_R w_U w_IW w_W)), .val (.ref (f1 ((x0_4.toUInt32 >>> ((8 : Int32) &&& 31).toUInt32).toInt32) w_IR w_R w_U w_IW w_W)), .val (.ref b13), .val (.ref b16), .unset, .unset] [(.ref (f1 ((x0_4.toUInt32 >>> ((8 : Int32) &&& 31).toUInt32).toInt32) w_IR w_R w_U w_IW w_W)), (.ref (f1 x0_4 w_IR w_R w_U w_IW w_W))])) _
            refine Jvm.RoadKit.acmp (g := (mkF m 103 #[.val (.int x0_0), .val (.long x0_1), .second, .val (.int x0_2), .val (.long x0_3), .second, .val (.int x0_4), .val (.int x0_5), .val (.int v12), .val (.long v27), .second, .val (.ref (f1 x0_4 w_IR w_R w_U w_IW w_W)), .val (.ref (f1 ((x0_4.toUInt32 >>> ((8 : Int32) &&& 31).toUInt32).toInt32) w_IR w_R w_U w_IW w_W)), .val (.ref b13), .val (.ref b16), .unset, .unset] [(.ref (f1 ((x0_4.toUInt32 >>> ((8 : Int32) &&& 31).toUInt32).toInt32) w_IR w_R w_U w_IW w_W)), (.ref (f1 x0_4 w_IR w_R w_U w_IW w_W))])) Xr17 hx rfl rfl rfl (pc0 := 103) (pc' := 106) (same := true) rfl (hb hby at_103) rfl (decide_eq_true (congrArg Value.ref hc103_24)) (by decide) (by decide) ?_
            show Steps p.tables e below (T17.setTop (mkF m 106 #[.val (.int x0_0), .val (.long x0_1), .second, .val (.int x0_2), .val (.long x0_3), .second, .val (.int x0_4), .val (.int x0_5), .val (.int v12), .val (.long v27), .second, .val (.ref (f1 x0_4 w_IR w_R w_U w_IW w_W)), .val (.ref (f1 ((x0_4.toUInt32 >>> ((8 : Int32) &&& 31).toUInt32).toInt32) w_IR w_R w_U w_IW w_W)), .val (.ref b13), .val (.ref b16), .unset, .unset] [])) _
            refine XS.iconst Xr17.here hx rfl (hb hby at_106) ?_
            show Steps p.tables e below (T17.setTop (mkF m 107 #[.val (.int x0_0), .val (.long x0_1), .second, .val (.int x0_2), .val (.long x0_3), .second, .val (.int x0_4), .val (.int x0_5), .val (.int v12), .val (.long v27), .second, .val (.ref (f1 x0_4 w_IR w_R w_U w_IW w_W)), .val (.ref (f1 ((x0_4.toUInt32 >>> ((8 : Int32) &&& 31).toUInt32).toInt32) w_IR w_R w_U w_IW w_W)), .val (.ref b13), .val (.ref b16), .unset, .unset] [(.int (1 : Int32))])) _
            refine XS.goto Xr17.here hx rfl (pc0 := 107) (pc' := 111) rfl (hb hby at_107) (by decide) (by decide) ?_
            show Steps p.tables e below (T17.setTop (mkF m 111 #[.val (.int x0_0), .val (.long x0_1), .second, .val (.int x0_2), .val (.long x0_3), .second, .val (.int x0_4), .val (.int x0_5), .val (.int v12), .val (.long v27), .second, .val (.ref (f1 x0_4 w_IR w_R w_U w_IW w_W)), .val (.ref (f1 ((x0_4.toUInt32 >>> ((8 : Int32) &&& 31).toUInt32).toInt32) w_IR w_R w_U w_IW w_W)), .val (.ref b13), .val (.ref b16), .unset, .unset] [(.int (1 : Int32))])) _
            refine XS.istore Xr17.here hx rfl (hb hby at_111) rfl (l' := #[.val (.int x0_0), .val (.long x0_1), .second, .val (.int x0_2), .val (.long x0_3), .second, .val (.int x0_4), .val (.int x0_5), .val (.int v12), .val (.long v27), .second, .val (.ref (f1 x0_4 w_IR w_R w_U w_IW w_W)), .val (.ref (f1 ((x0_4.toUInt32 >>> ((8 : Int32) &&& 31).toUInt32).toInt32) w_IR w_R w_U w_IW w_W)), .val (.ref b13), .val (.ref b16), .val (.int (1 : Int32)), .unset]) rfl ?_
            show Steps p.tables e below (T17.setTop (mkF m 113 #[.val (.int x0_0), .val (.long x0_1), .second, .val (.int x0_2), .val (.long x0_3), .second, .val (.int x0_4), .val (.int x0_5), .val (.int v12), .val (.long v27), .second, .val (.ref (f1 x0_4 w_IR w_R w_U w_IW w_W)), .val (.ref (f1 ((x0_4.toUInt32 >>> ((8 : Int32) &&& 31).toUInt32).toInt32) w_IR w_R w_U w_IW w_W)), .val (.ref b13), .val (.ref b16), .val (.int (1 : Int32)), .unset] [])) _
            refine XS.iload Xr17.here hx rfl (hb hby at_113) rfl ?_
            show Steps p.tables e below (T17.setTop (mkF m 115 #[.val (.int x0_0), .val (.long x0_1), .second, .val (.int x0_2), .val (.long x0_3), .second, .val (.int x0_4), .val (.int x0_5), .val (.int v12), .val (.long v27), .second, .val (.ref (f1 x0_4 w_IR w_R w_U w_IW w_W)), .val (.ref (f1 ((x0_4.toUInt32 >>> ((8 : Int32) &&& 31).toUInt32).toInt32) w_IR w_R w_U w_IW w_W)), .val (.ref b13), .val (.ref b16), .val (.int (1 : Int32)), .unset] [(.int x0_5)])) _
            refine XS.iconst Xr17.here hx rfl (hb hby at_115) ?_
            show Steps p.tables e below (T17.setTop (mkF m 116 #[.val (.int x0_0), .val (.long x0_1), .second, .val (.int x0_2), .val (.long x0_3), .second, .val (.int x0_4), .val (.int x0_5), .val (.int v12), .val (.long v27), .second, .val (.ref (f1 x0_4 w_IR w_R w_U w_IW w_W)), .val (.ref (f1 ((x0_4.toUInt32 >>> ((8 : Int32) &&& 31).toUInt32).toInt32) w_IR w_R w_U w_IW w_W)), .val (.ref b13), .val (.ref b16), .val (.int (1 : Int32)), .unset] [(.int (3 : Int32)), (.int x0_5)])) _
            refine XS.iushr Xr17.here hx rfl (hb hby at_116) rfl ?_
            show Steps p.tables e below (T17.setTop (mkF m 117 #[.val (.int x0_0), .val (.long x0_1), .second, .val (.int x0_2), .val (.long x0_3), .second, .val (.int x0_4), .val (.int x0_5), .val (.int v12), .val (.long v27), .second, .val (.ref (f1 x0_4 w_IR w_R w_U w_IW w_W)), .val (.ref (f1 ((x0_4.toUInt32 >>> ((8 : Int32) &&& 31).toUInt32).toInt32) w_IR w_R w_U w_IW w_W)), .val (.ref b13), .val (.ref b16), .val (.int (1 : Int32)), .unset] [(.int ((x0_5.toUInt32 >>> ((3 : Int32) &&& 31).toUInt32).toInt32))])) _
            refine XS.iconst Xr17.here hx rfl (hb hby at_117) ?_
            show Steps p.tables e below (T17.setTop (mkF m 118 #[.val (.int x0_0), .val (.long x0_1), .second, .val (.int x0_2), .val (.long x0_3), .second, .val (.int x0_4), .val (.int x0_5), .val (.int v12), .val (.long v27), .second, .val (.ref (f1 x0_4 w_IR w_R w_U w_IW w_W)), .val (.ref (f1 ((x0_4.toUInt32 >>> ((8 : Int32) &&& 31).toUInt32).toInt32) w_IR w_R w_U w_IW w_W)), .val (.ref b13), .val (.ref b16), .val (.int (1 : Int32)), .unset] [(.int (3 : Int32)), (.int ((x0_5.toUInt32 >>> ((3 : Int32) &&& 31).toUInt32).toInt32))])) _
            refine XS.iand Xr17.here hx rfl (hb hby at_118) rfl ?_
            show Steps p.tables e below (T17.setTop (mkF m 119 #[.val (.int x0_0), .val (.long x0_1), .second, .val (.int x0_2), .val (.long x0_3), .second, .val (.int x0_4), .val (.int x0_5), .val (.int v12), .val (.long v27), .second, .val (.ref (f1 x0_4 w_IR w_R w_U w_IW w_W)), .val (.ref (f1 ((x0_4.toUInt32 >>> ((8 : Int32) &&& 31).toUInt32).toInt32) w_IR w_R w_U w_IW w_W)), .val (.ref b13), .val (.ref b16), .val (.int (1 : Int32)), .unset] [(.int (((x0_5.toUInt32 >>> ((3 : Int32) &&& 31).toUInt32).toInt32) &&& (3 : Int32)))])) _
            refine XS.istore Xr17.here hx rfl (hb hby at_119) rfl (l' := #[.val (.int x0_0), .val (.long x0_1), .second, .val (.int x0_2), .val (.long x0_3), .second, .val (.int x0_4), .val (.int x0_5), .val (.int v12), .val (.long v27), .second, .val (.ref (f1 x0_4 w_IR w_R w_U w_IW w_W)), .val (.ref (f1 ((x0_4.toUInt32 >>> ((8 : Int32) &&& 31).toUInt32).toInt32) w_IR w_R w_U w_IW w_W)), .val (.ref b13), .val (.ref b16), .val (.int (1 : Int32)), .val (.int (((x0_5.toUInt32 >>> ((3 : Int32) &&& 31).toUInt32).toInt32) &&& (3 : Int32)))]) rfl ?_
            exact kt
          obtain ⟨v119, hv119⟩ : ∃ z, z = (((x0_5.toUInt32 >>> ((3 : Int32) &&& 31).toUInt32).toInt32) &&& (3 : Int32)) := ⟨_, rfl⟩
          rw [← hv119] at sg25
          have sg26 : ∀ t, Steps p.tables e below (T17.setTop (mkF m 123 #[.val (.int x0_0), .val (.long x0_1), .second, .val (.int x0_2), .val (.long x0_3), .second, .val (.int x0_4), .val (.int x0_5), .val (.int v12), .val (.long v27), .second, .val (.ref (f1 x0_4 w_IR w_R w_U w_IW w_W)), .val (.ref (f1 ((x0_4.toUInt32 >>> ((8 : Int32) &&& 31).toUInt32).toInt32) w_IR w_R w_U w_IW w_W)), .val (.ref b13), .val (.ref b16), .val (.int (1 : Int32)), .val (.int v119)] [(.int v119)])) t → Steps p.tables e below (T17.setTop (mkF m 121 #[.val (.int x0_0), .val (.long x0_1), .second, .val (.int x0_2), .val (.long x0_3), .second, .val (.int x0_4), .val (.int x0_5), .val (.int v12), .val (.long v27), .second, .val (.ref (f1 x0_4 w_IR w_R w_U w_IW w_W)), .val (.ref (f1 ((x0_4.toUInt32 >>> ((8 : Int32) &&& 31).toUInt32).toInt32) w_IR w_R w_U w_IW w_W)), .val (.ref b13), .val (.ref b16), .val (.int (1 : Int32)), .val (.int v119)] [])) t := fun t kt => by
            show Steps p.tables e below (T17.setTop (mkF m 121 #[.val (.int x0_0), .val (.long x0_1), .second, .val (.int x0_2), .val (.long x0_3), .second, .val (.int x0_4), .val (.int x0_5), .val (.int v12), .val (.long v27), .second, .val (.ref (f1 x0_4 w_IR w_R w_U w_IW w_W)), .val (.ref (f1 ((x0_4.toUInt32 >>> ((8 : Int32) &&& 31).toUInt32).toInt32) w_IR w_R w_U w_IW w_W)), .val (.ref b13), .val (.ref b16), .val (.int (1 : Int32)), .val (.int v119)] [])) _
            refine XS.iload Xr17.here hx rfl (hb hby at_121) rfl ?_
            exact kt
          by_cases hc123_27 : v119 = (0 : Int32)
          · have c28 := (Exa.keep (Exa.ext E16 Ex14) K17)
            have c29 := (Fld.keep (Fld.ext E16 Fq14_peer) K17 (ninS ne_b13_b16 nin0))
            have c30 := (Fld.keep (Fld.ext E16 Fq14_ticket) K17 (ninS ne_b13_b16 nin0))
            have c31 := (Fld.keep (Fld.ext E16 Fq14_mode) K17 (ninS ne_b13_b16 nin0))
            have sg33 : ∀ t, Steps p.tables e below (T17.setTop (mkF m 130 #[.val (.int x0_0), .val (.long x0_1), .second, .val (.int x0_2), .val (.long x0_3), .second, .val (.int x0_4), .val (.int x0_5), .val (.int v12), .val (.long v27), .second, .val (.ref (f1 x0_4 w_IR w_R w_U w_IW w_W)), .val (.ref (f1 ((x0_4.toUInt32 >>> ((8 : Int32) &&& 31).toUInt32).toInt32) w_IR w_R w_U w_IW w_W)), .val (.ref b13), .val (.ref b16), .val (.int (1 : Int32)), .val (.int v119)] [(.ref b16), (.ref b13)])) t → Steps p.tables e below (T17.setTop (mkF m 123 #[.val (.int x0_0), .val (.long x0_1), .second, .val (.int x0_2), .val (.long x0_3), .second, .val (.int x0_4), .val (.int x0_5), .val (.int v12), .val (.long v27), .second, .val (.ref (f1 x0_4 w_IR w_R w_U w_IW w_W)), .val (.ref (f1 ((x0_4.toUInt32 >>> ((8 : Int32) &&& 31).toUInt32).toInt32) w_IR w_R w_U w_IW w_W)), .val (.ref b13), .val (.ref b16), .val (.int (1 : Int32)), .val (.int v119)] [(.int v119)])) t := fun t kt => by
              show Steps p.tables e below (T17.setTop (mkF m 123 #[.val (.int x0_0), .val (.long x0_1), .second, .val (.int x0_2), .val (.long x0_3), .second, .val (.int x0_4), .val (.int x0_5), .val (.int v12), .val (.long v27), .second, .val (.ref (f1 x0_4 w_IR w_R w_U w_IW w_W)), .val (.ref (f1 ((x0_4.toUInt32 >>> ((8 : Int32) &&& 31).toUInt32).toInt32) w_IR w_R w_U w_IW w_W)), .val (.ref b13), .val (.ref b16), .val (.int (1 : Int32)), .val (.int v119)] [(.int v119)])) _
              refine XS.ifNo Xr17.here hx rfl (hb hby at_123) rfl ((if0 _ _).trans (teq hc123_27).2) ?_
              show Steps p.tables e below (T17.setTop (mkF m 126 #[.val (.int x0_0), .val (.long x0_1), .second, .val (.int x0_2), .val (.long x0_3), .second, .val (.int x0_4), .val (.int x0_5), .val (.int v12), .val (.long v27), .second, .val (.ref (f1 x0_4 w_IR w_R w_U w_IW w_W)), .val (.ref (f1 ((x0_4.toUInt32 >>> ((8 : Int32) &&& 31).toUInt32).toInt32) w_IR w_R w_U w_IW w_W)), .val (.ref b13), .val (.ref b16), .val (.int (1 : Int32)), .val (.int v119)] [])) _
              refine XS.aload Xr17.here hx rfl (hb hby at_126) rfl rfl ?_
              show Steps p.tables e below (T17.setTop (mkF m 128 #[.val (.int x0_0), .val (.long x0_1), .second, .val (.int x0_2), .val (.long x0_3), .second, .val (.int x0_4), .val (.int x0_5), .val (.int v12), .val (.long v27), .second, .val (.ref (f1 x0_4 w_IR w_R w_U w_IW w_W)), .val (.ref (f1 ((x0_4.toUInt32 >>> ((8 : Int32) &&& 31).toUInt32).toInt32) w_IR w_R w_U w_IW w_W)), .val (.ref b13), .val (.ref b16), .val (.int (1 : Int32)), .val (.int v119)] [(.ref b13)])) _
              refine XS.aload Xr17.here hx rfl (hb hby at_128) rfl rfl ?_
              exact kt
            obtain ⟨cq32, kq32, q32a, q32b, q32c⟩ := isOf hZ rfl c28
            obtain ⟨v32, _, ⟨T32, L32, k32, n32⟩, -, X32, ⟨Lc32, hQ32, l32, y32, z32⟩, st32⟩ := Xr17.virtualBack hx (y := (⟨"com/example/libdmutex/libdmutex/core/TokenTree$Token$Queued", "equals", "(Ljava/lang/Object;)Z"⟩ : MethodName)) (z := (⟨"com/example/libdmutex/libdmutex/core/TokenTree$Token$Queued", "equals", "(Ljava/lang/Object;)Z"⟩ : MethodName)) hown (mvT hZ (hw _ (List.mem_of_getElem? (i := 39) rfl))) (mvT hZ (hw _ (List.mem_of_getElem? (i := 40) rfl))) (notFace_of_selects (args := #[]) (mvT hZ (hw _ (List.mem_of_getElem? (i := 42) rfl)))) (mvT hZ (hw _ (List.mem_of_getElem? (i := 42) rfl))) (mvT hZ (hw _ (List.mem_of_getElem? (i := 41) rfl))) (by decide) (backOf (W := 0) (rm5o l Z a0 hw [] b13 b16 x0_0 x0_1 (f1 x0_4 w_IR w_R w_U w_IW w_W) v12 v27 (f1 ((x0_4.toUInt32 >>> ((8 : Int32) &&& 31).toUInt32).toInt32) w_IR w_R w_U w_IW w_W) T17.heap n0 Zs17 c28 Ex17 c29 c30 c31 Fq17_peer Fq17_ticket Fq17_mode) hZ (hw _ (List.mem_of_getElem? (i := 43) rfl)) (hw _ (List.mem_of_getElem? (i := 12) rfl)) (by decide) (by decide)) q32a q32c (g := (mkF m 130 #[.val (.int x0_0), .val (.long x0_1), .second, .val (.int x0_2), .val (.long x0_3), .second, .val (.int x0_4), .val (.int x0_5), .val (.int v12), .val (.long v27), .second, .val (.ref (f1 x0_4 w_IR w_R w_U w_IW w_W)), .val (.ref (f1 ((x0_4.toUInt32 >>> ((8 : Int32) &&& 31).toUInt32).toInt32) w_IR w_R w_U w_IW w_W)), .val (.ref b13), .val (.ref b16), .val (.int (1 : Int32)), .val (.int v119)] [(.ref b16), (.ref b13)])) rfl (by rw [hml]; rfl) (Steps.refl _) (argsL := [(.ref b16)]) (rest := []) (lenOf pd_5 rfl) rfl (by show 2 * 0 + _ ≤ _; exact Nat.le_of_eq rfl) (hb hby at_130) (fun _ _ => ⟨rfl, rfl, (by decide : 6 + 0 ≤ _), (by decide : 46 + 0 ≤ _)⟩)
            dsimp only [Pt.U, Pt.locs, Pt.cells, Pt.slots] at X32 l32 y32 z32 st32 hQ32
            subst l32 y32 z32
            obtain ⟨hv32, N32q, e32⟩ := hQ32
            have N32 := Fr.app N17 N32q
            have hf32 : f5o b13 b16 x0_0 x0_1 (f1 x0_4 w_IR w_R w_U w_IW w_W) v12 v27 (f1 ((x0_4.toUInt32 >>> ((8 : Int32) &&& 31).toUInt32).toInt32) w_IR w_R w_U w_IW w_W) = (1 : Int32) := by unfold f5o; rw [if_pos hc89_20, if_pos hc96_22, if_pos hc103_24]
            rw [hf32] at hv32
            subst hv32
            obtain ⟨fs, hr, hrun, hended, hRW⟩ := Stand.leaveW (s := s) (vm₁ := T17.vm) X32 hS17 (by rw [e32]; exact hk17) (v := some (.int (1 : Int32))) (fun h => by rw [Bd.returns] at h; cases h)
            refine ⟨_, _, pre0 _ (sg1 _ (sg2 _ (sg3 _ (sg4 _ (sg5 _ (sg6 _ (sg8 _ (sg9 _ (sg12 _ (sg15 _ (sg18 _ (sg19 _ (sg21 _ (sg23 _ (sg25 _ (sg26 _ (sg33 _ ?_))))))))))))))))), hrun, hended, _, _, rfl, ?_, hRW.1, hRW.2.1, hRW.2.2.1, hRW.2.2.2.mono (by decide) (by decide)⟩
            · show Steps p.tables e below (T17.setTop (mkF m 130 #[.val (.int x0_0), .val (.long x0_1), .second, .val (.int x0_2), .val (.long x0_3), .second, .val (.int x0_4), .val (.int x0_5), .val (.int v12), .val (.long v27), .second, .val (.ref (f1 x0_4 w_IR w_R w_U w_IW w_W)), .val (.ref (f1 ((x0_4.toUInt32 >>> ((8 : Int32) &&& 31).toUInt32).toInt32) w_IR w_R w_U w_IW w_W)), .val (.ref b13), .val (.ref b16), .val (.int (1 : Int32)), .val (.int v119)] [(.ref b16), (.ref b13)])) _
              refine st32.trans ?_
              show Steps p.tables e below (T32.setTop (mkF m 133 #[.val (.int x0_0), .val (.long x0_1), .second, .val (.int x0_2), .val (.long x0_3), .second, .val (.int x0_4), .val (.int x0_5), .val (.int v12), .val (.long v27), .second, .val (.ref (f1 x0_4 w_IR w_R w_U w_IW w_W)), .val (.ref (f1 ((x0_4.toUInt32 >>> ((8 : Int32) &&& 31).toUInt32).toInt32) w_IR w_R w_U w_IW w_W)), .val (.ref b13), .val (.ref b16), .val (.int (1 : Int32)), .val (.int v119)] [(.int (1 : Int32))])) _
              refine XS.iload X32.here hx rfl (hb hby at_133) rfl ?_
              show Steps p.tables e below (T32.setTop (mkF m 135 #[.val (.int x0_0), .val (.long x0_1), .second, .val (.int x0_2), .val (.long x0_3), .second, .val (.int x0_4), .val (.int x0_5), .val (.int v12), .val (.long v27), .second, .val (.ref (f1 x0_4 w_IR w_R w_U w_IW w_W)), .val (.ref (f1 ((x0_4.toUInt32 >>> ((8 : Int32) &&& 31).toUInt32).toInt32) w_IR w_R w_U w_IW w_W)), .val (.ref b13), .val (.ref b16), .val (.int (1 : Int32)), .val (.int v119)] [(.int (1 : Int32)), (.int (1 : Int32))])) _
              refine XS.icmpNo X32.here hx rfl (hb hby at_135) rfl (teq (by decide : ((1 : Int32) = (1 : Int32)))).2 ?_
              show Steps p.tables e below (T32.setTop (mkF m 138 #[.val (.int x0_0), .val (.long x0_1), .second, .val (.int x0_2), .val (.long x0_3), .second, .val (.int x0_4), .val (.int x0_5), .val (.int v12), .val (.long v27), .second, .val (.ref (f1 x0_4 w_IR w_R w_U w_IW w_W)), .val (.ref (f1 ((x0_4.toUInt32 >>> ((8 : Int32) &&& 31).toUInt32).toInt32) w_IR w_R w_U w_IW w_W)), .val (.ref b13), .val (.ref b16), .val (.int (1 : Int32)), .val (.int v119)] [])) _
              refine XS.iconst X32.here hx rfl (hb hby at_138) ?_
              show Steps p.tables e below (T32.setTop (mkF m 139 #[.val (.int x0_0), .val (.long x0_1), .second, .val (.int x0_2), .val (.long x0_3), .second, .val (.int x0_4), .val (.int x0_5), .val (.int v12), .val (.long v27), .second, .val (.ref (f1 x0_4 w_IR w_R w_U w_IW w_W)), .val (.ref (f1 ((x0_4.toUInt32 >>> ((8 : Int32) &&& 31).toUInt32).toInt32) w_IR w_R w_U w_IW w_W)), .val (.ref b13), .val (.ref b16), .val (.int (1 : Int32)), .val (.int v119)] [(.int (1 : Int32))])) _
              refine XS.goto X32.here hx rfl (pc0 := 139) (pc' := 143) rfl (hb hby at_139) (by decide) (by decide) ?_
              show Steps p.tables e below (T32.setTop (mkF m 143 #[.val (.int x0_0), .val (.long x0_1), .second, .val (.int x0_2), .val (.long x0_3), .second, .val (.int x0_4), .val (.int x0_5), .val (.int v12), .val (.long v27), .second, .val (.ref (f1 x0_4 w_IR w_R w_U w_IW w_W)), .val (.ref (f1 ((x0_4.toUInt32 >>> ((8 : Int32) &&& 31).toUInt32).toInt32) w_IR w_R w_U w_IW w_W)), .val (.ref b13), .val (.ref b16), .val (.int (1 : Int32)), .val (.int v119)] [(.int (1 : Int32))])) _
              exact retN X32 hx (t := .boolean) Bd.returns (by simp) (hb hby at_143) hr
            · show Q0 Z x0_0 x0_1 x0_2 x0_3 x0_4 x0_5 w_IR w_R w_U w_IW w_W cA cl h0 n0 _ T32.heap _
              rw [e32]
              exact ⟨rfl, N32⟩
          · have sg34 : ∀ t, Steps p.tables e below (T17.setTop (mkF m 147 #[.val (.int x0_0), .val (.long x0_1), .second, .val (.int x0_2), .val (.long x0_3), .second, .val (.int x0_4), .val (.int x0_5), .val (.int v12), .val (.long v27), .second, .val (.ref (f1 x0_4 w_IR w_R w_U w_IW w_W)), .val (.ref (f1 ((x0_4.toUInt32 >>> ((8 : Int32) &&& 31).toUInt32).toInt32) w_IR w_R w_U w_IW w_W)), .val (.ref b13), .val (.ref b16), .val (.int (1 : Int32)), .val (.int v119)] [(.int (1 : Int32)), (.int v119)])) t → Steps p.tables e below (T17.setTop (mkF m 123 #[.val (.int x0_0), .val (.long x0_1), .second, .val (.int x0_2), .val (.long x0_3), .second, .val (.int x0_4), .val (.int x0_5), .val (.int v12), .val (.long v27), .second, .val (.ref (f1 x0_4 w_IR w_R w_U w_IW w_W)), .val (.ref (f1 ((x0_4.toUInt32 >>> ((8 : Int32) &&& 31).toUInt32).toInt32) w_IR w_R w_U w_IW w_W)), .val (.ref b13), .val (.ref b16), .val (.int (1 : Int32)), .val (.int v119)] [(.int v119)])) t := fun t kt => by
              show Steps p.tables e below (T17.setTop (mkF m 123 #[.val (.int x0_0), .val (.long x0_1), .second, .val (.int x0_2), .val (.long x0_3), .second, .val (.int x0_4), .val (.int x0_5), .val (.int v12), .val (.long v27), .second, .val (.ref (f1 x0_4 w_IR w_R w_U w_IW w_W)), .val (.ref (f1 ((x0_4.toUInt32 >>> ((8 : Int32) &&& 31).toUInt32).toInt32) w_IR w_R w_U w_IW w_W)), .val (.ref b13), .val (.ref b16), .val (.int (1 : Int32)), .val (.int v119)] [(.int v119)])) _
              refine XS.ifYes Xr17.here hx rfl (pc0 := 123) (pc' := 144) rfl (hb hby at_123) rfl ((if0 _ _).trans (feq hc123_27).2) (by decide) (by decide) ?_
              show Steps p.tables e below (T17.setTop (mkF m 144 #[.val (.int x0_0), .val (.long x0_1), .second, .val (.int x0_2), .val (.long x0_3), .second, .val (.int x0_4), .val (.int x0_5), .val (.int v12), .val (.long v27), .second, .val (.ref (f1 x0_4 w_IR w_R w_U w_IW w_W)), .val (.ref (f1 ((x0_4.toUInt32 >>> ((8 : Int32) &&& 31).toUInt32).toInt32) w_IR w_R w_U w_IW w_W)), .val (.ref b13), .val (.ref b16), .val (.int (1 : Int32)), .val (.int v119)] [])) _
              refine XS.iload Xr17.here hx rfl (hb hby at_144) rfl ?_
              show Steps p.tables e below (T17.setTop (mkF m 146 #[.val (.int x0_0), .val (.long x0_1), .second, .val (.int x0_2), .val (.long x0_3), .second, .val (.int x0_4), .val (.int x0_5), .val (.int v12), .val (.long v27), .second, .val (.ref (f1 x0_4 w_IR w_R w_U w_IW w_W)), .val (.ref (f1 ((x0_4.toUInt32 >>> ((8 : Int32) &&& 31).toUInt32).toInt32) w_IR w_R w_U w_IW w_W)), .val (.ref b13), .val (.ref b16), .val (.int (1 : Int32)), .val (.int v119)] [(.int v119)])) _
              refine XS.iconst Xr17.here hx rfl (hb hby at_146) ?_
              exact kt
            by_cases hc147_35 : v119 = (1 : Int32)
            · have c36 := (Exa.keep (Exa.ext E16 Ex14) K17)
              have sg38 : ∀ t, Steps p.tables e below (T17.setTop (mkF m 153 #[.val (.int x0_0), .val (.long x0_1), .second, .val (.int x0_2), .val (.long x0_3), .second, .val (.int x0_4), .val (.int x0_5), .val (.int v12), .val (.long v27), .second, .val (.ref (f1 x0_4 w_IR w_R w_U w_IW w_W)), .val (.ref (f1 ((x0_4.toUInt32 >>> ((8 : Int32) &&& 31).toUInt32).toInt32) w_IR w_R w_U w_IW w_W)), .val (.ref b13), .val (.ref b16), .val (.int (1 : Int32)), .val (.int v119)] [.null, (.ref b13)])) t → Steps p.tables e below (T17.setTop (mkF m 147 #[.val (.int x0_0), .val (.long x0_1), .second, .val (.int x0_2), .val (.long x0_3), .second, .val (.int x0_4), .val (.int x0_5), .val (.int v12), .val (.long v27), .second, .val (.ref (f1 x0_4 w_IR w_R w_U w_IW w_W)), .val (.ref (f1 ((x0_4.toUInt32 >>> ((8 : Int32) &&& 31).toUInt32).toInt32) w_IR w_R w_U w_IW w_W)), .val (.ref b13), .val (.ref b16), .val (.int (1 : Int32)), .val (.int v119)] [(.int (1 : Int32)), (.int v119)])) t := fun t kt => by
                show Steps p.tables e below (T17.setTop (mkF m 147 #[.val (.int x0_0), .val (.long x0_1), .second, .val (.int x0_2), .val (.long x0_3), .second, .val (.int x0_4), .val (.int x0_5), .val (.int v12), .val (.long v27), .second, .val (.ref (f1 x0_4 w_IR w_R w_U w_IW w_W)), .val (.ref (f1 ((x0_4.toUInt32 >>> ((8 : Int32) &&& 31).toUInt32).toInt32) w_IR w_R w_U w_IW w_W)), .val (.ref b13), .val (.ref b16), .val (.int (1 : Int32)), .val (.int v119)] [(.int (1 : Int32)), (.int v119)])) _
                refine XS.icmpNo Xr17.here hx rfl (hb hby at_147) rfl (teq hc147_35).2 ?_
                show Steps p.tables e below (T17.setTop (mkF m 150 #[.val (.int x0_0), .val (.long x0_1), .second, .val (.int x0_2), .val (.long x0_3), .second, .val (.int x0_4), .val (.int x0_5), .val (.int v12), .val (.long v27), .second, .val (.ref (f1 x0_4 w_IR w_R w_U w_IW w_W)), .val (.ref (f1 ((x0_4.toUInt32 >>> ((8 : Int32) &&& 31).toUInt32).toInt32) w_IR w_R w_U w_IW w_W)), .val (.ref b13), .val (.ref b16), .val (.int (1 : Int32)), .val (.int v119)] [])) _
                refine XS.aload Xr17.here hx rfl (hb hby at_150) rfl rfl ?_
                show Steps p.tables e below (T17.setTop (mkF m 152 #[.val (.int x0_0), .val (.long x0_1), .second, .val (.int x0_2), .val (.long x0_3), .second, .val (.int x0_4), .val (.int x0_5), .val (.int v12), .val (.long v27), .second, .val (.ref (f1 x0_4 w_IR w_R w_U w_IW w_W)), .val (.ref (f1 ((x0_4.toUInt32 >>> ((8 : Int32) &&& 31).toUInt32).toInt32) w_IR w_R w_U w_IW w_W)), .val (.ref b13), .val (.ref b16), .val (.int (1 : Int32)), .val (.int v119)] [(.ref b13)])) _
                refine XS.aconstNull Xr17.here hx rfl (hb hby at_152) ?_
                exact kt
              obtain ⟨cq37, kq37, q37a, q37b, q37c⟩ := isOf hZ rfl c36
              obtain ⟨v37, _, ⟨T37, L37, k37, n37⟩, -, X37, ⟨Lc37, hQ37, l37, y37, z37⟩, st37⟩ := Xr17.virtualBack hx (y := (⟨"com/example/libdmutex/libdmutex/core/TokenTree$Token$Queued", "equals", "(Ljava/lang/Object;)Z"⟩ : MethodName)) (z := (⟨"com/example/libdmutex/libdmutex/core/TokenTree$Token$Queued", "equals", "(Ljava/lang/Object;)Z"⟩ : MethodName)) hown (mvT hZ (hw _ (List.mem_of_getElem? (i := 39) rfl))) (mvT hZ (hw _ (List.mem_of_getElem? (i := 40) rfl))) (notFace_of_selects (args := #[]) (mvT hZ (hw _ (List.mem_of_getElem? (i := 42) rfl)))) (mvT hZ (hw _ (List.mem_of_getElem? (i := 42) rfl))) (mvT hZ (hw _ (List.mem_of_getElem? (i := 41) rfl))) (by decide) (backOf (W := 0) (rm5n l Z a0 hw [] b13 T17.heap n0 Zs17 c36) hZ (hw _ (List.mem_of_getElem? (i := 43) rfl)) (hw _ (List.mem_of_getElem? (i := 12) rfl)) (by decide) (by decide)) q37a q37c (g := (mkF m 153 #[.val (.int x0_0), .val (.long x0_1), .second, .val (.int x0_2), .val (.long x0_3), .second, .val (.int x0_4), .val (.int x0_5), .val (.int v12), .val (.long v27), .second, .val (.ref (f1 x0_4 w_IR w_R w_U w_IW w_W)), .val (.ref (f1 ((x0_4.toUInt32 >>> ((8 : Int32) &&& 31).toUInt32).toInt32) w_IR w_R w_U w_IW w_W)), .val (.ref b13), .val (.ref b16), .val (.int (1 : Int32)), .val (.int v119)] [.null, (.ref b13)])) rfl (by rw [hml]; rfl) (Steps.refl _) (argsL := [.null]) (rest := []) (lenOf pd_5 rfl) rfl (by show 2 * 0 + _ ≤ _; exact Nat.le_of_eq rfl) (hb hby at_153) (fun _ _ => ⟨rfl, rfl, (by decide : 6 + 0 ≤ _), (by decide : 46 + 0 ≤ _)⟩)
              dsimp only [Pt.U, Pt.locs, Pt.cells, Pt.slots] at X37 l37 y37 z37 st37 hQ37
              subst l37 y37 z37
              obtain ⟨hv37, N37q, e37⟩ := hQ37
              have N37 := Fr.app N17 N37q
              have hf37 : f5n b13 = (0 : Int32) := rfl
              rw [hf37] at hv37
              subst hv37
              obtain ⟨fs, hr, hrun, hended, hRW⟩ := Stand.leaveW (s := s) (vm₁ := T17.vm) X37 hS17 (by rw [e37]; exact hk17) (v := some (.int (1 : Int32))) (fun h => by rw [Bd.returns] at h; cases h)
              refine ⟨_, _, pre0 _ (sg1 _ (sg2 _ (sg3 _ (sg4 _ (sg5 _ (sg6 _ (sg8 _ (sg9 _ (sg12 _ (sg15 _ (sg18 _ (sg19 _ (sg21 _ (sg23 _ (sg25 _ (sg26 _ (sg34 _ (sg38 _ ?_)))))))))))))))))), hrun, hended, _, _, rfl, ?_, hRW.1, hRW.2.1, hRW.2.2.1, hRW.2.2.2.mono (by decide) (by decide)⟩
              · show Steps p.tables e below (T17.setTop (mkF m 153 #[.val (.int x0_0), .val (.long x0_1), .second, .val (.int x0_2), .val (.long x0_3), .second, .val (.int x0_4), .val (.int x0_5), .val (.int v12), .val (.long v27), .second, .val (.ref (f1 x0_4 w_IR w_R w_U w_IW w_W)), .val (.ref (f1 ((x0_4.toUInt32 >>> ((8 : Int32) &&& 31).toUInt32).toInt32) w_IR w_R w_U w_IW w_W)), .val (.ref b13), .val (.ref b16), .val (.int (1 : Int32)), .val (.int v119)] [.null, (.ref b13)])) _
                refine st37.trans ?_
                show Steps p.tables e below (T37.setTop (mkF m 156 #[.val (.int x0_0), .val (.long x0_1), .second, .val (.int x0_2), .val (.long x0_3), .second, .val (.int x0_4), .val (.int x0_5), .val (.int v12), .val (.long v27), .second, .val (.ref (f1 x0_4 w_IR w_R w_U w_IW w_W)), .val (.ref (f1 ((x0_4.toUInt32 >>> ((8 : Int32) &&& 31).toUInt32).toInt32) w_IR w_R w_U w_IW w_W)), .val (.ref b13), .val (.ref b16), .val (.int (1 : Int32)), .val (.int v119)] [(.int (0 : Int32))])) _
                refine XS.ifNo X37.here hx rfl (hb hby at_156) rfl ((if0 _ _).trans (teq (by decide : ((0 : Int32) = (0 : Int32)))).2) ?_
                show Steps p.tables e below (T37.setTop (mkF m 159 #[.val (.int x0_0), .val (.long x0_1), .second, .val (.int x0_2), .val (.long x0_3), .second, .val (.int x0_4), .val (.int x0_5), .val (.int v12), .val (.long v27), .second, .val (.ref (f1 x0_4 w_IR w_R w_U w_IW w_W)), .val (.ref (f1 ((x0_4.toUInt32 >>> ((8 : Int32) &&& 31).toUInt32).toInt32) w_IR w_R w_U w_IW w_W)), .val (.ref b13), .val (.ref b16), .val (.int (1 : Int32)), .val (.int v119)] [])) _
                refine XS.iconst X37.here hx rfl (hb hby at_159) ?_
                show Steps p.tables e below (T37.setTop (mkF m 160 #[.val (.int x0_0), .val (.long x0_1), .second, .val (.int x0_2), .val (.long x0_3), .second, .val (.int x0_4), .val (.int x0_5), .val (.int v12), .val (.long v27), .second, .val (.ref (f1 x0_4 w_IR w_R w_U w_IW w_W)), .val (.ref (f1 ((x0_4.toUInt32 >>> ((8 : Int32) &&& 31).toUInt32).toInt32) w_IR w_R w_U w_IW w_W)), .val (.ref b13), .val (.ref b16), .val (.int (1 : Int32)), .val (.int v119)] [(.int (1 : Int32))])) _
                refine XS.goto X37.here hx rfl (pc0 := 160) (pc' := 164) rfl (hb hby at_160) (by decide) (by decide) ?_
                show Steps p.tables e below (T37.setTop (mkF m 164 #[.val (.int x0_0), .val (.long x0_1), .second, .val (.int x0_2), .val (.long x0_3), .second, .val (.int x0_4), .val (.int x0_5), .val (.int v12), .val (.long v27), .second, .val (.ref (f1 x0_4 w_IR w_R w_U w_IW w_W)), .val (.ref (f1 ((x0_4.toUInt32 >>> ((8 : Int32) &&& 31).toUInt32).toInt32) w_IR w_R w_U w_IW w_W)), .val (.ref b13), .val (.ref b16), .val (.int (1 : Int32)), .val (.int v119)] [(.int (1 : Int32))])) _
                exact retN X37 hx (t := .boolean) Bd.returns (by simp) (hb hby at_164) hr
              · show Q0 Z x0_0 x0_1 x0_2 x0_3 x0_4 x0_5 w_IR w_R w_U w_IW w_W cA cl h0 n0 _ T37.heap _
                rw [e37]
                exact ⟨rfl, N37⟩
            · have sg39 : ∀ t, Steps p.tables e below (T17.setTop (mkF m 168 #[.val (.int x0_0), .val (.long x0_1), .second, .val (.int x0_2), .val (.long x0_3), .second, .val (.int x0_4), .val (.int x0_5), .val (.int v12), .val (.long v27), .second, .val (.ref (f1 x0_4 w_IR w_R w_U w_IW w_W)), .val (.ref (f1 ((x0_4.toUInt32 >>> ((8 : Int32) &&& 31).toUInt32).toInt32) w_IR w_R w_U w_IW w_W)), .val (.ref b13), .val (.ref b16), .val (.int (1 : Int32)), .val (.int v119)] [(.int (2 : Int32)), (.int v119)])) t → Steps p.tables e below (T17.setTop (mkF m 147 #[.val (.int x0_0), .val (.long x0_1), .second, .val (.int x0_2), .val (.long x0_3), .second, .val (.int x0_4), .val (.int x0_5), .val (.int v12), .val (.long v27), .second, .val (.ref (f1 x0_4 w_IR w_R w_U w_IW w_W)), .val (.ref (f1 ((x0_4.toUInt32 >>> ((8 : Int32) &&& 31).toUInt32).toInt32) w_IR w_R w_U w_IW w_W)), .val (.ref b13), .val (.ref b16), .val (.int (1 : Int32)), .val (.int v119)] [(.int (1 : Int32)), (.int v119)])) t := fun t kt => by
                show Steps p.tables e below (T17.setTop (mkF m 147 #[.val (.int x0_0), .val (.long x0_1), .second, .val (.int x0_2), .val (.long x0_3), .second, .val (.int x0_4), .val (.int x0_5), .val (.int v12), .val (.long v27), .second, .val (.ref (f1 x0_4 w_IR w_R w_U w_IW w_W)), .val (.ref (f1 ((x0_4.toUInt32 >>> ((8 : Int32) &&& 31).toUInt32).toInt32) w_IR w_R w_U w_IW w_W)), .val (.ref b13), .val (.ref b16), .val (.int (1 : Int32)), .val (.int v119)] [(.int (1 : Int32)), (.int v119)])) _
                refine XS.icmpYes Xr17.here hx rfl (pc0 := 147) (pc' := 165) rfl (hb hby at_147) rfl (feq hc147_35).2 (by decide) (by decide) ?_
                show Steps p.tables e below (T17.setTop (mkF m 165 #[.val (.int x0_0), .val (.long x0_1), .second, .val (.int x0_2), .val (.long x0_3), .second, .val (.int x0_4), .val (.int x0_5), .val (.int v12), .val (.long v27), .second, .val (.ref (f1 x0_4 w_IR w_R w_U w_IW w_W)), .val (.ref (f1 ((x0_4.toUInt32 >>> ((8 : Int32) &&& 31).toUInt32).toInt32) w_IR w_R w_U w_IW w_W)), .val (.ref b13), .val (.ref b16), .val (.int (1 : Int32)), .val (.int v119)] [])) _
                refine XS.iload Xr17.here hx rfl (hb hby at_165) rfl ?_
                show Steps p.tables e below (T17.setTop (mkF m 167 #[.val (.int x0_0), .val (.long x0_1), .second, .val (.int x0_2), .val (.long x0_3), .second, .val (.int x0_4), .val (.int x0_5), .val (.int v12), .val (.long v27), .second, .val (.ref (f1 x0_4 w_IR w_R w_U w_IW w_W)), .val (.ref (f1 ((x0_4.toUInt32 >>> ((8 : Int32) &&& 31).toUInt32).toInt32) w_IR w_R w_U w_IW w_W)), .val (.ref b13), .val (.ref b16), .val (.int (1 : Int32)), .val (.int v119)] [(.int v119)])) _
                refine XS.iconst Xr17.here hx rfl (hb hby at_167) ?_
                exact kt
              by_cases hc168_40 : v119 = (2 : Int32)
              · have sg42 : ∀ t, Steps p.tables e below (T17.setTop (mkF m 174 #[.val (.int x0_0), .val (.long x0_1), .second, .val (.int x0_2), .val (.long x0_3), .second, .val (.int x0_4), .val (.int x0_5), .val (.int v12), .val (.long v27), .second, .val (.ref (f1 x0_4 w_IR w_R w_U w_IW w_W)), .val (.ref (f1 ((x0_4.toUInt32 >>> ((8 : Int32) &&& 31).toUInt32).toInt32) w_IR w_R w_U w_IW w_W)), .val (.ref b13), .val (.ref b16), .val (.int (1 : Int32)), .val (.int v119)] [(.int x0_0), (.ref b13)])) t → Steps p.tables e below (T17.setTop (mkF m 168 #[.val (.int x0_0), .val (.long x0_1), .second, .val (.int x0_2), .val (.long x0_3), .second, .val (.int x0_4), .val (.int x0_5), .val (.int v12), .val (.long v27), .second, .val (.ref (f1 x0_4 w_IR w_R w_U w_IW w_W)), .val (.ref (f1 ((x0_4.toUInt32 >>> ((8 : Int32) &&& 31).toUInt32).toInt32) w_IR w_R w_U w_IW w_W)), .val (.ref b13), .val (.ref b16), .val (.int (1 : Int32)), .val (.int v119)] [(.int (2 : Int32)), (.int v119)])) t := fun t kt => by
                  show Steps p.tables e below (T17.setTop (mkF m 168 #[.val (.int x0_0), .val (.long x0_1), .second, .val (.int x0_2), .val (.long x0_3), .second, .val (.int x0_4), .val (.int x0_5), .val (.int v12), .val (.long v27), .second, .val (.ref (f1 x0_4 w_IR w_R w_U w_IW w_W)), .val (.ref (f1 ((x0_4.toUInt32 >>> ((8 : Int32) &&& 31).toUInt32).toInt32) w_IR w_R w_U w_IW w_W)), .val (.ref b13), .val (.ref b16), .val (.int (1 : Int32)), .val (.int v119)] [(.int (2 : Int32)), (.int v119)])) _
                  refine XS.icmpNo Xr17.here hx rfl (hb hby at_168) rfl (teq hc168_40).2 ?_
                  show Steps p.tables e below (T17.setTop (mkF m 171 #[.val (.int x0_0), .val (.long x0_1), .second, .val (.int x0_2), .val (.long x0_3), .second, .val (.int x0_4), .val (.int x0_5), .val (.int v12), .val (.long v27), .second, .val (.ref (f1 x0_4 w_IR w_R w_U w_IW w_W)), .val (.ref (f1 ((x0_4.toUInt32 >>> ((8 : Int32) &&& 31).toUInt32).toInt32) w_IR w_R w_U w_IW w_W)), .val (.ref b13), .val (.ref b16), .val (.int (1 : Int32)), .val (.int v119)] [])) _
                  refine XS.aload Xr17.here hx rfl (hb hby at_171) rfl rfl ?_
                  show Steps p.tables e below (T17.setTop (mkF m 173 #[.val (.int x0_0), .val (.long x0_1), .second, .val (.int x0_2), .val (.long x0_3), .second, .val (.int x0_4), .val (.int x0_5), .val (.int v12), .val (.long v27), .second, .val (.ref (f1 x0_4 w_IR w_R w_U w_IW w_W)), .val (.ref (f1 ((x0_4.toUInt32 >>> ((8 : Int32) &&& 31).toUInt32).toInt32) w_IR w_R w_U w_IW w_W)), .val (.ref b13), .val (.ref b16), .val (.int (1 : Int32)), .val (.int v119)] [(.ref b13)])) _
                  refine XS.iloadN Xr17.here hx rfl (hb hby at_173) rfl ?_
                  exact kt
                obtain ⟨v41, _, ⟨T41, L41, k41, n41⟩, -, X41, ⟨Lc41, hQ41, l41, y41, z41⟩, st41⟩ := Jvm.LawKit.callS Xr17 hx (y := (⟨"java/lang/Integer", "valueOf", "(I)Ljava/lang/Integer;"⟩ : MethodName)) hown (mvT hZ (hw _ (List.mem_of_getElem? (i := 48) rfl))) (mvT hZ (hw _ (List.mem_of_getElem? (i := 49) rfl))) (mvT hZ (hw _ (List.mem_of_getElem? (i := 50) rfl))) (mvT hZ (hw _ (List.mem_of_getElem? (i := 51) rfl))) (by decide) (backOf (W := 1) (rm6 l Z a0 hw [] x0_0 cA cl T17.heap n0 Zs17 Ol17 JC SC SH) hZ (hw _ (List.mem_of_getElem? (i := 51) rfl)) (hw _ (List.mem_of_getElem? (i := 50) rfl)) (by decide) (by decide)) (g := (mkF m 174 #[.val (.int x0_0), .val (.long x0_1), .second, .val (.int x0_2), .val (.long x0_3), .second, .val (.int x0_4), .val (.int x0_5), .val (.int v12), .val (.long v27), .second, .val (.ref (f1 x0_4 w_IR w_R w_U w_IW w_W)), .val (.ref (f1 ((x0_4.toUInt32 >>> ((8 : Int32) &&& 31).toUInt32).toInt32) w_IR w_R w_U w_IW w_W)), .val (.ref b13), .val (.ref b16), .val (.int (1 : Int32)), .val (.int v119)] [(.int x0_0), (.ref b13)])) rfl (by rw [hml]; rfl) (argsL := [(.int x0_0)]) (rest := [(.ref b13)]) (lenOf pd_6 rfl) rfl (by show 2 * 0 + _ ≤ _; exact Nat.le_of_eq rfl) (hb hby at_174) (fun _ _ => ⟨rfl, rfl, (by decide : 6 + 1 ≤ _), (by decide : 46 + 1 ≤ _)⟩)
                dsimp only [Pt.U, Pt.locs, Pt.cells, Pt.slots] at X41 l41 y41 z41 st41 hQ41
                subst l41 y41 z41
                obtain ⟨r41, rfl, N41q, K41, Ex41⟩ := hQ41
                have N41 := Fr.app N17 N41q
                have Zs41 : n0 ≤ T41.heap.size := Nat.le_trans Zs17 K41.1
                have hk41 := Nat.le_trans hk17 K41.1
                have Ol41 : Old Z n0 T41.heap := (Ol17).keep K41 all0
                have c43 := (Exa.keep (Exa.keep (Exa.ext E16 Ex14) K17) K41)
                have sg45 : ∀ t, Steps p.tables e below (T41.setTop (mkF m 177 #[.val (.int x0_0), .val (.long x0_1), .second, .val (.int x0_2), .val (.long x0_3), .second, .val (.int x0_4), .val (.int x0_5), .val (.int v12), .val (.long v27), .second, .val (.ref (f1 x0_4 w_IR w_R w_U w_IW w_W)), .val (.ref (f1 ((x0_4.toUInt32 >>> ((8 : Int32) &&& 31).toUInt32).toInt32) w_IR w_R w_U w_IW w_W)), .val (.ref b13), .val (.ref b16), .val (.int (1 : Int32)), .val (.int v119)] [(.ref r41), (.ref b13)])) t → Steps p.tables e below (T17.setTop (mkF m 174 #[.val (.int x0_0), .val (.long x0_1), .second, .val (.int x0_2), .val (.long x0_3), .second, .val (.int x0_4), .val (.int x0_5), .val (.int v12), .val (.long v27), .second, .val (.ref (f1 x0_4 w_IR w_R w_U w_IW w_W)), .val (.ref (f1 ((x0_4.toUInt32 >>> ((8 : Int32) &&& 31).toUInt32).toInt32) w_IR w_R w_U w_IW w_W)), .val (.ref b13), .val (.ref b16), .val (.int (1 : Int32)), .val (.int v119)] [(.int x0_0), (.ref b13)])) t := fun t kt => by
                  show Steps p.tables e below (T17.setTop (mkF m 174 #[.val (.int x0_0), .val (.long x0_1), .second, .val (.int x0_2), .val (.long x0_3), .second, .val (.int x0_4), .val (.int x0_5), .val (.int v12), .val (.long v27), .second, .val (.ref (f1 x0_4 w_IR w_R w_U w_IW w_W)), .val (.ref (f1 ((x0_4.toUInt32 >>> ((8 : Int32) &&& 31).toUInt32).toInt32) w_IR w_R w_U w_IW w_W)), .val (.ref b13), .val (.ref b16), .val (.int (1 : Int32)), .val (.int v119)] [(.int x0_0), (.ref b13)])) _
                  refine st41 _ ?_
                  exact kt
                obtain ⟨cq44, kq44, q44a, q44b, q44c⟩ := isOf hZ rfl c43
                obtain ⟨v44, _, ⟨T44, L44, k44, n44⟩, -, X44, ⟨Lc44, hQ44, l44, y44, z44⟩, st44⟩ := X41.virtualBack hx (y := (⟨"com/example/libdmutex/libdmutex/core/TokenTree$Token$Queued", "equals", "(Ljava/lang/Object;)Z"⟩ : MethodName)) (z := (⟨"com/example/libdmutex/libdmutex/core/TokenTree$Token$Queued", "equals", "(Ljava/lang/Object;)Z"⟩ : MethodName)) hown (mvT hZ (hw _ (List.mem_of_getElem? (i := 39) rfl))) (mvT hZ (hw _ (List.mem_of_getElem? (i := 40) rfl))) (notFace_of_selects (args := #[]) (mvT hZ (hw _ (List.mem_of_getElem? (i := 42) rfl)))) (mvT hZ (hw _ (List.mem_of_getElem? (i := 42) rfl))) (mvT hZ (hw _ (List.mem_of_getElem? (i := 41) rfl))) (by decide) (backOf (W := 0) (rm5i l Z a0 hw [] b13 r41 T41.heap n0 Zs41 Ex41) hZ (hw _ (List.mem_of_getElem? (i := 43) rfl)) (hw _ (List.mem_of_getElem? (i := 12) rfl)) (by decide) (by decide)) q44a q44c (g := (mkF m 177 #[.val (.int x0_0), .val (.long x0_1), .second, .val (.int x0_2), .val (.long x0_3), .second, .val (.int x0_4), .val (.int x0_5), .val (.int v12), .val (.long v27), .second, .val (.ref (f1 x0_4 w_IR w_R w_U w_IW w_W)), .val (.ref (f1 ((x0_4.toUInt32 >>> ((8 : Int32) &&& 31).toUInt32).toInt32) w_IR w_R w_U w_IW w_W)), .val (.ref b13), .val (.ref b16), .val (.int (1 : Int32)), .val (.int v119)] [(.ref r41), (.ref b13)])) rfl (by rw [hml]; rfl) (Steps.refl _) (argsL := [(.ref r41)]) (rest := []) (lenOf pd_5 rfl) rfl (by show 2 * 0 + _ ≤ _; exact Nat.le_of_eq rfl) (hb hby at_177) (fun _ _ => ⟨rfl, rfl, (by decide : 7 + 0 ≤ _), (by decide : 47 + 0 ≤ _)⟩)
                dsimp only [Pt.U, Pt.locs, Pt.cells, Pt.slots] at X44 l44 y44 z44 st44 hQ44
                subst l44 y44 z44
                obtain ⟨hv44, N44q, e44⟩ := hQ44
                have N44 := Fr.app N41 N44q
                have hf44 : f5i b13 r41 = (0 : Int32) := rfl
                rw [hf44] at hv44
                subst hv44
                obtain ⟨fs, hr, hrun, hended, hRW⟩ := Stand.leaveW (s := s) (vm₁ := T17.vm) X44 hS17 (by rw [e44]; exact hk41) (v := some (.int (1 : Int32))) (fun h => by rw [Bd.returns] at h; cases h)
                refine ⟨_, _, pre0 _ (sg1 _ (sg2 _ (sg3 _ (sg4 _ (sg5 _ (sg6 _ (sg8 _ (sg9 _ (sg12 _ (sg15 _ (sg18 _ (sg19 _ (sg21 _ (sg23 _ (sg25 _ (sg26 _ (sg34 _ (sg39 _ (sg42 _ (sg45 _ ?_)))))))))))))))))))), hrun, hended, _, _, rfl, ?_, hRW.1, hRW.2.1, hRW.2.2.1, hRW.2.2.2.mono (by decide) (by decide)⟩
                · show Steps p.tables e below (T41.setTop (mkF m 177 #[.val (.int x0_0), .val (.long x0_1), .second, .val (.int x0_2), .val (.long x0_3), .second, .val (.int x0_4), .val (.int x0_5), .val (.int v12), .val (.long v27), .second, .val (.ref (f1 x0_4 w_IR w_R w_U w_IW w_W)), .val (.ref (f1 ((x0_4.toUInt32 >>> ((8 : Int32) &&& 31).toUInt32).toInt32) w_IR w_R w_U w_IW w_W)), .val (.ref b13), .val (.ref b16), .val (.int (1 : Int32)), .val (.int v119)] [(.ref r41), (.ref b13)])) _
                  refine st44.trans ?_
                  show Steps p.tables e below (T44.setTop (mkF m 180 #[.val (.int x0_0), .val (.long x0_1), .second, .val (.int x0_2), .val (.long x0_3), .second, .val (.int x0_4), .val (.int x0_5), .val (.int v12), .val (.long v27), .second, .val (.ref (f1 x0_4 w_IR w_R w_U w_IW w_W)), .val (.ref (f1 ((x0_4.toUInt32 >>> ((8 : Int32) &&& 31).toUInt32).toInt32) w_IR w_R w_U w_IW w_W)), .val (.ref b13), .val (.ref b16), .val (.int (1 : Int32)), .val (.int v119)] [(.int (0 : Int32))])) _
                  refine XS.ifNo X44.here hx rfl (hb hby at_180) rfl ((if0 _ _).trans (teq (by decide : ((0 : Int32) = (0 : Int32)))).2) ?_
                  show Steps p.tables e below (T44.setTop (mkF m 183 #[.val (.int x0_0), .val (.long x0_1), .second, .val (.int x0_2), .val (.long x0_3), .second, .val (.int x0_4), .val (.int x0_5), .val (.int v12), .val (.long v27), .second, .val (.ref (f1 x0_4 w_IR w_R w_U w_IW w_W)), .val (.ref (f1 ((x0_4.toUInt32 >>> ((8 : Int32) &&& 31).toUInt32).toInt32) w_IR w_R w_U w_IW w_W)), .val (.ref b13), .val (.ref b16), .val (.int (1 : Int32)), .val (.int v119)] [])) _
                  refine XS.iconst X44.here hx rfl (hb hby at_183) ?_
                  show Steps p.tables e below (T44.setTop (mkF m 184 #[.val (.int x0_0), .val (.long x0_1), .second, .val (.int x0_2), .val (.long x0_3), .second, .val (.int x0_4), .val (.int x0_5), .val (.int v12), .val (.long v27), .second, .val (.ref (f1 x0_4 w_IR w_R w_U w_IW w_W)), .val (.ref (f1 ((x0_4.toUInt32 >>> ((8 : Int32) &&& 31).toUInt32).toInt32) w_IR w_R w_U w_IW w_W)), .val (.ref b13), .val (.ref b16), .val (.int (1 : Int32)), .val (.int v119)] [(.int (1 : Int32))])) _
                  refine XS.goto X44.here hx rfl (pc0 := 184) (pc' := 188) rfl (hb hby at_184) (by decide) (by decide) ?_
                  show Steps p.tables e below (T44.setTop (mkF m 188 #[.val (.int x0_0), .val (.long x0_1), .second, .val (.int x0_2), .val (.long x0_3), .second, .val (.int x0_4), .val (.int x0_5), .val (.int v12), .val (.long v27), .second, .val (.ref (f1 x0_4 w_IR w_R w_U w_IW w_W)), .val (.ref (f1 ((x0_4.toUInt32 >>> ((8 : Int32) &&& 31).toUInt32).toInt32) w_IR w_R w_U w_IW w_W)), .val (.ref b13), .val (.ref b16), .val (.int (1 : Int32)), .val (.int v119)] [(.int (1 : Int32))])) _
                  exact retN X44 hx (t := .boolean) Bd.returns (by simp) (hb hby at_188) hr
                · show Q0 Z x0_0 x0_1 x0_2 x0_3 x0_4 x0_5 w_IR w_R w_U w_IW w_W cA cl h0 n0 _ T44.heap _
                  rw [e44]
                  exact ⟨rfl, N44⟩
              · have c46 := (Exa.keep (Exa.ext E16 Ex14) K17)
                have c47 := (Fld.keep (Fld.ext E16 Fq14_peer) K17 (ninS ne_b13_b16 nin0))
                have c48 := (Fld.keep (Fld.ext E16 Fq14_ticket) K17 (ninS ne_b13_b16 nin0))
                have c49 := (Fld.keep (Fld.ext E16 Fq14_mode) K17 (ninS ne_b13_b16 nin0))
                have sg51 : ∀ t, Steps p.tables e below (T17.setTop (mkF m 193 #[.val (.int x0_0), .val (.long x0_1), .second, .val (.int x0_2), .val (.long x0_3), .second, .val (.int x0_4), .val (.int x0_5), .val (.int v12), .val (.long v27), .second, .val (.ref (f1 x0_4 w_IR w_R w_U w_IW w_W)), .val (.ref (f1 ((x0_4.toUInt32 >>> ((8 : Int32) &&& 31).toUInt32).toInt32) w_IR w_R w_U w_IW w_W)), .val (.ref b13), .val (.ref b16), .val (.int (1 : Int32)), .val (.int v119)] [(.ref b13), (.ref b16)])) t → Steps p.tables e below (T17.setTop (mkF m 168 #[.val (.int x0_0), .val (.long x0_1), .second, .val (.int x0_2), .val (.long x0_3), .second, .val (.int x0_4), .val (.int x0_5), .val (.int v12), .val (.long v27), .second, .val (.ref (f1 x0_4 w_IR w_R w_U w_IW w_W)), .val (.ref (f1 ((x0_4.toUInt32 >>> ((8 : Int32) &&& 31).toUInt32).toInt32) w_IR w_R w_U w_IW w_W)), .val (.ref b13), .val (.ref b16), .val (.int (1 : Int32)), .val (.int v119)] [(.int (2 : Int32)), (.int v119)])) t := fun t kt => by
                  show Steps p.tables e below (T17.setTop (mkF m 168 #[.val (.int x0_0), .val (.long x0_1), .second, .val (.int x0_2), .val (.long x0_3), .second, .val (.int x0_4), .val (.int x0_5), .val (.int v12), .val (.long v27), .second, .val (.ref (f1 x0_4 w_IR w_R w_U w_IW w_W)), .val (.ref (f1 ((x0_4.toUInt32 >>> ((8 : Int32) &&& 31).toUInt32).toInt32) w_IR w_R w_U w_IW w_W)), .val (.ref b13), .val (.ref b16), .val (.int (1 : Int32)), .val (.int v119)] [(.int (2 : Int32)), (.int v119)])) _
                  refine XS.icmpYes Xr17.here hx rfl (pc0 := 168) (pc' := 189) rfl (hb hby at_168) rfl (feq hc168_40).2 (by decide) (by decide) ?_
                  show Steps p.tables e below (T17.setTop (mkF m 189 #[.val (.int x0_0), .val (.long x0_1), .second, .val (.int x0_2), .val (.long x0_3), .second, .val (.int x0_4), .val (.int x0_5), .val (.int v12), .val (.long v27), .second, .val (.ref (f1 x0_4 w_IR w_R w_U w_IW w_W)), .val (.ref (f1 ((x0_4.toUInt32 >>> ((8 : Int32) &&& 31).toUInt32).toInt32) w_IR w_R w_U w_IW w_W)), .val (.ref b13), .val (.ref b16), .val (.int (1 : Int32)), .val (.int v119)] [])) _
                  refine XS.aload Xr17.here hx rfl (hb hby at_189) rfl rfl ?_
                  show Steps p.tables e below (T17.setTop (mkF m 191 #[.val (.int x0_0), .val (.long x0_1), .second, .val (.int x0_2), .val (.long x0_3), .second, .val (.int x0_4), .val (.int x0_5), .val (.int v12), .val (.long v27), .second, .val (.ref (f1 x0_4 w_IR w_R w_U w_IW w_W)), .val (.ref (f1 ((x0_4.toUInt32 >>> ((8 : Int32) &&& 31).toUInt32).toInt32) w_IR w_R w_U w_IW w_W)), .val (.ref b13), .val (.ref b16), .val (.int (1 : Int32)), .val (.int v119)] [(.ref b16)])) _
                  refine XS.aload Xr17.here hx rfl (hb hby at_191) rfl rfl ?_
                  exact kt
                obtain ⟨cq50, kq50, q50a, q50b, q50c⟩ := isOf hZ rfl Ex17
                obtain ⟨v50, _, ⟨T50, L50, k50, n50⟩, -, X50, ⟨Lc50, hQ50, l50, y50, z50⟩, st50⟩ := Xr17.virtualBack hx (y := (⟨"com/example/libdmutex/libdmutex/core/TokenTree$Token$Queued", "equals", "(Ljava/lang/Object;)Z"⟩ : MethodName)) (z := (⟨"com/example/libdmutex/libdmutex/core/TokenTree$Token$Queued", "equals", "(Ljava/lang/Object;)Z"⟩ : MethodName)) hown (mvT hZ (hw _ (List.mem_of_getElem? (i := 39) rfl))) (mvT hZ (hw _ (List.mem_of_getElem? (i := 40) rfl))) (notFace_of_selects (args := #[]) (mvT hZ (hw _ (List.mem_of_getElem? (i := 42) rfl)))) (mvT hZ (hw _ (List.mem_of_getElem? (i := 42) rfl))) (mvT hZ (hw _ (List.mem_of_getElem? (i := 41) rfl))) (by decide) (backOf (W := 0) (rm5o l Z a0 hw [] b16 b13 v12 v27 (f1 ((x0_4.toUInt32 >>> ((8 : Int32) &&& 31).toUInt32).toInt32) w_IR w_R w_U w_IW w_W) x0_0 x0_1 (f1 x0_4 w_IR w_R w_U w_IW w_W) T17.heap n0 Zs17 Ex17 c46 Fq17_peer Fq17_ticket Fq17_mode c47 c48 c49) hZ (hw _ (List.mem_of_getElem? (i := 43) rfl)) (hw _ (List.mem_of_getElem? (i := 12) rfl)) (by decide) (by decide)) q50a q50c (g := (mkF m 193 #[.val (.int x0_0), .val (.long x0_1), .second, .val (.int x0_2), .val (.long x0_3), .second, .val (.int x0_4), .val (.int x0_5), .val (.int v12), .val (.long v27), .second, .val (.ref (f1 x0_4 w_IR w_R w_U w_IW w_W)), .val (.ref (f1 ((x0_4.toUInt32 >>> ((8 : Int32) &&& 31).toUInt32).toInt32) w_IR w_R w_U w_IW w_W)), .val (.ref b13), .val (.ref b16), .val (.int (1 : Int32)), .val (.int v119)] [(.ref b13), (.ref b16)])) rfl (by rw [hml]; rfl) (Steps.refl _) (argsL := [(.ref b13)]) (rest := []) (lenOf pd_5 rfl) rfl (by show 2 * 0 + _ ≤ _; exact Nat.le_of_eq rfl) (hb hby at_193) (fun _ _ => ⟨rfl, rfl, (by decide : 6 + 0 ≤ _), (by decide : 46 + 0 ≤ _)⟩)
                dsimp only [Pt.U, Pt.locs, Pt.cells, Pt.slots] at X50 l50 y50 z50 st50 hQ50
                subst l50 y50 z50
                obtain ⟨hv50, N50q, e50⟩ := hQ50
                have N50 := Fr.app N17 N50q
                have hf50 : f5o b16 b13 v12 v27 (f1 ((x0_4.toUInt32 >>> ((8 : Int32) &&& 31).toUInt32).toInt32) w_IR w_R w_U w_IW w_W) x0_0 x0_1 (f1 x0_4 w_IR w_R w_U w_IW w_W) = (1 : Int32) := by unfold f5o; rw [if_pos (Eq.symm hc89_20), if_pos (Eq.symm hc96_22), if_pos (Eq.symm hc103_24)]
                rw [hf50] at hv50
                subst hv50
                obtain ⟨fs, hr, hrun, hended, hRW⟩ := Stand.leaveW (s := s) (vm₁ := T17.vm) X50 hS17 (by rw [e50]; exact hk17) (v := some (.int (1 : Int32))) (fun h => by rw [Bd.returns] at h; cases h)
                refine ⟨_, _, pre0 _ (sg1 _ (sg2 _ (sg3 _ (sg4 _ (sg5 _ (sg6 _ (sg8 _ (sg9 _ (sg12 _ (sg15 _ (sg18 _ (sg19 _ (sg21 _ (sg23 _ (sg25 _ (sg26 _ (sg34 _ (sg39 _ (sg51 _ ?_))))))))))))))))))), hrun, hended, _, _, rfl, ?_, hRW.1, hRW.2.1, hRW.2.2.1, hRW.2.2.2.mono (by decide) (by decide)⟩
                · show Steps p.tables e below (T17.setTop (mkF m 193 #[.val (.int x0_0), .val (.long x0_1), .second, .val (.int x0_2), .val (.long x0_3), .second, .val (.int x0_4), .val (.int x0_5), .val (.int v12), .val (.long v27), .second, .val (.ref (f1 x0_4 w_IR w_R w_U w_IW w_W)), .val (.ref (f1 ((x0_4.toUInt32 >>> ((8 : Int32) &&& 31).toUInt32).toInt32) w_IR w_R w_U w_IW w_W)), .val (.ref b13), .val (.ref b16), .val (.int (1 : Int32)), .val (.int v119)] [(.ref b13), (.ref b16)])) _
                  refine st50.trans ?_
                  show Steps p.tables e below (T50.setTop (mkF m 196 #[.val (.int x0_0), .val (.long x0_1), .second, .val (.int x0_2), .val (.long x0_3), .second, .val (.int x0_4), .val (.int x0_5), .val (.int v12), .val (.long v27), .second, .val (.ref (f1 x0_4 w_IR w_R w_U w_IW w_W)), .val (.ref (f1 ((x0_4.toUInt32 >>> ((8 : Int32) &&& 31).toUInt32).toInt32) w_IR w_R w_U w_IW w_W)), .val (.ref b13), .val (.ref b16), .val (.int (1 : Int32)), .val (.int v119)] [(.int (1 : Int32))])) _
                  refine XS.iload X50.here hx rfl (hb hby at_196) rfl ?_
                  show Steps p.tables e below (T50.setTop (mkF m 198 #[.val (.int x0_0), .val (.long x0_1), .second, .val (.int x0_2), .val (.long x0_3), .second, .val (.int x0_4), .val (.int x0_5), .val (.int v12), .val (.long v27), .second, .val (.ref (f1 x0_4 w_IR w_R w_U w_IW w_W)), .val (.ref (f1 ((x0_4.toUInt32 >>> ((8 : Int32) &&& 31).toUInt32).toInt32) w_IR w_R w_U w_IW w_W)), .val (.ref b13), .val (.ref b16), .val (.int (1 : Int32)), .val (.int v119)] [(.int (1 : Int32)), (.int (1 : Int32))])) _
                  refine XS.icmpNo X50.here hx rfl (hb hby at_198) rfl (teq (by decide : ((1 : Int32) = (1 : Int32)))).2 ?_
                  show Steps p.tables e below (T50.setTop (mkF m 201 #[.val (.int x0_0), .val (.long x0_1), .second, .val (.int x0_2), .val (.long x0_3), .second, .val (.int x0_4), .val (.int x0_5), .val (.int v12), .val (.long v27), .second, .val (.ref (f1 x0_4 w_IR w_R w_U w_IW w_W)), .val (.ref (f1 ((x0_4.toUInt32 >>> ((8 : Int32) &&& 31).toUInt32).toInt32) w_IR w_R w_U w_IW w_W)), .val (.ref b13), .val (.ref b16), .val (.int (1 : Int32)), .val (.int v119)] [])) _
                  refine XS.iconst X50.here hx rfl (hb hby at_201) ?_
                  show Steps p.tables e below (T50.setTop (mkF m 202 #[.val (.int x0_0), .val (.long x0_1), .second, .val (.int x0_2), .val (.long x0_3), .second, .val (.int x0_4), .val (.int x0_5), .val (.int v12), .val (.long v27), .second, .val (.ref (f1 x0_4 w_IR w_R w_U w_IW w_W)), .val (.ref (f1 ((x0_4.toUInt32 >>> ((8 : Int32) &&& 31).toUInt32).toInt32) w_IR w_R w_U w_IW w_W)), .val (.ref b13), .val (.ref b16), .val (.int (1 : Int32)), .val (.int v119)] [(.int (1 : Int32))])) _
                  refine XS.goto X50.here hx rfl (pc0 := 202) (pc' := 206) rfl (hb hby at_202) (by decide) (by decide) ?_
                  show Steps p.tables e below (T50.setTop (mkF m 206 #[.val (.int x0_0), .val (.long x0_1), .second, .val (.int x0_2), .val (.long x0_3), .second, .val (.int x0_4), .val (.int x0_5), .val (.int v12), .val (.long v27), .second, .val (.ref (f1 x0_4 w_IR w_R w_U w_IW w_W)), .val (.ref (f1 ((x0_4.toUInt32 >>> ((8 : Int32) &&& 31).toUInt32).toInt32) w_IR w_R w_U w_IW w_W)), .val (.ref b13), .val (.ref b16), .val (.int (1 : Int32)), .val (.int v119)] [(.int (1 : Int32))])) _
                  exact retN X50 hx (t := .boolean) Bd.returns (by simp) (hb hby at_206) hr
                · show Q0 Z x0_0 x0_1 x0_2 x0_3 x0_4 x0_5 w_IR w_R w_U w_IW w_W cA cl h0 n0 _ T50.heap _
                  rw [e50]
                  exact ⟨rfl, N50⟩
        · have sg52 : ∀ t, Steps p.tables e below (T17.setTop (mkF m 121 #[.val (.int x0_0), .val (.long x0_1), .second, .val (.int x0_2), .val (.long x0_3), .second, .val (.int x0_4), .val (.int x0_5), .val (.int v12), .val (.long v27), .second, .val (.ref (f1 x0_4 w_IR w_R w_U w_IW w_W)), .val (.ref (f1 ((x0_4.toUInt32 >>> ((8 : Int32) &&& 31).toUInt32).toInt32) w_IR w_R w_U w_IW w_W)), .val (.ref b13), .val (.ref b16), .val (.int (0 : Int32)), .val (.int (((x0_5.toUInt32 >>> ((3 : Int32) &&& 31).toUInt32).toInt32) &&& (3 : Int32)))] [])) t → Steps p.tables e below (T17.setTop (mkF m 103 #[.val (.int x0_0), .val (.long x0_1), .second, .val (.int x0_2), .val (.long x0_3), .second, .val (.int x0_4), .val (.int x0_5), .val (.int v12), .val (.long v27), .second, .val (.ref (f1 x0_4 w_IR w_R w_U w_IW w_W)), .val (.ref (f1 ((x0_4.toUInt32 >>> ((8 : Int32) &&& 31).toUInt32).toInt32) w_IR w_R w_U w_IW w_W)), .val (.ref b13), .val (.ref b16), .unset, .unset] [(.ref (f1 ((x0_4.toUInt32 >>> ((8 : Int32) &&& 31).toUInt32).toInt32) w_IR w_R w_U w_IW w_W)), (.ref (f1 x0_4 w_IR w_R w_U w_IW w_W))])) t := fun t kt => by
            show Steps p.tables e below (T17.setTop (mkF m 103 #[.val (.int x0_0), .val (.long x0_1), .second, .val (.int x0_2), .val (.long x0_3), .second, .val (.int x0_4), .val (.int x0_5), .val (.int v12), .val (.long v27), .second, .val (.ref (f1 x0_4 w_IR w_R w_U w_IW w_W)), .val (.ref (f1 ((x0_4.toUInt32 >>> ((8 : Int32) &&& 31).toUInt32).toInt32) w_IR w_R w_U w_IW w_W)), .val (.ref b13), .val (.ref b16), .unset, .unset] [(.ref (f1 ((x0_4.toUInt32 >>> ((8 : Int32) &&& 31).toUInt32).toInt32) w_IR w_R w_U w_IW w_W)), (.ref (f1 x0_4 w_IR w_R w_U w_IW w_W))])) _
            refine Jvm.RoadKit.acmp (g := (mkF m 103 #[.val (.int x0_0), .val (.long x0_1), .second, .val (.int x0_2), .val (.long x0_3), .second, .val (.int x0_4), .val (.int x0_5), .val (.int v12), .val (.long v27), .second, .val (.ref (f1 x0_4 w_IR w_R w_U w_IW w_W)), .val (.ref (f1 ((x0_4.toUInt32 >>> ((8 : Int32) &&& 31).toUInt32).toInt32) w_IR w_R w_U w_IW w_W)), .val (.ref b13), .val (.ref b16), .unset, .unset] [(.ref (f1 ((x0_4.toUInt32 >>> ((8 : Int32) &&& 31).toUInt32).toInt32) w_IR w_R w_U w_IW w_W)), (.ref (f1 x0_4 w_IR w_R w_U w_IW w_W))])) Xr17 hx rfl rfl rfl (pc0 := 103) (pc' := 110) (same := false) rfl (hb hby at_103) rfl (decide_eq_false fun q => hc103_24 (Value.ref.inj q)) (by decide) (by decide) ?_
            show Steps p.tables e below (T17.setTop (mkF m 110 #[.val (.int x0_0), .val (.long x0_1), .second, .val (.int x0_2), .val (.long x0_3), .second, .val (.int x0_4), .val (.int x0_5), .val (.int v12), .val (.long v27), .second, .val (.ref (f1 x0_4 w_IR w_R w_U w_IW w_W)), .val (.ref (f1 ((x0_4.toUInt32 >>> ((8 : Int32) &&& 31).toUInt32).toInt32) w_IR w_R w_U w_IW w_W)), .val (.ref b13), .val (.ref b16), .unset, .unset] [])) _
            refine XS.iconst Xr17.here hx rfl (hb hby at_110) ?_
            show Steps p.tables e below (T17.setTop (mkF m 111 #[.val (.int x0_0), .val (.long x0_1), .second, .val (.int x0_2), .val (.long x0_3), .second, .val (.int x0_4), .val (.int x0_5), .val (.int v12), .val (.long v27), .second, .val (.ref (f1 x0_4 w_IR w_R w_U w_IW w_W)), .val (.ref (f1 ((x0_4.toUInt32 >>> ((8 : Int32) &&& 31).toUInt32).toInt32) w_IR w_R w_U w_IW w_W)), .val (.ref b13), .val (.ref b16), .unset, .unset] [(.int (0 : Int32))])) _
            refine XS.istore Xr17.here hx rfl (hb hby at_111) rfl (l' := #[.val (.int x0_0), .val (.long x0_1), .second, .val (.int x0_2), .val (.long x0_3), .second, .val (.int x0_4), .val (.int x0_5), .val (.int v12), .val (.long v27), .second, .val (.ref (f1 x0_4 w_IR w_R w_U w_IW w_W)), .val (.ref (f1 ((x0_4.toUInt32 >>> ((8 : Int32) &&& 31).toUInt32).toInt32) w_IR w_R w_U w_IW w_W)), .val (.ref b13), .val (.ref b16), .val (.int (0 : Int32)), .unset]) rfl ?_
            show Steps p.tables e below (T17.setTop (mkF m 113 #[.val (.int x0_0), .val (.long x0_1), .second, .val (.int x0_2), .val (.long x0_3), .second, .val (.int x0_4), .val (.int x0_5), .val (.int v12), .val (.long v27), .second, .val (.ref (f1 x0_4 w_IR w_R w_U w_IW w_W)), .val (.ref (f1 ((x0_4.toUInt32 >>> ((8 : Int32) &&& 31).toUInt32).toInt32) w_IR w_R w_U w_IW w_W)), .val (.ref b13), .val (.ref b16), .val (.int (0 : Int32)), .unset] [])) _
            refine XS.iload Xr17.here hx rfl (hb hby at_113) rfl ?_
            show Steps p.tables e below (T17.setTop (mkF m 115 #[.val (.int x0_0), .val (.long x0_1), .second, .val (.int x0_2), .val (.long x0_3), .second, .val (.int x0_4), .val (.int x0_5), .val (.int v12), .val (.long v27), .second, .val (.ref (f1 x0_4 w_IR w_R w_U w_IW w_W)), .val (.ref (f1 ((x0_4.toUInt32 >>> ((8 : Int32) &&& 31).toUInt32).toInt32) w_IR w_R w_U w_IW w_W)), .val (.ref b13), .val (.ref b16), .val (.int (0 : Int32)), .unset] [(.int x0_5)])) _
            refine XS.iconst Xr17.here hx rfl (hb hby at_115) ?_
            show Steps p.tables e below (T17.setTop (mkF m 116 #[.val (.int x0_0), .val (.long x0_1), .second, .val (.int x0_2), .val (.long x0_3), .second, .val (.int x0_4), .val (.int x0_5), .val (.int v12), .val (.long v27), .second, .val (.ref (f1 x0_4 w_IR w_R w_U w_IW w_W)), .val (.ref (f1 ((x0_4.toUInt32 >>> ((8 : Int32) &&& 31).toUInt32).toInt32) w_IR w_R w_U w_IW w_W)), .val (.ref b13), .val (.ref b16), .val (.int (0 : Int32)), .unset] [(.int (3 : Int32)), (.int x0_5)])) _
            refine XS.iushr Xr17.here hx rfl (hb hby at_116) rfl ?_
            show Steps p.tables e below (T17.setTop (mkF m 117 #[.val (.int x0_0), .val (.long x0_1), .second, .val (.int x0_2), .val (.long x0_3), .second, .val (.int x0_4), .val (.int x0_5), .val (.int v12), .val (.long v27), .second, .val (.ref (f1 x0_4 w_IR w_R w_U w_IW w_W)), .val (.ref (f1 ((x0_4.toUInt32 >>> ((8 : Int32) &&& 31).toUInt32).toInt32) w_IR w_R w_U w_IW w_W)), .val (.ref b13), .val (.ref b16), .val (.int (0 : Int32)), .unset] [(.int ((x0_5.toUInt32 >>> ((3 : Int32) &&& 31).toUInt32).toInt32))])) _
            refine XS.iconst Xr17.here hx rfl (hb hby at_117) ?_
            show Steps p.tables e below (T17.setTop (mkF m 118 #[.val (.int x0_0), .val (.long x0_1), .second, .val (.int x0_2), .val (.long x0_3), .second, .val (.int x0_4), .val (.int x0_5), .val (.int v12), .val (.long v27), .second, .val (.ref (f1 x0_4 w_IR w_R w_U w_IW w_W)), .val (.ref (f1 ((x0_4.toUInt32 >>> ((8 : Int32) &&& 31).toUInt32).toInt32) w_IR w_R w_U w_IW w_W)), .val (.ref b13), .val (.ref b16), .val (.int (0 : Int32)), .unset] [(.int (3 : Int32)), (.int ((x0_5.toUInt32 >>> ((3 : Int32) &&& 31).toUInt32).toInt32))])) _
            refine XS.iand Xr17.here hx rfl (hb hby at_118) rfl ?_
            show Steps p.tables e below (T17.setTop (mkF m 119 #[.val (.int x0_0), .val (.long x0_1), .second, .val (.int x0_2), .val (.long x0_3), .second, .val (.int x0_4), .val (.int x0_5), .val (.int v12), .val (.long v27), .second, .val (.ref (f1 x0_4 w_IR w_R w_U w_IW w_W)), .val (.ref (f1 ((x0_4.toUInt32 >>> ((8 : Int32) &&& 31).toUInt32).toInt32) w_IR w_R w_U w_IW w_W)), .val (.ref b13), .val (.ref b16), .val (.int (0 : Int32)), .unset] [(.int (((x0_5.toUInt32 >>> ((3 : Int32) &&& 31).toUInt32).toInt32) &&& (3 : Int32)))])) _
            refine XS.istore Xr17.here hx rfl (hb hby at_119) rfl (l' := #[.val (.int x0_0), .val (.long x0_1), .second, .val (.int x0_2), .val (.long x0_3), .second, .val (.int x0_4), .val (.int x0_5), .val (.int v12), .val (.long v27), .second, .val (.ref (f1 x0_4 w_IR w_R w_U w_IW w_W)), .val (.ref (f1 ((x0_4.toUInt32 >>> ((8 : Int32) &&& 31).toUInt32).toInt32) w_IR w_R w_U w_IW w_W)), .val (.ref b13), .val (.ref b16), .val (.int (0 : Int32)), .val (.int (((x0_5.toUInt32 >>> ((3 : Int32) &&& 31).toUInt32).toInt32) &&& (3 : Int32)))]) rfl ?_
            exact kt
          obtain ⟨v119, hv119⟩ : ∃ z, z = (((x0_5.toUInt32 >>> ((3 : Int32) &&& 31).toUInt32).toInt32) &&& (3 : Int32)) := ⟨_, rfl⟩
          rw [← hv119] at sg52
          have sg53 : ∀ t, Steps p.tables e below (T17.setTop (mkF m 123 #[.val (.int x0_0), .val (.long x0_1), .second, .val (.int x0_2), .val (.long x0_3), .second, .val (.int x0_4), .val (.int x0_5), .val (.int v12), .val (.long v27), .second, .val (.ref (f1 x0_4 w_IR w_R w_U w_IW w_W)), .val (.ref (f1 ((x0_4.toUInt32 >>> ((8 : Int32) &&& 31).toUInt32).toInt32) w_IR w_R w_U w_IW w_W)), .val (.ref b13), .val (.ref b16), .val (.int (0 : Int32)), .val (.int v119)] [(.int v119)])) t → Steps p.tables e below (T17.setTop (mkF m 121 #[.val (.int x0_0), .val (.long x0_1), .second, .val (.int x0_2), .val (.long x0_3), .second, .val (.int x0_4), .val (.int x0_5), .val (.int v12), .val (.long v27), .second, .val (.ref (f1 x0_4 w_IR w_R w_U w_IW w_W)), .val (.ref (f1 ((x0_4.toUInt32 >>> ((8 : Int32) &&& 31).toUInt32).toInt32) w_IR w_R w_U w_IW w_W)), .val (.ref b13), .val (.ref b16), .val (.int (0 : Int32)), .val (.int v119)] [])) t := fun t kt => by
            show Steps p.tables e below (T17.setTop (mkF m 121 #[.val (.int x0_0), .val (.long x0_1), .second, .val (.int x0_2), .val (.long x0_3), .second, .val (.int x0_4), .val (.int x0_5), .val (.int v12), .val (.long v27), .second, .val (.ref (f1 x0_4 w_IR w_R w_U w_IW w_W)), .val (.ref (f1 ((x0_4.toUInt32 >>> ((8 : Int32) &&& 31).toUInt32).toInt32) w_IR w_R w_U w_IW w_W)), .val (.ref b13), .val (.ref b16), .val (.int (0 : Int32)), .val (.int v119)] [])) _
            refine XS.iload Xr17.here hx rfl (hb hby at_121) rfl ?_
            exact kt
          by_cases hc123_54 : v119 = (0 : Int32)
          · have c55 := (Exa.keep (Exa.ext E16 Ex14) K17)
            have c56 := (Fld.keep (Fld.ext E16 Fq14_peer) K17 (ninS ne_b13_b16 nin0))
            have c57 := (Fld.keep (Fld.ext E16 Fq14_ticket) K17 (ninS ne_b13_b16 nin0))
            have c58 := (Fld.keep (Fld.ext E16 Fq14_mode) K17 (ninS ne_b13_b16 nin0))
            have sg60 : ∀ t, Steps p.tables e below (T17.setTop (mkF m 130 #[.val (.int x0_0), .val (.long x0_1), .second, .val (.int x0_2), .val (.long x0_3), .second, .val (.int x0_4), .val (.int x0_5), .val (.int v12), .val (.long v27), .second, .val (.ref (f1 x0_4 w_IR w_R w_U w_IW w_W)), .val (.ref (f1 ((x0_4.toUInt32 >>> ((8 : Int32) &&& 31).toUInt32).toInt32) w_IR w_R w_U w_IW w_W)), .val (.ref b13), .val (.ref b16), .val (.int (0 : Int32)), .val (.int v119)] [(.ref b16), (.ref b13)])) t → Steps p.tables e below (T17.setTop (mkF m 123 #[.val (.int x0_0), .val (.long x0_1), .second, .val (.int x0_2), .val (.long x0_3), .second, .val (.int x0_4), .val (.int x0_5), .val (.int v12), .val (.long v27), .second, .val (.ref (f1 x0_4 w_IR w_R w_U w_IW w_W)), .val (.ref (f1 ((x0_4.toUInt32 >>> ((8 : Int32) &&& 31).toUInt32).toInt32) w_IR w_R w_U w_IW w_W)), .val (.ref b13), .val (.ref b16), .val (.int (0 : Int32)), .val (.int v119)] [(.int v119)])) t := fun t kt => by
              show Steps p.tables e below (T17.setTop (mkF m 123 #[.val (.int x0_0), .val (.long x0_1), .second, .val (.int x0_2), .val (.long x0_3), .second, .val (.int x0_4), .val (.int x0_5), .val (.int v12), .val (.long v27), .second, .val (.ref (f1 x0_4 w_IR w_R w_U w_IW w_W)), .val (.ref (f1 ((x0_4.toUInt32 >>> ((8 : Int32) &&& 31).toUInt32).toInt32) w_IR w_R w_U w_IW w_W)), .val (.ref b13), .val (.ref b16), .val (.int (0 : Int32)), .val (.int v119)] [(.int v119)])) _
              refine XS.ifNo Xr17.here hx rfl (hb hby at_123) rfl ((if0 _ _).trans (teq hc123_54).2) ?_
              show Steps p.tables e below (T17.setTop (mkF m 126 #[.val (.int x0_0), .val (.long x0_1), .second, .val (.int x0_2), .val (.long x0_3), .second, .val (.int x0_4), .val (.int x0_5), .val (.int v12), .val (.long v27), .second, .val (.ref (f1 x0_4 w_IR w_R w_U w_IW w_W)), .val (.ref (f1 ((x0_4.toUInt32 >>> ((8 : Int32) &&& 31).toUInt32).toInt32) w_IR w_R w_U w_IW w_W)), .val (.ref b13), .val (.ref b16), .val (.int (0 : Int32)), .val (.int v119)] [])) _
              refine XS.aload Xr17.here hx rfl (hb hby at_126) rfl rfl ?_
              show Steps p.tables e below (T17.setTop (mkF m 128 #[.val (.int x0_0), .val (.long x0_1), .second, .val (.int x0_2), .val (.long x0_3), .second, .val (.int x0_4), .val (.int x0_5), .val (.int v12), .val (.long v27), .second, .val (.ref (f1 x0_4 w_IR w_R w_U w_IW w_W)), .val (.ref (f1 ((x0_4.toUInt32 >>> ((8 : Int32) &&& 31).toUInt32).toInt32) w_IR w_R w_U w_IW w_W)), .val (.ref b13), .val (.ref b16), .val (.int (0 : Int32)), .val (.int v119)] [(.ref b13)])) _
              refine XS.aload Xr17.here hx rfl (hb hby at_128) rfl rfl ?_
              exact kt
            obtain ⟨cq59, kq59, q59a, q59b, q59c⟩ := isOf hZ rfl c55
            obtain ⟨v59, _, ⟨T59, L59, k59, n59⟩, -, X59, ⟨Lc59, hQ59, l59, y59, z59⟩, st59⟩ := Xr17.virtualBack hx (y := (⟨"com/example/libdmutex/libdmutex/core/TokenTree$Token$Queued", "equals", "(Ljava/lang/Object;)Z"⟩ : MethodName)) (z := (⟨"com/example/libdmutex/libdmutex/core/TokenTree$Token$Queued", "equals", "(Ljava/lang/Object;)Z"⟩ : MethodName)) hown (mvT hZ (hw _ (List.mem_of_getElem? (i := 39) rfl))) (mvT hZ (hw _ (List.mem_of_getElem? (i := 40) rfl))) (notFace_of_selects (args := #[]) (mvT hZ (hw _ (List.mem_of_getElem? (i := 42) rfl)))) (mvT hZ (hw _ (List.mem_of_getElem? (i := 42) rfl))) (mvT hZ (hw _ (List.mem_of_getElem? (i := 41) rfl))) (by decide) (backOf (W := 0) (rm5o l Z a0 hw [] b13 b16 x0_0 x0_1 (f1 x0_4 w_IR w_R w_U w_IW w_W) v12 v27 (f1 ((x0_4.toUInt32 >>> ((8 : Int32) &&& 31).toUInt32).toInt32) w_IR w_R w_U w_IW w_W) T17.heap n0 Zs17 c55 Ex17 c56 c57 c58 Fq17_peer Fq17_ticket Fq17_mode) hZ (hw _ (List.mem_of_getElem? (i := 43) rfl)) (hw _ (List.mem_of_getElem? (i := 12) rfl)) (by decide) (by decide)) q59a q59c (g := (mkF m 130 #[.val (.int x0_0), .val (.long x0_1), .second, .val (.int x0_2), .val (.long x0_3), .second, .val (.int x0_4), .val (.int x0_5), .val (.int v12), .val (.long v27), .second, .val (.ref (f1 x0_4 w_IR w_R w_U w_IW w_W)), .val (.ref (f1 ((x0_4.toUInt32 >>> ((8 : Int32) &&& 31).toUInt32).toInt32) w_IR w_R w_U w_IW w_W)), .val (.ref b13), .val (.ref b16), .val (.int (0 : Int32)), .val (.int v119)] [(.ref b16), (.ref b13)])) rfl (by rw [hml]; rfl) (Steps.refl _) (argsL := [(.ref b16)]) (rest := []) (lenOf pd_5 rfl) rfl (by show 2 * 0 + _ ≤ _; exact Nat.le_of_eq rfl) (hb hby at_130) (fun _ _ => ⟨rfl, rfl, (by decide : 6 + 0 ≤ _), (by decide : 46 + 0 ≤ _)⟩)
            dsimp only [Pt.U, Pt.locs, Pt.cells, Pt.slots] at X59 l59 y59 z59 st59 hQ59
            subst l59 y59 z59
            obtain ⟨hv59, N59q, e59⟩ := hQ59
            have N59 := Fr.app N17 N59q
            have hf59 : f5o b13 b16 x0_0 x0_1 (f1 x0_4 w_IR w_R w_U w_IW w_W) v12 v27 (f1 ((x0_4.toUInt32 >>> ((8 : Int32) &&& 31).toUInt32).toInt32) w_IR w_R w_U w_IW w_W) = (0 : Int32) := by unfold f5o; rw [if_pos hc89_20, if_pos hc96_22, if_neg hc103_24]
            rw [hf59] at hv59
            subst hv59
            obtain ⟨fs, hr, hrun, hended, hRW⟩ := Stand.leaveW (s := s) (vm₁ := T17.vm) X59 hS17 (by rw [e59]; exact hk17) (v := some (.int (1 : Int32))) (fun h => by rw [Bd.returns] at h; cases h)
            refine ⟨_, _, pre0 _ (sg1 _ (sg2 _ (sg3 _ (sg4 _ (sg5 _ (sg6 _ (sg8 _ (sg9 _ (sg12 _ (sg15 _ (sg18 _ (sg19 _ (sg21 _ (sg23 _ (sg52 _ (sg53 _ (sg60 _ ?_))))))))))))))))), hrun, hended, _, _, rfl, ?_, hRW.1, hRW.2.1, hRW.2.2.1, hRW.2.2.2.mono (by decide) (by decide)⟩
            · show Steps p.tables e below (T17.setTop (mkF m 130 #[.val (.int x0_0), .val (.long x0_1), .second, .val (.int x0_2), .val (.long x0_3), .second, .val (.int x0_4), .val (.int x0_5), .val (.int v12), .val (.long v27), .second, .val (.ref (f1 x0_4 w_IR w_R w_U w_IW w_W)), .val (.ref (f1 ((x0_4.toUInt32 >>> ((8 : Int32) &&& 31).toUInt32).toInt32) w_IR w_R w_U w_IW w_W)), .val (.ref b13), .val (.ref b16), .val (.int (0 : Int32)), .val (.int v119)] [(.ref b16), (.ref b13)])) _
              refine st59.trans ?_
              show Steps p.tables e below (T59.setTop (mkF m 133 #[.val (.int x0_0), .val (.long x0_1), .second, .val (.int x0_2), .val (.long x0_3), .second, .val (.int x0_4), .val (.int x0_5), .val (.int v12), .val (.long v27), .second, .val (.ref (f1 x0_4 w_IR w_R w_U w_IW w_W)), .val (.ref (f1 ((x0_4.toUInt32 >>> ((8 : Int32) &&& 31).toUInt32).toInt32) w_IR w_R w_U w_IW w_W)), .val (.ref b13), .val (.ref b16), .val (.int (0 : Int32)), .val (.int v119)] [(.int (0 : Int32))])) _
              refine XS.iload X59.here hx rfl (hb hby at_133) rfl ?_
              show Steps p.tables e below (T59.setTop (mkF m 135 #[.val (.int x0_0), .val (.long x0_1), .second, .val (.int x0_2), .val (.long x0_3), .second, .val (.int x0_4), .val (.int x0_5), .val (.int v12), .val (.long v27), .second, .val (.ref (f1 x0_4 w_IR w_R w_U w_IW w_W)), .val (.ref (f1 ((x0_4.toUInt32 >>> ((8 : Int32) &&& 31).toUInt32).toInt32) w_IR w_R w_U w_IW w_W)), .val (.ref b13), .val (.ref b16), .val (.int (0 : Int32)), .val (.int v119)] [(.int (0 : Int32)), (.int (0 : Int32))])) _
              refine XS.icmpNo X59.here hx rfl (hb hby at_135) rfl (teq (by decide : ((0 : Int32) = (0 : Int32)))).2 ?_
              show Steps p.tables e below (T59.setTop (mkF m 138 #[.val (.int x0_0), .val (.long x0_1), .second, .val (.int x0_2), .val (.long x0_3), .second, .val (.int x0_4), .val (.int x0_5), .val (.int v12), .val (.long v27), .second, .val (.ref (f1 x0_4 w_IR w_R w_U w_IW w_W)), .val (.ref (f1 ((x0_4.toUInt32 >>> ((8 : Int32) &&& 31).toUInt32).toInt32) w_IR w_R w_U w_IW w_W)), .val (.ref b13), .val (.ref b16), .val (.int (0 : Int32)), .val (.int v119)] [])) _
              refine XS.iconst X59.here hx rfl (hb hby at_138) ?_
              show Steps p.tables e below (T59.setTop (mkF m 139 #[.val (.int x0_0), .val (.long x0_1), .second, .val (.int x0_2), .val (.long x0_3), .second, .val (.int x0_4), .val (.int x0_5), .val (.int v12), .val (.long v27), .second, .val (.ref (f1 x0_4 w_IR w_R w_U w_IW w_W)), .val (.ref (f1 ((x0_4.toUInt32 >>> ((8 : Int32) &&& 31).toUInt32).toInt32) w_IR w_R w_U w_IW w_W)), .val (.ref b13), .val (.ref b16), .val (.int (0 : Int32)), .val (.int v119)] [(.int (1 : Int32))])) _
              refine XS.goto X59.here hx rfl (pc0 := 139) (pc' := 143) rfl (hb hby at_139) (by decide) (by decide) ?_
              show Steps p.tables e below (T59.setTop (mkF m 143 #[.val (.int x0_0), .val (.long x0_1), .second, .val (.int x0_2), .val (.long x0_3), .second, .val (.int x0_4), .val (.int x0_5), .val (.int v12), .val (.long v27), .second, .val (.ref (f1 x0_4 w_IR w_R w_U w_IW w_W)), .val (.ref (f1 ((x0_4.toUInt32 >>> ((8 : Int32) &&& 31).toUInt32).toInt32) w_IR w_R w_U w_IW w_W)), .val (.ref b13), .val (.ref b16), .val (.int (0 : Int32)), .val (.int v119)] [(.int (1 : Int32))])) _
              exact retN X59 hx (t := .boolean) Bd.returns (by simp) (hb hby at_143) hr
            · show Q0 Z x0_0 x0_1 x0_2 x0_3 x0_4 x0_5 w_IR w_R w_U w_IW w_W cA cl h0 n0 _ T59.heap _
              rw [e59]
              exact ⟨rfl, N59⟩
          · have sg61 : ∀ t, Steps p.tables e below (T17.setTop (mkF m 147 #[.val (.int x0_0), .val (.long x0_1), .second, .val (.int x0_2), .val (.long x0_3), .second, .val (.int x0_4), .val (.int x0_5), .val (.int v12), .val (.long v27), .second, .val (.ref (f1 x0_4 w_IR w_R w_U w_IW w_W)), .val (.ref (f1 ((x0_4.toUInt32 >>> ((8 : Int32) &&& 31).toUInt32).toInt32) w_IR w_R w_U w_IW w_W)), .val (.ref b13), .val (.ref b16), .val (.int (0 : Int32)), .val (.int v119)] [(.int (1 : Int32)), (.int v119)])) t → Steps p.tables e below (T17.setTop (mkF m 123 #[.val (.int x0_0), .val (.long x0_1), .second, .val (.int x0_2), .val (.long x0_3), .second, .val (.int x0_4), .val (.int x0_5), .val (.int v12), .val (.long v27), .second, .val (.ref (f1 x0_4 w_IR w_R w_U w_IW w_W)), .val (.ref (f1 ((x0_4.toUInt32 >>> ((8 : Int32) &&& 31).toUInt32).toInt32) w_IR w_R w_U w_IW w_W)), .val (.ref b13), .val (.ref b16), .val (.int (0 : Int32)), .val (.int v119)] [(.int v119)])) t := fun t kt => by
              show Steps p.tables e below (T17.setTop (mkF m 123 #[.val (.int x0_0), .val (.long x0_1), .second, .val (.int x0_2), .val (.long x0_3), .second, .val (.int x0_4), .val (.int x0_5), .val (.int v12), .val (.long v27), .second, .val (.ref (f1 x0_4 w_IR w_R w_U w_IW w_W)), .val (.ref (f1 ((x0_4.toUInt32 >>> ((8 : Int32) &&& 31).toUInt32).toInt32) w_IR w_R w_U w_IW w_W)), .val (.ref b13), .val (.ref b16), .val (.int (0 : Int32)), .val (.int v119)] [(.int v119)])) _
              refine XS.ifYes Xr17.here hx rfl (pc0 := 123) (pc' := 144) rfl (hb hby at_123) rfl ((if0 _ _).trans (feq hc123_54).2) (by decide) (by decide) ?_
              show Steps p.tables e below (T17.setTop (mkF m 144 #[.val (.int x0_0), .val (.long x0_1), .second, .val (.int x0_2), .val (.long x0_3), .second, .val (.int x0_4), .val (.int x0_5), .val (.int v12), .val (.long v27), .second, .val (.ref (f1 x0_4 w_IR w_R w_U w_IW w_W)), .val (.ref (f1 ((x0_4.toUInt32 >>> ((8 : Int32) &&& 31).toUInt32).toInt32) w_IR w_R w_U w_IW w_W)), .val (.ref b13), .val (.ref b16), .val (.int (0 : Int32)), .val (.int v119)] [])) _
              refine XS.iload Xr17.here hx rfl (hb hby at_144) rfl ?_
              show Steps p.tables e below (T17.setTop (mkF m 146 #[.val (.int x0_0), .val (.long x0_1), .second, .val (.int x0_2), .val (.long x0_3), .second, .val (.int x0_4), .val (.int x0_5), .val (.int v12), .val (.long v27), .second, .val (.ref (f1 x0_4 w_IR w_R w_U w_IW w_W)), .val (.ref (f1 ((x0_4.toUInt32 >>> ((8 : Int32) &&& 31).toUInt32).toInt32) w_IR w_R w_U w_IW w_W)), .val (.ref b13), .val (.ref b16), .val (.int (0 : Int32)), .val (.int v119)] [(.int v119)])) _
              refine XS.iconst Xr17.here hx rfl (hb hby at_146) ?_
              exact kt
            by_cases hc147_62 : v119 = (1 : Int32)
            · have c63 := (Exa.keep (Exa.ext E16 Ex14) K17)
              have sg65 : ∀ t, Steps p.tables e below (T17.setTop (mkF m 153 #[.val (.int x0_0), .val (.long x0_1), .second, .val (.int x0_2), .val (.long x0_3), .second, .val (.int x0_4), .val (.int x0_5), .val (.int v12), .val (.long v27), .second, .val (.ref (f1 x0_4 w_IR w_R w_U w_IW w_W)), .val (.ref (f1 ((x0_4.toUInt32 >>> ((8 : Int32) &&& 31).toUInt32).toInt32) w_IR w_R w_U w_IW w_W)), .val (.ref b13), .val (.ref b16), .val (.int (0 : Int32)), .val (.int v119)] [.null, (.ref b13)])) t → Steps p.tables e below (T17.setTop (mkF m 147 #[.val (.int x0_0), .val (.long x0_1), .second, .val (.int x0_2), .val (.long x0_3), .second, .val (.int x0_4), .val (.int x0_5), .val (.int v12), .val (.long v27), .second, .val (.ref (f1 x0_4 w_IR w_R w_U w_IW w_W)), .val (.ref (f1 ((x0_4.toUInt32 >>> ((8 : Int32) &&& 31).toUInt32).toInt32) w_IR w_R w_U w_IW w_W)), .val (.ref b13), .val (.ref b16), .val (.int (0 : Int32)), .val (.int v119)] [(.int (1 : Int32)), (.int v119)])) t := fun t kt => by
                show Steps p.tables e below (T17.setTop (mkF m 147 #[.val (.int x0_0), .val (.long x0_1), .second, .val (.int x0_2), .val (.long x0_3), .second, .val (.int x0_4), .val (.int x0_5), .val (.int v12), .val (.long v27), .second, .val (.ref (f1 x0_4 w_IR w_R w_U w_IW w_W)), .val (.ref (f1 ((x0_4.toUInt32 >>> ((8 : Int32) &&& 31).toUInt32).toInt32) w_IR w_R w_U w_IW w_W)), .val (.ref b13), .val (.ref b16), .val (.int (0 : Int32)), .val (.int v119)] [(.int (1 : Int32)), (.int v119)])) _
                refine XS.icmpNo Xr17.here hx rfl (hb hby at_147) rfl (teq hc147_62).2 ?_
                show Steps p.tables e below (T17.setTop (mkF m 150 #[.val (.int x0_0), .val (.long x0_1), .second, .val (.int x0_2), .val (.long x0_3), .second, .val (.int x0_4), .val (.int x0_5), .val (.int v12), .val (.long v27), .second, .val (.ref (f1 x0_4 w_IR w_R w_U w_IW w_W)), .val (.ref (f1 ((x0_4.toUInt32 >>> ((8 : Int32) &&& 31).toUInt32).toInt32) w_IR w_R w_U w_IW w_W)), .val (.ref b13), .val (.ref b16), .val (.int (0 : Int32)), .val (.int v119)] [])) _
                refine XS.aload Xr17.here hx rfl (hb hby at_150) rfl rfl ?_
                show Steps p.tables e below (T17.setTop (mkF m 152 #[.val (.int x0_0), .val (.long x0_1), .second, .val (.int x0_2), .val (.long x0_3), .second, .val (.int x0_4), .val (.int x0_5), .val (.int v12), .val (.long v27), .second, .val (.ref (f1 x0_4 w_IR w_R w_U w_IW w_W)), .val (.ref (f1 ((x0_4.toUInt32 >>> ((8 : Int32) &&& 31).toUInt32).toInt32) w_IR w_R w_U w_IW w_W)), .val (.ref b13), .val (.ref b16), .val (.int (0 : Int32)), .val (.int v119)] [(.ref b13)])) _
                refine XS.aconstNull Xr17.here hx rfl (hb hby at_152) ?_
                exact kt
              obtain ⟨cq64, kq64, q64a, q64b, q64c⟩ := isOf hZ rfl c63
              obtain ⟨v64, _, ⟨T64, L64, k64, n64⟩, -, X64, ⟨Lc64, hQ64, l64, y64, z64⟩, st64⟩ := Xr17.virtualBack hx (y := (⟨"com/example/libdmutex/libdmutex/core/TokenTree$Token$Queued", "equals", "(Ljava/lang/Object;)Z"⟩ : MethodName)) (z := (⟨"com/example/libdmutex/libdmutex/core/TokenTree$Token$Queued", "equals", "(Ljava/lang/Object;)Z"⟩ : MethodName)) hown (mvT hZ (hw _ (List.mem_of_getElem? (i := 39) rfl))) (mvT hZ (hw _ (List.mem_of_getElem? (i := 40) rfl))) (notFace_of_selects (args := #[]) (mvT hZ (hw _ (List.mem_of_getElem? (i := 42) rfl)))) (mvT hZ (hw _ (List.mem_of_getElem? (i := 42) rfl))) (mvT hZ (hw _ (List.mem_of_getElem? (i := 41) rfl))) (by decide) (backOf (W := 0) (rm5n l Z a0 hw [] b13 T17.heap n0 Zs17 c63) hZ (hw _ (List.mem_of_getElem? (i := 43) rfl)) (hw _ (List.mem_of_getElem? (i := 12) rfl)) (by decide) (by decide)) q64a q64c (g := (mkF m 153 #[.val (.int x0_0), .val (.long x0_1), .second, .val (.int x0_2), .val (.long x0_3), .second, .val (.int x0_4), .val (.int x0_5), .val (.int v12), .val (.long v27), .second, .val (.ref (f1 x0_4 w_IR w_R w_U w_IW w_W)), .val (.ref (f1 ((x0_4.toUInt32 >>> ((8 : Int32) &&& 31).toUInt32).toInt32) w_IR w_R w_U w_IW w_W)), .val (.ref b13), .val (.ref b16), .val (.int (0 : Int32)), .val (.int v119)] [.null, (.ref b13)])) rfl (by rw [hml]; rfl) (Steps.refl _) (argsL := [.null]) (rest := []) (lenOf pd_5 rfl) rfl (by show 2 * 0 + _ ≤ _; exact Nat.le_of_eq rfl) (hb hby at_153) (fun _ _ => ⟨rfl, rfl, (by decide : 6 + 0 ≤ _), (by decide : 46 + 0 ≤ _)⟩)
              dsimp only [Pt.U, Pt.locs, Pt.cells, Pt.slots] at X64 l64 y64 z64 st64 hQ64
              subst l64 y64 z64
              obtain ⟨hv64, N64q, e64⟩ := hQ64
              have N64 := Fr.app N17 N64q
              have hf64 : f5n b13 = (0 : Int32) := rfl
              rw [hf64] at hv64
              subst hv64
              obtain ⟨fs, hr, hrun, hended, hRW⟩ := Stand.leaveW (s := s) (vm₁ := T17.vm) X64 hS17 (by rw [e64]; exact hk17) (v := some (.int (1 : Int32))) (fun h => by rw [Bd.returns] at h; cases h)
              refine ⟨_, _, pre0 _ (sg1 _ (sg2 _ (sg3 _ (sg4 _ (sg5 _ (sg6 _ (sg8 _ (sg9 _ (sg12 _ (sg15 _ (sg18 _ (sg19 _ (sg21 _ (sg23 _ (sg52 _ (sg53 _ (sg61 _ (sg65 _ ?_)))))))))))))))))), hrun, hended, _, _, rfl, ?_, hRW.1, hRW.2.1, hRW.2.2.1, hRW.2.2.2.mono (by decide) (by decide)⟩
              · show Steps p.tables e below (T17.setTop (mkF m 153 #[.val (.int x0_0), .val (.long x0_1), .second, .val (.int x0_2), .val (.long x0_3), .second, .val (.int x0_4), .val (.int x0_5), .val (.int v12), .val (.long v27), .second, .val (.ref (f1 x0_4 w_IR w_R w_U w_IW w_W)), .val (.ref (f1 ((x0_4.toUInt32 >>> ((8 : Int32) &&& 31).toUInt32).toInt32) w_IR w_R w_U w_IW w_W)), .val (.ref b13), .val (.ref b16), .val (.int (0 : Int32)), .val (.int v119)] [.null, (.ref b13)])) _
                refine st64.trans ?_
                show Steps p.tables e below (T64.setTop (mkF m 156 #[.val (.int x0_0), .val (.long x0_1), .second, .val (.int x0_2), .val (.long x0_3), .second, .val (.int x0_4), .val (.int x0_5), .val (.int v12), .val (.long v27), .second, .val (.ref (f1 x0_4 w_IR w_R w_U w_IW w_W)), .val (.ref (f1 ((x0_4.toUInt32 >>> ((8 : Int32) &&& 31).toUInt32).toInt32) w_IR w_R w_U w_IW w_W)), .val (.ref b13), .val (.ref b16), .val (.int (0 : Int32)), .val (.int v119)] [(.int (0 : Int32))])) _
                refine XS.ifNo X64.here hx rfl (hb hby at_156) rfl ((if0 _ _).trans (teq (by decide : ((0 : Int32) = (0 : Int32)))).2) ?_
                show Steps p.tables e below (T64.setTop (mkF m 159 #[.val (.int x0_0), .val (.long x0_1), .second, .val (.int x0_2), .val (.long x0_3), .second, .val (.int x0_4), .val (.int x0_5), .val (.int v12), .val (.long v27), .second, .val (.ref (f1 x0_4 w_IR w_R w_U w_IW w_W)), .val (.ref (f1 ((x0_4.toUInt32 >>> ((8 : Int32) &&& 31).toUInt32).toInt32) w_IR w_R w_U w_IW w_W)), .val (.ref b13), .val (.ref b16), .val (.int (0 : Int32)), .val (.int v119)] [])) _
                refine XS.iconst X64.here hx rfl (hb hby at_159) ?_
                show Steps p.tables e below (T64.setTop (mkF m 160 #[.val (.int x0_0), .val (.long x0_1), .second, .val (.int x0_2), .val (.long x0_3), .second, .val (.int x0_4), .val (.int x0_5), .val (.int v12), .val (.long v27), .second, .val (.ref (f1 x0_4 w_IR w_R w_U w_IW w_W)), .val (.ref (f1 ((x0_4.toUInt32 >>> ((8 : Int32) &&& 31).toUInt32).toInt32) w_IR w_R w_U w_IW w_W)), .val (.ref b13), .val (.ref b16), .val (.int (0 : Int32)), .val (.int v119)] [(.int (1 : Int32))])) _
                refine XS.goto X64.here hx rfl (pc0 := 160) (pc' := 164) rfl (hb hby at_160) (by decide) (by decide) ?_
                show Steps p.tables e below (T64.setTop (mkF m 164 #[.val (.int x0_0), .val (.long x0_1), .second, .val (.int x0_2), .val (.long x0_3), .second, .val (.int x0_4), .val (.int x0_5), .val (.int v12), .val (.long v27), .second, .val (.ref (f1 x0_4 w_IR w_R w_U w_IW w_W)), .val (.ref (f1 ((x0_4.toUInt32 >>> ((8 : Int32) &&& 31).toUInt32).toInt32) w_IR w_R w_U w_IW w_W)), .val (.ref b13), .val (.ref b16), .val (.int (0 : Int32)), .val (.int v119)] [(.int (1 : Int32))])) _
                exact retN X64 hx (t := .boolean) Bd.returns (by simp) (hb hby at_164) hr
              · show Q0 Z x0_0 x0_1 x0_2 x0_3 x0_4 x0_5 w_IR w_R w_U w_IW w_W cA cl h0 n0 _ T64.heap _
                rw [e64]
                exact ⟨rfl, N64⟩
            · have sg66 : ∀ t, Steps p.tables e below (T17.setTop (mkF m 168 #[.val (.int x0_0), .val (.long x0_1), .second, .val (.int x0_2), .val (.long x0_3), .second, .val (.int x0_4), .val (.int x0_5), .val (.int v12), .val (.long v27), .second, .val (.ref (f1 x0_4 w_IR w_R w_U w_IW w_W)), .val (.ref (f1 ((x0_4.toUInt32 >>> ((8 : Int32) &&& 31).toUInt32).toInt32) w_IR w_R w_U w_IW w_W)), .val (.ref b13), .val (.ref b16), .val (.int (0 : Int32)), .val (.int v119)] [(.int (2 : Int32)), (.int v119)])) t → Steps p.tables e below (T17.setTop (mkF m 147 #[.val (.int x0_0), .val (.long x0_1), .second, .val (.int x0_2), .val (.long x0_3), .second, .val (.int x0_4), .val (.int x0_5), .val (.int v12), .val (.long v27), .second, .val (.ref (f1 x0_4 w_IR w_R w_U w_IW w_W)), .val (.ref (f1 ((x0_4.toUInt32 >>> ((8 : Int32) &&& 31).toUInt32).toInt32) w_IR w_R w_U w_IW w_W)), .val (.ref b13), .val (.ref b16), .val (.int (0 : Int32)), .val (.int v119)] [(.int (1 : Int32)), (.int v119)])) t := fun t kt => by
                show Steps p.tables e below (T17.setTop (mkF m 147 #[.val (.int x0_0), .val (.long x0_1), .second, .val (.int x0_2), .val (.long x0_3), .second, .val (.int x0_4), .val (.int x0_5), .val (.int v12), .val (.long v27), .second, .val (.ref (f1 x0_4 w_IR w_R w_U w_IW w_W)), .val (.ref (f1 ((x0_4.toUInt32 >>> ((8 : Int32) &&& 31).toUInt32).toInt32) w_IR w_R w_U w_IW w_W)), .val (.ref b13), .val (.ref b16), .val (.int (0 : Int32)), .val (.int v119)] [(.int (1 : Int32)), (.int v119)])) _
                refine XS.icmpYes Xr17.here hx rfl (pc0 := 147) (pc' := 165) rfl (hb hby at_147) rfl (feq hc147_62).2 (by decide) (by decide) ?_
                show Steps p.tables e below (T17.setTop (mkF m 165 #[.val (.int x0_0), .val (.long x0_1), .second, .val (.int x0_2), .val (.long x0_3), .second, .val (.int x0_4), .val (.int x0_5), .val (.int v12), .val (.long v27), .second, .val (.ref (f1 x0_4 w_IR w_R w_U w_IW w_W)), .val (.ref (f1 ((x0_4.toUInt32 >>> ((8 : Int32) &&& 31).toUInt32).toInt32) w_IR w_R w_U w_IW w_W)), .val (.ref b13), .val (.ref b16), .val (.int (0 : Int32)), .val (.int v119)] [])) _
                refine XS.iload Xr17.here hx rfl (hb hby at_165) rfl ?_
                show Steps p.tables e below (T17.setTop (mkF m 167 #[.val (.int x0_0), .val (.long x0_1), .second, .val (.int x0_2), .val (.long x0_3), .second, .val (.int x0_4), .val (.int x0_5), .val (.int v12), .val (.long v27), .second, .val (.ref (f1 x0_4 w_IR w_R w_U w_IW w_W)), .val (.ref (f1 ((x0_4.toUInt32 >>> ((8 : Int32) &&& 31).toUInt32).toInt32) w_IR w_R w_U w_IW w_W)), .val (.ref b13), .val (.ref b16), .val (.int (0 : Int32)), .val (.int v119)] [(.int v119)])) _
                refine XS.iconst Xr17.here hx rfl (hb hby at_167) ?_
                exact kt
              by_cases hc168_67 : v119 = (2 : Int32)
              · have sg69 : ∀ t, Steps p.tables e below (T17.setTop (mkF m 174 #[.val (.int x0_0), .val (.long x0_1), .second, .val (.int x0_2), .val (.long x0_3), .second, .val (.int x0_4), .val (.int x0_5), .val (.int v12), .val (.long v27), .second, .val (.ref (f1 x0_4 w_IR w_R w_U w_IW w_W)), .val (.ref (f1 ((x0_4.toUInt32 >>> ((8 : Int32) &&& 31).toUInt32).toInt32) w_IR w_R w_U w_IW w_W)), .val (.ref b13), .val (.ref b16), .val (.int (0 : Int32)), .val (.int v119)] [(.int x0_0), (.ref b13)])) t → Steps p.tables e below (T17.setTop (mkF m 168 #[.val (.int x0_0), .val (.long x0_1), .second, .val (.int x0_2), .val (.long x0_3), .second, .val (.int x0_4), .val (.int x0_5), .val (.int v12), .val (.long v27), .second, .val (.ref (f1 x0_4 w_IR w_R w_U w_IW w_W)), .val (.ref (f1 ((x0_4.toUInt32 >>> ((8 : Int32) &&& 31).toUInt32).toInt32) w_IR w_R w_U w_IW w_W)), .val (.ref b13), .val (.ref b16), .val (.int (0 : Int32)), .val (.int v119)] [(.int (2 : Int32)), (.int v119)])) t := fun t kt => by
                  show Steps p.tables e below (T17.setTop (mkF m 168 #[.val (.int x0_0), .val (.long x0_1), .second, .val (.int x0_2), .val (.long x0_3), .second, .val (.int x0_4), .val (.int x0_5), .val (.int v12), .val (.long v27), .second, .val (.ref (f1 x0_4 w_IR w_R w_U w_IW w_W)), .val (.ref (f1 ((x0_4.toUInt32 >>> ((8 : Int32) &&& 31).toUInt32).toInt32) w_IR w_R w_U w_IW w_W)), .val (.ref b13), .val (.ref b16), .val (.int (0 : Int32)), .val (.int v119)] [(.int (2 : Int32)), (.int v119)])) _
                  refine XS.icmpNo Xr17.here hx rfl (hb hby at_168) rfl (teq hc168_67).2 ?_
                  show Steps p.tables e below (T17.setTop (mkF m 171 #[.val (.int x0_0), .val (.long x0_1), .second, .val (.int x0_2), .val (.long x0_3), .second, .val (.int x0_4), .val (.int x0_5), .val (.int v12), .val (.long v27), .second, .val (.ref (f1 x0_4 w_IR w_R w_U w_IW w_W)), .val (.ref (f1 ((x0_4.toUInt32 >>> ((8 : Int32) &&& 31).toUInt32).toInt32) w_IR w_R w_U w_IW w_W)), .val (.ref b13), .val (.ref b16), .val (.int (0 : Int32)), .val (.int v119)] [])) _
                  refine XS.aload Xr17.here hx rfl (hb hby at_171) rfl rfl ?_
                  show Steps p.tables e below (T17.setTop (mkF m 173 #[.val (.int x0_0), .val (.long x0_1), .second, .val (.int x0_2), .val (.long x0_3), .second, .val (.int x0_4), .val (.int x0_5), .val (.int v12), .val (.long v27), .second, .val (.ref (f1 x0_4 w_IR w_R w_U w_IW w_W)), .val (.ref (f1 ((x0_4.toUInt32 >>> ((8 : Int32) &&& 31).toUInt32).toInt32) w_IR w_R w_U w_IW w_W)), .val (.ref b13), .val (.ref b16), .val (.int (0 : Int32)), .val (.int v119)] [(.ref b13)])) _
                  refine XS.iloadN Xr17.here hx rfl (hb hby at_173) rfl ?_
                  exact kt
                obtain ⟨v68, _, ⟨T68, L68, k68, n68⟩, -, X68, ⟨Lc68, hQ68, l68, y68, z68⟩, st68⟩ := Jvm.LawKit.callS Xr17 hx (y := (⟨"java/lang/Integer", "valueOf", "(I)Ljava/lang/Integer;"⟩ : MethodName)) hown (mvT hZ (hw _ (List.mem_of_getElem? (i := 48) rfl))) (mvT hZ (hw _ (List.mem_of_getElem? (i := 49) rfl))) (mvT hZ (hw _ (List.mem_of_getElem? (i := 50) rfl))) (mvT hZ (hw _ (List.mem_of_getElem? (i := 51) rfl))) (by decide) (backOf (W := 1) (rm6 l Z a0 hw [] x0_0 cA cl T17.heap n0 Zs17 Ol17 JC SC SH) hZ (hw _ (List.mem_of_getElem? (i := 51) rfl)) (hw _ (List.mem_of_getElem? (i := 50) rfl)) (by decide) (by decide)) (g := (mkF m 174 #[.val (.int x0_0), .val (.long x0_1), .second, .val (.int x0_2), .val (.long x0_3), .second, .val (.int x0_4), .val (.int x0_5), .val (.int v12), .val (.long v27), .second, .val (.ref (f1 x0_4 w_IR w_R w_U w_IW w_W)), .val (.ref (f1 ((x0_4.toUInt32 >>> ((8 : Int32) &&& 31).toUInt32).toInt32) w_IR w_R w_U w_IW w_W)), .val (.ref b13), .val (.ref b16), .val (.int (0 : Int32)), .val (.int v119)] [(.int x0_0), (.ref b13)])) rfl (by rw [hml]; rfl) (argsL := [(.int x0_0)]) (rest := [(.ref b13)]) (lenOf pd_6 rfl) rfl (by show 2 * 0 + _ ≤ _; exact Nat.le_of_eq rfl) (hb hby at_174) (fun _ _ => ⟨rfl, rfl, (by decide : 6 + 1 ≤ _), (by decide : 46 + 1 ≤ _)⟩)
                dsimp only [Pt.U, Pt.locs, Pt.cells, Pt.slots] at X68 l68 y68 z68 st68 hQ68
                subst l68 y68 z68
                obtain ⟨r68, rfl, N68q, K68, Ex68⟩ := hQ68
                have N68 := Fr.app N17 N68q
                have Zs68 : n0 ≤ T68.heap.size := Nat.le_trans Zs17 K68.1
                have hk68 := Nat.le_trans hk17 K68.1
                have Ol68 : Old Z n0 T68.heap := (Ol17).keep K68 all0
                have c70 := (Exa.keep (Exa.keep (Exa.ext E16 Ex14) K17) K68)
                have sg72 : ∀ t, Steps p.tables e below (T68.setTop (mkF m 177 #[.val (.int x0_0), .val (.long x0_1), .second, .val (.int x0_2), .val (.long x0_3), .second, .val (.int x0_4), .val (.int x0_5), .val (.int v12), .val (.long v27), .second, .val (.ref (f1 x0_4 w_IR w_R w_U w_IW w_W)), .val (.ref (f1 ((x0_4.toUInt32 >>> ((8 : Int32) &&& 31).toUInt32).toInt32) w_IR w_R w_U w_IW w_W)), .val (.ref b13), .val (.ref b16), .val (.int (0 : Int32)), .val (.int v119)] [(.ref r68), (.ref b13)])) t → Steps p.tables e below (T17.setTop (mkF m 174 #[.val (.int x0_0), .val (.long x0_1), .second, .val (.int x0_2), .val (.long x0_3), .second, .val (.int x0_4), .val (.int x0_5), .val (.int v12), .val (.long v27), .second, .val (.ref (f1 x0_4 w_IR w_R w_U w_IW w_W)), .val (.ref (f1 ((x0_4.toUInt32 >>> ((8 : Int32) &&& 31).toUInt32).toInt32) w_IR w_R w_U w_IW w_W)), .val (.ref b13), .val (.ref b16), .val (.int (0 : Int32)), .val (.int v119)] [(.int x0_0), (.ref b13)])) t := fun t kt => by
                  show Steps p.tables e below (T17.setTop (mkF m 174 #[.val (.int x0_0), .val (.long x0_1), .second, .val (.int x0_2), .val (.long x0_3), .second, .val (.int x0_4), .val (.int x0_5), .val (.int v12), .val (.long v27), .second, .val (.ref (f1 x0_4 w_IR w_R w_U w_IW w_W)), .val (.ref (f1 ((x0_4.toUInt32 >>> ((8 : Int32) &&& 31).toUInt32).toInt32) w_IR w_R w_U w_IW w_W)), .val (.ref b13), .val (.ref b16), .val (.int (0 : Int32)), .val (.int v119)] [(.int x0_0), (.ref b13)])) _
                  refine st68 _ ?_
                  exact kt
                obtain ⟨cq71, kq71, q71a, q71b, q71c⟩ := isOf hZ rfl c70
                obtain ⟨v71, _, ⟨T71, L71, k71, n71⟩, -, X71, ⟨Lc71, hQ71, l71, y71, z71⟩, st71⟩ := X68.virtualBack hx (y := (⟨"com/example/libdmutex/libdmutex/core/TokenTree$Token$Queued", "equals", "(Ljava/lang/Object;)Z"⟩ : MethodName)) (z := (⟨"com/example/libdmutex/libdmutex/core/TokenTree$Token$Queued", "equals", "(Ljava/lang/Object;)Z"⟩ : MethodName)) hown (mvT hZ (hw _ (List.mem_of_getElem? (i := 39) rfl))) (mvT hZ (hw _ (List.mem_of_getElem? (i := 40) rfl))) (notFace_of_selects (args := #[]) (mvT hZ (hw _ (List.mem_of_getElem? (i := 42) rfl)))) (mvT hZ (hw _ (List.mem_of_getElem? (i := 42) rfl))) (mvT hZ (hw _ (List.mem_of_getElem? (i := 41) rfl))) (by decide) (backOf (W := 0) (rm5i l Z a0 hw [] b13 r68 T68.heap n0 Zs68 Ex68) hZ (hw _ (List.mem_of_getElem? (i := 43) rfl)) (hw _ (List.mem_of_getElem? (i := 12) rfl)) (by decide) (by decide)) q71a q71c (g := (mkF m 177 #[.val (.int x0_0), .val (.long x0_1), .second, .val (.int x0_2), .val (.long x0_3), .second, .val (.int x0_4), .val (.int x0_5), .val (.int v12), .val (.long v27), .second, .val (.ref (f1 x0_4 w_IR w_R w_U w_IW w_W)), .val (.ref (f1 ((x0_4.toUInt32 >>> ((8 : Int32) &&& 31).toUInt32).toInt32) w_IR w_R w_U w_IW w_W)), .val (.ref b13), .val (.ref b16), .val (.int (0 : Int32)), .val (.int v119)] [(.ref r68), (.ref b13)])) rfl (by rw [hml]; rfl) (Steps.refl _) (argsL := [(.ref r68)]) (rest := []) (lenOf pd_5 rfl) rfl (by show 2 * 0 + _ ≤ _; exact Nat.le_of_eq rfl) (hb hby at_177) (fun _ _ => ⟨rfl, rfl, (by decide : 7 + 0 ≤ _), (by decide : 47 + 0 ≤ _)⟩)
                dsimp only [Pt.U, Pt.locs, Pt.cells, Pt.slots] at X71 l71 y71 z71 st71 hQ71
                subst l71 y71 z71
                obtain ⟨hv71, N71q, e71⟩ := hQ71
                have N71 := Fr.app N68 N71q
                have hf71 : f5i b13 r68 = (0 : Int32) := rfl
                rw [hf71] at hv71
                subst hv71
                obtain ⟨fs, hr, hrun, hended, hRW⟩ := Stand.leaveW (s := s) (vm₁ := T17.vm) X71 hS17 (by rw [e71]; exact hk68) (v := some (.int (1 : Int32))) (fun h => by rw [Bd.returns] at h; cases h)
                refine ⟨_, _, pre0 _ (sg1 _ (sg2 _ (sg3 _ (sg4 _ (sg5 _ (sg6 _ (sg8 _ (sg9 _ (sg12 _ (sg15 _ (sg18 _ (sg19 _ (sg21 _ (sg23 _ (sg52 _ (sg53 _ (sg61 _ (sg66 _ (sg69 _ (sg72 _ ?_)))))))))))))))))))), hrun, hended, _, _, rfl, ?_, hRW.1, hRW.2.1, hRW.2.2.1, hRW.2.2.2.mono (by decide) (by decide)⟩
                · show Steps p.tables e below (T68.setTop (mkF m 177 #[.val (.int x0_0), .val (.long x0_1), .second, .val (.int x0_2), .val (.long x0_3), .second, .val (.int x0_4), .val (.int x0_5), .val (.int v12), .val (.long v27), .second, .val (.ref (f1 x0_4 w_IR w_R w_U w_IW w_W)), .val (.ref (f1 ((x0_4.toUInt32 >>> ((8 : Int32) &&& 31).toUInt32).toInt32) w_IR w_R w_U w_IW w_W)), .val (.ref b13), .val (.ref b16), .val (.int (0 : Int32)), .val (.int v119)] [(.ref r68), (.ref b13)])) _
                  refine st71.trans ?_
                  show Steps p.tables e below (T71.setTop (mkF m 180 #[.val (.int x0_0), .val (.long x0_1), .second, .val (.int x0_2), .val (.long x0_3), .second, .val (.int x0_4), .val (.int x0_5), .val (.int v12), .val (.long v27), .second, .val (.ref (f1 x0_4 w_IR w_R w_U w_IW w_W)), .val (.ref (f1 ((x0_4.toUInt32 >>> ((8 : Int32) &&& 31).toUInt32).toInt32) w_IR w_R w_U w_IW w_W)), .val (.ref b13), .val (.ref b16), .val (.int (0 : Int32)), .val (.int v119)] [(.int (0 : Int32))])) _
                  refine XS.ifNo X71.here hx rfl (hb hby at_180) rfl ((if0 _ _).trans (teq (by decide : ((0 : Int32) = (0 : Int32)))).2) ?_
                  show Steps p.tables e below (T71.setTop (mkF m 183 #[.val (.int x0_0), .val (.long x0_1), .second, .val (.int x0_2), .val (.long x0_3), .second, .val (.int x0_4), .val (.int x0_5), .val (.int v12), .val (.long v27), .second, .val (.ref (f1 x0_4 w_IR w_R w_U w_IW w_W)), .val (.ref (f1 ((x0_4.toUInt32 >>> ((8 : Int32) &&& 31).toUInt32).toInt32) w_IR w_R w_U w_IW w_W)), .val (.ref b13), .val (.ref b16), .val (.int (0 : Int32)), .val (.int v119)] [])) _
                  refine XS.iconst X71.here hx rfl (hb hby at_183) ?_
                  show Steps p.tables e below (T71.setTop (mkF m 184 #[.val (.int x0_0), .val (.long x0_1), .second, .val (.int x0_2), .val (.long x0_3), .second, .val (.int x0_4), .val (.int x0_5), .val (.int v12), .val (.long v27), .second, .val (.ref (f1 x0_4 w_IR w_R w_U w_IW w_W)), .val (.ref (f1 ((x0_4.toUInt32 >>> ((8 : Int32) &&& 31).toUInt32).toInt32) w_IR w_R w_U w_IW w_W)), .val (.ref b13), .val (.ref b16), .val (.int (0 : Int32)), .val (.int v119)] [(.int (1 : Int32))])) _
                  refine XS.goto X71.here hx rfl (pc0 := 184) (pc' := 188) rfl (hb hby at_184) (by decide) (by decide) ?_
                  show Steps p.tables e below (T71.setTop (mkF m 188 #[.val (.int x0_0), .val (.long x0_1), .second, .val (.int x0_2), .val (.long x0_3), .second, .val (.int x0_4), .val (.int x0_5), .val (.int v12), .val (.long v27), .second, .val (.ref (f1 x0_4 w_IR w_R w_U w_IW w_W)), .val (.ref (f1 ((x0_4.toUInt32 >>> ((8 : Int32) &&& 31).toUInt32).toInt32) w_IR w_R w_U w_IW w_W)), .val (.ref b13), .val (.ref b16), .val (.int (0 : Int32)), .val (.int v119)] [(.int (1 : Int32))])) _
                  exact retN X71 hx (t := .boolean) Bd.returns (by simp) (hb hby at_188) hr
                · show Q0 Z x0_0 x0_1 x0_2 x0_3 x0_4 x0_5 w_IR w_R w_U w_IW w_W cA cl h0 n0 _ T71.heap _
                  rw [e71]
                  exact ⟨rfl, N71⟩
              · have c73 := (Exa.keep (Exa.ext E16 Ex14) K17)
                have c74 := (Fld.keep (Fld.ext E16 Fq14_peer) K17 (ninS ne_b13_b16 nin0))
                have c75 := (Fld.keep (Fld.ext E16 Fq14_ticket) K17 (ninS ne_b13_b16 nin0))
                have c76 := (Fld.keep (Fld.ext E16 Fq14_mode) K17 (ninS ne_b13_b16 nin0))
                have sg78 : ∀ t, Steps p.tables e below (T17.setTop (mkF m 193 #[.val (.int x0_0), .val (.long x0_1), .second, .val (.int x0_2), .val (.long x0_3), .second, .val (.int x0_4), .val (.int x0_5), .val (.int v12), .val (.long v27), .second, .val (.ref (f1 x0_4 w_IR w_R w_U w_IW w_W)), .val (.ref (f1 ((x0_4.toUInt32 >>> ((8 : Int32) &&& 31).toUInt32).toInt32) w_IR w_R w_U w_IW w_W)), .val (.ref b13), .val (.ref b16), .val (.int (0 : Int32)), .val (.int v119)] [(.ref b13), (.ref b16)])) t → Steps p.tables e below (T17.setTop (mkF m 168 #[.val (.int x0_0), .val (.long x0_1), .second, .val (.int x0_2), .val (.long x0_3), .second, .val (.int x0_4), .val (.int x0_5), .val (.int v12), .val (.long v27), .second, .val (.ref (f1 x0_4 w_IR w_R w_U w_IW w_W)), .val (.ref (f1 ((x0_4.toUInt32 >>> ((8 : Int32) &&& 31).toUInt32).toInt32) w_IR w_R w_U w_IW w_W)), .val (.ref b13), .val (.ref b16), .val (.int (0 : Int32)), .val (.int v119)] [(.int (2 : Int32)), (.int v119)])) t := fun t kt => by
                  show Steps p.tables e below (T17.setTop (mkF m 168 #[.val (.int x0_0), .val (.long x0_1), .second, .val (.int x0_2), .val (.long x0_3), .second, .val (.int x0_4), .val (.int x0_5), .val (.int v12), .val (.long v27), .second, .val (.ref (f1 x0_4 w_IR w_R w_U w_IW w_W)), .val (.ref (f1 ((x0_4.toUInt32 >>> ((8 : Int32) &&& 31).toUInt32).toInt32) w_IR w_R w_U w_IW w_W)), .val (.ref b13), .val (.ref b16), .val (.int (0 : Int32)), .val (.int v119)] [(.int (2 : Int32)), (.int v119)])) _
                  refine XS.icmpYes Xr17.here hx rfl (pc0 := 168) (pc' := 189) rfl (hb hby at_168) rfl (feq hc168_67).2 (by decide) (by decide) ?_
                  show Steps p.tables e below (T17.setTop (mkF m 189 #[.val (.int x0_0), .val (.long x0_1), .second, .val (.int x0_2), .val (.long x0_3), .second, .val (.int x0_4), .val (.int x0_5), .val (.int v12), .val (.long v27), .second, .val (.ref (f1 x0_4 w_IR w_R w_U w_IW w_W)), .val (.ref (f1 ((x0_4.toUInt32 >>> ((8 : Int32) &&& 31).toUInt32).toInt32) w_IR w_R w_U w_IW w_W)), .val (.ref b13), .val (.ref b16), .val (.int (0 : Int32)), .val (.int v119)] [])) _
                  refine XS.aload Xr17.here hx rfl (hb hby at_189) rfl rfl ?_
                  show Steps p.tables e below (T17.setTop (mkF m 191 #[.val (.int x0_0), .val (.long x0_1), .second, .val (.int x0_2), .val (.long x0_3), .second, .val (.int x0_4), .val (.int x0_5), .val (.int v12), .val (.long v27), .second, .val (.ref (f1 x0_4 w_IR w_R w_U w_IW w_W)), .val (.ref (f1 ((x0_4.toUInt32 >>> ((8 : Int32) &&& 31).toUInt32).toInt32) w_IR w_R w_U w_IW w_W)), .val (.ref b13), .val (.ref b16), .val (.int (0 : Int32)), .val (.int v119)] [(.ref b16)])) _
                  refine XS.aload Xr17.here hx rfl (hb hby at_191) rfl rfl ?_
                  exact kt
                obtain ⟨cq77, kq77, q77a, q77b, q77c⟩ := isOf hZ rfl Ex17
                obtain ⟨v77, _, ⟨T77, L77, k77, n77⟩, -, X77, ⟨Lc77, hQ77, l77, y77, z77⟩, st77⟩ := Xr17.virtualBack hx (y := (⟨"com/example/libdmutex/libdmutex/core/TokenTree$Token$Queued", "equals", "(Ljava/lang/Object;)Z"⟩ : MethodName)) (z := (⟨"com/example/libdmutex/libdmutex/core/TokenTree$Token$Queued", "equals", "(Ljava/lang/Object;)Z"⟩ : MethodName)) hown (mvT hZ (hw _ (List.mem_of_getElem? (i := 39) rfl))) (mvT hZ (hw _ (List.mem_of_getElem? (i := 40) rfl))) (notFace_of_selects (args := #[]) (mvT hZ (hw _ (List.mem_of_getElem? (i := 42) rfl)))) (mvT hZ (hw _ (List.mem_of_getElem? (i := 42) rfl))) (mvT hZ (hw _ (List.mem_of_getElem? (i := 41) rfl))) (by decide) (backOf (W := 0) (rm5o l Z a0 hw [] b16 b13 v12 v27 (f1 ((x0_4.toUInt32 >>> ((8 : Int32) &&& 31).toUInt32).toInt32) w_IR w_R w_U w_IW w_W) x0_0 x0_1 (f1 x0_4 w_IR w_R w_U w_IW w_W) T17.heap n0 Zs17 Ex17 c73 Fq17_peer Fq17_ticket Fq17_mode c74 c75 c76) hZ (hw _ (List.mem_of_getElem? (i := 43) rfl)) (hw _ (List.mem_of_getElem? (i := 12) rfl)) (by decide) (by decide)) q77a q77c (g := (mkF m 193 #[.val (.int x0_0), .val (.long x0_1), .second, .val (.int x0_2), .val (.long x0_3), .second, .val (.int x0_4), .val (.int x0_5), .val (.int v12), .val (.long v27), .second, .val (.ref (f1 x0_4 w_IR w_R w_U w_IW w_W)), .val (.ref (f1 ((x0_4.toUInt32 >>> ((8 : Int32) &&& 31).toUInt32).toInt32) w_IR w_R w_U w_IW w_W)), .val (.ref b13), .val (.ref b16), .val (.int (0 : Int32)), .val (.int v119)] [(.ref b13), (.ref b16)])) rfl (by rw [hml]; rfl) (Steps.refl _) (argsL := [(.ref b13)]) (rest := []) (lenOf pd_5 rfl) rfl (by show 2 * 0 + _ ≤ _; exact Nat.le_of_eq rfl) (hb hby at_193) (fun _ _ => ⟨rfl, rfl, (by decide : 6 + 0 ≤ _), (by decide : 46 + 0 ≤ _)⟩)
                dsimp only [Pt.U, Pt.locs, Pt.cells, Pt.slots] at X77 l77 y77 z77 st77 hQ77
                subst l77 y77 z77
                obtain ⟨hv77, N77q, e77⟩ := hQ77
                have N77 := Fr.app N17 N77q
                have hf77 : f5o b16 b13 v12 v27 (f1 ((x0_4.toUInt32 >>> ((8 : Int32) &&& 31).toUInt32).toInt32) w_IR w_R w_U w_IW w_W) x0_0 x0_1 (f1 x0_4 w_IR w_R w_U w_IW w_W) = (0 : Int32) := by unfold f5o; rw [if_pos (Eq.symm hc89_20), if_pos (Eq.symm hc96_22), if_neg (Ne.symm hc103_24)]
                rw [hf77] at hv77
                subst hv77
                obtain ⟨fs, hr, hrun, hended, hRW⟩ := Stand.leaveW (s := s) (vm₁ := T17.vm) X77 hS17 (by rw [e77]; exact hk17) (v := some (.int (1 : Int32))) (fun h => by rw [Bd.returns] at h; cases h)
                refine ⟨_, _, pre0 _ (sg1 _ (sg2 _ (sg3 _ (sg4 _ (sg5 _ (sg6 _ (sg8 _ (sg9 _ (sg12 _ (sg15 _ (sg18 _ (sg19 _ (sg21 _ (sg23 _ (sg52 _ (sg53 _ (sg61 _ (sg66 _ (sg78 _ ?_))))))))))))))))))), hrun, hended, _, _, rfl, ?_, hRW.1, hRW.2.1, hRW.2.2.1, hRW.2.2.2.mono (by decide) (by decide)⟩
                · show Steps p.tables e below (T17.setTop (mkF m 193 #[.val (.int x0_0), .val (.long x0_1), .second, .val (.int x0_2), .val (.long x0_3), .second, .val (.int x0_4), .val (.int x0_5), .val (.int v12), .val (.long v27), .second, .val (.ref (f1 x0_4 w_IR w_R w_U w_IW w_W)), .val (.ref (f1 ((x0_4.toUInt32 >>> ((8 : Int32) &&& 31).toUInt32).toInt32) w_IR w_R w_U w_IW w_W)), .val (.ref b13), .val (.ref b16), .val (.int (0 : Int32)), .val (.int v119)] [(.ref b13), (.ref b16)])) _
                  refine st77.trans ?_
                  show Steps p.tables e below (T77.setTop (mkF m 196 #[.val (.int x0_0), .val (.long x0_1), .second, .val (.int x0_2), .val (.long x0_3), .second, .val (.int x0_4), .val (.int x0_5), .val (.int v12), .val (.long v27), .second, .val (.ref (f1 x0_4 w_IR w_R w_U w_IW w_W)), .val (.ref (f1 ((x0_4.toUInt32 >>> ((8 : Int32) &&& 31).toUInt32).toInt32) w_IR w_R w_U w_IW w_W)), .val (.ref b13), .val (.ref b16), .val (.int (0 : Int32)), .val (.int v119)] [(.int (0 : Int32))])) _
                  refine XS.iload X77.here hx rfl (hb hby at_196) rfl ?_
                  show Steps p.tables e below (T77.setTop (mkF m 198 #[.val (.int x0_0), .val (.long x0_1), .second, .val (.int x0_2), .val (.long x0_3), .second, .val (.int x0_4), .val (.int x0_5), .val (.int v12), .val (.long v27), .second, .val (.ref (f1 x0_4 w_IR w_R w_U w_IW w_W)), .val (.ref (f1 ((x0_4.toUInt32 >>> ((8 : Int32) &&& 31).toUInt32).toInt32) w_IR w_R w_U w_IW w_W)), .val (.ref b13), .val (.ref b16), .val (.int (0 : Int32)), .val (.int v119)] [(.int (0 : Int32)), (.int (0 : Int32))])) _
                  refine XS.icmpNo X77.here hx rfl (hb hby at_198) rfl (teq (by decide : ((0 : Int32) = (0 : Int32)))).2 ?_
                  show Steps p.tables e below (T77.setTop (mkF m 201 #[.val (.int x0_0), .val (.long x0_1), .second, .val (.int x0_2), .val (.long x0_3), .second, .val (.int x0_4), .val (.int x0_5), .val (.int v12), .val (.long v27), .second, .val (.ref (f1 x0_4 w_IR w_R w_U w_IW w_W)), .val (.ref (f1 ((x0_4.toUInt32 >>> ((8 : Int32) &&& 31).toUInt32).toInt32) w_IR w_R w_U w_IW w_W)), .val (.ref b13), .val (.ref b16), .val (.int (0 : Int32)), .val (.int v119)] [])) _
                  refine XS.iconst X77.here hx rfl (hb hby at_201) ?_
                  show Steps p.tables e below (T77.setTop (mkF m 202 #[.val (.int x0_0), .val (.long x0_1), .second, .val (.int x0_2), .val (.long x0_3), .second, .val (.int x0_4), .val (.int x0_5), .val (.int v12), .val (.long v27), .second, .val (.ref (f1 x0_4 w_IR w_R w_U w_IW w_W)), .val (.ref (f1 ((x0_4.toUInt32 >>> ((8 : Int32) &&& 31).toUInt32).toInt32) w_IR w_R w_U w_IW w_W)), .val (.ref b13), .val (.ref b16), .val (.int (0 : Int32)), .val (.int v119)] [(.int (1 : Int32))])) _
                  refine XS.goto X77.here hx rfl (pc0 := 202) (pc' := 206) rfl (hb hby at_202) (by decide) (by decide) ?_
                  show Steps p.tables e below (T77.setTop (mkF m 206 #[.val (.int x0_0), .val (.long x0_1), .second, .val (.int x0_2), .val (.long x0_3), .second, .val (.int x0_4), .val (.int x0_5), .val (.int v12), .val (.long v27), .second, .val (.ref (f1 x0_4 w_IR w_R w_U w_IW w_W)), .val (.ref (f1 ((x0_4.toUInt32 >>> ((8 : Int32) &&& 31).toUInt32).toInt32) w_IR w_R w_U w_IW w_W)), .val (.ref b13), .val (.ref b16), .val (.int (0 : Int32)), .val (.int v119)] [(.int (1 : Int32))])) _
                  exact retN X77 hx (t := .boolean) Bd.returns (by simp) (hb hby at_206) hr
                · show Q0 Z x0_0 x0_1 x0_2 x0_3 x0_4 x0_5 w_IR w_R w_U w_IW w_W cA cl h0 n0 _ T77.heap _
                  rw [e77]
                  exact ⟨rfl, N77⟩
      · have sg79 : ∀ t, Steps p.tables e below (T17.setTop (mkF m 121 #[.val (.int x0_0), .val (.long x0_1), .second, .val (.int x0_2), .val (.long x0_3), .second, .val (.int x0_4), .val (.int x0_5), .val (.int v12), .val (.long v27), .second, .val (.ref (f1 x0_4 w_IR w_R w_U w_IW w_W)), .val (.ref (f1 ((x0_4.toUInt32 >>> ((8 : Int32) &&& 31).toUInt32).toInt32) w_IR w_R w_U w_IW w_W)), .val (.ref b13), .val (.ref b16), .val (.int (0 : Int32)), .val (.int (((x0_5.toUInt32 >>> ((3 : Int32) &&& 31).toUInt32).toInt32) &&& (3 : Int32)))] [])) t → Steps p.tables e below (T17.setTop (mkF m 96 #[.val (.int x0_0), .val (.long x0_1), .second, .val (.int x0_2), .val (.long x0_3), .second, .val (.int x0_4), .val (.int x0_5), .val (.int v12), .val (.long v27), .second, .val (.ref (f1 x0_4 w_IR w_R w_U w_IW w_W)), .val (.ref (f1 ((x0_4.toUInt32 >>> ((8 : Int32) &&& 31).toUInt32).toInt32) w_IR w_R w_U w_IW w_W)), .val (.ref b13), .val (.ref b16), .unset, .unset] [(.int (lcmpW x0_1 v27))])) t := fun t kt => by
          show Steps p.tables e below (T17.setTop (mkF m 96 #[.val (.int x0_0), .val (.long x0_1), .second, .val (.int x0_2), .val (.long x0_3), .second, .val (.int x0_4), .val (.int x0_5), .val (.int v12), .val (.long v27), .second, .val (.ref (f1 x0_4 w_IR w_R w_U w_IW w_W)), .val (.ref (f1 ((x0_4.toUInt32 >>> ((8 : Int32) &&& 31).toUInt32).toInt32) w_IR w_R w_U w_IW w_W)), .val (.ref b13), .val (.ref b16), .unset, .unset] [(.int (lcmpW x0_1 v27))])) _
          refine XS.ifYes Xr17.here hx rfl (pc0 := 96) (pc' := 110) rfl (hb hby at_96) rfl ((if0 _ _).trans (feq (mt (lw_eq _ _).mp hc96_22)).2) (by decide) (by decide) ?_
          show Steps p.tables e below (T17.setTop (mkF m 110 #[.val (.int x0_0), .val (.long x0_1), .second, .val (.int x0_2), .val (.long x0_3), .second, .val (.int x0_4), .val (.int x0_5), .val (.int v12), .val (.long v27), .second, .val (.ref (f1 x0_4 w_IR w_R w_U w_IW w_W)), .val (.ref (f1 ((x0_4.toUInt32 >>> ((8 : Int32) &&& 31).toUInt32).toInt32) w_IR w_R w_U w_IW w_W)), .val (.ref b13), .val (.ref b16), .unset, .unset] [])) _
          refine XS.iconst Xr17.here hx rfl (hb hby at_110) ?_
          show Steps p.tables e below (T17.setTop (mkF m 111 #[.val (.int x0_0), .val (.long x0_1), .second, .val (.int x0_2), .val (.long x0_3), .second, .val (.int x0_4), .val (.int x0_5), .val (.int v12), .val (.long v27), .second, .val (.ref (f1 x0_4 w_IR w_R w_U w_IW w_W)), .val (.ref (f1 ((x0_4.toUInt32 >>> ((8 : Int32) &&& 31).toUInt32).toInt32) w_IR w_R w_U w_IW w_W)), .val (.ref b13), .val (.ref b16), .unset, .unset] [(.int (0 : Int32))])) _
          refine XS.istore Xr17.here hx rfl (hb hby at_111) rfl (l' := #[.val (.int x0_0), .val (.long x0_1), .second, .val (.int x0_2), .val (.long x0_3), .second, .val (.int x0_4), .val (.int x0_5), .val (.int v12), .val (.long v27), .second, .val (.ref (f1 x0_4 w_IR w_R w_U w_IW w_W)), .val (.ref (f1 ((x0_4.toUInt32 >>> ((8 : Int32) &&& 31).toUInt32).toInt32) w_IR w_R w_U w_IW w_W)), .val (.ref b13), .val (.ref b16), .val (.int (0 : Int32)), .unset]) rfl ?_
          show Steps p.tables e below (T17.setTop (mkF m 113 #[.val (.int x0_0), .val (.long x0_1), .second, .val (.int x0_2), .val (.long x0_3), .second, .val (.int x0_4), .val (.int x0_5), .val (.int v12), .val (.long v27), .second, .val (.ref (f1 x0_4 w_IR w_R w_U w_IW w_W)), .val (.ref (f1 ((x0_4.toUInt32 >>> ((8 : Int32) &&& 31).toUInt32).toInt32) w_IR w_R w_U w_IW w_W)), .val (.ref b13), .val (.ref b16), .val (.int (0 : Int32)), .unset] [])) _
          refine XS.iload Xr17.here hx rfl (hb hby at_113) rfl ?_
          show Steps p.tables e below (T17.setTop (mkF m 115 #[.val (.int x0_0), .val (.long x0_1), .second, .val (.int x0_2), .val (.long x0_3), .second, .val (.int x0_4), .val (.int x0_5), .val (.int v12), .val (.long v27), .second, .val (.ref (f1 x0_4 w_IR w_R w_U w_IW w_W)), .val (.ref (f1 ((x0_4.toUInt32 >>> ((8 : Int32) &&& 31).toUInt32).toInt32) w_IR w_R w_U w_IW w_W)), .val (.ref b13), .val (.ref b16), .val (.int (0 : Int32)), .unset] [(.int x0_5)])) _
          refine XS.iconst Xr17.here hx rfl (hb hby at_115) ?_
          show Steps p.tables e below (T17.setTop (mkF m 116 #[.val (.int x0_0), .val (.long x0_1), .second, .val (.int x0_2), .val (.long x0_3), .second, .val (.int x0_4), .val (.int x0_5), .val (.int v12), .val (.long v27), .second, .val (.ref (f1 x0_4 w_IR w_R w_U w_IW w_W)), .val (.ref (f1 ((x0_4.toUInt32 >>> ((8 : Int32) &&& 31).toUInt32).toInt32) w_IR w_R w_U w_IW w_W)), .val (.ref b13), .val (.ref b16), .val (.int (0 : Int32)), .unset] [(.int (3 : Int32)), (.int x0_5)])) _
          refine XS.iushr Xr17.here hx rfl (hb hby at_116) rfl ?_
          show Steps p.tables e below (T17.setTop (mkF m 117 #[.val (.int x0_0), .val (.long x0_1), .second, .val (.int x0_2), .val (.long x0_3), .second, .val (.int x0_4), .val (.int x0_5), .val (.int v12), .val (.long v27), .second, .val (.ref (f1 x0_4 w_IR w_R w_U w_IW w_W)), .val (.ref (f1 ((x0_4.toUInt32 >>> ((8 : Int32) &&& 31).toUInt32).toInt32) w_IR w_R w_U w_IW w_W)), .val (.ref b13), .val (.ref b16), .val (.int (0 : Int32)), .unset] [(.int ((x0_5.toUInt32 >>> ((3 : Int32) &&& 31).toUInt32).toInt32))])) _
          refine XS.iconst Xr17.here hx rfl (hb hby at_117) ?_
          show Steps p.tables e below (T17.setTop (mkF m 118 #[.val (.int x0_0), .val (.long x0_1), .second, .val (.int x0_2), .val (.long x0_3), .second, .val (.int x0_4), .val (.int x0_5), .val (.int v12), .val (.long v27), .second, .val (.ref (f1 x0_4 w_IR w_R w_U w_IW w_W)), .val (.ref (f1 ((x0_4.toUInt32 >>> ((8 : Int32) &&& 31).toUInt32).toInt32) w_IR w_R w_U w_IW w_W)), .val (.ref b13), .val (.ref b16), .val (.int (0 : Int32)), .unset] [(.int (3 : Int32)), (.int ((x0_5.toUInt32 >>> ((3 : Int32) &&& 31).toUInt32).toInt32))])) _
          refine XS.iand Xr17.here hx rfl (hb hby at_118) rfl ?_
          show Steps p.tables e below (T17.setTop (mkF m 119 #[.val (.int x0_0), .val (.long x0_1), .second, .val (.int x0_2), .val (.long x0_3), .second, .val (.int x0_4), .val (.int x0_5), .val (.int v12), .val (.long v27), .second, .val (.ref (f1 x0_4 w_IR w_R w_U w_IW w_W)), .val (.ref (f1 ((x0_4.toUInt32 >>> ((8 : Int32) &&& 31).toUInt32).toInt32) w_IR w_R w_U w_IW w_W)), .val (.ref b13), .val (.ref b16), .val (.int (0 : Int32)), .unset] [(.int (((x0_5.toUInt32 >>> ((3 : Int32) &&& 31).toUInt32).toInt32) &&& (3 : Int32)))])) _
          refine XS.istore Xr17.here hx rfl (hb hby at_119) rfl (l' := #[.val (.int x0_0), .val (.long x0_1), .second, .val (.int x0_2), .val (.long x0_3), .second, .val (.int x0_4), .val (.int x0_5), .val (.int v12), .val (.long v27), .second, .val (.ref (f1 x0_4 w_IR w_R w_U w_IW w_W)), .val (.ref (f1 ((x0_4.toUInt32 >>> ((8 : Int32) &&& 31).toUInt32).toInt32) w_IR w_R w_U w_IW w_W)), .val (.ref b13), .val (.ref b16), .val (.int (0 : Int32)), .val (.int (((x0_5.toUInt32 >>> ((3 : Int32) &&& 31).toUInt32).toInt32) &&& (3 : Int32)))]) rfl ?_
          exact kt
        obtain ⟨v119, hv119⟩ : ∃ z, z = (((x0_5.toUInt32 >>> ((3 : Int32) &&& 31).toUInt32).toInt32) &&& (3 : Int32)) := ⟨_, rfl⟩
        rw [← hv119] at sg79
        have sg80 : ∀ t, Steps p.tables e below (T17.setTop (mkF m 123 #[.val (.int x0_0), .val (.long x0_1), .second, .val (.int x0_2), .val (.long x0_3), .second, .val (.int x0_4), .val (.int x0_5), .val (.int v12), .val (.long v27), .second, .val (.ref (f1 x0_4 w_IR w_R w_U w_IW w_W)), .val (.ref (f1 ((x0_4.toUInt32 >>> ((8 : Int32) &&& 31).toUInt32).toInt32) w_IR w_R w_U w_IW w_W)), .val (.ref b13), .val (.ref b16), .val (.int (0 : Int32)), .val (.int v119)] [(.int v119)])) t → Steps p.tables e below (T17.setTop (mkF m 121 #[.val (.int x0_0), .val (.long x0_1), .second, .val (.int x0_2), .val (.long x0_3), .second, .val (.int x0_4), .val (.int x0_5), .val (.int v12), .val (.long v27), .second, .val (.ref (f1 x0_4 w_IR w_R w_U w_IW w_W)), .val (.ref (f1 ((x0_4.toUInt32 >>> ((8 : Int32) &&& 31).toUInt32).toInt32) w_IR w_R w_U w_IW w_W)), .val (.ref b13), .val (.ref b16), .val (.int (0 : Int32)), .val (.int v119)] [])) t := fun t kt => by
          show Steps p.tables e below (T17.setTop (mkF m 121 #[.val (.int x0_0), .val (.long x0_1), .second, .val (.int x0_2), .val (.long x0_3), .second, .val (.int x0_4), .val (.int x0_5), .val (.int v12), .val (.long v27), .second, .val (.ref (f1 x0_4 w_IR w_R w_U w_IW w_W)), .val (.ref (f1 ((x0_4.toUInt32 >>> ((8 : Int32) &&& 31).toUInt32).toInt32) w_IR w_R w_U w_IW w_W)), .val (.ref b13), .val (.ref b16), .val (.int (0 : Int32)), .val (.int v119)] [])) _
          refine XS.iload Xr17.here hx rfl (hb hby at_121) rfl ?_
          exact kt
        by_cases hc123_81 : v119 = (0 : Int32)
        · have c82 := (Exa.keep (Exa.ext E16 Ex14) K17)
          have c83 := (Fld.keep (Fld.ext E16 Fq14_peer) K17 (ninS ne_b13_b16 nin0))
          have c84 := (Fld.keep (Fld.ext E16 Fq14_ticket) K17 (ninS ne_b13_b16 nin0))
          have c85 := (Fld.keep (Fld.ext E16 Fq14_mode) K17 (ninS ne_b13_b16 nin0))
          have sg87 : ∀ t, Steps p.tables e below (T17.setTop (mkF m 130 #[.val (.int x0_0), .val (.long x0_1), .second, .val (.int x0_2), .val (.long x0_3), .second, .val (.int x0_4), .val (.int x0_5), .val (.int v12), .val (.long v27), .second, .val (.ref (f1 x0_4 w_IR w_R w_U w_IW w_W)), .val (.ref (f1 ((x0_4.toUInt32 >>> ((8 : Int32) &&& 31).toUInt32).toInt32) w_IR w_R w_U w_IW w_W)), .val (.ref b13), .val (.ref b16), .val (.int (0 : Int32)), .val (.int v119)] [(.ref b16), (.ref b13)])) t → Steps p.tables e below (T17.setTop (mkF m 123 #[.val (.int x0_0), .val (.long x0_1), .second, .val (.int x0_2), .val (.long x0_3), .second, .val (.int x0_4), .val (.int x0_5), .val (.int v12), .val (.long v27), .second, .val (.ref (f1 x0_4 w_IR w_R w_U w_IW w_W)), .val (.ref (f1 ((x0_4.toUInt32 >>> ((8 : Int32) &&& 31).toUInt32).toInt32) w_IR w_R w_U w_IW w_W)), .val (.ref b13), .val (.ref b16), .val (.int (0 : Int32)), .val (.int v119)] [(.int v119)])) t := fun t kt => by
            show Steps p.tables e below (T17.setTop (mkF m 123 #[.val (.int x0_0), .val (.long x0_1), .second, .val (.int x0_2), .val (.long x0_3), .second, .val (.int x0_4), .val (.int x0_5), .val (.int v12), .val (.long v27), .second, .val (.ref (f1 x0_4 w_IR w_R w_U w_IW w_W)), .val (.ref (f1 ((x0_4.toUInt32 >>> ((8 : Int32) &&& 31).toUInt32).toInt32) w_IR w_R w_U w_IW w_W)), .val (.ref b13), .val (.ref b16), .val (.int (0 : Int32)), .val (.int v119)] [(.int v119)])) _
            refine XS.ifNo Xr17.here hx rfl (hb hby at_123) rfl ((if0 _ _).trans (teq hc123_81).2) ?_
            show Steps p.tables e below (T17.setTop (mkF m 126 #[.val (.int x0_0), .val (.long x0_1), .second, .val (.int x0_2), .val (.long x0_3), .second, .val (.int x0_4), .val (.int x0_5), .val (.int v12), .val (.long v27), .second, .val (.ref (f1 x0_4 w_IR w_R w_U w_IW w_W)), .val (.ref (f1 ((x0_4.toUInt32 >>> ((8 : Int32) &&& 31).toUInt32).toInt32) w_IR w_R w_U w_IW w_W)), .val (.ref b13), .val (.ref b16), .val (.int (0 : Int32)), .val (.int v119)] [])) _
            refine XS.aload Xr17.here hx rfl (hb hby at_126) rfl rfl ?_
            show Steps p.tables e below (T17.setTop (mkF m 128 #[.val (.int x0_0), .val (.long x0_1), .second, .val (.int x0_2), .val (.long x0_3), .second, .val (.int x0_4), .val (.int x0_5), .val (.int v12), .val (.long v27), .second, .val (.ref (f1 x0_4 w_IR w_R w_U w_IW w_W)), .val (.ref (f1 ((x0_4.toUInt32 >>> ((8 : Int32) &&& 31).toUInt32).toInt32) w_IR w_R w_U w_IW w_W)), .val (.ref b13), .val (.ref b16), .val (.int (0 : Int32)), .val (.int v119)] [(.ref b13)])) _
            refine XS.aload Xr17.here hx rfl (hb hby at_128) rfl rfl ?_
            exact kt
          obtain ⟨cq86, kq86, q86a, q86b, q86c⟩ := isOf hZ rfl c82
          obtain ⟨v86, _, ⟨T86, L86, k86, n86⟩, -, X86, ⟨Lc86, hQ86, l86, y86, z86⟩, st86⟩ := Xr17.virtualBack hx (y := (⟨"com/example/libdmutex/libdmutex/core/TokenTree$Token$Queued", "equals", "(Ljava/lang/Object;)Z"⟩ : MethodName)) (z := (⟨"com/example/libdmutex/libdmutex/core/TokenTree$Token$Queued", "equals", "(Ljava/lang/Object;)Z"⟩ : MethodName)) hown (mvT hZ (hw _ (List.mem_of_getElem? (i := 39) rfl))) (mvT hZ (hw _ (List.mem_of_getElem? (i := 40) rfl))) (notFace_of_selects (args := #[]) (mvT hZ (hw _ (List.mem_of_getElem? (i := 42) rfl)))) (mvT hZ (hw _ (List.mem_of_getElem? (i := 42) rfl))) (mvT hZ (hw _ (List.mem_of_getElem? (i := 41) rfl))) (by decide) (backOf (W := 0) (rm5o l Z a0 hw [] b13 b16 x0_0 x0_1 (f1 x0_4 w_IR w_R w_U w_IW w_W) v12 v27 (f1 ((x0_4.toUInt32 >>> ((8 : Int32) &&& 31).toUInt32).toInt32) w_IR w_R w_U w_IW w_W) T17.heap n0 Zs17 c82 Ex17 c83 c84 c85 Fq17_peer Fq17_ticket Fq17_mode) hZ (hw _ (List.mem_of_getElem? (i := 43) rfl)) (hw _ (List.mem_of_getElem? (i := 12) rfl)) (by decide) (by decide)) q86a q86c (g := (mkF m 130 #[.val (.int x0_0), .val (.long x0_1), .second, .val (.int x0_2), .val (.long x0_3), .second, .val (.int x0_4), .val (.int x0_5), .val (.int v12), .val (.long v27), .second, .val (.ref (f1 x0_4 w_IR w_R w_U w_IW w_W)), .val (.ref (f1 ((x0_4.toUInt32 >>> ((8 : Int32) &&& 31).toUInt32).toInt32) w_IR w_R w_U w_IW w_W)), .val (.ref b13), .val (.ref b16), .val (.int (0 : Int32)), .val (.int v119)] [(.ref b16), (.ref b13)])) rfl (by rw [hml]; rfl) (Steps.refl _) (argsL := [(.ref b16)]) (rest := []) (lenOf pd_5 rfl) rfl (by show 2 * 0 + _ ≤ _; exact Nat.le_of_eq rfl) (hb hby at_130) (fun _ _ => ⟨rfl, rfl, (by decide : 6 + 0 ≤ _), (by decide : 46 + 0 ≤ _)⟩)
          dsimp only [Pt.U, Pt.locs, Pt.cells, Pt.slots] at X86 l86 y86 z86 st86 hQ86
          subst l86 y86 z86
          obtain ⟨hv86, N86q, e86⟩ := hQ86
          have N86 := Fr.app N17 N86q
          have hf86 : f5o b13 b16 x0_0 x0_1 (f1 x0_4 w_IR w_R w_U w_IW w_W) v12 v27 (f1 ((x0_4.toUInt32 >>> ((8 : Int32) &&& 31).toUInt32).toInt32) w_IR w_R w_U w_IW w_W) = (0 : Int32) := by unfold f5o; rw [if_pos hc89_20, if_neg hc96_22]
          rw [hf86] at hv86
          subst hv86
          obtain ⟨fs, hr, hrun, hended, hRW⟩ := Stand.leaveW (s := s) (vm₁ := T17.vm) X86 hS17 (by rw [e86]; exact hk17) (v := some (.int (1 : Int32))) (fun h => by rw [Bd.returns] at h; cases h)
          refine ⟨_, _, pre0 _ (sg1 _ (sg2 _ (sg3 _ (sg4 _ (sg5 _ (sg6 _ (sg8 _ (sg9 _ (sg12 _ (sg15 _ (sg18 _ (sg19 _ (sg21 _ (sg79 _ (sg80 _ (sg87 _ ?_)))))))))))))))), hrun, hended, _, _, rfl, ?_, hRW.1, hRW.2.1, hRW.2.2.1, hRW.2.2.2.mono (by decide) (by decide)⟩
          · show Steps p.tables e below (T17.setTop (mkF m 130 #[.val (.int x0_0), .val (.long x0_1), .second, .val (.int x0_2), .val (.long x0_3), .second, .val (.int x0_4), .val (.int x0_5), .val (.int v12), .val (.long v27), .second, .val (.ref (f1 x0_4 w_IR w_R w_U w_IW w_W)), .val (.ref (f1 ((x0_4.toUInt32 >>> ((8 : Int32) &&& 31).toUInt32).toInt32) w_IR w_R w_U w_IW w_W)), .val (.ref b13), .val (.ref b16), .val (.int (0 : Int32)), .val (.int v119)] [(.ref b16), (.ref b13)])) _
            refine st86.trans ?_
            show Steps p.tables e below (T86.setTop (mkF m 133 #[.val (.int x0_0), .val (.long x0_1), .second, .val (.int x0_2), .val (.long x0_3), .second, .val (.int x0_4), .val (.int x0_5), .val (.int v12), .val (.long v27), .second, .val (.ref (f1 x0_4 w_IR w_R w_U w_IW w_W)), .val (.ref (f1 ((x0_4.toUInt32 >>> ((8 : Int32) &&& 31).toUInt32).toInt32) w_IR w_R w_U w_IW w_W)), .val (.ref b13), .val (.ref b16), .val (.int (0 : Int32)), .val (.int v119)] [(.int (0 : Int32))])) _
            refine XS.iload X86.here hx rfl (hb hby at_133) rfl ?_
            show Steps p.tables e below (T86.setTop (mkF m 135 #[.val (.int x0_0), .val (.long x0_1), .second, .val (.int x0_2), .val (.long x0_3), .second, .val (.int x0_4), .val (.int x0_5), .val (.int v12), .val (.long v27), .second, .val (.ref (f1 x0_4 w_IR w_R w_U w_IW w_W)), .val (.ref (f1 ((x0_4.toUInt32 >>> ((8 : Int32) &&& 31).toUInt32).toInt32) w_IR w_R w_U w_IW w_W)), .val (.ref b13), .val (.ref b16), .val (.int (0 : Int32)), .val (.int v119)] [(.int (0 : Int32)), (.int (0 : Int32))])) _
            refine XS.icmpNo X86.here hx rfl (hb hby at_135) rfl (teq (by decide : ((0 : Int32) = (0 : Int32)))).2 ?_
            show Steps p.tables e below (T86.setTop (mkF m 138 #[.val (.int x0_0), .val (.long x0_1), .second, .val (.int x0_2), .val (.long x0_3), .second, .val (.int x0_4), .val (.int x0_5), .val (.int v12), .val (.long v27), .second, .val (.ref (f1 x0_4 w_IR w_R w_U w_IW w_W)), .val (.ref (f1 ((x0_4.toUInt32 >>> ((8 : Int32) &&& 31).toUInt32).toInt32) w_IR w_R w_U w_IW w_W)), .val (.ref b13), .val (.ref b16), .val (.int (0 : Int32)), .val (.int v119)] [])) _
            refine XS.iconst X86.here hx rfl (hb hby at_138) ?_
            show Steps p.tables e below (T86.setTop (mkF m 139 #[.val (.int x0_0), .val (.long x0_1), .second, .val (.int x0_2), .val (.long x0_3), .second, .val (.int x0_4), .val (.int x0_5), .val (.int v12), .val (.long v27), .second, .val (.ref (f1 x0_4 w_IR w_R w_U w_IW w_W)), .val (.ref (f1 ((x0_4.toUInt32 >>> ((8 : Int32) &&& 31).toUInt32).toInt32) w_IR w_R w_U w_IW w_W)), .val (.ref b13), .val (.ref b16), .val (.int (0 : Int32)), .val (.int v119)] [(.int (1 : Int32))])) _
            refine XS.goto X86.here hx rfl (pc0 := 139) (pc' := 143) rfl (hb hby at_139) (by decide) (by decide) ?_
            show Steps p.tables e below (T86.setTop (mkF m 143 #[.val (.int x0_0), .val (.long x0_1), .second, .val (.int x0_2), .val (.long x0_3), .second, .val (.int x0_4), .val (.int x0_5), .val (.int v12), .val (.long v27), .second, .val (.ref (f1 x0_4 w_IR w_R w_U w_IW w_W)), .val (.ref (f1 ((x0_4.toUInt32 >>> ((8 : Int32) &&& 31).toUInt32).toInt32) w_IR w_R w_U w_IW w_W)), .val (.ref b13), .val (.ref b16), .val (.int (0 : Int32)), .val (.int v119)] [(.int (1 : Int32))])) _
            exact retN X86 hx (t := .boolean) Bd.returns (by simp) (hb hby at_143) hr
          · show Q0 Z x0_0 x0_1 x0_2 x0_3 x0_4 x0_5 w_IR w_R w_U w_IW w_W cA cl h0 n0 _ T86.heap _
            rw [e86]
            exact ⟨rfl, N86⟩
        · have sg88 : ∀ t, Steps p.tables e below (T17.setTop (mkF m 147 #[.val (.int x0_0), .val (.long x0_1), .second, .val (.int x0_2), .val (.long x0_3), .second, .val (.int x0_4), .val (.int x0_5), .val (.int v12), .val (.long v27), .second, .val (.ref (f1 x0_4 w_IR w_R w_U w_IW w_W)), .val (.ref (f1 ((x0_4.toUInt32 >>> ((8 : Int32) &&& 31).toUInt32).toInt32) w_IR w_R w_U w_IW w_W)), .val (.ref b13), .val (.ref b16), .val (.int (0 : Int32)), .val (.int v119)] [(.int (1 : Int32)), (.int v119)])) t → Steps p.tables e below (T17.setTop (mkF m 123 #[.val (.int x0_0), .val (.long x0_1), .second, .val (.int x0_2), .val (.long x0_3), .second, .val (.int x0_4), .val (.int x0_5), .val (.int v12), .val (.long v27), .second, .val (.ref (f1 x0_4 w_IR w_R w_U w_IW w_W)), .val (.ref (f1 ((x0_4.toUInt32 >>> ((8 : Int32) &&& 31).toUInt32).toInt32) w_IR w_R w_U w_IW w_W)), .val (.ref b13), .val (.ref b16), .val (.int (0 : Int32)), .val (.int v119)] [(.int v119)])) t := fun t kt => by
            show Steps p.tables e below (T17.setTop (mkF m 123 #[.val (.int x0_0), .val (.long x0_1), .second, .val (.int x0_2), .val (.long x0_3), .second, .val (.int x0_4), .val (.int x0_5), .val (.int v12), .val (.long v27), .second, .val (.ref (f1 x0_4 w_IR w_R w_U w_IW w_W)), .val (.ref (f1 ((x0_4.toUInt32 >>> ((8 : Int32) &&& 31).toUInt32).toInt32) w_IR w_R w_U w_IW w_W)), .val (.ref b13), .val (.ref b16), .val (.int (0 : Int32)), .val (.int v119)] [(.int v119)])) _
            refine XS.ifYes Xr17.here hx rfl (pc0 := 123) (pc' := 144) rfl (hb hby at_123) rfl ((if0 _ _).trans (feq hc123_81).2) (by decide) (by decide) ?_
            show Steps p.tables e below (T17.setTop (mkF m 144 #[.val (.int x0_0), .val (.long x0_1), .second, .val (.int x0_2), .val (.long x0_3), .second, .val (.int x0_4), .val (.int x0_5), .val (.int v12), .val (.long v27), .second, .val (.ref (f1 x0_4 w_IR w_R w_U w_IW w_W)), .val (.ref (f1 ((x0_4.toUInt32 >>> ((8 : Int32) &&& 31).toUInt32).toInt32) w_IR w_R w_U w_IW w_W)), .val (.ref b13), .val (.ref b16), .val (.int (0 : Int32)), .val (.int v119)] [])) _
            refine XS.iload Xr17.here hx rfl (hb hby at_144) rfl ?_
            show Steps p.tables e below (T17.setTop (mkF m 146 #[.val (.int x0_0), .val (.long x0_1), .second, .val (.int x0_2), .val (.long x0_3), .second, .val (.int x0_4), .val (.int x0_5), .val (.int v12), .val (.long v27), .second, .val (.ref (f1 x0_4 w_IR w_R w_U w_IW w_W)), .val (.ref (f1 ((x0_4.toUInt32 >>> ((8 : Int32) &&& 31).toUInt32).toInt32) w_IR w_R w_U w_IW w_W)), .val (.ref b13), .val (.ref b16), .val (.int (0 : Int32)), .val (.int v119)] [(.int v119)])) _
            refine XS.iconst Xr17.here hx rfl (hb hby at_146) ?_
            exact kt
          by_cases hc147_89 : v119 = (1 : Int32)
          · have c90 := (Exa.keep (Exa.ext E16 Ex14) K17)
            have sg92 : ∀ t, Steps p.tables e below (T17.setTop (mkF m 153 #[.val (.int x0_0), .val (.long x0_1), .second, .val (.int x0_2), .val (.long x0_3), .second, .val (.int x0_4), .val (.int x0_5), .val (.int v12), .val (.long v27), .second, .val (.ref (f1 x0_4 w_IR w_R w_U w_IW w_W)), .val (.ref (f1 ((x0_4.toUInt32 >>> ((8 : Int32) &&& 31).toUInt32).toInt32) w_IR w_R w_U w_IW w_W)), .val (.ref b13), .val (.ref b16), .val (.int (0 : Int32)), .val (.int v119)] [.null, (.ref b13)])) t → Steps p.tables e below (T17.setTop (mkF m 147 #[.val (.int x0_0), .val (.long x0_1), .second, .val (.int x0_2), .val (.long x0_3), .second, .val (.int x0_4), .val (.int x0_5), .val (.int v12), .val (.long v27), .second, .val (.ref (f1 x0_4 w_IR w_R w_U w_IW w_W)), .val (.ref (f1 ((x0_4.toUInt32 >>> ((8 : Int32) &&& 31).toUInt32).toInt32) w_IR w_R w_U w_IW w_W)), .val (.ref b13), .val (.ref b16), .val (.int (0 : Int32)), .val (.int v119)] [(.int (1 : Int32)), (.int v119)])) t := fun t kt => by
              show Steps p.tables e below (T17.setTop (mkF m 147 #[.val (.int x0_0), .val (.long x0_1), .second, .val (.int x0_2), .val (.long x0_3), .second, .val (.int x0_4), .val (.int x0_5), .val (.int v12), .val (.long v27), .second, .val (.ref (f1 x0_4 w_IR w_R w_U w_IW w_W)), .val (.ref (f1 ((x0_4.toUInt32 >>> ((8 : Int32) &&& 31).toUInt32).toInt32) w_IR w_R w_U w_IW w_W)), .val (.ref b13), .val (.ref b16), .val (.int (0 : Int32)), .val (.int v119)] [(.int (1 : Int32)), (.int v119)])) _
              refine XS.icmpNo Xr17.here hx rfl (hb hby at_147) rfl (teq hc147_89).2 ?_
              show Steps p.tables e below (T17.setTop (mkF m 150 #[.val (.int x0_0), .val (.long x0_1), .second, .val (.int x0_2), .val (.long x0_3), .second, .val (.int x0_4), .val (.int x0_5), .val (.int v12), .val (.long v27), .second, .val (.ref (f1 x0_4 w_IR w_R w_U w_IW w_W)), .val (.ref (f1 ((x0_4.toUInt32 >>> ((8 : Int32) &&& 31).toUInt32).toInt32) w_IR w_R w_U w_IW w_W)), .val (.ref b13), .val (.ref b16), .val (.int (0 : Int32)), .val (.int v119)] [])) _
              refine XS.aload Xr17.here hx rfl (hb hby at_150) rfl rfl ?_
              show Steps p.tables e below (T17.setTop (mkF m 152 #[.val (.int x0_0), .val (.long x0_1), .second, .val (.int x0_2), .val (.long x0_3), .second, .val (.int x0_4), .val (.int x0_5), .val (.int v12), .val (.long v27), .second, .val (.ref (f1 x0_4 w_IR w_R w_U w_IW w_W)), .val (.ref (f1 ((x0_4.toUInt32 >>> ((8 : Int32) &&& 31).toUInt32).toInt32) w_IR w_R w_U w_IW w_W)), .val (.ref b13), .val (.ref b16), .val (.int (0 : Int32)), .val (.int v119)] [(.ref b13)])) _
              refine XS.aconstNull Xr17.here hx rfl (hb hby at_152) ?_
              exact kt
            obtain ⟨cq91, kq91, q91a, q91b, q91c⟩ := isOf hZ rfl c90
            obtain ⟨v91, _, ⟨T91, L91, k91, n91⟩, -, X91, ⟨Lc91, hQ91, l91, y91, z91⟩, st91⟩ := Xr17.virtualBack hx (y := (⟨"com/example/libdmutex/libdmutex/core/TokenTree$Token$Queued", "equals", "(Ljava/lang/Object;)Z"⟩ : MethodName)) (z := (⟨"com/example/libdmutex/libdmutex/core/TokenTree$Token$Queued", "equals", "(Ljava/lang/Object;)Z"⟩ : MethodName)) hown (mvT hZ (hw _ (List.mem_of_getElem? (i := 39) rfl))) (mvT hZ (hw _ (List.mem_of_getElem? (i := 40) rfl))) (notFace_of_selects (args := #[]) (mvT hZ (hw _ (List.mem_of_getElem? (i := 42) rfl)))) (mvT hZ (hw _ (List.mem_of_getElem? (i := 42) rfl))) (mvT hZ (hw _ (List.mem_of_getElem? (i := 41) rfl))) (by decide) (backOf (W := 0) (rm5n l Z a0 hw [] b13 T17.heap n0 Zs17 c90) hZ (hw _ (List.mem_of_getElem? (i := 43) rfl)) (hw _ (List.mem_of_getElem? (i := 12) rfl)) (by decide) (by decide)) q91a q91c (g := (mkF m 153 #[.val (.int x0_0), .val (.long x0_1), .second, .val (.int x0_2), .val (.long x0_3), .second, .val (.int x0_4), .val (.int x0_5), .val (.int v12), .val (.long v27), .second, .val (.ref (f1 x0_4 w_IR w_R w_U w_IW w_W)), .val (.ref (f1 ((x0_4.toUInt32 >>> ((8 : Int32) &&& 31).toUInt32).toInt32) w_IR w_R w_U w_IW w_W)), .val (.ref b13), .val (.ref b16), .val (.int (0 : Int32)), .val (.int v119)] [.null, (.ref b13)])) rfl (by rw [hml]; rfl) (Steps.refl _) (argsL := [.null]) (rest := []) (lenOf pd_5 rfl) rfl (by show 2 * 0 + _ ≤ _; exact Nat.le_of_eq rfl) (hb hby at_153) (fun _ _ => ⟨rfl, rfl, (by decide : 6 + 0 ≤ _), (by decide : 46 + 0 ≤ _)⟩)
            dsimp only [Pt.U, Pt.locs, Pt.cells, Pt.slots] at X91 l91 y91 z91 st91 hQ91
            subst l91 y91 z91
            obtain ⟨hv91, N91q, e91⟩ := hQ91
            have N91 := Fr.app N17 N91q
            have hf91 : f5n b13 = (0 : Int32) := rfl
            rw [hf91] at hv91
            subst hv91
            obtain ⟨fs, hr, hrun, hended, hRW⟩ := Stand.leaveW (s := s) (vm₁ := T17.vm) X91 hS17 (by rw [e91]; exact hk17) (v := some (.int (1 : Int32))) (fun h => by rw [Bd.returns] at h; cases h)
            refine ⟨_, _, pre0 _ (sg1 _ (sg2 _ (sg3 _ (sg4 _ (sg5 _ (sg6 _ (sg8 _ (sg9 _ (sg12 _ (sg15 _ (sg18 _ (sg19 _ (sg21 _ (sg79 _ (sg80 _ (sg88 _ (sg92 _ ?_))))))))))))))))), hrun, hended, _, _, rfl, ?_, hRW.1, hRW.2.1, hRW.2.2.1, hRW.2.2.2.mono (by decide) (by decide)⟩
            · show Steps p.tables e below (T17.setTop (mkF m 153 #[.val (.int x0_0), .val (.long x0_1), .second, .val (.int x0_2), .val (.long x0_3), .second, .val (.int x0_4), .val (.int x0_5), .val (.int v12), .val (.long v27), .second, .val (.ref (f1 x0_4 w_IR w_R w_U w_IW w_W)), .val (.ref (f1 ((x0_4.toUInt32 >>> ((8 : Int32) &&& 31).toUInt32).toInt32) w_IR w_R w_U w_IW w_W)), .val (.ref b13), .val (.ref b16), .val (.int (0 : Int32)), .val (.int v119)] [.null, (.ref b13)])) _
              refine st91.trans ?_
              show Steps p.tables e below (T91.setTop (mkF m 156 #[.val (.int x0_0), .val (.long x0_1), .second, .val (.int x0_2), .val (.long x0_3), .second, .val (.int x0_4), .val (.int x0_5), .val (.int v12), .val (.long v27), .second, .val (.ref (f1 x0_4 w_IR w_R w_U w_IW w_W)), .val (.ref (f1 ((x0_4.toUInt32 >>> ((8 : Int32) &&& 31).toUInt32).toInt32) w_IR w_R w_U w_IW w_W)), .val (.ref b13), .val (.ref b16), .val (.int (0 : Int32)), .val (.int v119)] [(.int (0 : Int32))])) _
              refine XS.ifNo X91.here hx rfl (hb hby at_156) rfl ((if0 _ _).trans (teq (by decide : ((0 : Int32) = (0 : Int32)))).2) ?_
              show Steps p.tables e below (T91.setTop (mkF m 159 #[.val (.int x0_0), .val (.long x0_1), .second, .val (.int x0_2), .val (.long x0_3), .second, .val (.int x0_4), .val (.int x0_5), .val (.int v12), .val (.long v27), .second, .val (.ref (f1 x0_4 w_IR w_R w_U w_IW w_W)), .val (.ref (f1 ((x0_4.toUInt32 >>> ((8 : Int32) &&& 31).toUInt32).toInt32) w_IR w_R w_U w_IW w_W)), .val (.ref b13), .val (.ref b16), .val (.int (0 : Int32)), .val (.int v119)] [])) _
              refine XS.iconst X91.here hx rfl (hb hby at_159) ?_
              show Steps p.tables e below (T91.setTop (mkF m 160 #[.val (.int x0_0), .val (.long x0_1), .second, .val (.int x0_2), .val (.long x0_3), .second, .val (.int x0_4), .val (.int x0_5), .val (.int v12), .val (.long v27), .second, .val (.ref (f1 x0_4 w_IR w_R w_U w_IW w_W)), .val (.ref (f1 ((x0_4.toUInt32 >>> ((8 : Int32) &&& 31).toUInt32).toInt32) w_IR w_R w_U w_IW w_W)), .val (.ref b13), .val (.ref b16), .val (.int (0 : Int32)), .val (.int v119)] [(.int (1 : Int32))])) _
              refine XS.goto X91.here hx rfl (pc0 := 160) (pc' := 164) rfl (hb hby at_160) (by decide) (by decide) ?_
              show Steps p.tables e below (T91.setTop (mkF m 164 #[.val (.int x0_0), .val (.long x0_1), .second, .val (.int x0_2), .val (.long x0_3), .second, .val (.int x0_4), .val (.int x0_5), .val (.int v12), .val (.long v27), .second, .val (.ref (f1 x0_4 w_IR w_R w_U w_IW w_W)), .val (.ref (f1 ((x0_4.toUInt32 >>> ((8 : Int32) &&& 31).toUInt32).toInt32) w_IR w_R w_U w_IW w_W)), .val (.ref b13), .val (.ref b16), .val (.int (0 : Int32)), .val (.int v119)] [(.int (1 : Int32))])) _
              exact retN X91 hx (t := .boolean) Bd.returns (by simp) (hb hby at_164) hr
            · show Q0 Z x0_0 x0_1 x0_2 x0_3 x0_4 x0_5 w_IR w_R w_U w_IW w_W cA cl h0 n0 _ T91.heap _
              rw [e91]
              exact ⟨rfl, N91⟩
          · have sg93 : ∀ t, Steps p.tables e below (T17.setTop (mkF m 168 #[.val (.int x0_0), .val (.long x0_1), .second, .val (.int x0_2), .val (.long x0_3), .second, .val (.int x0_4), .val (.int x0_5), .val (.int v12), .val (.long v27), .second, .val (.ref (f1 x0_4 w_IR w_R w_U w_IW w_W)), .val (.ref (f1 ((x0_4.toUInt32 >>> ((8 : Int32) &&& 31).toUInt32).toInt32) w_IR w_R w_U w_IW w_W)), .val (.ref b13), .val (.ref b16), .val (.int (0 : Int32)), .val (.int v119)] [(.int (2 : Int32)), (.int v119)])) t → Steps p.tables e below (T17.setTop (mkF m 147 #[.val (.int x0_0), .val (.long x0_1), .second, .val (.int x0_2), .val (.long x0_3), .second, .val (.int x0_4), .val (.int x0_5), .val (.int v12), .val (.long v27), .second, .val (.ref (f1 x0_4 w_IR w_R w_U w_IW w_W)), .val (.ref (f1 ((x0_4.toUInt32 >>> ((8 : Int32) &&& 31).toUInt32).toInt32) w_IR w_R w_U w_IW w_W)), .val (.ref b13), .val (.ref b16), .val (.int (0 : Int32)), .val (.int v119)] [(.int (1 : Int32)), (.int v119)])) t := fun t kt => by
              show Steps p.tables e below (T17.setTop (mkF m 147 #[.val (.int x0_0), .val (.long x0_1), .second, .val (.int x0_2), .val (.long x0_3), .second, .val (.int x0_4), .val (.int x0_5), .val (.int v12), .val (.long v27), .second, .val (.ref (f1 x0_4 w_IR w_R w_U w_IW w_W)), .val (.ref (f1 ((x0_4.toUInt32 >>> ((8 : Int32) &&& 31).toUInt32).toInt32) w_IR w_R w_U w_IW w_W)), .val (.ref b13), .val (.ref b16), .val (.int (0 : Int32)), .val (.int v119)] [(.int (1 : Int32)), (.int v119)])) _
              refine XS.icmpYes Xr17.here hx rfl (pc0 := 147) (pc' := 165) rfl (hb hby at_147) rfl (feq hc147_89).2 (by decide) (by decide) ?_
              show Steps p.tables e below (T17.setTop (mkF m 165 #[.val (.int x0_0), .val (.long x0_1), .second, .val (.int x0_2), .val (.long x0_3), .second, .val (.int x0_4), .val (.int x0_5), .val (.int v12), .val (.long v27), .second, .val (.ref (f1 x0_4 w_IR w_R w_U w_IW w_W)), .val (.ref (f1 ((x0_4.toUInt32 >>> ((8 : Int32) &&& 31).toUInt32).toInt32) w_IR w_R w_U w_IW w_W)), .val (.ref b13), .val (.ref b16), .val (.int (0 : Int32)), .val (.int v119)] [])) _
              refine XS.iload Xr17.here hx rfl (hb hby at_165) rfl ?_
              show Steps p.tables e below (T17.setTop (mkF m 167 #[.val (.int x0_0), .val (.long x0_1), .second, .val (.int x0_2), .val (.long x0_3), .second, .val (.int x0_4), .val (.int x0_5), .val (.int v12), .val (.long v27), .second, .val (.ref (f1 x0_4 w_IR w_R w_U w_IW w_W)), .val (.ref (f1 ((x0_4.toUInt32 >>> ((8 : Int32) &&& 31).toUInt32).toInt32) w_IR w_R w_U w_IW w_W)), .val (.ref b13), .val (.ref b16), .val (.int (0 : Int32)), .val (.int v119)] [(.int v119)])) _
              refine XS.iconst Xr17.here hx rfl (hb hby at_167) ?_
              exact kt
            by_cases hc168_94 : v119 = (2 : Int32)
            · have sg96 : ∀ t, Steps p.tables e below (T17.setTop (mkF m 174 #[.val (.int x0_0), .val (.long x0_1), .second, .val (.int x0_2), .val (.long x0_3), .second, .val (.int x0_4), .val (.int x0_5), .val (.int v12), .val (.long v27), .second, .val (.ref (f1 x0_4 w_IR w_R w_U w_IW w_W)), .val (.ref (f1 ((x0_4.toUInt32 >>> ((8 : Int32) &&& 31).toUInt32).toInt32) w_IR w_R w_U w_IW w_W)), .val (.ref b13), .val (.ref b16), .val (.int (0 : Int32)), .val (.int v119)] [(.int x0_0), (.ref b13)])) t → Steps p.tables e below (T17.setTop (mkF m 168 #[.val (.int x0_0), .val (.long x0_1), .second, .val (.int x0_2), .val (.long x0_3), .second, .val (.int x0_4), .val (.int x0_5), .val (.int v12), .val (.long v27), .second, .val (.ref (f1 x0_4 w_IR w_R w_U w_IW w_W)), .val (.ref (f1 ((x0_4.toUInt32 >>> ((8 : Int32) &&& 31).toUInt32).toInt32) w_IR w_R w_U w_IW w_W)), .val (.ref b13), .val (.ref b16), .val (.int (0 : Int32)), .val (.int v119)] [(.int (2 : Int32)), (.int v119)])) t := fun t kt => by
                show Steps p.tables e below (T17.setTop (mkF m 168 #[.val (.int x0_0), .val (.long x0_1), .second, .val (.int x0_2), .val (.long x0_3), .second, .val (.int x0_4), .val (.int x0_5), .val (.int v12), .val (.long v27), .second, .val (.ref (f1 x0_4 w_IR w_R w_U w_IW w_W)), .val (.ref (f1 ((x0_4.toUInt32 >>> ((8 : Int32) &&& 31).toUInt32).toInt32) w_IR w_R w_U w_IW w_W)), .val (.ref b13), .val (.ref b16), .val (.int (0 : Int32)), .val (.int v119)] [(.int (2 : Int32)), (.int v119)])) _
                refine XS.icmpNo Xr17.here hx rfl (hb hby at_168) rfl (teq hc168_94).2 ?_
                show Steps p.tables e below (T17.setTop (mkF m 171 #[.val (.int x0_0), .val (.long x0_1), .second, .val (.int x0_2), .val (.long x0_3), .second, .val (.int x0_4), .val (.int x0_5), .val (.int v12), .val (.long v27), .second, .val (.ref (f1 x0_4 w_IR w_R w_U w_IW w_W)), .val (.ref (f1 ((x0_4.toUInt32 >>> ((8 : Int32) &&& 31).toUInt32).toInt32) w_IR w_R w_U w_IW w_W)), .val (.ref b13), .val (.ref b16), .val (.int (0 : Int32)), .val (.int v119)] [])) _
                refine XS.aload Xr17.here hx rfl (hb hby at_171) rfl rfl ?_
                show Steps p.tables e below (T17.setTop (mkF m 173 #[.val (.int x0_0), .val (.long x0_1), .second, .val (.int x0_2), .val (.long x0_3), .second, .val (.int x0_4), .val (.int x0_5), .val (.int v12), .val (.long v27), .second, .val (.ref (f1 x0_4 w_IR w_R w_U w_IW w_W)), .val (.ref (f1 ((x0_4.toUInt32 >>> ((8 : Int32) &&& 31).toUInt32).toInt32) w_IR w_R w_U w_IW w_W)), .val (.ref b13), .val (.ref b16), .val (.int (0 : Int32)), .val (.int v119)] [(.ref b13)])) _
                refine XS.iloadN Xr17.here hx rfl (hb hby at_173) rfl ?_
                exact kt
              obtain ⟨v95, _, ⟨T95, L95, k95, n95⟩, -, X95, ⟨Lc95, hQ95, l95, y95, z95⟩, st95⟩ := Jvm.LawKit.callS Xr17 hx (y := (⟨"java/lang/Integer", "valueOf", "(I)Ljava/lang/Integer;"⟩ : MethodName)) hown (mvT hZ (hw _ (List.mem_of_getElem? (i := 48) rfl))) (mvT hZ (hw _ (List.mem_of_getElem? (i := 49) rfl))) (mvT hZ (hw _ (List.mem_of_getElem? (i := 50) rfl))) (mvT hZ (hw _ (List.mem_of_getElem? (i := 51) rfl))) (by decide) (backOf (W := 1) (rm6 l Z a0 hw [] x0_0 cA cl T17.heap n0 Zs17 Ol17 JC SC SH) hZ (hw _ (List.mem_of_getElem? (i := 51) rfl)) (hw _ (List.mem_of_getElem? (i := 50) rfl)) (by decide) (by decide)) (g := (mkF m 174 #[.val (.int x0_0), .val (.long x0_1), .second, .val (.int x0_2), .val (.long x0_3), .second, .val (.int x0_4), .val (.int x0_5), .val (.int v12), .val (.long v27), .second, .val (.ref (f1 x0_4 w_IR w_R w_U w_IW w_W)), .val (.ref (f1 ((x0_4.toUInt32 >>> ((8 : Int32) &&& 31).toUInt32).toInt32) w_IR w_R w_U w_IW w_W)), .val (.ref b13), .val (.ref b16), .val (.int (0 : Int32)), .val (.int v119)] [(.int x0_0), (.ref b13)])) rfl (by rw [hml]; rfl) (argsL := [(.int x0_0)]) (rest := [(.ref b13)]) (lenOf pd_6 rfl) rfl (by show 2 * 0 + _ ≤ _; exact Nat.le_of_eq rfl) (hb hby at_174) (fun _ _ => ⟨rfl, rfl, (by decide : 6 + 1 ≤ _), (by decide : 46 + 1 ≤ _)⟩)
              dsimp only [Pt.U, Pt.locs, Pt.cells, Pt.slots] at X95 l95 y95 z95 st95 hQ95
              subst l95 y95 z95
              obtain ⟨r95, rfl, N95q, K95, Ex95⟩ := hQ95
              have N95 := Fr.app N17 N95q
              have Zs95 : n0 ≤ T95.heap.size := Nat.le_trans Zs17 K95.1
              have hk95 := Nat.le_trans hk17 K95.1
              have Ol95 : Old Z n0 T95.heap := (Ol17).keep K95 all0
              have c97 := (Exa.keep (Exa.keep (Exa.ext E16 Ex14) K17) K95)
              have sg99 : ∀ t, Steps p.tables e below (T95.setTop (mkF m 177 #[.val (.int x0_0), .val (.long x0_1), .second, .val (.int x0_2), .val (.long x0_3), .second, .val (.int x0_4), .val (.int x0_5), .val (.int v12), .val (.long v27), .second, .val (.ref (f1 x0_4 w_IR w_R w_U w_IW w_W)), .val (.ref (f1 ((x0_4.toUInt32 >>> ((8 : Int32) &&& 31).toUInt32).toInt32) w_IR w_R w_U w_IW w_W)), .val (.ref b13), .val (.ref b16), .val (.int (0 : Int32)), .val (.int v119)] [(.ref r95), (.ref b13)])) t → Steps p.tables e below (T17.setTop (mkF m 174 #[.val (.int x0_0), .val (.long x0_1), .second, .val (.int x0_2), .val (.long x0_3), .second, .val (.int x0_4), .val (.int x0_5), .val (.int v12), .val (.long v27), .second, .val (.ref (f1 x0_4 w_IR w_R w_U w_IW w_W)), .val (.ref (f1 ((x0_4.toUInt32 >>> ((8 : Int32) &&& 31).toUInt32).toInt32) w_IR w_R w_U w_IW w_W)), .val (.ref b13), .val (.ref b16), .val (.int (0 : Int32)), .val (.int v119)] [(.int x0_0), (.ref b13)])) t := fun t kt => by
                show Steps p.tables e below (T17.setTop (mkF m 174 #[.val (.int x0_0), .val (.long x0_1), .second, .val (.int x0_2), .val (.long x0_3), .second, .val (.int x0_4), .val (.int x0_5), .val (.int v12), .val (.long v27), .second, .val (.ref (f1 x0_4 w_IR w_R w_U w_IW w_W)), .val (.ref (f1 ((x0_4.toUInt32 >>> ((8 : Int32) &&& 31).toUInt32).toInt32) w_IR w_R w_U w_IW w_W)), .val (.ref b13), .val (.ref b16), .val (.int (0 : Int32)), .val (.int v119)] [(.int x0_0), (.ref b13)])) _
                refine st95 _ ?_
                exact kt
              obtain ⟨cq98, kq98, q98a, q98b, q98c⟩ := isOf hZ rfl c97
              obtain ⟨v98, _, ⟨T98, L98, k98, n98⟩, -, X98, ⟨Lc98, hQ98, l98, y98, z98⟩, st98⟩ := X95.virtualBack hx (y := (⟨"com/example/libdmutex/libdmutex/core/TokenTree$Token$Queued", "equals", "(Ljava/lang/Object;)Z"⟩ : MethodName)) (z := (⟨"com/example/libdmutex/libdmutex/core/TokenTree$Token$Queued", "equals", "(Ljava/lang/Object;)Z"⟩ : MethodName)) hown (mvT hZ (hw _ (List.mem_of_getElem? (i := 39) rfl))) (mvT hZ (hw _ (List.mem_of_getElem? (i := 40) rfl))) (notFace_of_selects (args := #[]) (mvT hZ (hw _ (List.mem_of_getElem? (i := 42) rfl)))) (mvT hZ (hw _ (List.mem_of_getElem? (i := 42) rfl))) (mvT hZ (hw _ (List.mem_of_getElem? (i := 41) rfl))) (by decide) (backOf (W := 0) (rm5i l Z a0 hw [] b13 r95 T95.heap n0 Zs95 Ex95) hZ (hw _ (List.mem_of_getElem? (i := 43) rfl)) (hw _ (List.mem_of_getElem? (i := 12) rfl)) (by decide) (by decide)) q98a q98c (g := (mkF m 177 #[.val (.int x0_0), .val (.long x0_1), .second, .val (.int x0_2), .val (.long x0_3), .second, .val (.int x0_4), .val (.int x0_5), .val (.int v12), .val (.long v27), .second, .val (.ref (f1 x0_4 w_IR w_R w_U w_IW w_W)), .val (.ref (f1 ((x0_4.toUInt32 >>> ((8 : Int32) &&& 31).toUInt32).toInt32) w_IR w_R w_U w_IW w_W)), .val (.ref b13), .val (.ref b16), .val (.int (0 : Int32)), .val (.int v119)] [(.ref r95), (.ref b13)])) rfl (by rw [hml]; rfl) (Steps.refl _) (argsL := [(.ref r95)]) (rest := []) (lenOf pd_5 rfl) rfl (by show 2 * 0 + _ ≤ _; exact Nat.le_of_eq rfl) (hb hby at_177) (fun _ _ => ⟨rfl, rfl, (by decide : 7 + 0 ≤ _), (by decide : 47 + 0 ≤ _)⟩)
              dsimp only [Pt.U, Pt.locs, Pt.cells, Pt.slots] at X98 l98 y98 z98 st98 hQ98
              subst l98 y98 z98
              obtain ⟨hv98, N98q, e98⟩ := hQ98
              have N98 := Fr.app N95 N98q
              have hf98 : f5i b13 r95 = (0 : Int32) := rfl
              rw [hf98] at hv98
              subst hv98
              obtain ⟨fs, hr, hrun, hended, hRW⟩ := Stand.leaveW (s := s) (vm₁ := T17.vm) X98 hS17 (by rw [e98]; exact hk95) (v := some (.int (1 : Int32))) (fun h => by rw [Bd.returns] at h; cases h)
              refine ⟨_, _, pre0 _ (sg1 _ (sg2 _ (sg3 _ (sg4 _ (sg5 _ (sg6 _ (sg8 _ (sg9 _ (sg12 _ (sg15 _ (sg18 _ (sg19 _ (sg21 _ (sg79 _ (sg80 _ (sg88 _ (sg93 _ (sg96 _ (sg99 _ ?_))))))))))))))))))), hrun, hended, _, _, rfl, ?_, hRW.1, hRW.2.1, hRW.2.2.1, hRW.2.2.2.mono (by decide) (by decide)⟩
              · show Steps p.tables e below (T95.setTop (mkF m 177 #[.val (.int x0_0), .val (.long x0_1), .second, .val (.int x0_2), .val (.long x0_3), .second, .val (.int x0_4), .val (.int x0_5), .val (.int v12), .val (.long v27), .second, .val (.ref (f1 x0_4 w_IR w_R w_U w_IW w_W)), .val (.ref (f1 ((x0_4.toUInt32 >>> ((8 : Int32) &&& 31).toUInt32).toInt32) w_IR w_R w_U w_IW w_W)), .val (.ref b13), .val (.ref b16), .val (.int (0 : Int32)), .val (.int v119)] [(.ref r95), (.ref b13)])) _
                refine st98.trans ?_
                show Steps p.tables e below (T98.setTop (mkF m 180 #[.val (.int x0_0), .val (.long x0_1), .second, .val (.int x0_2), .val (.long x0_3), .second, .val (.int x0_4), .val (.int x0_5), .val (.int v12), .val (.long v27), .second, .val (.ref (f1 x0_4 w_IR w_R w_U w_IW w_W)), .val (.ref (f1 ((x0_4.toUInt32 >>> ((8 : Int32) &&& 31).toUInt32).toInt32) w_IR w_R w_U w_IW w_W)), .val (.ref b13), .val (.ref b16), .val (.int (0 : Int32)), .val (.int v119)] [(.int (0 : Int32))])) _
                refine XS.ifNo X98.here hx rfl (hb hby at_180) rfl ((if0 _ _).trans (teq (by decide : ((0 : Int32) = (0 : Int32)))).2) ?_
                show Steps p.tables e below (T98.setTop (mkF m 183 #[.val (.int x0_0), .val (.long x0_1), .second, .val (.int x0_2), .val (.long x0_3), .second, .val (.int x0_4), .val (.int x0_5), .val (.int v12), .val (.long v27), .second, .val (.ref (f1 x0_4 w_IR w_R w_U w_IW w_W)), .val (.ref (f1 ((x0_4.toUInt32 >>> ((8 : Int32) &&& 31).toUInt32).toInt32) w_IR w_R w_U w_IW w_W)), .val (.ref b13), .val (.ref b16), .val (.int (0 : Int32)), .val (.int v119)] [])) _
                refine XS.iconst X98.here hx rfl (hb hby at_183) ?_
                show Steps p.tables e below (T98.setTop (mkF m 184 #[.val (.int x0_0), .val (.long x0_1), .second, .val (.int x0_2), .val (.long x0_3), .second, .val (.int x0_4), .val (.int x0_5), .val (.int v12), .val (.long v27), .second, .val (.ref (f1 x0_4 w_IR w_R w_U w_IW w_W)), .val (.ref (f1 ((x0_4.toUInt32 >>> ((8 : Int32) &&& 31).toUInt32).toInt32) w_IR w_R w_U w_IW w_W)), .val (.ref b13), .val (.ref b16), .val (.int (0 : Int32)), .val (.int v119)] [(.int (1 : Int32))])) _
                refine XS.goto X98.here hx rfl (pc0 := 184) (pc' := 188) rfl (hb hby at_184) (by decide) (by decide) ?_
                show Steps p.tables e below (T98.setTop (mkF m 188 #[.val (.int x0_0), .val (.long x0_1), .second, .val (.int x0_2), .val (.long x0_3), .second, .val (.int x0_4), .val (.int x0_5), .val (.int v12), .val (.long v27), .second, .val (.ref (f1 x0_4 w_IR w_R w_U w_IW w_W)), .val (.ref (f1 ((x0_4.toUInt32 >>> ((8 : Int32) &&& 31).toUInt32).toInt32) w_IR w_R w_U w_IW w_W)), .val (.ref b13), .val (.ref b16), .val (.int (0 : Int32)), .val (.int v119)] [(.int (1 : Int32))])) _
                exact retN X98 hx (t := .boolean) Bd.returns (by simp) (hb hby at_188) hr
              · show Q0 Z x0_0 x0_1 x0_2 x0_3 x0_4 x0_5 w_IR w_R w_U w_IW w_W cA cl h0 n0 _ T98.heap _
                rw [e98]
                exact ⟨rfl, N98⟩
            · have c100 := (Exa.keep (Exa.ext E16 Ex14) K17)
              have c101 := (Fld.keep (Fld.ext E16 Fq14_peer) K17 (ninS ne_b13_b16 nin0))
              have c102 := (Fld.keep (Fld.ext E16 Fq14_ticket) K17 (ninS ne_b13_b16 nin0))
              have c103 := (Fld.keep (Fld.ext E16 Fq14_mode) K17 (ninS ne_b13_b16 nin0))
              have sg105 : ∀ t, Steps p.tables e below (T17.setTop (mkF m 193 #[.val (.int x0_0), .val (.long x0_1), .second, .val (.int x0_2), .val (.long x0_3), .second, .val (.int x0_4), .val (.int x0_5), .val (.int v12), .val (.long v27), .second, .val (.ref (f1 x0_4 w_IR w_R w_U w_IW w_W)), .val (.ref (f1 ((x0_4.toUInt32 >>> ((8 : Int32) &&& 31).toUInt32).toInt32) w_IR w_R w_U w_IW w_W)), .val (.ref b13), .val (.ref b16), .val (.int (0 : Int32)), .val (.int v119)] [(.ref b13), (.ref b16)])) t → Steps p.tables e below (T17.setTop (mkF m 168 #[.val (.int x0_0), .val (.long x0_1), .second, .val (.int x0_2), .val (.long x0_3), .second, .val (.int x0_4), .val (.int x0_5), .val (.int v12), .val (.long v27), .second, .val (.ref (f1 x0_4 w_IR w_R w_U w_IW w_W)), .val (.ref (f1 ((x0_4.toUInt32 >>> ((8 : Int32) &&& 31).toUInt32).toInt32) w_IR w_R w_U w_IW w_W)), .val (.ref b13), .val (.ref b16), .val (.int (0 : Int32)), .val (.int v119)] [(.int (2 : Int32)), (.int v119)])) t := fun t kt => by
                show Steps p.tables e below (T17.setTop (mkF m 168 #[.val (.int x0_0), .val (.long x0_1), .second, .val (.int x0_2), .val (.long x0_3), .second, .val (.int x0_4), .val (.int x0_5), .val (.int v12), .val (.long v27), .second, .val (.ref (f1 x0_4 w_IR w_R w_U w_IW w_W)), .val (.ref (f1 ((x0_4.toUInt32 >>> ((8 : Int32) &&& 31).toUInt32).toInt32) w_IR w_R w_U w_IW w_W)), .val (.ref b13), .val (.ref b16), .val (.int (0 : Int32)), .val (.int v119)] [(.int (2 : Int32)), (.int v119)])) _
                refine XS.icmpYes Xr17.here hx rfl (pc0 := 168) (pc' := 189) rfl (hb hby at_168) rfl (feq hc168_94).2 (by decide) (by decide) ?_
                show Steps p.tables e below (T17.setTop (mkF m 189 #[.val (.int x0_0), .val (.long x0_1), .second, .val (.int x0_2), .val (.long x0_3), .second, .val (.int x0_4), .val (.int x0_5), .val (.int v12), .val (.long v27), .second, .val (.ref (f1 x0_4 w_IR w_R w_U w_IW w_W)), .val (.ref (f1 ((x0_4.toUInt32 >>> ((8 : Int32) &&& 31).toUInt32).toInt32) w_IR w_R w_U w_IW w_W)), .val (.ref b13), .val (.ref b16), .val (.int (0 : Int32)), .val (.int v119)] [])) _
                refine XS.aload Xr17.here hx rfl (hb hby at_189) rfl rfl ?_
                show Steps p.tables e below (T17.setTop (mkF m 191 #[.val (.int x0_0), .val (.long x0_1), .second, .val (.int x0_2), .val (.long x0_3), .second, .val (.int x0_4), .val (.int x0_5), .val (.int v12), .val (.long v27), .second, .val (.ref (f1 x0_4 w_IR w_R w_U w_IW w_W)), .val (.ref (f1 ((x0_4.toUInt32 >>> ((8 : Int32) &&& 31).toUInt32).toInt32) w_IR w_R w_U w_IW w_W)), .val (.ref b13), .val (.ref b16), .val (.int (0 : Int32)), .val (.int v119)] [(.ref b16)])) _
                refine XS.aload Xr17.here hx rfl (hb hby at_191) rfl rfl ?_
                exact kt
              obtain ⟨cq104, kq104, q104a, q104b, q104c⟩ := isOf hZ rfl Ex17
              obtain ⟨v104, _, ⟨T104, L104, k104, n104⟩, -, X104, ⟨Lc104, hQ104, l104, y104, z104⟩, st104⟩ := Xr17.virtualBack hx (y := (⟨"com/example/libdmutex/libdmutex/core/TokenTree$Token$Queued", "equals", "(Ljava/lang/Object;)Z"⟩ : MethodName)) (z := (⟨"com/example/libdmutex/libdmutex/core/TokenTree$Token$Queued", "equals", "(Ljava/lang/Object;)Z"⟩ : MethodName)) hown (mvT hZ (hw _ (List.mem_of_getElem? (i := 39) rfl))) (mvT hZ (hw _ (List.mem_of_getElem? (i := 40) rfl))) (notFace_of_selects (args := #[]) (mvT hZ (hw _ (List.mem_of_getElem? (i := 42) rfl)))) (mvT hZ (hw _ (List.mem_of_getElem? (i := 42) rfl))) (mvT hZ (hw _ (List.mem_of_getElem? (i := 41) rfl))) (by decide) (backOf (W := 0) (rm5o l Z a0 hw [] b16 b13 v12 v27 (f1 ((x0_4.toUInt32 >>> ((8 : Int32) &&& 31).toUInt32).toInt32) w_IR w_R w_U w_IW w_W) x0_0 x0_1 (f1 x0_4 w_IR w_R w_U w_IW w_W) T17.heap n0 Zs17 Ex17 c100 Fq17_peer Fq17_ticket Fq17_mode c101 c102 c103) hZ (hw _ (List.mem_of_getElem? (i := 43) rfl)) (hw _ (List.mem_of_getElem? (i := 12) rfl)) (by decide) (by decide)) q104a q104c (g := (mkF m 193 #[.val (.int x0_0), .val (.long x0_1), .second, .val (.int x0_2), .val (.long x0_3), .second, .val (.int x0_4), .val (.int x0_5), .val (.int v12), .val (.long v27), .second, .val (.ref (f1 x0_4 w_IR w_R w_U w_IW w_W)), .val (.ref (f1 ((x0_4.toUInt32 >>> ((8 : Int32) &&& 31).toUInt32).toInt32) w_IR w_R w_U w_IW w_W)), .val (.ref b13), .val (.ref b16), .val (.int (0 : Int32)), .val (.int v119)] [(.ref b13), (.ref b16)])) rfl (by rw [hml]; rfl) (Steps.refl _) (argsL := [(.ref b13)]) (rest := []) (lenOf pd_5 rfl) rfl (by show 2 * 0 + _ ≤ _; exact Nat.le_of_eq rfl) (hb hby at_193) (fun _ _ => ⟨rfl, rfl, (by decide : 6 + 0 ≤ _), (by decide : 46 + 0 ≤ _)⟩)
              dsimp only [Pt.U, Pt.locs, Pt.cells, Pt.slots] at X104 l104 y104 z104 st104 hQ104
              subst l104 y104 z104
              obtain ⟨hv104, N104q, e104⟩ := hQ104
              have N104 := Fr.app N17 N104q
              have hf104 : f5o b16 b13 v12 v27 (f1 ((x0_4.toUInt32 >>> ((8 : Int32) &&& 31).toUInt32).toInt32) w_IR w_R w_U w_IW w_W) x0_0 x0_1 (f1 x0_4 w_IR w_R w_U w_IW w_W) = (0 : Int32) := by unfold f5o; rw [if_pos (Eq.symm hc89_20), if_neg (Ne.symm hc96_22)]
              rw [hf104] at hv104
              subst hv104
              obtain ⟨fs, hr, hrun, hended, hRW⟩ := Stand.leaveW (s := s) (vm₁ := T17.vm) X104 hS17 (by rw [e104]; exact hk17) (v := some (.int (1 : Int32))) (fun h => by rw [Bd.returns] at h; cases h)
              refine ⟨_, _, pre0 _ (sg1 _ (sg2 _ (sg3 _ (sg4 _ (sg5 _ (sg6 _ (sg8 _ (sg9 _ (sg12 _ (sg15 _ (sg18 _ (sg19 _ (sg21 _ (sg79 _ (sg80 _ (sg88 _ (sg93 _ (sg105 _ ?_)))))))))))))))))), hrun, hended, _, _, rfl, ?_, hRW.1, hRW.2.1, hRW.2.2.1, hRW.2.2.2.mono (by decide) (by decide)⟩
              · show Steps p.tables e below (T17.setTop (mkF m 193 #[.val (.int x0_0), .val (.long x0_1), .second, .val (.int x0_2), .val (.long x0_3), .second, .val (.int x0_4), .val (.int x0_5), .val (.int v12), .val (.long v27), .second, .val (.ref (f1 x0_4 w_IR w_R w_U w_IW w_W)), .val (.ref (f1 ((x0_4.toUInt32 >>> ((8 : Int32) &&& 31).toUInt32).toInt32) w_IR w_R w_U w_IW w_W)), .val (.ref b13), .val (.ref b16), .val (.int (0 : Int32)), .val (.int v119)] [(.ref b13), (.ref b16)])) _
                refine st104.trans ?_
                show Steps p.tables e below (T104.setTop (mkF m 196 #[.val (.int x0_0), .val (.long x0_1), .second, .val (.int x0_2), .val (.long x0_3), .second, .val (.int x0_4), .val (.int x0_5), .val (.int v12), .val (.long v27), .second, .val (.ref (f1 x0_4 w_IR w_R w_U w_IW w_W)), .val (.ref (f1 ((x0_4.toUInt32 >>> ((8 : Int32) &&& 31).toUInt32).toInt32) w_IR w_R w_U w_IW w_W)), .val (.ref b13), .val (.ref b16), .val (.int (0 : Int32)), .val (.int v119)] [(.int (0 : Int32))])) _
                refine XS.iload X104.here hx rfl (hb hby at_196) rfl ?_
                show Steps p.tables e below (T104.setTop (mkF m 198 #[.val (.int x0_0), .val (.long x0_1), .second, .val (.int x0_2), .val (.long x0_3), .second, .val (.int x0_4), .val (.int x0_5), .val (.int v12), .val (.long v27), .second, .val (.ref (f1 x0_4 w_IR w_R w_U w_IW w_W)), .val (.ref (f1 ((x0_4.toUInt32 >>> ((8 : Int32) &&& 31).toUInt32).toInt32) w_IR w_R w_U w_IW w_W)), .val (.ref b13), .val (.ref b16), .val (.int (0 : Int32)), .val (.int v119)] [(.int (0 : Int32)), (.int (0 : Int32))])) _
                refine XS.icmpNo X104.here hx rfl (hb hby at_198) rfl (teq (by decide : ((0 : Int32) = (0 : Int32)))).2 ?_
                show Steps p.tables e below (T104.setTop (mkF m 201 #[.val (.int x0_0), .val (.long x0_1), .second, .val (.int x0_2), .val (.long x0_3), .second, .val (.int x0_4), .val (.int x0_5), .val (.int v12), .val (.long v27), .second, .val (.ref (f1 x0_4 w_IR w_R w_U w_IW w_W)), .val (.ref (f1 ((x0_4.toUInt32 >>> ((8 : Int32) &&& 31).toUInt32).toInt32) w_IR w_R w_U w_IW w_W)), .val (.ref b13), .val (.ref b16), .val (.int (0 : Int32)), .val (.int v119)] [])) _
                refine XS.iconst X104.here hx rfl (hb hby at_201) ?_
                show Steps p.tables e below (T104.setTop (mkF m 202 #[.val (.int x0_0), .val (.long x0_1), .second, .val (.int x0_2), .val (.long x0_3), .second, .val (.int x0_4), .val (.int x0_5), .val (.int v12), .val (.long v27), .second, .val (.ref (f1 x0_4 w_IR w_R w_U w_IW w_W)), .val (.ref (f1 ((x0_4.toUInt32 >>> ((8 : Int32) &&& 31).toUInt32).toInt32) w_IR w_R w_U w_IW w_W)), .val (.ref b13), .val (.ref b16), .val (.int (0 : Int32)), .val (.int v119)] [(.int (1 : Int32))])) _
                refine XS.goto X104.here hx rfl (pc0 := 202) (pc' := 206) rfl (hb hby at_202) (by decide) (by decide) ?_
                show Steps p.tables e below (T104.setTop (mkF m 206 #[.val (.int x0_0), .val (.long x0_1), .second, .val (.int x0_2), .val (.long x0_3), .second, .val (.int x0_4), .val (.int x0_5), .val (.int v12), .val (.long v27), .second, .val (.ref (f1 x0_4 w_IR w_R w_U w_IW w_W)), .val (.ref (f1 ((x0_4.toUInt32 >>> ((8 : Int32) &&& 31).toUInt32).toInt32) w_IR w_R w_U w_IW w_W)), .val (.ref b13), .val (.ref b16), .val (.int (0 : Int32)), .val (.int v119)] [(.int (1 : Int32))])) _
                exact retN X104 hx (t := .boolean) Bd.returns (by simp) (hb hby at_206) hr
              · show Q0 Z x0_0 x0_1 x0_2 x0_3 x0_4 x0_5 w_IR w_R w_U w_IW w_W cA cl h0 n0 _ T104.heap _
                rw [e104]
                exact ⟨rfl, N104⟩
    · have sg106 : ∀ t, Steps p.tables e below (T17.setTop (mkF m 121 #[.val (.int x0_0), .val (.long x0_1), .second, .val (.int x0_2), .val (.long x0_3), .second, .val (.int x0_4), .val (.int x0_5), .val (.int v12), .val (.long v27), .second, .val (.ref (f1 x0_4 w_IR w_R w_U w_IW w_W)), .val (.ref (f1 ((x0_4.toUInt32 >>> ((8 : Int32) &&& 31).toUInt32).toInt32) w_IR w_R w_U w_IW w_W)), .val (.ref b13), .val (.ref b16), .val (.int (0 : Int32)), .val (.int (((x0_5.toUInt32 >>> ((3 : Int32) &&& 31).toUInt32).toInt32) &&& (3 : Int32)))] [])) t → Steps p.tables e below (T17.setTop (mkF m 89 #[.val (.int x0_0), .val (.long x0_1), .second, .val (.int x0_2), .val (.long x0_3), .second, .val (.int x0_4), .val (.int x0_5), .val (.int v12), .val (.long v27), .second, .val (.ref (f1 x0_4 w_IR w_R w_U w_IW w_W)), .val (.ref (f1 ((x0_4.toUInt32 >>> ((8 : Int32) &&& 31).toUInt32).toInt32) w_IR w_R w_U w_IW w_W)), .val (.ref b13), .val (.ref b16), .unset, .unset] [(.int v12), (.int x0_0)])) t := fun t kt => by
        show Steps p.tables e below (T17.setTop (mkF m 89 #[.val (.int x0_0), .val (.long x0_1), .second, .val (.int x0_2), .val (.long x0_3), .second, .val (.int x0_4), .val (.int x0_5), .val (.int v12), .val (.long v27), .second, .val (.ref (f1 x0_4 w_IR w_R w_U w_IW w_W)), .val (.ref (f1 ((x0_4.toUInt32 >>> ((8 : Int32) &&& 31).toUInt32).toInt32) w_IR w_R w_U w_IW w_W)), .val (.ref b13), .val (.ref b16), .unset, .unset] [(.int v12), (.int x0_0)])) _
        refine XS.icmpYes Xr17.here hx rfl (pc0 := 89) (pc' := 110) rfl (hb hby at_89) rfl (feq hc89_20).2 (by decide) (by decide) ?_
        show Steps p.tables e below (T17.setTop (mkF m 110 #[.val (.int x0_0), .val (.long x0_1), .second, .val (.int x0_2), .val (.long x0_3), .second, .val (.int x0_4), .val (.int x0_5), .val (.int v12), .val (.long v27), .second, .val (.ref (f1 x0_4 w_IR w_R w_U w_IW w_W)), .val (.ref (f1 ((x0_4.toUInt32 >>> ((8 : Int32) &&& 31).toUInt32).toInt32) w_IR w_R w_U w_IW w_W)), .val (.ref b13), .val (.ref b16), .unset, .unset] [])) _
        refine XS.iconst Xr17.here hx rfl (hb hby at_110) ?_
        show Steps p.tables e below (T17.setTop (mkF m 111 #[.val (.int x0_0), .val (.long x0_1), .second, .val (.int x0_2), .val (.long x0_3), .second, .val (.int x0_4), .val (.int x0_5), .val (.int v12), .val (.long v27), .second, .val (.ref (f1 x0_4 w_IR w_R w_U w_IW w_W)), .val (.ref (f1 ((x0_4.toUInt32 >>> ((8 : Int32) &&& 31).toUInt32).toInt32) w_IR w_R w_U w_IW w_W)), .val (.ref b13), .val (.ref b16), .unset, .unset] [(.int (0 : Int32))])) _
        refine XS.istore Xr17.here hx rfl (hb hby at_111) rfl (l' := #[.val (.int x0_0), .val (.long x0_1), .second, .val (.int x0_2), .val (.long x0_3), .second, .val (.int x0_4), .val (.int x0_5), .val (.int v12), .val (.long v27), .second, .val (.ref (f1 x0_4 w_IR w_R w_U w_IW w_W)), .val (.ref (f1 ((x0_4.toUInt32 >>> ((8 : Int32) &&& 31).toUInt32).toInt32) w_IR w_R w_U w_IW w_W)), .val (.ref b13), .val (.ref b16), .val (.int (0 : Int32)), .unset]) rfl ?_
        show Steps p.tables e below (T17.setTop (mkF m 113 #[.val (.int x0_0), .val (.long x0_1), .second, .val (.int x0_2), .val (.long x0_3), .second, .val (.int x0_4), .val (.int x0_5), .val (.int v12), .val (.long v27), .second, .val (.ref (f1 x0_4 w_IR w_R w_U w_IW w_W)), .val (.ref (f1 ((x0_4.toUInt32 >>> ((8 : Int32) &&& 31).toUInt32).toInt32) w_IR w_R w_U w_IW w_W)), .val (.ref b13), .val (.ref b16), .val (.int (0 : Int32)), .unset] [])) _
        refine XS.iload Xr17.here hx rfl (hb hby at_113) rfl ?_
        show Steps p.tables e below (T17.setTop (mkF m 115 #[.val (.int x0_0), .val (.long x0_1), .second, .val (.int x0_2), .val (.long x0_3), .second, .val (.int x0_4), .val (.int x0_5), .val (.int v12), .val (.long v27), .second, .val (.ref (f1 x0_4 w_IR w_R w_U w_IW w_W)), .val (.ref (f1 ((x0_4.toUInt32 >>> ((8 : Int32) &&& 31).toUInt32).toInt32) w_IR w_R w_U w_IW w_W)), .val (.ref b13), .val (.ref b16), .val (.int (0 : Int32)), .unset] [(.int x0_5)])) _
        refine XS.iconst Xr17.here hx rfl (hb hby at_115) ?_
        show Steps p.tables e below (T17.setTop (mkF m 116 #[.val (.int x0_0), .val (.long x0_1), .second, .val (.int x0_2), .val (.long x0_3), .second, .val (.int x0_4), .val (.int x0_5), .val (.int v12), .val (.long v27), .second, .val (.ref (f1 x0_4 w_IR w_R w_U w_IW w_W)), .val (.ref (f1 ((x0_4.toUInt32 >>> ((8 : Int32) &&& 31).toUInt32).toInt32) w_IR w_R w_U w_IW w_W)), .val (.ref b13), .val (.ref b16), .val (.int (0 : Int32)), .unset] [(.int (3 : Int32)), (.int x0_5)])) _
        refine XS.iushr Xr17.here hx rfl (hb hby at_116) rfl ?_
        show Steps p.tables e below (T17.setTop (mkF m 117 #[.val (.int x0_0), .val (.long x0_1), .second, .val (.int x0_2), .val (.long x0_3), .second, .val (.int x0_4), .val (.int x0_5), .val (.int v12), .val (.long v27), .second, .val (.ref (f1 x0_4 w_IR w_R w_U w_IW w_W)), .val (.ref (f1 ((x0_4.toUInt32 >>> ((8 : Int32) &&& 31).toUInt32).toInt32) w_IR w_R w_U w_IW w_W)), .val (.ref b13), .val (.ref b16), .val (.int (0 : Int32)), .unset] [(.int ((x0_5.toUInt32 >>> ((3 : Int32) &&& 31).toUInt32).toInt32))])) _
        refine XS.iconst Xr17.here hx rfl (hb hby at_117) ?_
        show Steps p.tables e below (T17.setTop (mkF m 118 #[.val (.int x0_0), .val (.long x0_1), .second, .val (.int x0_2), .val (.long x0_3), .second, .val (.int x0_4), .val (.int x0_5), .val (.int v12), .val (.long v27), .second, .val (.ref (f1 x0_4 w_IR w_R w_U w_IW w_W)), .val (.ref (f1 ((x0_4.toUInt32 >>> ((8 : Int32) &&& 31).toUInt32).toInt32) w_IR w_R w_U w_IW w_W)), .val (.ref b13), .val (.ref b16), .val (.int (0 : Int32)), .unset] [(.int (3 : Int32)), (.int ((x0_5.toUInt32 >>> ((3 : Int32) &&& 31).toUInt32).toInt32))])) _
        refine XS.iand Xr17.here hx rfl (hb hby at_118) rfl ?_
        show Steps p.tables e below (T17.setTop (mkF m 119 #[.val (.int x0_0), .val (.long x0_1), .second, .val (.int x0_2), .val (.long x0_3), .second, .val (.int x0_4), .val (.int x0_5), .val (.int v12), .val (.long v27), .second, .val (.ref (f1 x0_4 w_IR w_R w_U w_IW w_W)), .val (.ref (f1 ((x0_4.toUInt32 >>> ((8 : Int32) &&& 31).toUInt32).toInt32) w_IR w_R w_U w_IW w_W)), .val (.ref b13), .val (.ref b16), .val (.int (0 : Int32)), .unset] [(.int (((x0_5.toUInt32 >>> ((3 : Int32) &&& 31).toUInt32).toInt32) &&& (3 : Int32)))])) _
        refine XS.istore Xr17.here hx rfl (hb hby at_119) rfl (l' := #[.val (.int x0_0), .val (.long x0_1), .second, .val (.int x0_2), .val (.long x0_3), .second, .val (.int x0_4), .val (.int x0_5), .val (.int v12), .val (.long v27), .second, .val (.ref (f1 x0_4 w_IR w_R w_U w_IW w_W)), .val (.ref (f1 ((x0_4.toUInt32 >>> ((8 : Int32) &&& 31).toUInt32).toInt32) w_IR w_R w_U w_IW w_W)), .val (.ref b13), .val (.ref b16), .val (.int (0 : Int32)), .val (.int (((x0_5.toUInt32 >>> ((3 : Int32) &&& 31).toUInt32).toInt32) &&& (3 : Int32)))]) rfl ?_
        exact kt
      obtain ⟨v119, hv119⟩ : ∃ z, z = (((x0_5.toUInt32 >>> ((3 : Int32) &&& 31).toUInt32).toInt32) &&& (3 : Int32)) := ⟨_, rfl⟩
      rw [← hv119] at sg106
      have sg107 : ∀ t, Steps p.tables e below (T17.setTop (mkF m 123 #[.val (.int x0_0), .val (.long x0_1), .second, .val (.int x0_2), .val (.long x0_3), .second, .val (.int x0_4), .val (.int x0_5), .val (.int v12), .val (.long v27), .second, .val (.ref (f1 x0_4 w_IR w_R w_U w_IW w_W)), .val (.ref (f1 ((x0_4.toUInt32 >>> ((8 : Int32) &&& 31).toUInt32).toInt32) w_IR w_R w_U w_IW w_W)), .val (.ref b13), .val (.ref b16), .val (.int (0 : Int32)), .val (.int v119)] [(.int v119)])) t → Steps p.tables e below (T17.setTop (mkF m 121 #[.val (.int x0_0), .val (.long x0_1), .second, .val (.int x0_2), .val (.long x0_3), .second, .val (.int x0_4), .val (.int x0_5), .val (.int v12), .val (.long v27), .second, .val (.ref (f1 x0_4 w_IR w_R w_U w_IW w_W)), .val (.ref (f1 ((x0_4.toUInt32 >>> ((8 : Int32) &&& 31).toUInt32).toInt32) w_IR w_R w_U w_IW w_W)), .val (.ref b13), .val (.ref b16), .val (.int (0 : Int32)), .val (.int v119)] [])) t := fun t kt => by
        show Steps p.tables e below (T17.setTop (mkF m 121 #[.val (.int x0_0), .val (.long x0_1), .second, .val (.int x0_2), .val (.long x0_3), .second, .val (.int x0_4), .val (.int x0_5), .val (.int v12), .val (.long v27), .second, .val (.ref (f1 x0_4 w_IR w_R w_U w_IW w_W)), .val (.ref (f1 ((x0_4.toUInt32 >>> ((8 : Int32) &&& 31).toUInt32).toInt32) w_IR w_R w_U w_IW w_W)), .val (.ref b13), .val (.ref b16), .val (.int (0 : Int32)), .val (.int v119)] [])) _
        refine XS.iload Xr17.here hx rfl (hb hby at_121) rfl ?_
        exact kt
      by_cases hc123_108 : v119 = (0 : Int32)
      · have c109 := (Exa.keep (Exa.ext E16 Ex14) K17)
        have c110 := (Fld.keep (Fld.ext E16 Fq14_peer) K17 (ninS ne_b13_b16 nin0))
        have c111 := (Fld.keep (Fld.ext E16 Fq14_ticket) K17 (ninS ne_b13_b16 nin0))
        have c112 := (Fld.keep (Fld.ext E16 Fq14_mode) K17 (ninS ne_b13_b16 nin0))
        have sg114 : ∀ t, Steps p.tables e below (T17.setTop (mkF m 130 #[.val (.int x0_0), .val (.long x0_1), .second, .val (.int x0_2), .val (.long x0_3), .second, .val (.int x0_4), .val (.int x0_5), .val (.int v12), .val (.long v27), .second, .val (.ref (f1 x0_4 w_IR w_R w_U w_IW w_W)), .val (.ref (f1 ((x0_4.toUInt32 >>> ((8 : Int32) &&& 31).toUInt32).toInt32) w_IR w_R w_U w_IW w_W)), .val (.ref b13), .val (.ref b16), .val (.int (0 : Int32)), .val (.int v119)] [(.ref b16), (.ref b13)])) t → Steps p.tables e below (T17.setTop (mkF m 123 #[.val (.int x0_0), .val (.long x0_1), .second, .val (.int x0_2), .val (.long x0_3), .second, .val (.int x0_4), .val (.int x0_5), .val (.int v12), .val (.long v27), .second, .val (.ref (f1 x0_4 w_IR w_R w_U w_IW w_W)), .val (.ref (f1 ((x0_4.toUInt32 >>> ((8 : Int32) &&& 31).toUInt32).toInt32) w_IR w_R w_U w_IW w_W)), .val (.ref b13), .val (.ref b16), .val (.int (0 : Int32)), .val (.int v119)] [(.int v119)])) t := fun t kt => by
          show Steps p.tables e below (T17.setTop (mkF m 123 #[.val (.int x0_0), .val (.long x0_1), .second, .val (.int x0_2), .val (.long x0_3), .second, .val (.int x0_4), .val (.int x0_5), .val (.int v12), .val (.long v27), .second, .val (.ref (f1 x0_4 w_IR w_R w_U w_IW w_W)), .val (.ref (f1 ((x0_4.toUInt32 >>> ((8 : Int32) &&& 31).toUInt32).toInt32) w_IR w_R w_U w_IW w_W)), .val (.ref b13), .val (.ref b16), .val (.int (0 : Int32)), .val (.int v119)] [(.int v119)])) _
          refine XS.ifNo Xr17.here hx rfl (hb hby at_123) rfl ((if0 _ _).trans (teq hc123_108).2) ?_
          show Steps p.tables e below (T17.setTop (mkF m 126 #[.val (.int x0_0), .val (.long x0_1), .second, .val (.int x0_2), .val (.long x0_3), .second, .val (.int x0_4), .val (.int x0_5), .val (.int v12), .val (.long v27), .second, .val (.ref (f1 x0_4 w_IR w_R w_U w_IW w_W)), .val (.ref (f1 ((x0_4.toUInt32 >>> ((8 : Int32) &&& 31).toUInt32).toInt32) w_IR w_R w_U w_IW w_W)), .val (.ref b13), .val (.ref b16), .val (.int (0 : Int32)), .val (.int v119)] [])) _
          refine XS.aload Xr17.here hx rfl (hb hby at_126) rfl rfl ?_
          show Steps p.tables e below (T17.setTop (mkF m 128 #[.val (.int x0_0), .val (.long x0_1), .second, .val (.int x0_2), .val (.long x0_3), .second, .val (.int x0_4), .val (.int x0_5), .val (.int v12), .val (.long v27), .second, .val (.ref (f1 x0_4 w_IR w_R w_U w_IW w_W)), .val (.ref (f1 ((x0_4.toUInt32 >>> ((8 : Int32) &&& 31).toUInt32).toInt32) w_IR w_R w_U w_IW w_W)), .val (.ref b13), .val (.ref b16), .val (.int (0 : Int32)), .val (.int v119)] [(.ref b13)])) _
          refine XS.aload Xr17.here hx rfl (hb hby at_128) rfl rfl ?_
          exact kt
        obtain ⟨cq113, kq113, q113a, q113b, q113c⟩ := isOf hZ rfl c109
        obtain ⟨v113, _, ⟨T113, L113, k113, n113⟩, -, X113, ⟨Lc113, hQ113, l113, y113, z113⟩, st113⟩ := Xr17.virtualBack hx (y := (⟨"com/example/libdmutex/libdmutex/core/TokenTree$Token$Queued", "equals", "(Ljava/lang/Object;)Z"⟩ : MethodName)) (z := (⟨"com/example/libdmutex/libdmutex/core/TokenTree$Token$Queued", "equals", "(Ljava/lang/Object;)Z"⟩ : MethodName)) hown (mvT hZ (hw _ (List.mem_of_getElem? (i := 39) rfl))) (mvT hZ (hw _ (List.mem_of_getElem? (i := 40) rfl))) (notFace_of_selects (args := #[]) (mvT hZ (hw _ (List.mem_of_getElem? (i := 42) rfl)))) (mvT hZ (hw _ (List.mem_of_getElem? (i := 42) rfl))) (mvT hZ (hw _ (List.mem_of_getElem? (i := 41) rfl))) (by decide) (backOf (W := 0) (rm5o l Z a0 hw [] b13 b16 x0_0 x0_1 (f1 x0_4 w_IR w_R w_U w_IW w_W) v12 v27 (f1 ((x0_4.toUInt32 >>> ((8 : Int32) &&& 31).toUInt32).toInt32) w_IR w_R w_U w_IW w_W) T17.heap n0 Zs17 c109 Ex17 c110 c111 c112 Fq17_peer Fq17_ticket Fq17_mode) hZ (hw _ (List.mem_of_getElem? (i := 43) rfl)) (hw _ (List.mem_of_getElem? (i := 12) rfl)) (by decide) (by decide)) q113a q113c (g := (mkF m 130 #[.val (.int x0_0), .val (.long x0_1), .second, .val (.int x0_2), .val (.long x0_3), .second, .val (.int x0_4), .val (.int x0_5), .val (.int v12), .val (.long v27), .second, .val (.ref (f1 x0_4 w_IR w_R w_U w_IW w_W)), .val (.ref (f1 ((x0_4.toUInt32 >>> ((8 : Int32) &&& 31).toUInt32).toInt32) w_IR w_R w_U w_IW w_W)), .val (.ref b13), .val (.ref b16), .val (.int (0 : Int32)), .val (.int v119)] [(.ref b16), (.ref b13)])) rfl (by rw [hml]; rfl) (Steps.refl _) (argsL := [(.ref b16)]) (rest := []) (lenOf pd_5 rfl) rfl (by show 2 * 0 + _ ≤ _; exact Nat.le_of_eq rfl) (hb hby at_130) (fun _ _ => ⟨rfl, rfl, (by decide : 6 + 0 ≤ _), (by decide : 46 + 0 ≤ _)⟩)
        dsimp only [Pt.U, Pt.locs, Pt.cells, Pt.slots] at X113 l113 y113 z113 st113 hQ113
        subst l113 y113 z113
        obtain ⟨hv113, N113q, e113⟩ := hQ113
        have N113 := Fr.app N17 N113q
        have hf113 : f5o b13 b16 x0_0 x0_1 (f1 x0_4 w_IR w_R w_U w_IW w_W) v12 v27 (f1 ((x0_4.toUInt32 >>> ((8 : Int32) &&& 31).toUInt32).toInt32) w_IR w_R w_U w_IW w_W) = (0 : Int32) := by unfold f5o; rw [if_neg hc89_20]
        rw [hf113] at hv113
        subst hv113
        obtain ⟨fs, hr, hrun, hended, hRW⟩ := Stand.leaveW (s := s) (vm₁ := T17.vm) X113 hS17 (by rw [e113]; exact hk17) (v := some (.int (1 : Int32))) (fun h => by rw [Bd.returns] at h; cases h)
        refine ⟨_, _, pre0 _ (sg1 _ (sg2 _ (sg3 _ (sg4 _ (sg5 _ (sg6 _ (sg8 _ (sg9 _ (sg12 _ (sg15 _ (sg18 _ (sg19 _ (sg106 _ (sg107 _ (sg114 _ ?_))))))))))))))), hrun, hended, _, _, rfl, ?_, hRW.1, hRW.2.1, hRW.2.2.1, hRW.2.2.2.mono (by decide) (by decide)⟩
        · show Steps p.tables e below (T17.setTop (mkF m 130 #[.val (.int x0_0), .val (.long x0_1), .second, .val (.int x0_2), .val (.long x0_3), .second, .val (.int x0_4), .val (.int x0_5), .val (.int v12), .val (.long v27), .second, .val (.ref (f1 x0_4 w_IR w_R w_U w_IW w_W)), .val (.ref (f1 ((x0_4.toUInt32 >>> ((8 : Int32) &&& 31).toUInt32).toInt32) w_IR w_R w_U w_IW w_W)), .val (.ref b13), .val (.ref b16), .val (.int (0 : Int32)), .val (.int v119)] [(.ref b16), (.ref b13)])) _
          refine st113.trans ?_
          show Steps p.tables e below (T113.setTop (mkF m 133 #[.val (.int x0_0), .val (.long x0_1), .second, .val (.int x0_2), .val (.long x0_3), .second, .val (.int x0_4), .val (.int x0_5), .val (.int v12), .val (.long v27), .second, .val (.ref (f1 x0_4 w_IR w_R w_U w_IW w_W)), .val (.ref (f1 ((x0_4.toUInt32 >>> ((8 : Int32) &&& 31).toUInt32).toInt32) w_IR w_R w_U w_IW w_W)), .val (.ref b13), .val (.ref b16), .val (.int (0 : Int32)), .val (.int v119)] [(.int (0 : Int32))])) _
          refine XS.iload X113.here hx rfl (hb hby at_133) rfl ?_
          show Steps p.tables e below (T113.setTop (mkF m 135 #[.val (.int x0_0), .val (.long x0_1), .second, .val (.int x0_2), .val (.long x0_3), .second, .val (.int x0_4), .val (.int x0_5), .val (.int v12), .val (.long v27), .second, .val (.ref (f1 x0_4 w_IR w_R w_U w_IW w_W)), .val (.ref (f1 ((x0_4.toUInt32 >>> ((8 : Int32) &&& 31).toUInt32).toInt32) w_IR w_R w_U w_IW w_W)), .val (.ref b13), .val (.ref b16), .val (.int (0 : Int32)), .val (.int v119)] [(.int (0 : Int32)), (.int (0 : Int32))])) _
          refine XS.icmpNo X113.here hx rfl (hb hby at_135) rfl (teq (by decide : ((0 : Int32) = (0 : Int32)))).2 ?_
          show Steps p.tables e below (T113.setTop (mkF m 138 #[.val (.int x0_0), .val (.long x0_1), .second, .val (.int x0_2), .val (.long x0_3), .second, .val (.int x0_4), .val (.int x0_5), .val (.int v12), .val (.long v27), .second, .val (.ref (f1 x0_4 w_IR w_R w_U w_IW w_W)), .val (.ref (f1 ((x0_4.toUInt32 >>> ((8 : Int32) &&& 31).toUInt32).toInt32) w_IR w_R w_U w_IW w_W)), .val (.ref b13), .val (.ref b16), .val (.int (0 : Int32)), .val (.int v119)] [])) _
          refine XS.iconst X113.here hx rfl (hb hby at_138) ?_
          show Steps p.tables e below (T113.setTop (mkF m 139 #[.val (.int x0_0), .val (.long x0_1), .second, .val (.int x0_2), .val (.long x0_3), .second, .val (.int x0_4), .val (.int x0_5), .val (.int v12), .val (.long v27), .second, .val (.ref (f1 x0_4 w_IR w_R w_U w_IW w_W)), .val (.ref (f1 ((x0_4.toUInt32 >>> ((8 : Int32) &&& 31).toUInt32).toInt32) w_IR w_R w_U w_IW w_W)), .val (.ref b13), .val (.ref b16), .val (.int (0 : Int32)), .val (.int v119)] [(.int (1 : Int32))])) _
          refine XS.goto X113.here hx rfl (pc0 := 139) (pc' := 143) rfl (hb hby at_139) (by decide) (by decide) ?_
          show Steps p.tables e below (T113.setTop (mkF m 143 #[.val (.int x0_0), .val (.long x0_1), .second, .val (.int x0_2), .val (.long x0_3), .second, .val (.int x0_4), .val (.int x0_5), .val (.int v12), .val (.long v27), .second, .val (.ref (f1 x0_4 w_IR w_R w_U w_IW w_W)), .val (.ref (f1 ((x0_4.toUInt32 >>> ((8 : Int32) &&& 31).toUInt32).toInt32) w_IR w_R w_U w_IW w_W)), .val (.ref b13), .val (.ref b16), .val (.int (0 : Int32)), .val (.int v119)] [(.int (1 : Int32))])) _
          exact retN X113 hx (t := .boolean) Bd.returns (by simp) (hb hby at_143) hr
        · show Q0 Z x0_0 x0_1 x0_2 x0_3 x0_4 x0_5 w_IR w_R w_U w_IW w_W cA cl h0 n0 _ T113.heap _
          rw [e113]
          exact ⟨rfl, N113⟩
      · have sg115 : ∀ t, Steps p.tables e below (T17.setTop (mkF m 147 #[.val (.int x0_0), .val (.long x0_1), .second, .val (.int x0_2), .val (.long x0_3), .second, .val (.int x0_4), .val (.int x0_5), .val (.int v12), .val (.long v27), .second, .val (.ref (f1 x0_4 w_IR w_R w_U w_IW w_W)), .val (.ref (f1 ((x0_4.toUInt32 >>> ((8 : Int32) &&& 31).toUInt32).toInt32) w_IR w_R w_U w_IW w_W)), .val (.ref b13), .val (.ref b16), .val (.int (0 : Int32)), .val (.int v119)] [(.int (1 : Int32)), (.int v119)])) t → Steps p.tables e below (T17.setTop (mkF m 123 #[.val (.int x0_0), .val (.long x0_1), .second, .val (.int x0_2), .val (.long x0_3), .second, .val (.int x0_4), .val (.int x0_5), .val (.int v12), .val (.long v27), .second, .val (.ref (f1 x0_4 w_IR w_R w_U w_IW w_W)), .val (.ref (f1 ((x0_4.toUInt32 >>> ((8 : Int32) &&& 31).toUInt32).toInt32) w_IR w_R w_U w_IW w_W)), .val (.ref b13), .val (.ref b16), .val (.int (0 : Int32)), .val (.int v119)] [(.int v119)])) t := fun t kt => by
          show Steps p.tables e below (T17.setTop (mkF m 123 #[.val (.int x0_0), .val (.long x0_1), .second, .val (.int x0_2), .val (.long x0_3), .second, .val (.int x0_4), .val (.int x0_5), .val (.int v12), .val (.long v27), .second, .val (.ref (f1 x0_4 w_IR w_R w_U w_IW w_W)), .val (.ref (f1 ((x0_4.toUInt32 >>> ((8 : Int32) &&& 31).toUInt32).toInt32) w_IR w_R w_U w_IW w_W)), .val (.ref b13), .val (.ref b16), .val (.int (0 : Int32)), .val (.int v119)] [(.int v119)])) _
          refine XS.ifYes Xr17.here hx rfl (pc0 := 123) (pc' := 144) rfl (hb hby at_123) rfl ((if0 _ _).trans (feq hc123_108).2) (by decide) (by decide) ?_
          show Steps p.tables e below (T17.setTop (mkF m 144 #[.val (.int x0_0), .val (.long x0_1), .second, .val (.int x0_2), .val (.long x0_3), .second, .val (.int x0_4), .val (.int x0_5), .val (.int v12), .val (.long v27), .second, .val (.ref (f1 x0_4 w_IR w_R w_U w_IW w_W)), .val (.ref (f1 ((x0_4.toUInt32 >>> ((8 : Int32) &&& 31).toUInt32).toInt32) w_IR w_R w_U w_IW w_W)), .val (.ref b13), .val (.ref b16), .val (.int (0 : Int32)), .val (.int v119)] [])) _
          refine XS.iload Xr17.here hx rfl (hb hby at_144) rfl ?_
          show Steps p.tables e below (T17.setTop (mkF m 146 #[.val (.int x0_0), .val (.long x0_1), .second, .val (.int x0_2), .val (.long x0_3), .second, .val (.int x0_4), .val (.int x0_5), .val (.int v12), .val (.long v27), .second, .val (.ref (f1 x0_4 w_IR w_R w_U w_IW w_W)), .val (.ref (f1 ((x0_4.toUInt32 >>> ((8 : Int32) &&& 31).toUInt32).toInt32) w_IR w_R w_U w_IW w_W)), .val (.ref b13), .val (.ref b16), .val (.int (0 : Int32)), .val (.int v119)] [(.int v119)])) _
          refine XS.iconst Xr17.here hx rfl (hb hby at_146) ?_
          exact kt
        by_cases hc147_116 : v119 = (1 : Int32)
        · have c117 := (Exa.keep (Exa.ext E16 Ex14) K17)
          have sg119 : ∀ t, Steps p.tables e below (T17.setTop (mkF m 153 #[.val (.int x0_0), .val (.long x0_1), .second, .val (.int x0_2), .val (.long x0_3), .second, .val (.int x0_4), .val (.int x0_5), .val (.int v12), .val (.long v27), .second, .val (.ref (f1 x0_4 w_IR w_R w_U w_IW w_W)), .val (.ref (f1 ((x0_4.toUInt32 >>> ((8 : Int32) &&& 31).toUInt32).toInt32) w_IR w_R w_U w_IW w_W)), .val (.ref b13), .val (.ref b16), .val (.int (0 : Int32)), .val (.int v119)] [.null, (.ref b13)])) t → Steps p.tables e below (T17.setTop (mkF m 147 #[.val (.int x0_0), .val (.long x0_1), .second, .val (.int x0_2), .val (.long x0_3), .second, .val (.int x0_4), .val (.int x0_5), .val (.int v12), .val (.long v27), .second, .val (.ref (f1 x0_4 w_IR w_R w_U w_IW w_W)), .val (.ref (f1 ((x0_4.toUInt32 >>> ((8 : Int32) &&& 31).toUInt32).toInt32) w_IR w_R w_U w_IW w_W)), .val (.ref b13), .val (.ref b16), .val (.int (0 : Int32)), .val (.int v119)] [(.int (1 : Int32)), (.int v119)])) t := fun t kt => by
            show Steps p.tables e below (T17.setTop (mkF m 147 #[.val (.int x0_0), .val (.long x0_1), .second, .val (.int x0_2), .val (.long x0_3), .second, .val (.int x0_4), .val (.int x0_5), .val (.int v12), .val (.long v27), .second, .val (.ref (f1 x0_4 w_IR w_R w_U w_IW w_W)), .val (.ref (f1 ((x0_4.toUInt32 >>> ((8 : Int32) &&& 31).toUInt32).toInt32) w_IR w_R w_U w_IW w_W)), .val (.ref b13), .val (.ref b16), .val (.int (0 : Int32)), .val (.int v119)] [(.int (1 : Int32)), (.int v119)])) _
            refine XS.icmpNo Xr17.here hx rfl (hb hby at_147) rfl (teq hc147_116).2 ?_
            show Steps p.tables e below (T17.setTop (mkF m 150 #[.val (.int x0_0), .val (.long x0_1), .second, .val (.int x0_2), .val (.long x0_3), .second, .val (.int x0_4), .val (.int x0_5), .val (.int v12), .val (.long v27), .second, .val (.ref (f1 x0_4 w_IR w_R w_U w_IW w_W)), .val (.ref (f1 ((x0_4.toUInt32 >>> ((8 : Int32) &&& 31).toUInt32).toInt32) w_IR w_R w_U w_IW w_W)), .val (.ref b13), .val (.ref b16), .val (.int (0 : Int32)), .val (.int v119)] [])) _
            refine XS.aload Xr17.here hx rfl (hb hby at_150) rfl rfl ?_
            show Steps p.tables e below (T17.setTop (mkF m 152 #[.val (.int x0_0), .val (.long x0_1), .second, .val (.int x0_2), .val (.long x0_3), .second, .val (.int x0_4), .val (.int x0_5), .val (.int v12), .val (.long v27), .second, .val (.ref (f1 x0_4 w_IR w_R w_U w_IW w_W)), .val (.ref (f1 ((x0_4.toUInt32 >>> ((8 : Int32) &&& 31).toUInt32).toInt32) w_IR w_R w_U w_IW w_W)), .val (.ref b13), .val (.ref b16), .val (.int (0 : Int32)), .val (.int v119)] [(.ref b13)])) _
            refine XS.aconstNull Xr17.here hx rfl (hb hby at_152) ?_
            exact kt
          obtain ⟨cq118, kq118, q118a, q118b, q118c⟩ := isOf hZ rfl c117
          obtain ⟨v118, _, ⟨T118, L118, k118, n118⟩, -, X118, ⟨Lc118, hQ118, l118, y118, z118⟩, st118⟩ := Xr17.virtualBack hx (y := (⟨"com/example/libdmutex/libdmutex/core/TokenTree$Token$Queued", "equals", "(Ljava/lang/Object;)Z"⟩ : MethodName)) (z := (⟨"com/example/libdmutex/libdmutex/core/TokenTree$Token$Queued", "equals", "(Ljava/lang/Object;)Z"⟩ : MethodName)) hown (mvT hZ (hw _ (List.mem_of_getElem? (i := 39) rfl))) (mvT hZ (hw _ (List.mem_of_getElem? (i := 40) rfl))) (notFace_of_selects (args := #[]) (mvT hZ (hw _ (List.mem_of_getElem? (i := 42) rfl)))) (mvT hZ (hw _ (List.mem_of_getElem? (i := 42) rfl))) (mvT hZ (hw _ (List.mem_of_getElem? (i := 41) rfl))) (by decide) (backOf (W := 0) (rm5n l Z a0 hw [] b13 T17.heap n0 Zs17 c117) hZ (hw _ (List.mem_of_getElem? (i := 43) rfl)) (hw _ (List.mem_of_getElem? (i := 12) rfl)) (by decide) (by decide)) q118a q118c (g := (mkF m 153 #[.val (.int x0_0), .val (.long x0_1), .second, .val (.int x0_2), .val (.long x0_3), .second, .val (.int x0_4), .val (.int x0_5), .val (.int v12), .val (.long v27), .second, .val (.ref (f1 x0_4 w_IR w_R w_U w_IW w_W)), .val (.ref (f1 ((x0_4.toUInt32 >>> ((8 : Int32) &&& 31).toUInt32).toInt32) w_IR w_R w_U w_IW w_W)), .val (.ref b13), .val (.ref b16), .val (.int (0 : Int32)), .val (.int v119)] [.null, (.ref b13)])) rfl (by rw [hml]; rfl) (Steps.refl _) (argsL := [.null]) (rest := []) (lenOf pd_5 rfl) rfl (by show 2 * 0 + _ ≤ _; exact Nat.le_of_eq rfl) (hb hby at_153) (fun _ _ => ⟨rfl, rfl, (by decide : 6 + 0 ≤ _), (by decide : 46 + 0 ≤ _)⟩)
          dsimp only [Pt.U, Pt.locs, Pt.cells, Pt.slots] at X118 l118 y118 z118 st118 hQ118
          subst l118 y118 z118
          obtain ⟨hv118, N118q, e118⟩ := hQ118
          have N118 := Fr.app N17 N118q
          have hf118 : f5n b13 = (0 : Int32) := rfl
          rw [hf118] at hv118
          subst hv118
          obtain ⟨fs, hr, hrun, hended, hRW⟩ := Stand.leaveW (s := s) (vm₁ := T17.vm) X118 hS17 (by rw [e118]; exact hk17) (v := some (.int (1 : Int32))) (fun h => by rw [Bd.returns] at h; cases h)
          refine ⟨_, _, pre0 _ (sg1 _ (sg2 _ (sg3 _ (sg4 _ (sg5 _ (sg6 _ (sg8 _ (sg9 _ (sg12 _ (sg15 _ (sg18 _ (sg19 _ (sg106 _ (sg107 _ (sg115 _ (sg119 _ ?_)))))))))))))))), hrun, hended, _, _, rfl, ?_, hRW.1, hRW.2.1, hRW.2.2.1, hRW.2.2.2.mono (by decide) (by decide)⟩
          · show Steps p.tables e below (T17.setTop (mkF m 153 #[.val (.int x0_0), .val (.long x0_1), .second, .val (.int x0_2), .val (.long x0_3), .second, .val (.int x0_4), .val (.int x0_5), .val (.int v12), .val (.long v27), .second, .val (.ref (f1 x0_4 w_IR w_R w_U w_IW w_W)), .val (.ref (f1 ((x0_4.toUInt32 >>> ((8 : Int32) &&& 31).toUInt32).toInt32) w_IR w_R w_U w_IW w_W)), .val (.ref b13), .val (.ref b16), .val (.int (0 : Int32)), .val (.int v119)] [.null, (.ref b13)])) _
            refine st118.trans ?_
            show Steps p.tables e below (T118.setTop (mkF m 156 #[.val (.int x0_0), .val (.long x0_1), .second, .val (.int x0_2), .val (.long x0_3), .second, .val (.int x0_4), .val (.int x0_5), .val (.int v12), .val (.long v27), .second, .val (.ref (f1 x0_4 w_IR w_R w_U w_IW w_W)), .val (.ref (f1 ((x0_4.toUInt32 >>> ((8 : Int32) &&& 31).toUInt32).toInt32) w_IR w_R w_U w_IW w_W)), .val (.ref b13), .val (.ref b16), .val (.int (0 : Int32)), .val (.int v119)] [(.int (0 : Int32))])) _
            refine XS.ifNo X118.here hx rfl (hb hby at_156) rfl ((if0 _ _).trans (teq (by decide : ((0 : Int32) = (0 : Int32)))).2) ?_
            show Steps p.tables e below (T118.setTop (mkF m 159 #[.val (.int x0_0), .val (.long x0_1), .second, .val (.int x0_2), .val (.long x0_3), .second, .val (.int x0_4), .val (.int x0_5), .val (.int v12), .val (.long v27), .second, .val (.ref (f1 x0_4 w_IR w_R w_U w_IW w_W)), .val (.ref (f1 ((x0_4.toUInt32 >>> ((8 : Int32) &&& 31).toUInt32).toInt32) w_IR w_R w_U w_IW w_W)), .val (.ref b13), .val (.ref b16), .val (.int (0 : Int32)), .val (.int v119)] [])) _
            refine XS.iconst X118.here hx rfl (hb hby at_159) ?_
            show Steps p.tables e below (T118.setTop (mkF m 160 #[.val (.int x0_0), .val (.long x0_1), .second, .val (.int x0_2), .val (.long x0_3), .second, .val (.int x0_4), .val (.int x0_5), .val (.int v12), .val (.long v27), .second, .val (.ref (f1 x0_4 w_IR w_R w_U w_IW w_W)), .val (.ref (f1 ((x0_4.toUInt32 >>> ((8 : Int32) &&& 31).toUInt32).toInt32) w_IR w_R w_U w_IW w_W)), .val (.ref b13), .val (.ref b16), .val (.int (0 : Int32)), .val (.int v119)] [(.int (1 : Int32))])) _
            refine XS.goto X118.here hx rfl (pc0 := 160) (pc' := 164) rfl (hb hby at_160) (by decide) (by decide) ?_
            show Steps p.tables e below (T118.setTop (mkF m 164 #[.val (.int x0_0), .val (.long x0_1), .second, .val (.int x0_2), .val (.long x0_3), .second, .val (.int x0_4), .val (.int x0_5), .val (.int v12), .val (.long v27), .second, .val (.ref (f1 x0_4 w_IR w_R w_U w_IW w_W)), .val (.ref (f1 ((x0_4.toUInt32 >>> ((8 : Int32) &&& 31).toUInt32).toInt32) w_IR w_R w_U w_IW w_W)), .val (.ref b13), .val (.ref b16), .val (.int (0 : Int32)), .val (.int v119)] [(.int (1 : Int32))])) _
            exact retN X118 hx (t := .boolean) Bd.returns (by simp) (hb hby at_164) hr
          · show Q0 Z x0_0 x0_1 x0_2 x0_3 x0_4 x0_5 w_IR w_R w_U w_IW w_W cA cl h0 n0 _ T118.heap _
            rw [e118]
            exact ⟨rfl, N118⟩
        · have sg120 : ∀ t, Steps p.tables e below (T17.setTop (mkF m 168 #[.val (.int x0_0), .val (.long x0_1), .second, .val (.int x0_2), .val (.long x0_3), .second, .val (.int x0_4), .val (.int x0_5), .val (.int v12), .val (.long v27), .second, .val (.ref (f1 x0_4 w_IR w_R w_U w_IW w_W)), .val (.ref (f1 ((x0_4.toUInt32 >>> ((8 : Int32) &&& 31).toUInt32).toInt32) w_IR w_R w_U w_IW w_W)), .val (.ref b13), .val (.ref b16), .val (.int (0 : Int32)), .val (.int v119)] [(.int (2 : Int32)), (.int v119)])) t → Steps p.tables e below (T17.setTop (mkF m 147 #[.val (.int x0_0), .val (.long x0_1), .second, .val (.int x0_2), .val (.long x0_3), .second, .val (.int x0_4), .val (.int x0_5), .val (.int v12), .val (.long v27), .second, .val (.ref (f1 x0_4 w_IR w_R w_U w_IW w_W)), .val (.ref (f1 ((x0_4.toUInt32 >>> ((8 : Int32) &&& 31).toUInt32).toInt32) w_IR w_R w_U w_IW w_W)), .val (.ref b13), .val (.ref b16), .val (.int (0 : Int32)), .val (.int v119)] [(.int (1 : Int32)), (.int v119)])) t := fun t kt => by
            show Steps p.tables e below (T17.setTop (mkF m 147 #[.val (.int x0_0), .val (.long x0_1), .second, .val (.int x0_2), .val (.long x0_3), .second, .val (.int x0_4), .val (.int x0_5), .val (.int v12), .val (.long v27), .second, .val (.ref (f1 x0_4 w_IR w_R w_U w_IW w_W)), .val (.ref (f1 ((x0_4.toUInt32 >>> ((8 : Int32) &&& 31).toUInt32).toInt32) w_IR w_R w_U w_IW w_W)), .val (.ref b13), .val (.ref b16), .val (.int (0 : Int32)), .val (.int v119)] [(.int (1 : Int32)), (.int v119)])) _
            refine XS.icmpYes Xr17.here hx rfl (pc0 := 147) (pc' := 165) rfl (hb hby at_147) rfl (feq hc147_116).2 (by decide) (by decide) ?_
            show Steps p.tables e below (T17.setTop (mkF m 165 #[.val (.int x0_0), .val (.long x0_1), .second, .val (.int x0_2), .val (.long x0_3), .second, .val (.int x0_4), .val (.int x0_5), .val (.int v12), .val (.long v27), .second, .val (.ref (f1 x0_4 w_IR w_R w_U w_IW w_W)), .val (.ref (f1 ((x0_4.toUInt32 >>> ((8 : Int32) &&& 31).toUInt32).toInt32) w_IR w_R w_U w_IW w_W)), .val (.ref b13), .val (.ref b16), .val (.int (0 : Int32)), .val (.int v119)] [])) _
            refine XS.iload Xr17.here hx rfl (hb hby at_165) rfl ?_
            show Steps p.tables e below (T17.setTop (mkF m 167 #[.val (.int x0_0), .val (.long x0_1), .second, .val (.int x0_2), .val (.long x0_3), .second, .val (.int x0_4), .val (.int x0_5), .val (.int v12), .val (.long v27), .second, .val (.ref (f1 x0_4 w_IR w_R w_U w_IW w_W)), .val (.ref (f1 ((x0_4.toUInt32 >>> ((8 : Int32) &&& 31).toUInt32).toInt32) w_IR w_R w_U w_IW w_W)), .val (.ref b13), .val (.ref b16), .val (.int (0 : Int32)), .val (.int v119)] [(.int v119)])) _
            refine XS.iconst Xr17.here hx rfl (hb hby at_167) ?_
            exact kt
          by_cases hc168_121 : v119 = (2 : Int32)
          · have sg123 : ∀ t, Steps p.tables e below (T17.setTop (mkF m 174 #[.val (.int x0_0), .val (.long x0_1), .second, .val (.int x0_2), .val (.long x0_3), .second, .val (.int x0_4), .val (.int x0_5), .val (.int v12), .val (.long v27), .second, .val (.ref (f1 x0_4 w_IR w_R w_U w_IW w_W)), .val (.ref (f1 ((x0_4.toUInt32 >>> ((8 : Int32) &&& 31).toUInt32).toInt32) w_IR w_R w_U w_IW w_W)), .val (.ref b13), .val (.ref b16), .val (.int (0 : Int32)), .val (.int v119)] [(.int x0_0), (.ref b13)])) t → Steps p.tables e below (T17.setTop (mkF m 168 #[.val (.int x0_0), .val (.long x0_1), .second, .val (.int x0_2), .val (.long x0_3), .second, .val (.int x0_4), .val (.int x0_5), .val (.int v12), .val (.long v27), .second, .val (.ref (f1 x0_4 w_IR w_R w_U w_IW w_W)), .val (.ref (f1 ((x0_4.toUInt32 >>> ((8 : Int32) &&& 31).toUInt32).toInt32) w_IR w_R w_U w_IW w_W)), .val (.ref b13), .val (.ref b16), .val (.int (0 : Int32)), .val (.int v119)] [(.int (2 : Int32)), (.int v119)])) t := fun t kt => by
              show Steps p.tables e below (T17.setTop (mkF m 168 #[.val (.int x0_0), .val (.long x0_1), .second, .val (.int x0_2), .val (.long x0_3), .second, .val (.int x0_4), .val (.int x0_5), .val (.int v12), .val (.long v27), .second, .val (.ref (f1 x0_4 w_IR w_R w_U w_IW w_W)), .val (.ref (f1 ((x0_4.toUInt32 >>> ((8 : Int32) &&& 31).toUInt32).toInt32) w_IR w_R w_U w_IW w_W)), .val (.ref b13), .val (.ref b16), .val (.int (0 : Int32)), .val (.int v119)] [(.int (2 : Int32)), (.int v119)])) _
              refine XS.icmpNo Xr17.here hx rfl (hb hby at_168) rfl (teq hc168_121).2 ?_
              show Steps p.tables e below (T17.setTop (mkF m 171 #[.val (.int x0_0), .val (.long x0_1), .second, .val (.int x0_2), .val (.long x0_3), .second, .val (.int x0_4), .val (.int x0_5), .val (.int v12), .val (.long v27), .second, .val (.ref (f1 x0_4 w_IR w_R w_U w_IW w_W)), .val (.ref (f1 ((x0_4.toUInt32 >>> ((8 : Int32) &&& 31).toUInt32).toInt32) w_IR w_R w_U w_IW w_W)), .val (.ref b13), .val (.ref b16), .val (.int (0 : Int32)), .val (.int v119)] [])) _
              refine XS.aload Xr17.here hx rfl (hb hby at_171) rfl rfl ?_
              show Steps p.tables e below (T17.setTop (mkF m 173 #[.val (.int x0_0), .val (.long x0_1), .second, .val (.int x0_2), .val (.long x0_3), .second, .val (.int x0_4), .val (.int x0_5), .val (.int v12), .val (.long v27), .second, .val (.ref (f1 x0_4 w_IR w_R w_U w_IW w_W)), .val (.ref (f1 ((x0_4.toUInt32 >>> ((8 : Int32) &&& 31).toUInt32).toInt32) w_IR w_R w_U w_IW w_W)), .val (.ref b13), .val (.ref b16), .val (.int (0 : Int32)), .val (.int v119)] [(.ref b13)])) _
              refine XS.iloadN Xr17.here hx rfl (hb hby at_173) rfl ?_
              exact kt
            obtain ⟨v122, _, ⟨T122, L122, k122, n122⟩, -, X122, ⟨Lc122, hQ122, l122, y122, z122⟩, st122⟩ := Jvm.LawKit.callS Xr17 hx (y := (⟨"java/lang/Integer", "valueOf", "(I)Ljava/lang/Integer;"⟩ : MethodName)) hown (mvT hZ (hw _ (List.mem_of_getElem? (i := 48) rfl))) (mvT hZ (hw _ (List.mem_of_getElem? (i := 49) rfl))) (mvT hZ (hw _ (List.mem_of_getElem? (i := 50) rfl))) (mvT hZ (hw _ (List.mem_of_getElem? (i := 51) rfl))) (by decide) (backOf (W := 1) (rm6 l Z a0 hw [] x0_0 cA cl T17.heap n0 Zs17 Ol17 JC SC SH) hZ (hw _ (List.mem_of_getElem? (i := 51) rfl)) (hw _ (List.mem_of_getElem? (i := 50) rfl)) (by decide) (by decide)) (g := (mkF m 174 #[.val (.int x0_0), .val (.long x0_1), .second, .val (.int x0_2), .val (.long x0_3), .second, .val (.int x0_4), .val (.int x0_5), .val (.int v12), .val (.long v27), .second, .val (.ref (f1 x0_4 w_IR w_R w_U w_IW w_W)), .val (.ref (f1 ((x0_4.toUInt32 >>> ((8 : Int32) &&& 31).toUInt32).toInt32) w_IR w_R w_U w_IW w_W)), .val (.ref b13), .val (.ref b16), .val (.int (0 : Int32)), .val (.int v119)] [(.int x0_0), (.ref b13)])) rfl (by rw [hml]; rfl) (argsL := [(.int x0_0)]) (rest := [(.ref b13)]) (lenOf pd_6 rfl) rfl (by show 2 * 0 + _ ≤ _; exact Nat.le_of_eq rfl) (hb hby at_174) (fun _ _ => ⟨rfl, rfl, (by decide : 6 + 1 ≤ _), (by decide : 46 + 1 ≤ _)⟩)
            dsimp only [Pt.U, Pt.locs, Pt.cells, Pt.slots] at X122 l122 y122 z122 st122 hQ122
            subst l122 y122 z122
            obtain ⟨r122, rfl, N122q, K122, Ex122⟩ := hQ122
            have N122 := Fr.app N17 N122q
            have Zs122 : n0 ≤ T122.heap.size := Nat.le_trans Zs17 K122.1
            have hk122 := Nat.le_trans hk17 K122.1
            have Ol122 : Old Z n0 T122.heap := (Ol17).keep K122 all0
            have c124 := (Exa.keep (Exa.keep (Exa.ext E16 Ex14) K17) K122)
            have sg126 : ∀ t, Steps p.tables e below (T122.setTop (mkF m 177 #[.val (.int x0_0), .val (.long x0_1), .second, .val (.int x0_2), .val (.long x0_3), .second, .val (.int x0_4), .val (.int x0_5), .val (.int v12), .val (.long v27), .second, .val (.ref (f1 x0_4 w_IR w_R w_U w_IW w_W)), .val (.ref (f1 ((x0_4.toUInt32 >>> ((8 : Int32) &&& 31).toUInt32).toInt32) w_IR w_R w_U w_IW w_W)), .val (.ref b13), .val (.ref b16), .val (.int (0 : Int32)), .val (.int v119)] [(.ref r122), (.ref b13)])) t → Steps p.tables e below (T17.setTop (mkF m 174 #[.val (.int x0_0), .val (.long x0_1), .second, .val (.int x0_2), .val (.long x0_3), .second, .val (.int x0_4), .val (.int x0_5), .val (.int v12), .val (.long v27), .second, .val (.ref (f1 x0_4 w_IR w_R w_U w_IW w_W)), .val (.ref (f1 ((x0_4.toUInt32 >>> ((8 : Int32) &&& 31).toUInt32).toInt32) w_IR w_R w_U w_IW w_W)), .val (.ref b13), .val (.ref b16), .val (.int (0 : Int32)), .val (.int v119)] [(.int x0_0), (.ref b13)])) t := fun t kt => by
              show Steps p.tables e below (T17.setTop (mkF m 174 #[.val (.int x0_0), .val (.long x0_1), .second, .val (.int x0_2), .val (.long x0_3), .second, .val (.int x0_4), .val (.int x0_5), .val (.int v12), .val (.long v27), .second, .val (.ref (f1 x0_4 w_IR w_R w_U w_IW w_W)), .val (.ref (f1 ((x0_4.toUInt32 >>> ((8 : Int32) &&& 31).toUInt32).toInt32) w_IR w_R w_U w_IW w_W)), .val (.ref b13), .val (.ref b16), .val (.int (0 : Int32)), .val (.int v119)] [(.int x0_0), (.ref b13)])) _
              refine st122 _ ?_
              exact kt
            obtain ⟨cq125, kq125, q125a, q125b, q125c⟩ := isOf hZ rfl c124
            obtain ⟨v125, _, ⟨T125, L125, k125, n125⟩, -, X125, ⟨Lc125, hQ125, l125, y125, z125⟩, st125⟩ := X122.virtualBack hx (y := (⟨"com/example/libdmutex/libdmutex/core/TokenTree$Token$Queued", "equals", "(Ljava/lang/Object;)Z"⟩ : MethodName)) (z := (⟨"com/example/libdmutex/libdmutex/core/TokenTree$Token$Queued", "equals", "(Ljava/lang/Object;)Z"⟩ : MethodName)) hown (mvT hZ (hw _ (List.mem_of_getElem? (i := 39) rfl))) (mvT hZ (hw _ (List.mem_of_getElem? (i := 40) rfl))) (notFace_of_selects (args := #[]) (mvT hZ (hw _ (List.mem_of_getElem? (i := 42) rfl)))) (mvT hZ (hw _ (List.mem_of_getElem? (i := 42) rfl))) (mvT hZ (hw _ (List.mem_of_getElem? (i := 41) rfl))) (by decide) (backOf (W := 0) (rm5i l Z a0 hw [] b13 r122 T122.heap n0 Zs122 Ex122) hZ (hw _ (List.mem_of_getElem? (i := 43) rfl)) (hw _ (List.mem_of_getElem? (i := 12) rfl)) (by decide) (by decide)) q125a q125c (g := (mkF m 177 #[.val (.int x0_0), .val (.long x0_1), .second, .val (.int x0_2), .val (.long x0_3), .second, .val (.int x0_4), .val (.int x0_5), .val (.int v12), .val (.long v27), .second, .val (.ref (f1 x0_4 w_IR w_R w_U w_IW w_W)), .val (.ref (f1 ((x0_4.toUInt32 >>> ((8 : Int32) &&& 31).toUInt32).toInt32) w_IR w_R w_U w_IW w_W)), .val (.ref b13), .val (.ref b16), .val (.int (0 : Int32)), .val (.int v119)] [(.ref r122), (.ref b13)])) rfl (by rw [hml]; rfl) (Steps.refl _) (argsL := [(.ref r122)]) (rest := []) (lenOf pd_5 rfl) rfl (by show 2 * 0 + _ ≤ _; exact Nat.le_of_eq rfl) (hb hby at_177) (fun _ _ => ⟨rfl, rfl, (by decide : 7 + 0 ≤ _), (by decide : 47 + 0 ≤ _)⟩)
            dsimp only [Pt.U, Pt.locs, Pt.cells, Pt.slots] at X125 l125 y125 z125 st125 hQ125
            subst l125 y125 z125
            obtain ⟨hv125, N125q, e125⟩ := hQ125
            have N125 := Fr.app N122 N125q
            have hf125 : f5i b13 r122 = (0 : Int32) := rfl
            rw [hf125] at hv125
            subst hv125
            obtain ⟨fs, hr, hrun, hended, hRW⟩ := Stand.leaveW (s := s) (vm₁ := T17.vm) X125 hS17 (by rw [e125]; exact hk122) (v := some (.int (1 : Int32))) (fun h => by rw [Bd.returns] at h; cases h)
            refine ⟨_, _, pre0 _ (sg1 _ (sg2 _ (sg3 _ (sg4 _ (sg5 _ (sg6 _ (sg8 _ (sg9 _ (sg12 _ (sg15 _ (sg18 _ (sg19 _ (sg106 _ (sg107 _ (sg115 _ (sg120 _ (sg123 _ (sg126 _ ?_)))))))))))))))))), hrun, hended, _, _, rfl, ?_, hRW.1, hRW.2.1, hRW.2.2.1, hRW.2.2.2.mono (by decide) (by decide)⟩
            · show Steps p.tables e below (T122.setTop (mkF m 177 #[.val (.int x0_0), .val (.long x0_1), .second, .val (.int x0_2), .val (.long x0_3), .second, .val (.int x0_4), .val (.int x0_5), .val (.int v12), .val (.long v27), .second, .val (.ref (f1 x0_4 w_IR w_R w_U w_IW w_W)), .val (.ref (f1 ((x0_4.toUInt32 >>> ((8 : Int32) &&& 31).toUInt32).toInt32) w_IR w_R w_U w_IW w_W)), .val (.ref b13), .val (.ref b16), .val (.int (0 : Int32)), .val (.int v119)] [(.ref r122), (.ref b13)])) _
              refine st125.trans ?_
              show Steps p.tables e below (T125.setTop (mkF m 180 #[.val (.int x0_0), .val (.long x0_1), .second, .val (.int x0_2), .val (.long x0_3), .second, .val (.int x0_4), .val (.int x0_5), .val (.int v12), .val (.long v27), .second, .val (.ref (f1 x0_4 w_IR w_R w_U w_IW w_W)), .val (.ref (f1 ((x0_4.toUInt32 >>> ((8 : Int32) &&& 31).toUInt32).toInt32) w_IR w_R w_U w_IW w_W)), .val (.ref b13), .val (.ref b16), .val (.int (0 : Int32)), .val (.int v119)] [(.int (0 : Int32))])) _
              refine XS.ifNo X125.here hx rfl (hb hby at_180) rfl ((if0 _ _).trans (teq (by decide : ((0 : Int32) = (0 : Int32)))).2) ?_
              show Steps p.tables e below (T125.setTop (mkF m 183 #[.val (.int x0_0), .val (.long x0_1), .second, .val (.int x0_2), .val (.long x0_3), .second, .val (.int x0_4), .val (.int x0_5), .val (.int v12), .val (.long v27), .second, .val (.ref (f1 x0_4 w_IR w_R w_U w_IW w_W)), .val (.ref (f1 ((x0_4.toUInt32 >>> ((8 : Int32) &&& 31).toUInt32).toInt32) w_IR w_R w_U w_IW w_W)), .val (.ref b13), .val (.ref b16), .val (.int (0 : Int32)), .val (.int v119)] [])) _
              refine XS.iconst X125.here hx rfl (hb hby at_183) ?_
              show Steps p.tables e below (T125.setTop (mkF m 184 #[.val (.int x0_0), .val (.long x0_1), .second, .val (.int x0_2), .val (.long x0_3), .second, .val (.int x0_4), .val (.int x0_5), .val (.int v12), .val (.long v27), .second, .val (.ref (f1 x0_4 w_IR w_R w_U w_IW w_W)), .val (.ref (f1 ((x0_4.toUInt32 >>> ((8 : Int32) &&& 31).toUInt32).toInt32) w_IR w_R w_U w_IW w_W)), .val (.ref b13), .val (.ref b16), .val (.int (0 : Int32)), .val (.int v119)] [(.int (1 : Int32))])) _
              refine XS.goto X125.here hx rfl (pc0 := 184) (pc' := 188) rfl (hb hby at_184) (by decide) (by decide) ?_
              show Steps p.tables e below (T125.setTop (mkF m 188 #[.val (.int x0_0), .val (.long x0_1), .second, .val (.int x0_2), .val (.long x0_3), .second, .val (.int x0_4), .val (.int x0_5), .val (.int v12), .val (.long v27), .second, .val (.ref (f1 x0_4 w_IR w_R w_U w_IW w_W)), .val (.ref (f1 ((x0_4.toUInt32 >>> ((8 : Int32) &&& 31).toUInt32).toInt32) w_IR w_R w_U w_IW w_W)), .val (.ref b13), .val (.ref b16), .val (.int (0 : Int32)), .val (.int v119)] [(.int (1 : Int32))])) _
              exact retN X125 hx (t := .boolean) Bd.returns (by simp) (hb hby at_188) hr
            · show Q0 Z x0_0 x0_1 x0_2 x0_3 x0_4 x0_5 w_IR w_R w_U w_IW w_W cA cl h0 n0 _ T125.heap _
              rw [e125]
              exact ⟨rfl, N125⟩
          · have c127 := (Exa.keep (Exa.ext E16 Ex14) K17)
            have c128 := (Fld.keep (Fld.ext E16 Fq14_peer) K17 (ninS ne_b13_b16 nin0))
            have c129 := (Fld.keep (Fld.ext E16 Fq14_ticket) K17 (ninS ne_b13_b16 nin0))
            have c130 := (Fld.keep (Fld.ext E16 Fq14_mode) K17 (ninS ne_b13_b16 nin0))
            have sg132 : ∀ t, Steps p.tables e below (T17.setTop (mkF m 193 #[.val (.int x0_0), .val (.long x0_1), .second, .val (.int x0_2), .val (.long x0_3), .second, .val (.int x0_4), .val (.int x0_5), .val (.int v12), .val (.long v27), .second, .val (.ref (f1 x0_4 w_IR w_R w_U w_IW w_W)), .val (.ref (f1 ((x0_4.toUInt32 >>> ((8 : Int32) &&& 31).toUInt32).toInt32) w_IR w_R w_U w_IW w_W)), .val (.ref b13), .val (.ref b16), .val (.int (0 : Int32)), .val (.int v119)] [(.ref b13), (.ref b16)])) t → Steps p.tables e below (T17.setTop (mkF m 168 #[.val (.int x0_0), .val (.long x0_1), .second, .val (.int x0_2), .val (.long x0_3), .second, .val (.int x0_4), .val (.int x0_5), .val (.int v12), .val (.long v27), .second, .val (.ref (f1 x0_4 w_IR w_R w_U w_IW w_W)), .val (.ref (f1 ((x0_4.toUInt32 >>> ((8 : Int32) &&& 31).toUInt32).toInt32) w_IR w_R w_U w_IW w_W)), .val (.ref b13), .val (.ref b16), .val (.int (0 : Int32)), .val (.int v119)] [(.int (2 : Int32)), (.int v119)])) t := fun t kt => by
              show Steps p.tables e below (T17.setTop (mkF m 168 #[.val (.int x0_0), .val (.long x0_1), .second, .val (.int x0_2), .val (.long x0_3), .second, .val (.int x0_4), .val (.int x0_5), .val (.int v12), .val (.long v27), .second, .val (.ref (f1 x0_4 w_IR w_R w_U w_IW w_W)), .val (.ref (f1 ((x0_4.toUInt32 >>> ((8 : Int32) &&& 31).toUInt32).toInt32) w_IR w_R w_U w_IW w_W)), .val (.ref b13), .val (.ref b16), .val (.int (0 : Int32)), .val (.int v119)] [(.int (2 : Int32)), (.int v119)])) _
              refine XS.icmpYes Xr17.here hx rfl (pc0 := 168) (pc' := 189) rfl (hb hby at_168) rfl (feq hc168_121).2 (by decide) (by decide) ?_
              show Steps p.tables e below (T17.setTop (mkF m 189 #[.val (.int x0_0), .val (.long x0_1), .second, .val (.int x0_2), .val (.long x0_3), .second, .val (.int x0_4), .val (.int x0_5), .val (.int v12), .val (.long v27), .second, .val (.ref (f1 x0_4 w_IR w_R w_U w_IW w_W)), .val (.ref (f1 ((x0_4.toUInt32 >>> ((8 : Int32) &&& 31).toUInt32).toInt32) w_IR w_R w_U w_IW w_W)), .val (.ref b13), .val (.ref b16), .val (.int (0 : Int32)), .val (.int v119)] [])) _
              refine XS.aload Xr17.here hx rfl (hb hby at_189) rfl rfl ?_
              show Steps p.tables e below (T17.setTop (mkF m 191 #[.val (.int x0_0), .val (.long x0_1), .second, .val (.int x0_2), .val (.long x0_3), .second, .val (.int x0_4), .val (.int x0_5), .val (.int v12), .val (.long v27), .second, .val (.ref (f1 x0_4 w_IR w_R w_U w_IW w_W)), .val (.ref (f1 ((x0_4.toUInt32 >>> ((8 : Int32) &&& 31).toUInt32).toInt32) w_IR w_R w_U w_IW w_W)), .val (.ref b13), .val (.ref b16), .val (.int (0 : Int32)), .val (.int v119)] [(.ref b16)])) _
              refine XS.aload Xr17.here hx rfl (hb hby at_191) rfl rfl ?_
              exact kt
            obtain ⟨cq131, kq131, q131a, q131b, q131c⟩ := isOf hZ rfl Ex17
            obtain ⟨v131, _, ⟨T131, L131, k131, n131⟩, -, X131, ⟨Lc131, hQ131, l131, y131, z131⟩, st131⟩ := Xr17.virtualBack hx (y := (⟨"com/example/libdmutex/libdmutex/core/TokenTree$Token$Queued", "equals", "(Ljava/lang/Object;)Z"⟩ : MethodName)) (z := (⟨"com/example/libdmutex/libdmutex/core/TokenTree$Token$Queued", "equals", "(Ljava/lang/Object;)Z"⟩ : MethodName)) hown (mvT hZ (hw _ (List.mem_of_getElem? (i := 39) rfl))) (mvT hZ (hw _ (List.mem_of_getElem? (i := 40) rfl))) (notFace_of_selects (args := #[]) (mvT hZ (hw _ (List.mem_of_getElem? (i := 42) rfl)))) (mvT hZ (hw _ (List.mem_of_getElem? (i := 42) rfl))) (mvT hZ (hw _ (List.mem_of_getElem? (i := 41) rfl))) (by decide) (backOf (W := 0) (rm5o l Z a0 hw [] b16 b13 v12 v27 (f1 ((x0_4.toUInt32 >>> ((8 : Int32) &&& 31).toUInt32).toInt32) w_IR w_R w_U w_IW w_W) x0_0 x0_1 (f1 x0_4 w_IR w_R w_U w_IW w_W) T17.heap n0 Zs17 Ex17 c127 Fq17_peer Fq17_ticket Fq17_mode c128 c129 c130) hZ (hw _ (List.mem_of_getElem? (i := 43) rfl)) (hw _ (List.mem_of_getElem? (i := 12) rfl)) (by decide) (by decide)) q131a q131c (g := (mkF m 193 #[.val (.int x0_0), .val (.long x0_1), .second, .val (.int x0_2), .val (.long x0_3), .second, .val (.int x0_4), .val (.int x0_5), .val (.int v12), .val (.long v27), .second, .val (.ref (f1 x0_4 w_IR w_R w_U w_IW w_W)), .val (.ref (f1 ((x0_4.toUInt32 >>> ((8 : Int32) &&& 31).toUInt32).toInt32) w_IR w_R w_U w_IW w_W)), .val (.ref b13), .val (.ref b16), .val (.int (0 : Int32)), .val (.int v119)] [(.ref b13), (.ref b16)])) rfl (by rw [hml]; rfl) (Steps.refl _) (argsL := [(.ref b13)]) (rest := []) (lenOf pd_5 rfl) rfl (by show 2 * 0 + _ ≤ _; exact Nat.le_of_eq rfl) (hb hby at_193) (fun _ _ => ⟨rfl, rfl, (by decide : 6 + 0 ≤ _), (by decide : 46 + 0 ≤ _)⟩)
            dsimp only [Pt.U, Pt.locs, Pt.cells, Pt.slots] at X131 l131 y131 z131 st131 hQ131
            subst l131 y131 z131
            obtain ⟨hv131, N131q, e131⟩ := hQ131
            have N131 := Fr.app N17 N131q
            have hf131 : f5o b16 b13 v12 v27 (f1 ((x0_4.toUInt32 >>> ((8 : Int32) &&& 31).toUInt32).toInt32) w_IR w_R w_U w_IW w_W) x0_0 x0_1 (f1 x0_4 w_IR w_R w_U w_IW w_W) = (0 : Int32) := by unfold f5o; rw [if_neg (Ne.symm hc89_20)]
            rw [hf131] at hv131
            subst hv131
            obtain ⟨fs, hr, hrun, hended, hRW⟩ := Stand.leaveW (s := s) (vm₁ := T17.vm) X131 hS17 (by rw [e131]; exact hk17) (v := some (.int (1 : Int32))) (fun h => by rw [Bd.returns] at h; cases h)
            refine ⟨_, _, pre0 _ (sg1 _ (sg2 _ (sg3 _ (sg4 _ (sg5 _ (sg6 _ (sg8 _ (sg9 _ (sg12 _ (sg15 _ (sg18 _ (sg19 _ (sg106 _ (sg107 _ (sg115 _ (sg120 _ (sg132 _ ?_))))))))))))))))), hrun, hended, _, _, rfl, ?_, hRW.1, hRW.2.1, hRW.2.2.1, hRW.2.2.2.mono (by decide) (by decide)⟩
            · show Steps p.tables e below (T17.setTop (mkF m 193 #[.val (.int x0_0), .val (.long x0_1), .second, .val (.int x0_2), .val (.long x0_3), .second, .val (.int x0_4), .val (.int x0_5), .val (.int v12), .val (.long v27), .second, .val (.ref (f1 x0_4 w_IR w_R w_U w_IW w_W)), .val (.ref (f1 ((x0_4.toUInt32 >>> ((8 : Int32) &&& 31).toUInt32).toInt32) w_IR w_R w_U w_IW w_W)), .val (.ref b13), .val (.ref b16), .val (.int (0 : Int32)), .val (.int v119)] [(.ref b13), (.ref b16)])) _
              refine st131.trans ?_
              show Steps p.tables e below (T131.setTop (mkF m 196 #[.val (.int x0_0), .val (.long x0_1), .second, .val (.int x0_2), .val (.long x0_3), .second, .val (.int x0_4), .val (.int x0_5), .val (.int v12), .val (.long v27), .second, .val (.ref (f1 x0_4 w_IR w_R w_U w_IW w_W)), .val (.ref (f1 ((x0_4.toUInt32 >>> ((8 : Int32) &&& 31).toUInt32).toInt32) w_IR w_R w_U w_IW w_W)), .val (.ref b13), .val (.ref b16), .val (.int (0 : Int32)), .val (.int v119)] [(.int (0 : Int32))])) _
              refine XS.iload X131.here hx rfl (hb hby at_196) rfl ?_
              show Steps p.tables e below (T131.setTop (mkF m 198 #[.val (.int x0_0), .val (.long x0_1), .second, .val (.int x0_2), .val (.long x0_3), .second, .val (.int x0_4), .val (.int x0_5), .val (.int v12), .val (.long v27), .second, .val (.ref (f1 x0_4 w_IR w_R w_U w_IW w_W)), .val (.ref (f1 ((x0_4.toUInt32 >>> ((8 : Int32) &&& 31).toUInt32).toInt32) w_IR w_R w_U w_IW w_W)), .val (.ref b13), .val (.ref b16), .val (.int (0 : Int32)), .val (.int v119)] [(.int (0 : Int32)), (.int (0 : Int32))])) _
              refine XS.icmpNo X131.here hx rfl (hb hby at_198) rfl (teq (by decide : ((0 : Int32) = (0 : Int32)))).2 ?_
              show Steps p.tables e below (T131.setTop (mkF m 201 #[.val (.int x0_0), .val (.long x0_1), .second, .val (.int x0_2), .val (.long x0_3), .second, .val (.int x0_4), .val (.int x0_5), .val (.int v12), .val (.long v27), .second, .val (.ref (f1 x0_4 w_IR w_R w_U w_IW w_W)), .val (.ref (f1 ((x0_4.toUInt32 >>> ((8 : Int32) &&& 31).toUInt32).toInt32) w_IR w_R w_U w_IW w_W)), .val (.ref b13), .val (.ref b16), .val (.int (0 : Int32)), .val (.int v119)] [])) _
              refine XS.iconst X131.here hx rfl (hb hby at_201) ?_
              show Steps p.tables e below (T131.setTop (mkF m 202 #[.val (.int x0_0), .val (.long x0_1), .second, .val (.int x0_2), .val (.long x0_3), .second, .val (.int x0_4), .val (.int x0_5), .val (.int v12), .val (.long v27), .second, .val (.ref (f1 x0_4 w_IR w_R w_U w_IW w_W)), .val (.ref (f1 ((x0_4.toUInt32 >>> ((8 : Int32) &&& 31).toUInt32).toInt32) w_IR w_R w_U w_IW w_W)), .val (.ref b13), .val (.ref b16), .val (.int (0 : Int32)), .val (.int v119)] [(.int (1 : Int32))])) _
              refine XS.goto X131.here hx rfl (pc0 := 202) (pc' := 206) rfl (hb hby at_202) (by decide) (by decide) ?_
              show Steps p.tables e below (T131.setTop (mkF m 206 #[.val (.int x0_0), .val (.long x0_1), .second, .val (.int x0_2), .val (.long x0_3), .second, .val (.int x0_4), .val (.int x0_5), .val (.int v12), .val (.long v27), .second, .val (.ref (f1 x0_4 w_IR w_R w_U w_IW w_W)), .val (.ref (f1 ((x0_4.toUInt32 >>> ((8 : Int32) &&& 31).toUInt32).toInt32) w_IR w_R w_U w_IW w_W)), .val (.ref b13), .val (.ref b16), .val (.int (0 : Int32)), .val (.int v119)] [(.int (1 : Int32))])) _
              exact retN X131 hx (t := .boolean) Bd.returns (by simp) (hb hby at_206) hr
            · show Q0 Z x0_0 x0_1 x0_2 x0_3 x0_4 x0_5 w_IR w_R w_U w_IW w_W cA cl h0 n0 _ T131.heap _
              rw [e131]
              exact ⟨rfl, N131⟩
  · obtain ⟨T133, h133, X133, e133, E133, A133, D133, -, st133⟩ := newO X7 hx hZ hown (hw _ (List.mem_of_getElem? (i := 10) rfl)) (hw _ (List.mem_of_getElem? (i := 11) rfl)) (hw _ (List.mem_of_getElem? (i := 12) rfl)) e7 (g := (mkF m 58 #[.val (.int x0_0), .val (.long x0_1), .second, .val (.int x0_2), .val (.long x0_3), .second, .val (.int x0_4), .val (.int x0_5), .val (.int v12), .val (.long v27), .second, .val (.ref (f1 x0_4 w_IR w_R w_U w_IW w_W)), .val (.ref (f1 x0_4 w_IR w_R w_U w_IW w_W)), .unset, .unset, .unset, .unset] [])) rfl (hb hby at_58) (by decide) (by decide)
    obtain ⟨b133, g133⟩ : ∃ z, z = h0.size := ⟨_, rfl⟩
    rw [← g133] at A133 D133 st133
    have g_b133 : n0 ≤ b133 := Nat.le_trans Z0 (Nat.le_of_eq g133.symm)
    have Zs133 : n0 ≤ h133.size := Nat.le_trans Z0 E133.1
    have hk133 := Nat.le_trans hk0 E133.1
    have Ol133 : Old Z n0 h133 := (O0).ext E133
    have F_peer_b133 : Fld Z h133 b133 "com/example/libdmutex/libdmutex/core/TokenTree$Token$Queued" "peer" "I" (.int (0 : Int32)) := D133 (Or.inr (hw _ (List.mem_of_getElem? (i := 20) rfl))) (ty := .int) (by decide)
    have F_ticket_b133 : Fld Z h133 b133 "com/example/libdmutex/libdmutex/core/TokenTree$Token$Queued" "ticket" "J" (.long (0 : Int64)) := D133 (Or.inr (hw _ (List.mem_of_getElem? (i := 22) rfl))) (ty := .long) (by decide)
    have F_mode_b133 : Fld Z h133 b133 "com/example/libdmutex/libdmutex/core/TokenTree$Token$Queued" "mode" "Lcom/example/libdmutex/libdmutex/core/Mode;" .null := D133 (Or.inr (hw _ (List.mem_of_getElem? (i := 38) rfl))) (ty := (.object "com/example/libdmutex/libdmutex/core/Mode")) (by decide)
    have sg135 : ∀ t, Steps p.tables e below (T133.setTop (mkF m 66 #[.val (.int x0_0), .val (.long x0_1), .second, .val (.int x0_2), .val (.long x0_3), .second, .val (.int x0_4), .val (.int x0_5), .val (.int v12), .val (.long v27), .second, .val (.ref (f1 x0_4 w_IR w_R w_U w_IW w_W)), .val (.ref (f1 x0_4 w_IR w_R w_U w_IW w_W)), .unset, .unset, .unset, .unset] [(.ref (f1 x0_4 w_IR w_R w_U w_IW w_W)), (.long x0_1), (.int x0_0), (.ref b133), (.ref b133)])) t → Steps p.tables e below (T7.setTop (mkF m 40 #[.val (.int x0_0), .val (.long x0_1), .second, .val (.int x0_2), .val (.long x0_3), .second, .val (.int x0_4), .val (.int x0_5), .val (.int v12), .val (.long v27), .second, .val (.ref (f1 x0_4 w_IR w_R w_U w_IW w_W)), .unset, .unset, .unset, .unset, .unset] [(.int (x0_5 &&& (4 : Int32)))])) t := fun t kt => by
      show Steps p.tables e below (T7.setTop (mkF m 40 #[.val (.int x0_0), .val (.long x0_1), .second, .val (.int x0_2), .val (.long x0_3), .second, .val (.int x0_4), .val (.int x0_5), .val (.int v12), .val (.long v27), .second, .val (.ref (f1 x0_4 w_IR w_R w_U w_IW w_W)), .unset, .unset, .unset, .unset, .unset] [(.int (x0_5 &&& (4 : Int32)))])) _
      refine XS.ifNo X7.here hx rfl (hb hby at_40) rfl ((if0 _ _).trans (feq hc40_10).1) ?_
      show Steps p.tables e below (T7.setTop (mkF m 43 #[.val (.int x0_0), .val (.long x0_1), .second, .val (.int x0_2), .val (.long x0_3), .second, .val (.int x0_4), .val (.int x0_5), .val (.int v12), .val (.long v27), .second, .val (.ref (f1 x0_4 w_IR w_R w_U w_IW w_W)), .unset, .unset, .unset, .unset, .unset] [])) _
      refine XS.aload X7.here hx rfl (hb hby at_43) rfl rfl ?_
      show Steps p.tables e below (T7.setTop (mkF m 45 #[.val (.int x0_0), .val (.long x0_1), .second, .val (.int x0_2), .val (.long x0_3), .second, .val (.int x0_4), .val (.int x0_5), .val (.int v12), .val (.long v27), .second, .val (.ref (f1 x0_4 w_IR w_R w_U w_IW w_W)), .unset, .unset, .unset, .unset, .unset] [(.ref (f1 x0_4 w_IR w_R w_U w_IW w_W))])) _
      refine XS.goto X7.here hx rfl (pc0 := 45) (pc' := 56) rfl (hb hby at_45) (by decide) (by decide) ?_
      show Steps p.tables e below (T7.setTop (mkF m 56 #[.val (.int x0_0), .val (.long x0_1), .second, .val (.int x0_2), .val (.long x0_3), .second, .val (.int x0_4), .val (.int x0_5), .val (.int v12), .val (.long v27), .second, .val (.ref (f1 x0_4 w_IR w_R w_U w_IW w_W)), .unset, .unset, .unset, .unset, .unset] [(.ref (f1 x0_4 w_IR w_R w_U w_IW w_W))])) _
      refine XS.astore X7.here hx rfl (hb hby at_56) rfl rfl (l' := #[.val (.int x0_0), .val (.long x0_1), .second, .val (.int x0_2), .val (.long x0_3), .second, .val (.int x0_4), .val (.int x0_5), .val (.int v12), .val (.long v27), .second, .val (.ref (f1 x0_4 w_IR w_R w_U w_IW w_W)), .val (.ref (f1 x0_4 w_IR w_R w_U w_IW w_W)), .unset, .unset, .unset, .unset]) rfl ?_
      show Steps p.tables e below (T7.setTop (mkF m 58 #[.val (.int x0_0), .val (.long x0_1), .second, .val (.int x0_2), .val (.long x0_3), .second, .val (.int x0_4), .val (.int x0_5), .val (.int v12), .val (.long v27), .second, .val (.ref (f1 x0_4 w_IR w_R w_U w_IW w_W)), .val (.ref (f1 x0_4 w_IR w_R w_U w_IW w_W)), .unset, .unset, .unset, .unset] [])) _
      refine st133 _ ?_
      show Steps p.tables e below (T133.setTop (mkF m 61 #[.val (.int x0_0), .val (.long x0_1), .second, .val (.int x0_2), .val (.long x0_3), .second, .val (.int x0_4), .val (.int x0_5), .val (.int v12), .val (.long v27), .second, .val (.ref (f1 x0_4 w_IR w_R w_U w_IW w_W)), .val (.ref (f1 x0_4 w_IR w_R w_U w_IW w_W)), .unset, .unset, .unset, .unset] [(.ref b133)])) _
      refine XS.dup X133.here hx rfl (hb hby at_61) rfl rfl ?_
      show Steps p.tables e below (T133.setTop (mkF m 62 #[.val (.int x0_0), .val (.long x0_1), .second, .val (.int x0_2), .val (.long x0_3), .second, .val (.int x0_4), .val (.int x0_5), .val (.int v12), .val (.long v27), .second, .val (.ref (f1 x0_4 w_IR w_R w_U w_IW w_W)), .val (.ref (f1 x0_4 w_IR w_R w_U w_IW w_W)), .unset, .unset, .unset, .unset] [(.ref b133), (.ref b133)])) _
      refine XS.iloadN X133.here hx rfl (hb hby at_62) rfl ?_
      show Steps p.tables e below (T133.setTop (mkF m 63 #[.val (.int x0_0), .val (.long x0_1), .second, .val (.int x0_2), .val (.long x0_3), .second, .val (.int x0_4), .val (.int x0_5), .val (.int v12), .val (.long v27), .second, .val (.ref (f1 x0_4 w_IR w_R w_U w_IW w_W)), .val (.ref (f1 x0_4 w_IR w_R w_U w_IW w_W)), .unset, .unset, .unset, .unset] [(.int x0_0), (.ref b133), (.ref b133)])) _
      refine XS.lloadN X133.here hx rfl (hb hby at_63) rfl ?_
      show Steps p.tables e below (T133.setTop (mkF m 64 #[.val (.int x0_0), .val (.long x0_1), .second, .val (.int x0_2), .val (.long x0_3), .second, .val (.int x0_4), .val (.int x0_5), .val (.int v12), .val (.long v27), .second, .val (.ref (f1 x0_4 w_IR w_R w_U w_IW w_W)), .val (.ref (f1 x0_4 w_IR w_R w_U w_IW w_W)), .unset, .unset, .unset, .unset] [(.long x0_1), (.int x0_0), (.ref b133), (.ref b133)])) _
      refine XS.aload X133.here hx rfl (hb hby at_64) rfl rfl ?_
      exact kt
    obtain ⟨v134, _, ⟨T134, L134, k134, n134⟩, -, X134, hSq134, hgq134, ⟨Lc134, hQ134, l134, y134, z134⟩, st134⟩ := X133.specialBackS hx (y := (⟨"com/example/libdmutex/libdmutex/core/TokenTree$Token$Queued", "<init>", "(IJLcom/example/libdmutex/libdmutex/core/Mode;)V"⟩ : MethodName)) rfl hown (mvT hZ (hw _ (List.mem_of_getElem? (i := 13) rfl))) (mvT hZ (hw _ (List.mem_of_getElem? (i := 14) rfl))) (mvT hZ (hw _ (List.mem_of_getElem? (i := 15) rfl))) (by decide) (backOfS (W := 1) (rm2 l Z a0 hw [] b133 x0_0 x0_1 (f1 x0_4 w_IR w_R w_U w_IW w_W) h133 n0 Zs133 A133 g_b133 F_peer_b133 F_ticket_b133 F_mode_b133 (own_exa _ w_IR w_R w_U w_IW w_W (World.ext Ol133.2 W))) hZ (hw _ (List.mem_of_getElem? (i := 15) rfl)) (hw _ (List.mem_of_getElem? (i := 12) rfl)) (by decide) (by decide)) (g := (mkF m 66 #[.val (.int x0_0), .val (.long x0_1), .second, .val (.int x0_2), .val (.long x0_3), .second, .val (.int x0_4), .val (.int x0_5), .val (.int v12), .val (.long v27), .second, .val (.ref (f1 x0_4 w_IR w_R w_U w_IW w_W)), .val (.ref (f1 x0_4 w_IR w_R w_U w_IW w_W)), .unset, .unset, .unset, .unset] [(.ref (f1 x0_4 w_IR w_R w_U w_IW w_W)), (.long x0_1), (.int x0_0), (.ref b133), (.ref b133)])) rfl (by rw [hml]; rfl) (Steps.refl _) (a := b133) (argsL := [(.int x0_0), (.long x0_1), (.ref (f1 x0_4 w_IR w_R w_U w_IW w_W))]) (rest := [(.ref b133)]) (lenOf pd_4 rfl) rfl (by show 2 * 0 + _ ≤ _; exact Nat.le_of_eq rfl) (hb hby at_66) (fun _ _ => ⟨rfl, e133, (by decide : 1 + 2 ≤ _), (by decide : 3 + 20 ≤ _)⟩)
    dsimp only [Pt.U, Pt.locs, Pt.cells, Pt.slots] at X134 l134 y134 z134 st134 hQ134 hSq134 hgq134
    subst l134 y134 z134
    obtain ⟨Xr134, hS134, hZ, hown⟩ := rebS (s := s) (vm0 := s.vm) hS0 (by rw [e133]; exact hk133) X134 hSq134 hgq134 hZ hown
    have hk134 : T134.heap.size ≤ T134.heap.size := Nat.le_refl _
    obtain ⟨rfl, N134q, K134, Ex134, Fq134_peer, Fq134_ticket, Fq134_mode⟩ := hQ134
    have N134 := Fr.app N7 N134q
    have Zs134 : n0 ≤ T134.heap.size := Nat.le_trans Zs133 K134.1
    have Ol134 : Old Z n0 T134.heap := (Ol133).keep K134 (allS g_b133 all0)
    obtain ⟨T136, h136, X136, e136, E136, A136, D136, -, st136⟩ := newO Xr134 hx hZ hown (hw _ (List.mem_of_getElem? (i := 10) rfl)) (hw _ (List.mem_of_getElem? (i := 11) rfl)) (hw _ (List.mem_of_getElem? (i := 12) rfl)) rfl (g := (mkF m 71 #[.val (.int x0_0), .val (.long x0_1), .second, .val (.int x0_2), .val (.long x0_3), .second, .val (.int x0_4), .val (.int x0_5), .val (.int v12), .val (.long v27), .second, .val (.ref (f1 x0_4 w_IR w_R w_U w_IW w_W)), .val (.ref (f1 x0_4 w_IR w_R w_U w_IW w_W)), .val (.ref b133), .unset, .unset, .unset] [])) rfl (hb hby at_71) (by decide) (by decide)
    obtain ⟨b136, g136⟩ : ∃ z, z = T134.heap.size := ⟨_, rfl⟩
    rw [← g136] at A136 D136 st136
    have g_b136 : n0 ≤ b136 := Nat.le_trans Zs134 (Nat.le_of_eq g136.symm)
    have ne_b133_b136 : b133 ≠ b136 := Nat.ne_of_lt (Nat.lt_of_lt_of_le Ex134.lt (Nat.le_of_eq g136.symm))
    have Zs136 : n0 ≤ h136.size := Nat.le_trans Zs134 E136.1
    have hk136 := Nat.le_trans hk134 E136.1
    have Ol136 : Old Z n0 h136 := (Ol134).ext E136
    have F_peer_b136 : Fld Z h136 b136 "com/example/libdmutex/libdmutex/core/TokenTree$Token$Queued" "peer" "I" (.int (0 : Int32)) := D136 (Or.inr (hw _ (List.mem_of_getElem? (i := 20) rfl))) (ty := .int) (by decide)
    have F_ticket_b136 : Fld Z h136 b136 "com/example/libdmutex/libdmutex/core/TokenTree$Token$Queued" "ticket" "J" (.long (0 : Int64)) := D136 (Or.inr (hw _ (List.mem_of_getElem? (i := 22) rfl))) (ty := .long) (by decide)
    have F_mode_b136 : Fld Z h136 b136 "com/example/libdmutex/libdmutex/core/TokenTree$Token$Queued" "mode" "Lcom/example/libdmutex/libdmutex/core/Mode;" .null := D136 (Or.inr (hw _ (List.mem_of_getElem? (i := 38) rfl))) (ty := (.object "com/example/libdmutex/libdmutex/core/Mode")) (by decide)
    have sg138 : ∀ t, Steps p.tables e below (T136.setTop (mkF m 81 #[.val (.int x0_0), .val (.long x0_1), .second, .val (.int x0_2), .val (.long x0_3), .second, .val (.int x0_4), .val (.int x0_5), .val (.int v12), .val (.long v27), .second, .val (.ref (f1 x0_4 w_IR w_R w_U w_IW w_W)), .val (.ref (f1 x0_4 w_IR w_R w_U w_IW w_W)), .val (.ref b133), .unset, .unset, .unset] [(.ref (f1 x0_4 w_IR w_R w_U w_IW w_W)), (.long v27), (.int v12), (.ref b136), (.ref b136)])) t → Steps p.tables e below (T133.setTop (mkF m 66 #[.val (.int x0_0), .val (.long x0_1), .second, .val (.int x0_2), .val (.long x0_3), .second, .val (.int x0_4), .val (.int x0_5), .val (.int v12), .val (.long v27), .second, .val (.ref (f1 x0_4 w_IR w_R w_U w_IW w_W)), .val (.ref (f1 x0_4 w_IR w_R w_U w_IW w_W)), .unset, .unset, .unset, .unset] [(.ref (f1 x0_4 w_IR w_R w_U w_IW w_W)), (.long x0_1), (.int x0_0), (.ref b133), (.ref b133)])) t := fun t kt => by
      show Steps p.tables e below (T133.setTop (mkF m 66 #[.val (.int x0_0), .val (.long x0_1), .second, .val (.int x0_2), .val (.long x0_3), .second, .val (.int x0_4), .val (.int x0_5), .val (.int v12), .val (.long v27), .second, .val (.ref (f1 x0_4 w_IR w_R w_U w_IW w_W)), .val (.ref (f1 x0_4 w_IR w_R w_U w_IW w_W)), .unset, .unset, .unset, .unset] [(.ref (f1 x0_4 w_IR w_R w_U w_IW w_W)), (.long x0_1), (.int x0_0), (.ref b133), (.ref b133)])) _
      refine st134.trans ?_
      show Steps p.tables e below (T134.setTop (mkF m 69 #[.val (.int x0_0), .val (.long x0_1), .second, .val (.int x0_2), .val (.long x0_3), .second, .val (.int x0_4), .val (.int x0_5), .val (.int v12), .val (.long v27), .second, .val (.ref (f1 x0_4 w_IR w_R w_U w_IW w_W)), .val (.ref (f1 x0_4 w_IR w_R w_U w_IW w_W)), .unset, .unset, .unset, .unset] [(.ref b133)])) _
      refine XS.astore Xr134.here hx rfl (hb hby at_69) rfl rfl (l' := #[.val (.int x0_0), .val (.long x0_1), .second, .val (.int x0_2), .val (.long x0_3), .second, .val (.int x0_4), .val (.int x0_5), .val (.int v12), .val (.long v27), .second, .val (.ref (f1 x0_4 w_IR w_R w_U w_IW w_W)), .val (.ref (f1 x0_4 w_IR w_R w_U w_IW w_W)), .val (.ref b133), .unset, .unset, .unset]) rfl ?_
      show Steps p.tables e below (T134.setTop (mkF m 71 #[.val (.int x0_0), .val (.long x0_1), .second, .val (.int x0_2), .val (.long x0_3), .second, .val (.int x0_4), .val (.int x0_5), .val (.int v12), .val (.long v27), .second, .val (.ref (f1 x0_4 w_IR w_R w_U w_IW w_W)), .val (.ref (f1 x0_4 w_IR w_R w_U w_IW w_W)), .val (.ref b133), .unset, .unset, .unset] [])) _
      refine st136 _ ?_
      show Steps p.tables e below (T136.setTop (mkF m 74 #[.val (.int x0_0), .val (.long x0_1), .second, .val (.int x0_2), .val (.long x0_3), .second, .val (.int x0_4), .val (.int x0_5), .val (.int v12), .val (.long v27), .second, .val (.ref (f1 x0_4 w_IR w_R w_U w_IW w_W)), .val (.ref (f1 x0_4 w_IR w_R w_U w_IW w_W)), .val (.ref b133), .unset, .unset, .unset] [(.ref b136)])) _
      refine XS.dup X136.here hx rfl (hb hby at_74) rfl rfl ?_
      show Steps p.tables e below (T136.setTop (mkF m 75 #[.val (.int x0_0), .val (.long x0_1), .second, .val (.int x0_2), .val (.long x0_3), .second, .val (.int x0_4), .val (.int x0_5), .val (.int v12), .val (.long v27), .second, .val (.ref (f1 x0_4 w_IR w_R w_U w_IW w_W)), .val (.ref (f1 x0_4 w_IR w_R w_U w_IW w_W)), .val (.ref b133), .unset, .unset, .unset] [(.ref b136), (.ref b136)])) _
      refine XS.iload X136.here hx rfl (hb hby at_75) rfl ?_
      show Steps p.tables e below (T136.setTop (mkF m 77 #[.val (.int x0_0), .val (.long x0_1), .second, .val (.int x0_2), .val (.long x0_3), .second, .val (.int x0_4), .val (.int x0_5), .val (.int v12), .val (.long v27), .second, .val (.ref (f1 x0_4 w_IR w_R w_U w_IW w_W)), .val (.ref (f1 x0_4 w_IR w_R w_U w_IW w_W)), .val (.ref b133), .unset, .unset, .unset] [(.int v12), (.ref b136), (.ref b136)])) _
      refine XS.lload X136.here hx rfl (hb hby at_77) rfl ?_
      show Steps p.tables e below (T136.setTop (mkF m 79 #[.val (.int x0_0), .val (.long x0_1), .second, .val (.int x0_2), .val (.long x0_3), .second, .val (.int x0_4), .val (.int x0_5), .val (.int v12), .val (.long v27), .second, .val (.ref (f1 x0_4 w_IR w_R w_U w_IW w_W)), .val (.ref (f1 x0_4 w_IR w_R w_U w_IW w_W)), .val (.ref b133), .unset, .unset, .unset] [(.long v27), (.int v12), (.ref b136), (.ref b136)])) _
      refine XS.aload X136.here hx rfl (hb hby at_79) rfl rfl ?_
      exact kt
    obtain ⟨v137, _, ⟨T137, L137, k137, n137⟩, -, X137, hSq137, hgq137, ⟨Lc137, hQ137, l137, y137, z137⟩, st137⟩ := X136.specialBackS hx (y := (⟨"com/example/libdmutex/libdmutex/core/TokenTree$Token$Queued", "<init>", "(IJLcom/example/libdmutex/libdmutex/core/Mode;)V"⟩ : MethodName)) rfl hown (mvT hZ (hw _ (List.mem_of_getElem? (i := 13) rfl))) (mvT hZ (hw _ (List.mem_of_getElem? (i := 14) rfl))) (mvT hZ (hw _ (List.mem_of_getElem? (i := 15) rfl))) (by decide) (backOfS (W := 1) (rm2 l Z a0 hw [] b136 v12 v27 (f1 x0_4 w_IR w_R w_U w_IW w_W) h136 n0 Zs136 A136 g_b136 F_peer_b136 F_ticket_b136 F_mode_b136 (own_exa _ w_IR w_R w_U w_IW w_W (World.ext Ol136.2 W))) hZ (hw _ (List.mem_of_getElem? (i := 15) rfl)) (hw _ (List.mem_of_getElem? (i := 12) rfl)) (by decide) (by decide)) (g := (mkF m 81 #[.val (.int x0_0), .val (.long x0_1), .second, .val (.int x0_2), .val (.long x0_3), .second, .val (.int x0_4), .val (.int x0_5), .val (.int v12), .val (.long v27), .second, .val (.ref (f1 x0_4 w_IR w_R w_U w_IW w_W)), .val (.ref (f1 x0_4 w_IR w_R w_U w_IW w_W)), .val (.ref b133), .unset, .unset, .unset] [(.ref (f1 x0_4 w_IR w_R w_U w_IW w_W)), (.long v27), (.int v12), (.ref b136), (.ref b136)])) rfl (by rw [hml]; rfl) (Steps.refl _) (a := b136) (argsL := [(.int v12), (.long v27), (.ref (f1 x0_4 w_IR w_R w_U w_IW w_W))]) (rest := [(.ref b136)]) (lenOf pd_4 rfl) rfl (by show 2 * 0 + _ ≤ _; exact Nat.le_of_eq rfl) (hb hby at_81) (fun _ _ => ⟨rfl, e136, (by decide : 4 + 2 ≤ _), (by decide : 26 + 20 ≤ _)⟩)
    dsimp only [Pt.U, Pt.locs, Pt.cells, Pt.slots] at X137 l137 y137 z137 st137 hQ137 hSq137 hgq137
    subst l137 y137 z137
    obtain ⟨Xr137, hS137, hZ, hown⟩ := rebS (s := s) (vm0 := T134.vm) hS134 (by rw [e136]; exact hk136) X137 hSq137 hgq137 hZ hown
    have hk137 : T137.heap.size ≤ T137.heap.size := Nat.le_refl _
    obtain ⟨rfl, N137q, K137, Ex137, Fq137_peer, Fq137_ticket, Fq137_mode⟩ := hQ137
    have N137 := Fr.app N134 N137q
    have Zs137 : n0 ≤ T137.heap.size := Nat.le_trans Zs136 K137.1
    have Ol137 : Old Z n0 T137.heap := (Ol136).keep K137 (allS g_b136 all0)
    have sg139 : ∀ t, Steps p.tables e below (T137.setTop (mkF m 89 #[.val (.int x0_0), .val (.long x0_1), .second, .val (.int x0_2), .val (.long x0_3), .second, .val (.int x0_4), .val (.int x0_5), .val (.int v12), .val (.long v27), .second, .val (.ref (f1 x0_4 w_IR w_R w_U w_IW w_W)), .val (.ref (f1 x0_4 w_IR w_R w_U w_IW w_W)), .val (.ref b133), .val (.ref b136), .unset, .unset] [(.int v12), (.int x0_0)])) t → Steps p.tables e below (T136.setTop (mkF m 81 #[.val (.int x0_0), .val (.long x0_1), .second, .val (.int x0_2), .val (.long x0_3), .second, .val (.int x0_4), .val (.int x0_5), .val (.int v12), .val (.long v27), .second, .val (.ref (f1 x0_4 w_IR w_R w_U w_IW w_W)), .val (.ref (f1 x0_4 w_IR w_R w_U w_IW w_W)), .val (.ref b133), .unset, .unset, .unset] [(.ref (f1 x0_4 w_IR w_R w_U w_IW w_W)), (.long v27), (.int v12), (.ref b136), (.ref b136)])) t := fun t kt => by
      show Steps p.tables e below (T136.setTop (mkF m 81 #[.val (.int x0_0), .val (.long x0_1), .second, .val (.int x0_2), .val (.long x0_3), .second, .val (.int x0_4), .val (.int x0_5), .val (.int v12), .val (.long v27), .second, .val (.ref (f1 x0_4 w_IR w_R w_U w_IW w_W)), .val (.ref (f1 x0_4 w_IR w_R w_U w_IW w_W)), .val (.ref b133), .unset, .unset, .unset] [(.ref (f1 x0_4 w_IR w_R w_U w_IW w_W)), (.long v27), (.int v12), (.ref b136), (.ref b136)])) _
      refine st137.trans ?_
      show Steps p.tables e below (T137.setTop (mkF m 84 #[.val (.int x0_0), .val (.long x0_1), .second, .val (.int x0_2), .val (.long x0_3), .second, .val (.int x0_4), .val (.int x0_5), .val (.int v12), .val (.long v27), .second, .val (.ref (f1 x0_4 w_IR w_R w_U w_IW w_W)), .val (.ref (f1 x0_4 w_IR w_R w_U w_IW w_W)), .val (.ref b133), .unset, .unset, .unset] [(.ref b136)])) _
      refine XS.astore Xr137.here hx rfl (hb hby at_84) rfl rfl (l' := #[.val (.int x0_0), .val (.long x0_1), .second, .val (.int x0_2), .val (.long x0_3), .second, .val (.int x0_4), .val (.int x0_5), .val (.int v12), .val (.long v27), .second, .val (.ref (f1 x0_4 w_IR w_R w_U w_IW w_W)), .val (.ref (f1 x0_4 w_IR w_R w_U w_IW w_W)), .val (.ref b133), .val (.ref b136), .unset, .unset]) rfl ?_
      show Steps p.tables e below (T137.setTop (mkF m 86 #[.val (.int x0_0), .val (.long x0_1), .second, .val (.int x0_2), .val (.long x0_3), .second, .val (.int x0_4), .val (.int x0_5), .val (.int v12), .val (.long v27), .second, .val (.ref (f1 x0_4 w_IR w_R w_U w_IW w_W)), .val (.ref (f1 x0_4 w_IR w_R w_U w_IW w_W)), .val (.ref b133), .val (.ref b136), .unset, .unset] [])) _
      refine XS.iloadN Xr137.here hx rfl (hb hby at_86) rfl ?_
      show Steps p.tables e below (T137.setTop (mkF m 87 #[.val (.int x0_0), .val (.long x0_1), .second, .val (.int x0_2), .val (.long x0_3), .second, .val (.int x0_4), .val (.int x0_5), .val (.int v12), .val (.long v27), .second, .val (.ref (f1 x0_4 w_IR w_R w_U w_IW w_W)), .val (.ref (f1 x0_4 w_IR w_R w_U w_IW w_W)), .val (.ref b133), .val (.ref b136), .unset, .unset] [(.int x0_0)])) _
      refine XS.iload Xr137.here hx rfl (hb hby at_87) rfl ?_
      exact kt
    by_cases hc89_140 : x0_0 = v12
    · have sg141 : ∀ t, Steps p.tables e below (T137.setTop (mkF m 96 #[.val (.int x0_0), .val (.long x0_1), .second, .val (.int x0_2), .val (.long x0_3), .second, .val (.int x0_4), .val (.int x0_5), .val (.int v12), .val (.long v27), .second, .val (.ref (f1 x0_4 w_IR w_R w_U w_IW w_W)), .val (.ref (f1 x0_4 w_IR w_R w_U w_IW w_W)), .val (.ref b133), .val (.ref b136), .unset, .unset] [(.int (lcmpW x0_1 v27))])) t → Steps p.tables e below (T137.setTop (mkF m 89 #[.val (.int x0_0), .val (.long x0_1), .second, .val (.int x0_2), .val (.long x0_3), .second, .val (.int x0_4), .val (.int x0_5), .val (.int v12), .val (.long v27), .second, .val (.ref (f1 x0_4 w_IR w_R w_U w_IW w_W)), .val (.ref (f1 x0_4 w_IR w_R w_U w_IW w_W)), .val (.ref b133), .val (.ref b136), .unset, .unset] [(.int v12), (.int x0_0)])) t := fun t kt => by
        show Steps p.tables e below (T137.setTop (mkF m 89 #[.val (.int x0_0), .val (.long x0_1), .second, .val (.int x0_2), .val (.long x0_3), .second, .val (.int x0_4), .val (.int x0_5), .val (.int v12), .val (.long v27), .second, .val (.ref (f1 x0_4 w_IR w_R w_U w_IW w_W)), .val (.ref (f1 x0_4 w_IR w_R w_U w_IW w_W)), .val (.ref b133), .val (.ref b136), .unset, .unset] [(.int v12), (.int x0_0)])) _
        refine XS.icmpNo Xr137.here hx rfl (hb hby at_89) rfl (teq hc89_140).2 ?_
        show Steps p.tables e below (T137.setTop (mkF m 92 #[.val (.int x0_0), .val (.long x0_1), .second, .val (.int x0_2), .val (.long x0_3), .second, .val (.int x0_4), .val (.int x0_5), .val (.int v12), .val (.long v27), .second, .val (.ref (f1 x0_4 w_IR w_R w_U w_IW w_W)), .val (.ref (f1 x0_4 w_IR w_R w_U w_IW w_W)), .val (.ref b133), .val (.ref b136), .unset, .unset] [])) _
        refine XS.lloadN Xr137.here hx rfl (hb hby at_92) rfl ?_
        show Steps p.tables e below (T137.setTop (mkF m 93 #[.val (.int x0_0), .val (.long x0_1), .second, .val (.int x0_2), .val (.long x0_3), .second, .val (.int x0_4), .val (.int x0_5), .val (.int v12), .val (.long v27), .second, .val (.ref (f1 x0_4 w_IR w_R w_U w_IW w_W)), .val (.ref (f1 x0_4 w_IR w_R w_U w_IW w_W)), .val (.ref b133), .val (.ref b136), .unset, .unset] [(.long x0_1)])) _
        refine XS.lload Xr137.here hx rfl (hb hby at_93) rfl ?_
        show Steps p.tables e below (T137.setTop (mkF m 95 #[.val (.int x0_0), .val (.long x0_1), .second, .val (.int x0_2), .val (.long x0_3), .second, .val (.int x0_4), .val (.int x0_5), .val (.int v12), .val (.long v27), .second, .val (.ref (f1 x0_4 w_IR w_R w_U w_IW w_W)), .val (.ref (f1 x0_4 w_IR w_R w_U w_IW w_W)), .val (.ref b133), .val (.ref b136), .unset, .unset] [(.long v27), (.long x0_1)])) _
        refine XS.lcmp Xr137.here hx rfl (hb hby at_95) rfl ?_
        exact kt
      by_cases hc96_142 : x0_1 = v27
      · have sg143 : ∀ t, Steps p.tables e below (T137.setTop (mkF m 121 #[.val (.int x0_0), .val (.long x0_1), .second, .val (.int x0_2), .val (.long x0_3), .second, .val (.int x0_4), .val (.int x0_5), .val (.int v12), .val (.long v27), .second, .val (.ref (f1 x0_4 w_IR w_R w_U w_IW w_W)), .val (.ref (f1 x0_4 w_IR w_R w_U w_IW w_W)), .val (.ref b133), .val (.ref b136), .val (.int (1 : Int32)), .val (.int (((x0_5.toUInt32 >>> ((3 : Int32) &&& 31).toUInt32).toInt32) &&& (3 : Int32)))] [])) t → Steps p.tables e below (T137.setTop (mkF m 96 #[.val (.int x0_0), .val (.long x0_1), .second, .val (.int x0_2), .val (.long x0_3), .second, .val (.int x0_4), .val (.int x0_5), .val (.int v12), .val (.long v27), .second, .val (.ref (f1 x0_4 w_IR w_R w_U w_IW w_W)), .val (.ref (f1 x0_4 w_IR w_R w_U w_IW w_W)), .val (.ref b133), .val (.ref b136), .unset, .unset] [(.int (lcmpW x0_1 v27))])) t := fun t kt => by
          show Steps p.tables e below (T137.setTop (mkF m 96 #[.val (.int x0_0), .val (.long x0_1), .second, .val (.int x0_2), .val (.long x0_3), .second, .val (.int x0_4), .val (.int x0_5), .val (.int v12), .val (.long v27), .second, .val (.ref (f1 x0_4 w_IR w_R w_U w_IW w_W)), .val (.ref (f1 x0_4 w_IR w_R w_U w_IW w_W)), .val (.ref b133), .val (.ref b136), .unset, .unset] [(.int (lcmpW x0_1 v27))])) _
          refine XS.ifNo Xr137.here hx rfl (hb hby at_96) rfl ((if0 _ _).trans (teq ((lw_eq _ _).mpr hc96_142)).2) ?_
          show Steps p.tables e below (T137.setTop (mkF m 99 #[.val (.int x0_0), .val (.long x0_1), .second, .val (.int x0_2), .val (.long x0_3), .second, .val (.int x0_4), .val (.int x0_5), .val (.int v12), .val (.long v27), .second, .val (.ref (f1 x0_4 w_IR w_R w_U w_IW w_W)), .val (.ref (f1 x0_4 w_IR w_R w_U w_IW w_W)), .val (.ref b133), .val (.ref b136), .unset, .unset] [])) _
          refine XS.aload Xr137.here hx rfl (hb hby at_99) rfl rfl ?_
          show Steps p.tables e below (T137.setTop (mkF m 101 #[.val (.int x0_0), .val (.long x0_1), .second, .val (.int x0_2), .val (.long x0_3), .second, .val (.int x0_4), .val (.int x0_5), .val (.int v12), .val (.long v27), .second, .val (.ref (f1 x0_4 w_IR w_R w_U w_IW w_W)), .val (.ref (f1 x0_4 w_IR w_R w_U w_IW w_W)), .val (.ref b133), .val (.ref b136), .unset, .unset] [(.ref (f1 x0_4 w_IR w_R w_U w_IW w_W))])) _
          refine XS.aload Xr137.here hx rfl (hb hby at_101) rfl rfl ?_
          show Steps p.tables e below (T137.setTop (mkF m 103 #[.val (.int x0_0), .val (.long x0_1), .second, .val (.int x0_2), .val (.long x0_3), .second, .val (.int x0_4), .val (.int x0_5), .val (.int v12), .val (.long v27), .second, .val (.ref (f1 x0_4 w_IR w_R w_U w_IW w_W)), .val (.ref (f1 x0_4 w_IR w_R w_U w_IW w_W)), .val (.ref b133), .val (.ref b136), .unset, .unset] [(.ref (f1 x0_4 w_IR w_R w_U w_IW w_W)), (.ref (f1 x0_4 w_IR w_R w_U w_IW w_W))])) _
          refine Jvm.RoadKit.acmp (g := (mkF m 103 #[.val (.int x0_0), .val (.long x0_1), .second, .val (.int x0_2), .val (.long x0_3), .second, .val (.int x0_4), .val (.int x0_5), .val (.int v12), .val (.long v27), .second, .val (.ref (f1 x0_4 w_IR w_R w_U w_IW w_W)), .val (.ref (f1 x0_4 w_IR w_R w_U w_IW w_W)), .val (.ref b133), .val (.ref b136), .unset, .unset] [(.ref (f1 x0_4 w_IR w_R w_U w_IW w_W)), (.ref (f1 x0_4 w_IR w_R w_U w_IW w_W))])) Xr137 hx rfl rfl rfl (pc0 := 103) (pc' := 106) (same := true) rfl (hb hby at_103) rfl (decide_eq_true (congrArg Value.ref (rfl : (f1 x0_4 w_IR w_R w_U w_IW w_W) = (f1 x0_4 w_IR w_R w_U w_IW w_W)))) (by decide) (by decide) ?_
          show Steps p.tables e below (T137.setTop (mkF m 106 #[.val (.int x0_0), .val (.long x0_1), .second, .val (.int x0_2), .val (.long x0_3), .second, .val (.int x0_4), .val (.int x0_5), .val (.int v12), .val (.long v27), .second, .val (.ref (f1 x0_4 w_IR w_R w_U w_IW w_W)), .val (.ref (f1 x0_4 w_IR w_R w_U w_IW w_W)), .val (.ref b133), .val (.ref b136), .unset, .unset] [])) _
          refine XS.iconst Xr137.here hx rfl (hb hby at_106) ?_
          show Steps p.tables e below (T137.setTop (mkF m 107 #[.val (.int x0_0), .val (.long x0_1), .second, .val (.int x0_2), .val (.long x0_3), .second, .val (.int x0_4), .val (.int x0_5), .val (.int v12), .val (.long v27), .second, .val (.ref (f1 x0_4 w_IR w_R w_U w_IW w_W)), .val (.ref (f1 x0_4 w_IR w_R w_U w_IW w_W)), .val (.ref b133), .val (.ref b136), .unset, .unset] [(.int (1 : Int32))])) _
          refine XS.goto Xr137.here hx rfl (pc0 := 107) (pc' := 111) rfl (hb hby at_107) (by decide) (by decide) ?_
          show Steps p.tables e below (T137.setTop (mkF m 111 #[.val (.int x0_0), .val (.long x0_1), .second, .val (.int x0_2), .val (.long x0_3), .second, .val (.int x0_4), .val (.int x0_5), .val (.int v12), .val (.long v27), .second, .val (.ref (f1 x0_4 w_IR w_R w_U w_IW w_W)), .val (.ref (f1 x0_4 w_IR w_R w_U w_IW w_W)), .val (.ref b133), .val (.ref b136), .unset, .unset] [(.int (1 : Int32))])) _
          refine XS.istore Xr137.here hx rfl (hb hby at_111) rfl (l' := #[.val (.int x0_0), .val (.long x0_1), .second, .val (.int x0_2), .val (.long x0_3), .second, .val (.int x0_4), .val (.int x0_5), .val (.int v12), .val (.long v27), .second, .val (.ref (f1 x0_4 w_IR w_R w_U w_IW w_W)), .val (.ref (f1 x0_4 w_IR w_R w_U w_IW w_W)), .val (.ref b133), .val (.ref b136), .val (.int (1 : Int32)), .unset]) rfl ?_
          show Steps p.tables e below (T137.setTop (mkF m 113 #[.val (.int x0_0), .val (.long x0_1), .second, .val (.int x0_2), .val (.long x0_3), .second, .val (.int x0_4), .val (.int x0_5), .val (.int v12), .val (.long v27), .second, .val (.ref (f1 x0_4 w_IR w_R w_U w_IW w_W)), .val (.ref (f1 x0_4 w_IR w_R w_U w_IW w_W)), .val (.ref b133), .val (.ref b136), .val (.int (1 : Int32)), .unset] [])) _
          refine XS.iload Xr137.here hx rfl (hb hby at_113) rfl ?_
          show Steps p.tables e below (T137.setTop (mkF m 115 #[.val (.int x0_0), .val (.long x0_1), .second, .val (.int x0_2), .val (.long x0_3), .second, .val (.int x0_4), .val (.int x0_5), .val (.int v12), .val (.long v27), .second, .val (.ref (f1 x0_4 w_IR w_R w_U w_IW w_W)), .val (.ref (f1 x0_4 w_IR w_R w_U w_IW w_W)), .val (.ref b133), .val (.ref b136), .val (.int (1 : Int32)), .unset] [(.int x0_5)])) _
          refine XS.iconst Xr137.here hx rfl (hb hby at_115) ?_
          show Steps p.tables e below (T137.setTop (mkF m 116 #[.val (.int x0_0), .val (.long x0_1), .second, .val (.int x0_2), .val (.long x0_3), .second, .val (.int x0_4), .val (.int x0_5), .val (.int v12), .val (.long v27), .second, .val (.ref (f1 x0_4 w_IR w_R w_U w_IW w_W)), .val (.ref (f1 x0_4 w_IR w_R w_U w_IW w_W)), .val (.ref b133), .val (.ref b136), .val (.int (1 : Int32)), .unset] [(.int (3 : Int32)), (.int x0_5)])) _
          refine XS.iushr Xr137.here hx rfl (hb hby at_116) rfl ?_
          show Steps p.tables e below (T137.setTop (mkF m 117 #[.val (.int x0_0), .val (.long x0_1), .second, .val (.int x0_2), .val (.long x0_3), .second, .val (.int x0_4), .val (.int x0_5), .val (.int v12), .val (.long v27), .second, .val (.ref (f1 x0_4 w_IR w_R w_U w_IW w_W)), .val (.ref (f1 x0_4 w_IR w_R w_U w_IW w_W)), .val (.ref b133), .val (.ref b136), .val (.int (1 : Int32)), .unset] [(.int ((x0_5.toUInt32 >>> ((3 : Int32) &&& 31).toUInt32).toInt32))])) _
          refine XS.iconst Xr137.here hx rfl (hb hby at_117) ?_
          show Steps p.tables e below (T137.setTop (mkF m 118 #[.val (.int x0_0), .val (.long x0_1), .second, .val (.int x0_2), .val (.long x0_3), .second, .val (.int x0_4), .val (.int x0_5), .val (.int v12), .val (.long v27), .second, .val (.ref (f1 x0_4 w_IR w_R w_U w_IW w_W)), .val (.ref (f1 x0_4 w_IR w_R w_U w_IW w_W)), .val (.ref b133), .val (.ref b136), .val (.int (1 : Int32)), .unset] [(.int (3 : Int32)), (.int ((x0_5.toUInt32 >>> ((3 : Int32) &&& 31).toUInt32).toInt32))])) _
          refine XS.iand Xr137.here hx rfl (hb hby at_118) rfl ?_
          show Steps p.tables e below (T137.setTop (mkF m 119 #[.val (.int x0_0), .val (.long x0_1), .second, .val (.int x0_2), .val (.long x0_3), .second, .val (.int x0_4), .val (.int x0_5), .val (.int v12), .val (.long v27), .second, .val (.ref (f1 x0_4 w_IR w_R w_U w_IW w_W)), .val (.ref (f1 x0_4 w_IR w_R w_U w_IW w_W)), .val (.ref b133), .val (.ref b136), .val (.int (1 : Int32)), .unset] [(.int (((x0_5.toUInt32 >>> ((3 : Int32) &&& 31).toUInt32).toInt32) &&& (3 : Int32)))])) _
          refine XS.istore Xr137.here hx rfl (hb hby at_119) rfl (l' := #[.val (.int x0_0), .val (.long x0_1), .second, .val (.int x0_2), .val (.long x0_3), .second, .val (.int x0_4), .val (.int x0_5), .val (.int v12), .val (.long v27), .second, .val (.ref (f1 x0_4 w_IR w_R w_U w_IW w_W)), .val (.ref (f1 x0_4 w_IR w_R w_U w_IW w_W)), .val (.ref b133), .val (.ref b136), .val (.int (1 : Int32)), .val (.int (((x0_5.toUInt32 >>> ((3 : Int32) &&& 31).toUInt32).toInt32) &&& (3 : Int32)))]) rfl ?_
          exact kt
        obtain ⟨v119, hv119⟩ : ∃ z, z = (((x0_5.toUInt32 >>> ((3 : Int32) &&& 31).toUInt32).toInt32) &&& (3 : Int32)) := ⟨_, rfl⟩
        rw [← hv119] at sg143
        have sg144 : ∀ t, Steps p.tables e below (T137.setTop (mkF m 123 #[.val (.int x0_0), .val (.long x0_1), .second, .val (.int x0_2), .val (.long x0_3), .second, .val (.int x0_4), .val (.int x0_5), .val (.int v12), .val (.long v27), .second, .val (.ref (f1 x0_4 w_IR w_R w_U w_IW w_W)), .val (.ref (f1 x0_4 w_IR w_R w_U w_IW w_W)), .val (.ref b133), .val (.ref b136), .val (.int (1 : Int32)), .val (.int v119)] [(.int v119)])) t → Steps p.tables e below (T137.setTop (mkF m 121 #[.val (.int x0_0), .val (.long x0_1), .second, .val (.int x0_2), .val (.long x0_3), .second, .val (.int x0_4), .val (.int x0_5), .val (.int v12), .val (.long v27), .second, .val (.ref (f1 x0_4 w_IR w_R w_U w_IW w_W)), .val (.ref (f1 x0_4 w_IR w_R w_U w_IW w_W)), .val (.ref b133), .val (.ref b136), .val (.int (1 : Int32)), .val (.int v119)] [])) t := fun t kt => by
          show Steps p.tables e below (T137.setTop (mkF m 121 #[.val (.int x0_0), .val (.long x0_1), .second, .val (.int x0_2), .val (.long x0_3), .second, .val (.int x0_4), .val (.int x0_5), .val (.int v12), .val (.long v27), .second, .val (.ref (f1 x0_4 w_IR w_R w_U w_IW w_W)), .val (.ref (f1 x0_4 w_IR w_R w_U w_IW w_W)), .val (.ref b133), .val (.ref b136), .val (.int (1 : Int32)), .val (.int v119)] [])) _
          refine XS.iload Xr137.here hx rfl (hb hby at_121) rfl ?_
          exact kt
        by_cases hc123_145 : v119 = (0 : Int32)
        · have c146 := (Exa.keep (Exa.ext E136 Ex134) K137)
          have c147 := (Fld.keep (Fld.ext E136 Fq134_peer) K137 (ninS ne_b133_b136 nin0))
          have c148 := (Fld.keep (Fld.ext E136 Fq134_ticket) K137 (ninS ne_b133_b136 nin0))
          have c149 := (Fld.keep (Fld.ext E136 Fq134_mode) K137 (ninS ne_b133_b136 nin0))
          have sg151 : ∀ t, Steps p.tables e below (T137.setTop (mkF m 130 #[.val (.int x0_0), .val (.long x0_1), .second, .val (.int x0_2), .val (.long x0_3), .second, .val (.int x0_4), .val (.int x0_5), .val (.int v12), .val (.long v27), .second, .val (.ref (f1 x0_4 w_IR w_R w_U w_IW w_W)), .val (.ref (f1 x0_4 w_IR w_R w_U w_IW w_W)), .val (.ref b133), .val (.ref b136), .val (.int (1 : Int32)), .val (.int v119)] [(.ref b136), (.ref b133)])) t → Steps p.tables e below (T137.setTop (mkF m 123 #[.val (.int x0_0), .val (.long x0_1), .second, .val (.int x0_2), .val (.long x0_3), .second, .val (.int x0_4), .val (.int x0_5), .val (.int v12), .val (.long v27), .second, .val (.ref (f1 x0_4 w_IR w_R w_U w_IW w_W)), .val (.ref (f1 x0_4 w_IR w_R w_U w_IW w_W)), .val (.ref b133), .val (.ref b136), .val (.int (1 : Int32)), .val (.int v119)] [(.int v119)])) t := fun t kt => by
            show Steps p.tables e below (T137.setTop (mkF m 123 #[.val (.int x0_0), .val (.long x0_1), .second, .val (.int x0_2), .val (.long x0_3), .second, .val (.int x0_4), .val (.int x0_5), .val (.int v12), .val (.long v27), .second, .val (.ref (f1 x0_4 w_IR w_R w_U w_IW w_W)), .val (.ref (f1 x0_4 w_IR w_R w_U w_IW w_W)), .val (.ref b133), .val (.ref b136), .val (.int (1 : Int32)), .val (.int v119)] [(.int v119)])) _
            refine XS.ifNo Xr137.here hx rfl (hb hby at_123) rfl ((if0 _ _).trans (teq hc123_145).2) ?_
            show Steps p.tables e below (T137.setTop (mkF m 126 #[.val (.int x0_0), .val (.long x0_1), .second, .val (.int x0_2), .val (.long x0_3), .second, .val (.int x0_4), .val (.int x0_5), .val (.int v12), .val (.long v27), .second, .val (.ref (f1 x0_4 w_IR w_R w_U w_IW w_W)), .val (.ref (f1 x0_4 w_IR w_R w_U w_IW w_W)), .val (.ref b133), .val (.ref b136), .val (.int (1 : Int32)), .val (.int v119)] [])) _
            refine XS.aload Xr137.here hx rfl (hb hby at_126) rfl rfl ?_
            show Steps p.tables e below (T137.setTop (mkF m 128 #[.val (.int x0_0), .val (.long x0_1), .second, .val (.int x0_2), .val (.long x0_3), .second, .val (.int x0_4), .val (.int x0_5), .val (.int v12), .val (.long v27), .second, .val (.ref (f1 x0_4 w_IR w_R w_U w_IW w_W)), .val (.ref (f1 x0_4 w_IR w_R w_U w_IW w_W)), .val (.ref b133), .val (.ref b136), .val (.int (1 : Int32)), .val (.int v119)] [(.ref b133)])) _
            refine XS.aload Xr137.here hx rfl (hb hby at_128) rfl rfl ?_
            exact kt
          obtain ⟨cq150, kq150, q150a, q150b, q150c⟩ := isOf hZ rfl c146
          obtain ⟨v150, _, ⟨T150, L150, k150, n150⟩, -, X150, ⟨Lc150, hQ150, l150, y150, z150⟩, st150⟩ := Xr137.virtualBack hx (y := (⟨"com/example/libdmutex/libdmutex/core/TokenTree$Token$Queued", "equals", "(Ljava/lang/Object;)Z"⟩ : MethodName)) (z := (⟨"com/example/libdmutex/libdmutex/core/TokenTree$Token$Queued", "equals", "(Ljava/lang/Object;)Z"⟩ : MethodName)) hown (mvT hZ (hw _ (List.mem_of_getElem? (i := 39) rfl))) (mvT hZ (hw _ (List.mem_of_getElem? (i := 40) rfl))) (notFace_of_selects (args := #[]) (mvT hZ (hw _ (List.mem_of_getElem? (i := 42) rfl)))) (mvT hZ (hw _ (List.mem_of_getElem? (i := 42) rfl))) (mvT hZ (hw _ (List.mem_of_getElem? (i := 41) rfl))) (by decide) (backOf (W := 0) (rm5o l Z a0 hw [] b133 b136 x0_0 x0_1 (f1 x0_4 w_IR w_R w_U w_IW w_W) v12 v27 (f1 x0_4 w_IR w_R w_U w_IW w_W) T137.heap n0 Zs137 c146 Ex137 c147 c148 c149 Fq137_peer Fq137_ticket Fq137_mode) hZ (hw _ (List.mem_of_getElem? (i := 43) rfl)) (hw _ (List.mem_of_getElem? (i := 12) rfl)) (by decide) (by decide)) q150a q150c (g := (mkF m 130 #[.val (.int x0_0), .val (.long x0_1), .second, .val (.int x0_2), .val (.long x0_3), .second, .val (.int x0_4), .val (.int x0_5), .val (.int v12), .val (.long v27), .second, .val (.ref (f1 x0_4 w_IR w_R w_U w_IW w_W)), .val (.ref (f1 x0_4 w_IR w_R w_U w_IW w_W)), .val (.ref b133), .val (.ref b136), .val (.int (1 : Int32)), .val (.int v119)] [(.ref b136), (.ref b133)])) rfl (by rw [hml]; rfl) (Steps.refl _) (argsL := [(.ref b136)]) (rest := []) (lenOf pd_5 rfl) rfl (by show 2 * 0 + _ ≤ _; exact Nat.le_of_eq rfl) (hb hby at_130) (fun _ _ => ⟨rfl, rfl, (by decide : 6 + 0 ≤ _), (by decide : 46 + 0 ≤ _)⟩)
          dsimp only [Pt.U, Pt.locs, Pt.cells, Pt.slots] at X150 l150 y150 z150 st150 hQ150
          subst l150 y150 z150
          obtain ⟨hv150, N150q, e150⟩ := hQ150
          have N150 := Fr.app N137 N150q
          have hf150 : f5o b133 b136 x0_0 x0_1 (f1 x0_4 w_IR w_R w_U w_IW w_W) v12 v27 (f1 x0_4 w_IR w_R w_U w_IW w_W) = (1 : Int32) := by unfold f5o; rw [if_pos hc89_140, if_pos hc96_142, if_pos (rfl : (f1 x0_4 w_IR w_R w_U w_IW w_W) = (f1 x0_4 w_IR w_R w_U w_IW w_W))]
          rw [hf150] at hv150
          subst hv150
          obtain ⟨fs, hr, hrun, hended, hRW⟩ := Stand.leaveW (s := s) (vm₁ := T137.vm) X150 hS137 (by rw [e150]; exact hk137) (v := some (.int (1 : Int32))) (fun h => by rw [Bd.returns] at h; cases h)
          refine ⟨_, _, pre0 _ (sg1 _ (sg2 _ (sg3 _ (sg4 _ (sg5 _ (sg6 _ (sg8 _ (sg9 _ (sg135 _ (sg138 _ (sg139 _ (sg141 _ (sg143 _ (sg144 _ (sg151 _ ?_))))))))))))))), hrun, hended, _, _, rfl, ?_, hRW.1, hRW.2.1, hRW.2.2.1, hRW.2.2.2.mono (by decide) (by decide)⟩
          · show Steps p.tables e below (T137.setTop (mkF m 130 #[.val (.int x0_0), .val (.long x0_1), .second, .val (.int x0_2), .val (.long x0_3), .second, .val (.int x0_4), .val (.int x0_5), .val (.int v12), .val (.long v27), .second, .val (.ref (f1 x0_4 w_IR w_R w_U w_IW w_W)), .val (.ref (f1 x0_4 w_IR w_R w_U w_IW w_W)), .val (.ref b133), .val (.ref b136), .val (.int (1 : Int32)), .val (.int v119)] [(.ref b136), (.ref b133)])) _
            refine st150.trans ?_
            show Steps p.tables e below (T150.setTop (mkF m 133 #[.val (.int x0_0), .val (.long x0_1), .second, .val (.int x0_2), .val (.long x0_3), .second, .val (.int x0_4), .val (.int x0_5), .val (.int v12), .val (.long v27), .second, .val (.ref (f1 x0_4 w_IR w_R w_U w_IW w_W)), .val (.ref (f1 x0_4 w_IR w_R w_U w_IW w_W)), .val (.ref b133), .val (.ref b136), .val (.int (1 : Int32)), .val (.int v119)] [(.int (1 : Int32))])) _
            refine XS.iload X150.here hx rfl (hb hby at_133) rfl ?_
            show Steps p.tables e below (T150.setTop (mkF m 135 #[.val (.int x0_0), .val (.long x0_1), .second, .val (.int x0_2), .val (.long x0_3), .second, .val (.int x0_4), .val (.int x0_5), .val (.int v12), .val (.long v27), .second, .val (.ref (f1 x0_4 w_IR w_R w_U w_IW w_W)), .val (.ref (f1 x0_4 w_IR w_R w_U w_IW w_W)), .val (.ref b133), .val (.ref b136), .val (.int (1 : Int32)), .val (.int v119)] [(.int (1 : Int32)), (.int (1 : Int32))])) _
            refine XS.icmpNo X150.here hx rfl (hb hby at_135) rfl (teq (by decide : ((1 : Int32) = (1 : Int32)))).2 ?_
            show Steps p.tables e below (T150.setTop (mkF m 138 #[.val (.int x0_0), .val (.long x0_1), .second, .val (.int x0_2), .val (.long x0_3), .second, .val (.int x0_4), .val (.int x0_5), .val (.int v12), .val (.long v27), .second, .val (.ref (f1 x0_4 w_IR w_R w_U w_IW w_W)), .val (.ref (f1 x0_4 w_IR w_R w_U w_IW w_W)), .val (.ref b133), .val (.ref b136), .val (.int (1 : Int32)), .val (.int v119)] [])) _
            refine XS.iconst X150.here hx rfl (hb hby at_138) ?_
            show Steps p.tables e below (T150.setTop (mkF m 139 #[.val (.int x0_0), .val (.long x0_1), .second, .val (.int x0_2), .val (.long x0_3), .second, .val (.int x0_4), .val (.int x0_5), .val (.int v12), .val (.long v27), .second, .val (.ref (f1 x0_4 w_IR w_R w_U w_IW w_W)), .val (.ref (f1 x0_4 w_IR w_R w_U w_IW w_W)), .val (.ref b133), .val (.ref b136), .val (.int (1 : Int32)), .val (.int v119)] [(.int (1 : Int32))])) _
            refine XS.goto X150.here hx rfl (pc0 := 139) (pc' := 143) rfl (hb hby at_139) (by decide) (by decide) ?_
            show Steps p.tables e below (T150.setTop (mkF m 143 #[.val (.int x0_0), .val (.long x0_1), .second, .val (.int x0_2), .val (.long x0_3), .second, .val (.int x0_4), .val (.int x0_5), .val (.int v12), .val (.long v27), .second, .val (.ref (f1 x0_4 w_IR w_R w_U w_IW w_W)), .val (.ref (f1 x0_4 w_IR w_R w_U w_IW w_W)), .val (.ref b133), .val (.ref b136), .val (.int (1 : Int32)), .val (.int v119)] [(.int (1 : Int32))])) _
            exact retN X150 hx (t := .boolean) Bd.returns (by simp) (hb hby at_143) hr
          · show Q0 Z x0_0 x0_1 x0_2 x0_3 x0_4 x0_5 w_IR w_R w_U w_IW w_W cA cl h0 n0 _ T150.heap _
            rw [e150]
            exact ⟨rfl, N150⟩
        · have sg152 : ∀ t, Steps p.tables e below (T137.setTop (mkF m 147 #[.val (.int x0_0), .val (.long x0_1), .second, .val (.int x0_2), .val (.long x0_3), .second, .val (.int x0_4), .val (.int x0_5), .val (.int v12), .val (.long v27), .second, .val (.ref (f1 x0_4 w_IR w_R w_U w_IW w_W)), .val (.ref (f1 x0_4 w_IR w_R w_U w_IW w_W)), .val (.ref b133), .val (.ref b136), .val (.int (1 : Int32)), .val (.int v119)] [(.int (1 : Int32)), (.int v119)])) t → Steps p.tables e below (T137.setTop (mkF m 123 #[.val (.int x0_0), .val (.long x0_1), .second, .val (.int x0_2), .val (.long x0_3), .second, .val (.int x0_4), .val (.int x0_5), .val (.int v12), .val (.long v27), .second, .val (.ref (f1 x0_4 w_IR w_R w_U w_IW w_W)), .val (.ref (f1 x0_4 w_IR w_R w_U w_IW w_W)), .val (.ref b133), .val (.ref b136), .val (.int (1 : Int32)), .val (.int v119)] [(.int v119)])) t := fun t kt => by
            show Steps p.tables e below (T137.setTop (mkF m 123 #[.val (.int x0_0), .val (.long x0_1), .second, .val (.int x0_2), .val (.long x0_3), .second, .val (.int x0_4), .val (.int x0_5), .val (.int v12), .val (.long v27), .second, .val (.ref (f1 x0_4 w_IR w_R w_U w_IW w_W)), .val (.ref (f1 x0_4 w_IR w_R w_U w_IW w_W)), .val (.ref b133), .val (.ref b136), .val (.int (1 : Int32)), .val (.int v119)] [(.int v119)])) _
            refine XS.ifYes Xr137.here hx rfl (pc0 := 123) (pc' := 144) rfl (hb hby at_123) rfl ((if0 _ _).trans (feq hc123_145).2) (by decide) (by decide) ?_
            show Steps p.tables e below (T137.setTop (mkF m 144 #[.val (.int x0_0), .val (.long x0_1), .second, .val (.int x0_2), .val (.long x0_3), .second, .val (.int x0_4), .val (.int x0_5), .val (.int v12), .val (.long v27), .second, .val (.ref (f1 x0_4 w_IR w_R w_U w_IW w_W)), .val (.ref (f1 x0_4 w_IR w_R w_U w_IW w_W)), .val (.ref b133), .val (.ref b136), .val (.int (1 : Int32)), .val (.int v119)] [])) _
            refine XS.iload Xr137.here hx rfl (hb hby at_144) rfl ?_
            show Steps p.tables e below (T137.setTop (mkF m 146 #[.val (.int x0_0), .val (.long x0_1), .second, .val (.int x0_2), .val (.long x0_3), .second, .val (.int x0_4), .val (.int x0_5), .val (.int v12), .val (.long v27), .second, .val (.ref (f1 x0_4 w_IR w_R w_U w_IW w_W)), .val (.ref (f1 x0_4 w_IR w_R w_U w_IW w_W)), .val (.ref b133), .val (.ref b136), .val (.int (1 : Int32)), .val (.int v119)] [(.int v119)])) _
            refine XS.iconst Xr137.here hx rfl (hb hby at_146) ?_
            exact kt
          by_cases hc147_153 : v119 = (1 : Int32)
          · have c154 := (Exa.keep (Exa.ext E136 Ex134) K137)
            have sg156 : ∀ t, Steps p.tables e below (T137.setTop (mkF m 153 #[.val (.int x0_0), .val (.long x0_1), .second, .val (.int x0_2), .val (.long x0_3), .second, .val (.int x0_4), .val (.int x0_5), .val (.int v12), .val (.long v27), .second, .val (.ref (f1 x0_4 w_IR w_R w_U w_IW w_W)), .val (.ref (f1 x0_4 w_IR w_R w_U w_IW w_W)), .val (.ref b133), .val (.ref b136), .val (.int (1 : Int32)), .val (.int v119)] [.null, (.ref b133)])) t → Steps p.tables e below (T137.setTop (mkF m 147 #[.val (.int x0_0), .val (.long x0_1), .second, .val (.int x0_2), .val (.long x0_3), .second, .val (.int x0_4), .val (.int x0_5), .val (.int v12), .val (.long v27), .second, .val (.ref (f1 x0_4 w_IR w_R w_U w_IW w_W)), .val (.ref (f1 x0_4 w_IR w_R w_U w_IW w_W)), .val (.ref b133), .val (.ref b136), .val (.int (1 : Int32)), .val (.int v119)] [(.int (1 : Int32)), (.int v119)])) t := fun t kt => by
              show Steps p.tables e below (T137.setTop (mkF m 147 #[.val (.int x0_0), .val (.long x0_1), .second, .val (.int x0_2), .val (.long x0_3), .second, .val (.int x0_4), .val (.int x0_5), .val (.int v12), .val (.long v27), .second, .val (.ref (f1 x0_4 w_IR w_R w_U w_IW w_W)), .val (.ref (f1 x0_4 w_IR w_R w_U w_IW w_W)), .val (.ref b133), .val (.ref b136), .val (.int (1 : Int32)), .val (.int v119)] [(.int (1 : Int32)), (.int v119)])) _
              refine XS.icmpNo Xr137.here hx rfl (hb hby at_147) rfl (teq hc147_153).2 ?_
              show Steps p.tables e below (T137.setTop (mkF m 150 #[.val (.int x0_0), .val (.long x0_1), .second, .val (.int x0_2), .val (.long x0_3), .second, .val (.int x0_4), .val (.int x0_5), .val (.int v12), .val (.long v27), .second, .val (.ref (f1 x0_4 w_IR w_R w_U w_IW w_W)), .val (.ref (f1 x0_4 w_IR w_R w_U w_IW w_W)), .val (.ref b133), .val (.ref b136), .val (.int (1 : Int32)), .val (.int v119)] [])) _
              refine XS.aload Xr137.here hx rfl (hb hby at_150) rfl rfl ?_
              show Steps p.tables e below (T137.setTop (mkF m 152 #[.val (.int x0_0), .val (.long x0_1), .second, .val (.int x0_2), .val (.long x0_3), .second, .val (.int x0_4), .val (.int x0_5), .val (.int v12), .val (.long v27), .second, .val (.ref (f1 x0_4 w_IR w_R w_U w_IW w_W)), .val (.ref (f1 x0_4 w_IR w_R w_U w_IW w_W)), .val (.ref b133), .val (.ref b136), .val (.int (1 : Int32)), .val (.int v119)] [(.ref b133)])) _
              refine XS.aconstNull Xr137.here hx rfl (hb hby at_152) ?_
              exact kt
            obtain ⟨cq155, kq155, q155a, q155b, q155c⟩ := isOf hZ rfl c154
            obtain ⟨v155, _, ⟨T155, L155, k155, n155⟩, -, X155, ⟨Lc155, hQ155, l155, y155, z155⟩, st155⟩ := Xr137.virtualBack hx (y := (⟨"com/example/libdmutex/libdmutex/core/TokenTree$Token$Queued", "equals", "(Ljava/lang/Object;)Z"⟩ : MethodName)) (z := (⟨"com/example/libdmutex/libdmutex/core/TokenTree$Token$Queued", "equals", "(Ljava/lang/Object;)Z"⟩ : MethodName)) hown (mvT hZ (hw _ (List.mem_of_getElem? (i := 39) rfl))) (mvT hZ (hw _ (List.mem_of_getElem? (i := 40) rfl))) (notFace_of_selects (args := #[]) (mvT hZ (hw _ (List.mem_of_getElem? (i := 42) rfl)))) (mvT hZ (hw _ (List.mem_of_getElem? (i := 42) rfl))) (mvT hZ (hw _ (List.mem_of_getElem? (i := 41) rfl))) (by decide) (backOf (W := 0) (rm5n l Z a0 hw [] b133 T137.heap n0 Zs137 c154) hZ (hw _ (List.mem_of_getElem? (i := 43) rfl)) (hw _ (List.mem_of_getElem? (i := 12) rfl)) (by decide) (by decide)) q155a q155c (g := (mkF m 153 #[.val (.int x0_0), .val (.long x0_1), .second, .val (.int x0_2), .val (.long x0_3), .second, .val (.int x0_4), .val (.int x0_5), .val (.int v12), .val (.long v27), .second, .val (.ref (f1 x0_4 w_IR w_R w_U w_IW w_W)), .val (.ref (f1 x0_4 w_IR w_R w_U w_IW w_W)), .val (.ref b133), .val (.ref b136), .val (.int (1 : Int32)), .val (.int v119)] [.null, (.ref b133)])) rfl (by rw [hml]; rfl) (Steps.refl _) (argsL := [.null]) (rest := []) (lenOf pd_5 rfl) rfl (by show 2 * 0 + _ ≤ _; exact Nat.le_of_eq rfl) (hb hby at_153) (fun _ _ => ⟨rfl, rfl, (by decide : 6 + 0 ≤ _), (by decide : 46 + 0 ≤ _)⟩)
            dsimp only [Pt.U, Pt.locs, Pt.cells, Pt.slots] at X155 l155 y155 z155 st155 hQ155
            subst l155 y155 z155
            obtain ⟨hv155, N155q, e155⟩ := hQ155
            have N155 := Fr.app N137 N155q
            have hf155 : f5n b133 = (0 : Int32) := rfl
            rw [hf155] at hv155
            subst hv155
            obtain ⟨fs, hr, hrun, hended, hRW⟩ := Stand.leaveW (s := s) (vm₁ := T137.vm) X155 hS137 (by rw [e155]; exact hk137) (v := some (.int (1 : Int32))) (fun h => by rw [Bd.returns] at h; cases h)
            refine ⟨_, _, pre0 _ (sg1 _ (sg2 _ (sg3 _ (sg4 _ (sg5 _ (sg6 _ (sg8 _ (sg9 _ (sg135 _ (sg138 _ (sg139 _ (sg141 _ (sg143 _ (sg144 _ (sg152 _ (sg156 _ ?_)))))))))))))))), hrun, hended, _, _, rfl, ?_, hRW.1, hRW.2.1, hRW.2.2.1, hRW.2.2.2.mono (by decide) (by decide)⟩
            · show Steps p.tables e below (T137.setTop (mkF m 153 #[.val (.int x0_0), .val (.long x0_1), .second, .val (.int x0_2), .val (.long x0_3), .second, .val (.int x0_4), .val (.int x0_5), .val (.int v12), .val (.long v27), .second, .val (.ref (f1 x0_4 w_IR w_R w_U w_IW w_W)), .val (.ref (f1 x0_4 w_IR w_R w_U w_IW w_W)), .val (.ref b133), .val (.ref b136), .val (.int (1 : Int32)), .val (.int v119)] [.null, (.ref b133)])) _
              refine st155.trans ?_
              show Steps p.tables e below (T155.setTop (mkF m 156 #[.val (.int x0_0), .val (.long x0_1), .second, .val (.int x0_2), .val (.long x0_3), .second, .val (.int x0_4), .val (.int x0_5), .val (.int v12), .val (.long v27), .second, .val (.ref (f1 x0_4 w_IR w_R w_U w_IW w_W)), .val (.ref (f1 x0_4 w_IR w_R w_U w_IW w_W)), .val (.ref b133), .val (.ref b136), .val (.int (1 : Int32)), .val (.int v119)] [(.int (0 : Int32))])) _
              refine XS.ifNo X155.here hx rfl (hb hby at_156) rfl ((if0 _ _).trans (teq (by decide : ((0 : Int32) = (0 : Int32)))).2) ?_
              show Steps p.tables e below (T155.setTop (mkF m 159 #[.val (.int x0_0), .val (.long x0_1), .second, .val (.int x0_2), .val (.long x0_3), .second, .val (.int x0_4), .val (.int x0_5), .val (.int v12), .val (.long v27), .second, .val (.ref (f1 x0_4 w_IR w_R w_U w_IW w_W)), .val (.ref (f1 x0_4 w_IR w_R w_U w_IW w_W)), .val (.ref b133), .val (.ref b136), .val (.int (1 : Int32)), .val (.int v119)] [])) _
              refine XS.iconst X155.here hx rfl (hb hby at_159) ?_
              show Steps p.tables e below (T155.setTop (mkF m 160 #[.val (.int x0_0), .val (.long x0_1), .second, .val (.int x0_2), .val (.long x0_3), .second, .val (.int x0_4), .val (.int x0_5), .val (.int v12), .val (.long v27), .second, .val (.ref (f1 x0_4 w_IR w_R w_U w_IW w_W)), .val (.ref (f1 x0_4 w_IR w_R w_U w_IW w_W)), .val (.ref b133), .val (.ref b136), .val (.int (1 : Int32)), .val (.int v119)] [(.int (1 : Int32))])) _
              refine XS.goto X155.here hx rfl (pc0 := 160) (pc' := 164) rfl (hb hby at_160) (by decide) (by decide) ?_
              show Steps p.tables e below (T155.setTop (mkF m 164 #[.val (.int x0_0), .val (.long x0_1), .second, .val (.int x0_2), .val (.long x0_3), .second, .val (.int x0_4), .val (.int x0_5), .val (.int v12), .val (.long v27), .second, .val (.ref (f1 x0_4 w_IR w_R w_U w_IW w_W)), .val (.ref (f1 x0_4 w_IR w_R w_U w_IW w_W)), .val (.ref b133), .val (.ref b136), .val (.int (1 : Int32)), .val (.int v119)] [(.int (1 : Int32))])) _
              exact retN X155 hx (t := .boolean) Bd.returns (by simp) (hb hby at_164) hr
            · show Q0 Z x0_0 x0_1 x0_2 x0_3 x0_4 x0_5 w_IR w_R w_U w_IW w_W cA cl h0 n0 _ T155.heap _
              rw [e155]
              exact ⟨rfl, N155⟩
          · have sg157 : ∀ t, Steps p.tables e below (T137.setTop (mkF m 168 #[.val (.int x0_0), .val (.long x0_1), .second, .val (.int x0_2), .val (.long x0_3), .second, .val (.int x0_4), .val (.int x0_5), .val (.int v12), .val (.long v27), .second, .val (.ref (f1 x0_4 w_IR w_R w_U w_IW w_W)), .val (.ref (f1 x0_4 w_IR w_R w_U w_IW w_W)), .val (.ref b133), .val (.ref b136), .val (.int (1 : Int32)), .val (.int v119)] [(.int (2 : Int32)), (.int v119)])) t → Steps p.tables e below (T137.setTop (mkF m 147 #[.val (.int x0_0), .val (.long x0_1), .second, .val (.int x0_2), .val (.long x0_3), .second, .val (.int x0_4), .val (.int x0_5), .val (.int v12), .val (.long v27), .second, .val (.ref (f1 x0_4 w_IR w_R w_U w_IW w_W)), .val (.ref (f1 x0_4 w_IR w_R w_U w_IW w_W)), .val (.ref b133), .val (.ref b136), .val (.int (1 : Int32)), .val (.int v119)] [(.int (1 : Int32)), (.int v119)])) t := fun t kt => by
              show Steps p.tables e below (T137.setTop (mkF m 147 #[.val (.int x0_0), .val (.long x0_1), .second, .val (.int x0_2), .val (.long x0_3), .second, .val (.int x0_4), .val (.int x0_5), .val (.int v12), .val (.long v27), .second, .val (.ref (f1 x0_4 w_IR w_R w_U w_IW w_W)), .val (.ref (f1 x0_4 w_IR w_R w_U w_IW w_W)), .val (.ref b133), .val (.ref b136), .val (.int (1 : Int32)), .val (.int v119)] [(.int (1 : Int32)), (.int v119)])) _
              refine XS.icmpYes Xr137.here hx rfl (pc0 := 147) (pc' := 165) rfl (hb hby at_147) rfl (feq hc147_153).2 (by decide) (by decide) ?_
              show Steps p.tables e below (T137.setTop (mkF m 165 #[.val (.int x0_0), .val (.long x0_1), .second, .val (.int x0_2), .val (.long x0_3), .second, .val (.int x0_4), .val (.int x0_5), .val (.int v12), .val (.long v27), .second, .val (.ref (f1 x0_4 w_IR w_R w_U w_IW w_W)), .val (.ref (f1 x0_4 w_IR w_R w_U w_IW w_W)), .val (.ref b133), .val (.ref b136), .val (.int (1 : Int32)), .val (.int v119)] [])) _
              refine XS.iload Xr137.here hx rfl (hb hby at_165) rfl ?_
              show Steps p.tables e below (T137.setTop (mkF m 167 #[.val (.int x0_0), .val (.long x0_1), .second, .val (.int x0_2), .val (.long x0_3), .second, .val (.int x0_4), .val (.int x0_5), .val (.int v12), .val (.long v27), .second, .val (.ref (f1 x0_4 w_IR w_R w_U w_IW w_W)), .val (.ref (f1 x0_4 w_IR w_R w_U w_IW w_W)), .val (.ref b133), .val (.ref b136), .val (.int (1 : Int32)), .val (.int v119)] [(.int v119)])) _
              refine XS.iconst Xr137.here hx rfl (hb hby at_167) ?_
              exact kt
            by_cases hc168_158 : v119 = (2 : Int32)
            · have sg160 : ∀ t, Steps p.tables e below (T137.setTop (mkF m 174 #[.val (.int x0_0), .val (.long x0_1), .second, .val (.int x0_2), .val (.long x0_3), .second, .val (.int x0_4), .val (.int x0_5), .val (.int v12), .val (.long v27), .second, .val (.ref (f1 x0_4 w_IR w_R w_U w_IW w_W)), .val (.ref (f1 x0_4 w_IR w_R w_U w_IW w_W)), .val (.ref b133), .val (.ref b136), .val (.int (1 : Int32)), .val (.int v119)] [(.int x0_0), (.ref b133)])) t → Steps p.tables e below (T137.setTop (mkF m 168 #[.val (.int x0_0), .val (.long x0_1), .second, .val (.int x0_2), .val (.long x0_3), .second, .val (.int x0_4), .val (.int x0_5), .val (.int v12), .val (.long v27), .second, .val (.ref (f1 x0_4 w_IR w_R w_U w_IW w_W)), .val (.ref (f1 x0_4 w_IR w_R w_U w_IW w_W)), .val (.ref b133), .val (.ref b136), .val (.int (1 : Int32)), .val (.int v119)] [(.int (2 : Int32)), (.int v119)])) t := fun t kt => by
                show Steps p.tables e below (T137.setTop (mkF m 168 #[.val (.int x0_0), .val (.long x0_1), .second, .val (.int x0_2), .val (.long x0_3), .second, .val (.int x0_4), .val (.int x0_5), .val (.int v12), .val (.long v27), .second, .val (.ref (f1 x0_4 w_IR w_R w_U w_IW w_W)), .val (.ref (f1 x0_4 w_IR w_R w_U w_IW w_W)), .val (.ref b133), .val (.ref b136), .val (.int (1 : Int32)), .val (.int v119)] [(.int (2 : Int32)), (.int v119)])) _
                refine XS.icmpNo Xr137.here hx rfl (hb hby at_168) rfl (teq hc168_158).2 ?_
                show Steps p.tables e below (T137.setTop (mkF m 171 #[.val (.int x0_0), .val (.long x0_1), .second, .val (.int x0_2), .val (.long x0_3), .second, .val (.int x0_4), .val (.int x0_5), .val (.int v12), .val (.long v27), .second, .val (.ref (f1 x0_4 w_IR w_R w_U w_IW w_W)), .val (.ref (f1 x0_4 w_IR w_R w_U w_IW w_W)), .val (.ref b133), .val (.ref b136), .val (.int (1 : Int32)), .val (.int v119)] [])) _
                refine XS.aload Xr137.here hx rfl (hb hby at_171) rfl rfl ?_
                show Steps p.tables e below (T137.setTop (mkF m 173 #[.val (.int x0_0), .val (.long x0_1), .second, .val (.int x0_2), .val (.long x0_3), .second, .val (.int x0_4), .val (.int x0_5), .val (.int v12), .val (.long v27), .second, .val (.ref (f1 x0_4 w_IR w_R w_U w_IW w_W)), .val (.ref (f1 x0_4 w_IR w_R w_U w_IW w_W)), .val (.ref b133), .val (.ref b136), .val (.int (1 : Int32)), .val (.int v119)] [(.ref b133)])) _
                refine XS.iloadN Xr137.here hx rfl (hb hby at_173) rfl ?_
                exact kt
              obtain ⟨v159, _, ⟨T159, L159, k159, n159⟩, -, X159, ⟨Lc159, hQ159, l159, y159, z159⟩, st159⟩ := Jvm.LawKit.callS Xr137 hx (y := (⟨"java/lang/Integer", "valueOf", "(I)Ljava/lang/Integer;"⟩ : MethodName)) hown (mvT hZ (hw _ (List.mem_of_getElem? (i := 48) rfl))) (mvT hZ (hw _ (List.mem_of_getElem? (i := 49) rfl))) (mvT hZ (hw _ (List.mem_of_getElem? (i := 50) rfl))) (mvT hZ (hw _ (List.mem_of_getElem? (i := 51) rfl))) (by decide) (backOf (W := 1) (rm6 l Z a0 hw [] x0_0 cA cl T137.heap n0 Zs137 Ol137 JC SC SH) hZ (hw _ (List.mem_of_getElem? (i := 51) rfl)) (hw _ (List.mem_of_getElem? (i := 50) rfl)) (by decide) (by decide)) (g := (mkF m 174 #[.val (.int x0_0), .val (.long x0_1), .second, .val (.int x0_2), .val (.long x0_3), .second, .val (.int x0_4), .val (.int x0_5), .val (.int v12), .val (.long v27), .second, .val (.ref (f1 x0_4 w_IR w_R w_U w_IW w_W)), .val (.ref (f1 x0_4 w_IR w_R w_U w_IW w_W)), .val (.ref b133), .val (.ref b136), .val (.int (1 : Int32)), .val (.int v119)] [(.int x0_0), (.ref b133)])) rfl (by rw [hml]; rfl) (argsL := [(.int x0_0)]) (rest := [(.ref b133)]) (lenOf pd_6 rfl) rfl (by show 2 * 0 + _ ≤ _; exact Nat.le_of_eq rfl) (hb hby at_174) (fun _ _ => ⟨rfl, rfl, (by decide : 6 + 1 ≤ _), (by decide : 46 + 1 ≤ _)⟩)
              dsimp only [Pt.U, Pt.locs, Pt.cells, Pt.slots] at X159 l159 y159 z159 st159 hQ159
              subst l159 y159 z159
              obtain ⟨r159, rfl, N159q, K159, Ex159⟩ := hQ159
              have N159 := Fr.app N137 N159q
              have Zs159 : n0 ≤ T159.heap.size := Nat.le_trans Zs137 K159.1
              have hk159 := Nat.le_trans hk137 K159.1
              have Ol159 : Old Z n0 T159.heap := (Ol137).keep K159 all0
              have c161 := (Exa.keep (Exa.keep (Exa.ext E136 Ex134) K137) K159)
              have sg163 : ∀ t, Steps p.tables e below (T159.setTop (mkF m 177 #[.val (.int x0_0), .val (.long x0_1), .second, .val (.int x0_2), .val (.long x0_3), .second, .val (.int x0_4), .val (.int x0_5), .val (.int v12), .val (.long v27), .second, .val (.ref (f1 x0_4 w_IR w_R w_U w_IW w_W)), .val (.ref (f1 x0_4 w_IR w_R w_U w_IW w_W)), .val (.ref b133), .val (.ref b136), .val (.int (1 : Int32)), .val (.int v119)] [(.ref r159), (.ref b133)])) t → Steps p.tables e below (T137.setTop (mkF m 174 #[.val (.int x0_0), .val (.long x0_1), .second, .val (.int x0_2), .val (.long x0_3), .second, .val (.int x0_4), .val (.int x0_5), .val (.int v12), .val (.long v27), .second, .val (.ref (f1 x0_4 w_IR w_R w_U w_IW w_W)), .val (.ref (f1 x0_4 w_IR w_R w_U w_IW w_W)), .val (.ref b133), .val (.ref b136), .val (.int (1 : Int32)), .val (.int v119)] [(.int x0_0), (.ref b133)])) t := fun t kt => by
                show Steps p.tables e below (T137.setTop (mkF m 174 #[.val (.int x0_0), .val (.long x0_1), .second, .val (.int x0_2), .val (.long x0_3), .second, .val (.int x0_4), .val (.int x0_5), .val (.int v12), .val (.long v27), .second, .val (.ref (f1 x0_4 w_IR w_R w_U w_IW w_W)), .val (.ref (f1 x0_4 w_IR w_R w_U w_IW w_W)), .val (.ref b133), .val (.ref b136), .val (.int (1 : Int32)), .val (.int v119)] [(.int x0_0), (.ref b133)])) _
                refine st159 _ ?_
                exact kt
              obtain ⟨cq162, kq162, q162a, q162b, q162c⟩ := isOf hZ rfl c161
              obtain ⟨v162, _, ⟨T162, L162, k162, n162⟩, -, X162, ⟨Lc162, hQ162, l162, y162, z162⟩, st162⟩ := X159.virtualBack hx (y := (⟨"com/example/libdmutex/libdmutex/core/TokenTree$Token$Queued", "equals", "(Ljava/lang/Object;)Z"⟩ : MethodName)) (z := (⟨"com/example/libdmutex/libdmutex/core/TokenTree$Token$Queued", "equals", "(Ljava/lang/Object;)Z"⟩ : MethodName)) hown (mvT hZ (hw _ (List.mem_of_getElem? (i := 39) rfl))) (mvT hZ (hw _ (List.mem_of_getElem? (i := 40) rfl))) (notFace_of_selects (args := #[]) (mvT hZ (hw _ (List.mem_of_getElem? (i := 42) rfl)))) (mvT hZ (hw _ (List.mem_of_getElem? (i := 42) rfl))) (mvT hZ (hw _ (List.mem_of_getElem? (i := 41) rfl))) (by decide) (backOf (W := 0) (rm5i l Z a0 hw [] b133 r159 T159.heap n0 Zs159 Ex159) hZ (hw _ (List.mem_of_getElem? (i := 43) rfl)) (hw _ (List.mem_of_getElem? (i := 12) rfl)) (by decide) (by decide)) q162a q162c (g := (mkF m 177 #[.val (.int x0_0), .val (.long x0_1), .second, .val (.int x0_2), .val (.long x0_3), .second, .val (.int x0_4), .val (.int x0_5), .val (.int v12), .val (.long v27), .second, .val (.ref (f1 x0_4 w_IR w_R w_U w_IW w_W)), .val (.ref (f1 x0_4 w_IR w_R w_U w_IW w_W)), .val (.ref b133), .val (.ref b136), .val (.int (1 : Int32)), .val (.int v119)] [(.ref r159), (.ref b133)])) rfl (by rw [hml]; rfl) (Steps.refl _) (argsL := [(.ref r159)]) (rest := []) (lenOf pd_5 rfl) rfl (by show 2 * 0 + _ ≤ _; exact Nat.le_of_eq rfl) (hb hby at_177) (fun _ _ => ⟨rfl, rfl, (by decide : 7 + 0 ≤ _), (by decide : 47 + 0 ≤ _)⟩)
              dsimp only [Pt.U, Pt.locs, Pt.cells, Pt.slots] at X162 l162 y162 z162 st162 hQ162
              subst l162 y162 z162
              obtain ⟨hv162, N162q, e162⟩ := hQ162
              have N162 := Fr.app N159 N162q
              have hf162 : f5i b133 r159 = (0 : Int32) := rfl
              rw [hf162] at hv162
              subst hv162
              obtain ⟨fs, hr, hrun, hended, hRW⟩ := Stand.leaveW (s := s) (vm₁ := T137.vm) X162 hS137 (by rw [e162]; exact hk159) (v := some (.int (1 : Int32))) (fun h => by rw [Bd.returns] at h; cases h)
              refine ⟨_, _, pre0 _ (sg1 _ (sg2 _ (sg3 _ (sg4 _ (sg5 _ (sg6 _ (sg8 _ (sg9 _ (sg135 _ (sg138 _ (sg139 _ (sg141 _ (sg143 _ (sg144 _ (sg152 _ (sg157 _ (sg160 _ (sg163 _ ?_)))))))))))))))))), hrun, hended, _, _, rfl, ?_, hRW.1, hRW.2.1, hRW.2.2.1, hRW.2.2.2.mono (by decide) (by decide)⟩
              · show Steps p.tables e below (T159.setTop (mkF m 177 #[.val (.int x0_0), .val (.long x0_1), .second, .val (.int x0_2), .val (.long x0_3), .second, .val (.int x0_4), .val (.int x0_5), .val (.int v12), .val (.long v27), .second, .val (.ref (f1 x0_4 w_IR w_R w_U w_IW w_W)), .val (.ref (f1 x0_4 w_IR w_R w_U w_IW w_W)), .val (.ref b133), .val (.ref b136), .val (.int (1 : Int32)), .val (.int v119)] [(.ref r159), (.ref b133)])) _
                refine st162.trans ?_
                show Steps p.tables e below (T162.setTop (mkF m 180 #[.val (.int x0_0), .val (.long x0_1), .second, .val (.int x0_2), .val (.long x0_3), .second, .val (.int x0_4), .val (.int x0_5), .val (.int v12), .val (.long v27), .second, .val (.ref (f1 x0_4 w_IR w_R w_U w_IW w_W)), .val (.ref (f1 x0_4 w_IR w_R w_U w_IW w_W)), .val (.ref b133), .val (.ref b136), .val (.int (1 : Int32)), .val (.int v119)] [(.int (0 : Int32))])) _
                refine XS.ifNo X162.here hx rfl (hb hby at_180) rfl ((if0 _ _).trans (teq (by decide : ((0 : Int32) = (0 : Int32)))).2) ?_
                show Steps p.tables e below (T162.setTop (mkF m 183 #[.val (.int x0_0), .val (.long x0_1), .second, .val (.int x0_2), .val (.long x0_3), .second, .val (.int x0_4), .val (.int x0_5), .val (.int v12), .val (.long v27), .second, .val (.ref (f1 x0_4 w_IR w_R w_U w_IW w_W)), .val (.ref (f1 x0_4 w_IR w_R w_U w_IW w_W)), .val (.ref b133), .val (.ref b136), .val (.int (1 : Int32)), .val (.int v119)] [])) _
                refine XS.iconst X162.here hx rfl (hb hby at_183) ?_
                show Steps p.tables e below (T162.setTop (mkF m 184 #[.val (.int x0_0), .val (.long x0_1), .second, .val (.int x0_2), .val (.long x0_3), .second, .val (.int x0_4), .val (.int x0_5), .val (.int v12), .val (.long v27), .second, .val (.ref (f1 x0_4 w_IR w_R w_U w_IW w_W)), .val (.ref (f1 x0_4 w_IR w_R w_U w_IW w_W)), .val (.ref b133), .val (.ref b136), .val (.int (1 : Int32)), .val (.int v119)] [(.int (1 : Int32))])) _
                refine XS.goto X162.here hx rfl (pc0 := 184) (pc' := 188) rfl (hb hby at_184) (by decide) (by decide) ?_
                show Steps p.tables e below (T162.setTop (mkF m 188 #[.val (.int x0_0), .val (.long x0_1), .second, .val (.int x0_2), .val (.long x0_3), .second, .val (.int x0_4), .val (.int x0_5), .val (.int v12), .val (.long v27), .second, .val (.ref (f1 x0_4 w_IR w_R w_U w_IW w_W)), .val (.ref (f1 x0_4 w_IR w_R w_U w_IW w_W)), .val (.ref b133), .val (.ref b136), .val (.int (1 : Int32)), .val (.int v119)] [(.int (1 : Int32))])) _
                exact retN X162 hx (t := .boolean) Bd.returns (by simp) (hb hby at_188) hr
              · show Q0 Z x0_0 x0_1 x0_2 x0_3 x0_4 x0_5 w_IR w_R w_U w_IW w_W cA cl h0 n0 _ T162.heap _
                rw [e162]
                exact ⟨rfl, N162⟩
            · have c164 := (Exa.keep (Exa.ext E136 Ex134) K137)
              have c165 := (Fld.keep (Fld.ext E136 Fq134_peer) K137 (ninS ne_b133_b136 nin0))
              have c166 := (Fld.keep (Fld.ext E136 Fq134_ticket) K137 (ninS ne_b133_b136 nin0))
              have c167 := (Fld.keep (Fld.ext E136 Fq134_mode) K137 (ninS ne_b133_b136 nin0))
              have sg169 : ∀ t, Steps p.tables e below (T137.setTop (mkF m 193 #[.val (.int x0_0), .val (.long x0_1), .second, .val (.int x0_2), .val (.long x0_3), .second, .val (.int x0_4), .val (.int x0_5), .val (.int v12), .val (.long v27), .second, .val (.ref (f1 x0_4 w_IR w_R w_U w_IW w_W)), .val (.ref (f1 x0_4 w_IR w_R w_U w_IW w_W)), .val (.ref b133), .val (.ref b136), .val (.int (1 : Int32)), .val (.int v119)] [(.ref b133), (.ref b136)])) t → Steps p.tables e below (T137.setTop (mkF m 168 #[.val (.int x0_0), .val (.long x0_1), .second, .val (.int x0_2), .val (.long x0_3), .second, .val (.int x0_4), .val (.int x0_5), .val (.int v12), .val (.long v27), .second, .val (.ref (f1 x0_4 w_IR w_R w_U w_IW w_W)), .val (.ref (f1 x0_4 w_IR w_R w_U w_IW w_W)), .val (.ref b133), .val (.ref b136), .val (.int (1 : Int32)), .val (.int v119)] [(.int (2 : Int32)), (.int v119)])) t := fun t kt => by
                show Steps p.tables e below (T137.setTop (mkF m 168 #[.val (.int x0_0), .val (.long x0_1), .second, .val (.int x0_2), .val (.long x0_3), .second, .val (.int x0_4), .val (.int x0_5), .val (.int v12), .val (.long v27), .second, .val (.ref (f1 x0_4 w_IR w_R w_U w_IW w_W)), .val (.ref (f1 x0_4 w_IR w_R w_U w_IW w_W)), .val (.ref b133), .val (.ref b136), .val (.int (1 : Int32)), .val (.int v119)] [(.int (2 : Int32)), (.int v119)])) _
                refine XS.icmpYes Xr137.here hx rfl (pc0 := 168) (pc' := 189) rfl (hb hby at_168) rfl (feq hc168_158).2 (by decide) (by decide) ?_
                show Steps p.tables e below (T137.setTop (mkF m 189 #[.val (.int x0_0), .val (.long x0_1), .second, .val (.int x0_2), .val (.long x0_3), .second, .val (.int x0_4), .val (.int x0_5), .val (.int v12), .val (.long v27), .second, .val (.ref (f1 x0_4 w_IR w_R w_U w_IW w_W)), .val (.ref (f1 x0_4 w_IR w_R w_U w_IW w_W)), .val (.ref b133), .val (.ref b136), .val (.int (1 : Int32)), .val (.int v119)] [])) _
                refine XS.aload Xr137.here hx rfl (hb hby at_189) rfl rfl ?_
                show Steps p.tables e below (T137.setTop (mkF m 191 #[.val (.int x0_0), .val (.long x0_1), .second, .val (.int x0_2), .val (.long x0_3), .second, .val (.int x0_4), .val (.int x0_5), .val (.int v12), .val (.long v27), .second, .val (.ref (f1 x0_4 w_IR w_R w_U w_IW w_W)), .val (.ref (f1 x0_4 w_IR w_R w_U w_IW w_W)), .val (.ref b133), .val (.ref b136), .val (.int (1 : Int32)), .val (.int v119)] [(.ref b136)])) _
                refine XS.aload Xr137.here hx rfl (hb hby at_191) rfl rfl ?_
                exact kt
              obtain ⟨cq168, kq168, q168a, q168b, q168c⟩ := isOf hZ rfl Ex137
              obtain ⟨v168, _, ⟨T168, L168, k168, n168⟩, -, X168, ⟨Lc168, hQ168, l168, y168, z168⟩, st168⟩ := Xr137.virtualBack hx (y := (⟨"com/example/libdmutex/libdmutex/core/TokenTree$Token$Queued", "equals", "(Ljava/lang/Object;)Z"⟩ : MethodName)) (z := (⟨"com/example/libdmutex/libdmutex/core/TokenTree$Token$Queued", "equals", "(Ljava/lang/Object;)Z"⟩ : MethodName)) hown (mvT hZ (hw _ (List.mem_of_getElem? (i := 39) rfl))) (mvT hZ (hw _ (List.mem_of_getElem? (i := 40) rfl))) (notFace_of_selects (args := #[]) (mvT hZ (hw _ (List.mem_of_getElem? (i := 42) rfl)))) (mvT hZ (hw _ (List.mem_of_getElem? (i := 42) rfl))) (mvT hZ (hw _ (List.mem_of_getElem? (i := 41) rfl))) (by decide) (backOf (W := 0) (rm5o l Z a0 hw [] b136 b133 v12 v27 (f1 x0_4 w_IR w_R w_U w_IW w_W) x0_0 x0_1 (f1 x0_4 w_IR w_R w_U w_IW w_W) T137.heap n0 Zs137 Ex137 c164 Fq137_peer Fq137_ticket Fq137_mode c165 c166 c167) hZ (hw _ (List.mem_of_getElem? (i := 43) rfl)) (hw _ (List.mem_of_getElem? (i := 12) rfl)) (by decide) (by decide)) q168a q168c (g := (mkF m 193 #[.val (.int x0_0), .val (.long x0_1), .second, .val (.int x0_2), .val (.long x0_3), .second, .val (.int x0_4), .val (.int x0_5), .val (.int v12), .val (.long v27), .second, .val (.ref (f1 x0_4 w_IR w_R w_U w_IW w_W)), .val (.ref (f1 x0_4 w_IR w_R w_U w_IW w_W)), .val (.ref b133), .val (.ref b136), .val (.int (1 : Int32)), .val (.int v119)] [(.ref b133), (.ref b136)])) rfl (by rw [hml]; rfl) (Steps.refl _) (argsL := [(.ref b133)]) (rest := []) (lenOf pd_5 rfl) rfl (by show 2 * 0 + _ ≤ _; exact Nat.le_of_eq rfl) (hb hby at_193) (fun _ _ => ⟨rfl, rfl, (by decide : 6 + 0 ≤ _), (by decide : 46 + 0 ≤ _)⟩)
              dsimp only [Pt.U, Pt.locs, Pt.cells, Pt.slots] at X168 l168 y168 z168 st168 hQ168
              subst l168 y168 z168
              obtain ⟨hv168, N168q, e168⟩ := hQ168
              have N168 := Fr.app N137 N168q
              have hf168 : f5o b136 b133 v12 v27 (f1 x0_4 w_IR w_R w_U w_IW w_W) x0_0 x0_1 (f1 x0_4 w_IR w_R w_U w_IW w_W) = (1 : Int32) := by unfold f5o; rw [if_pos (Eq.symm hc89_140), if_pos (Eq.symm hc96_142), if_pos (rfl : (f1 x0_4 w_IR w_R w_U w_IW w_W) = (f1 x0_4 w_IR w_R w_U w_IW w_W))]
              rw [hf168] at hv168
              subst hv168
              obtain ⟨fs, hr, hrun, hended, hRW⟩ := Stand.leaveW (s := s) (vm₁ := T137.vm) X168 hS137 (by rw [e168]; exact hk137) (v := some (.int (1 : Int32))) (fun h => by rw [Bd.returns] at h; cases h)
              refine ⟨_, _, pre0 _ (sg1 _ (sg2 _ (sg3 _ (sg4 _ (sg5 _ (sg6 _ (sg8 _ (sg9 _ (sg135 _ (sg138 _ (sg139 _ (sg141 _ (sg143 _ (sg144 _ (sg152 _ (sg157 _ (sg169 _ ?_))))))))))))))))), hrun, hended, _, _, rfl, ?_, hRW.1, hRW.2.1, hRW.2.2.1, hRW.2.2.2.mono (by decide) (by decide)⟩
              · show Steps p.tables e below (T137.setTop (mkF m 193 #[.val (.int x0_0), .val (.long x0_1), .second, .val (.int x0_2), .val (.long x0_3), .second, .val (.int x0_4), .val (.int x0_5), .val (.int v12), .val (.long v27), .second, .val (.ref (f1 x0_4 w_IR w_R w_U w_IW w_W)), .val (.ref (f1 x0_4 w_IR w_R w_U w_IW w_W)), .val (.ref b133), .val (.ref b136), .val (.int (1 : Int32)), .val (.int v119)] [(.ref b133), (.ref b136)])) _
                refine st168.trans ?_
                show Steps p.tables e below (T168.setTop (mkF m 196 #[.val (.int x0_0), .val (.long x0_1), .second, .val (.int x0_2), .val (.long x0_3), .second, .val (.int x0_4), .val (.int x0_5), .val (.int v12), .val (.long v27), .second, .val (.ref (f1 x0_4 w_IR w_R w_U w_IW w_W)), .val (.ref (f1 x0_4 w_IR w_R w_U w_IW w_W)), .val (.ref b133), .val (.ref b136), .val (.int (1 : Int32)), .val (.int v119)] [(.int (1 : Int32))])) _
                refine XS.iload X168.here hx rfl (hb hby at_196) rfl ?_
                show Steps p.tables e below (T168.setTop (mkF m 198 #[.val (.int x0_0), .val (.long x0_1), .second, .val (.int x0_2), .val (.long x0_3), .second, .val (.int x0_4), .val (.int x0_5), .val (.int v12), .val (.long v27), .second, .val (.ref (f1 x0_4 w_IR w_R w_U w_IW w_W)), .val (.ref (f1 x0_4 w_IR w_R w_U w_IW w_W)), .val (.ref b133), .val (.ref b136), .val (.int (1 : Int32)), .val (.int v119)] [(.int (1 : Int32)), (.int (1 : Int32))])) _
                refine XS.icmpNo X168.here hx rfl (hb hby at_198) rfl (teq (by decide : ((1 : Int32) = (1 : Int32)))).2 ?_
                show Steps p.tables e below (T168.setTop (mkF m 201 #[.val (.int x0_0), .val (.long x0_1), .second, .val (.int x0_2), .val (.long x0_3), .second, .val (.int x0_4), .val (.int x0_5), .val (.int v12), .val (.long v27), .second, .val (.ref (f1 x0_4 w_IR w_R w_U w_IW w_W)), .val (.ref (f1 x0_4 w_IR w_R w_U w_IW w_W)), .val (.ref b133), .val (.ref b136), .val (.int (1 : Int32)), .val (.int v119)] [])) _
                refine XS.iconst X168.here hx rfl (hb hby at_201) ?_
                show Steps p.tables e below (T168.setTop (mkF m 202 #[.val (.int x0_0), .val (.long x0_1), .second, .val (.int x0_2), .val (.long x0_3), .second, .val (.int x0_4), .val (.int x0_5), .val (.int v12), .val (.long v27), .second, .val (.ref (f1 x0_4 w_IR w_R w_U w_IW w_W)), .val (.ref (f1 x0_4 w_IR w_R w_U w_IW w_W)), .val (.ref b133), .val (.ref b136), .val (.int (1 : Int32)), .val (.int v119)] [(.int (1 : Int32))])) _
                refine XS.goto X168.here hx rfl (pc0 := 202) (pc' := 206) rfl (hb hby at_202) (by decide) (by decide) ?_
                show Steps p.tables e below (T168.setTop (mkF m 206 #[.val (.int x0_0), .val (.long x0_1), .second, .val (.int x0_2), .val (.long x0_3), .second, .val (.int x0_4), .val (.int x0_5), .val (.int v12), .val (.long v27), .second, .val (.ref (f1 x0_4 w_IR w_R w_U w_IW w_W)), .val (.ref (f1 x0_4 w_IR w_R w_U w_IW w_W)), .val (.ref b133), .val (.ref b136), .val (.int (1 : Int32)), .val (.int v119)] [(.int (1 : Int32))])) _
                exact retN X168 hx (t := .boolean) Bd.returns (by simp) (hb hby at_206) hr
              · show Q0 Z x0_0 x0_1 x0_2 x0_3 x0_4 x0_5 w_IR w_R w_U w_IW w_W cA cl h0 n0 _ T168.heap _
                rw [e168]
                exact ⟨rfl, N168⟩
      · have sg170 : ∀ t, Steps p.tables e below (T137.setTop (mkF m 121 #[.val (.int x0_0), .val (.long x0_1), .second, .val (.int x0_2), .val (.long x0_3), .second, .val (.int x0_4), .val (.int x0_5), .val (.int v12), .val (.long v27), .second, .val (.ref (f1 x0_4 w_IR w_R w_U w_IW w_W)), .val (.ref (f1 x0_4 w_IR w_R w_U w_IW w_W)), .val (.ref b133), .val (.ref b136), .val (.int (0 : Int32)), .val (.int (((x0_5.toUInt32 >>> ((3 : Int32) &&& 31).toUInt32).toInt32) &&& (3 : Int32)))] [])) t → Steps p.tables e below (T137.setTop (mkF m 96 #[.val (.int x0_0), .val (.long x0_1), .second, .val (.int x0_2), .val (.long x0_3), .second, .val (.int x0_4), .val (.int x0_5), .val (.int v12), .val (.long v27), .second, .val (.ref (f1 x0_4 w_IR w_R w_U w_IW w_W)), .val (.ref (f1 x0_4 w_IR w_R w_U w_IW w_W)), .val (.ref b133), .val (.ref b136), .unset, .unset] [(.int (lcmpW x0_1 v27))])) t := fun t kt => by
          show Steps p.tables e below (T137.setTop (mkF m 96 #[.val (.int x0_0), .val (.long x0_1), .second, .val (.int x0_2), .val (.long x0_3), .second, .val (.int x0_4), .val (.int x0_5), .val (.int v12), .val (.long v27), .second, .val (.ref (f1 x0_4 w_IR w_R w_U w_IW w_W)), .val (.ref (f1 x0_4 w_IR w_R w_U w_IW w_W)), .val (.ref b133), .val (.ref b136), .unset, .unset] [(.int (lcmpW x0_1 v27))])) _
          refine XS.ifYes Xr137.here hx rfl (pc0 := 96) (pc' := 110) rfl (hb hby at_96) rfl ((if0 _ _).trans (feq (mt (lw_eq _ _).mp hc96_142)).2) (by decide) (by decide) ?_
          show Steps p.tables e below (T137.setTop (mkF m 110 #[.val (.int x0_0), .val (.long x0_1), .second, .val (.int x0_2), .val (.long x0_3), .second, .val (.int x0_4), .val (.int x0_5), .val (.int v12), .val (.long v27), .second, .val (.ref (f1 x0_4 w_IR w_R w_U w_IW w_W)), .val (.ref (f1 x0_4 w_IR w_R w_U w_IW w_W)), .val (.ref b133), .val (.ref b136), .unset, .unset] [])) _
          refine XS.iconst Xr137.here hx rfl (hb hby at_110) ?_
          show Steps p.tables e below (T137.setTop (mkF m 111 #[.val (.int x0_0), .val (.long x0_1), .second, .val (.int x0_2), .val (.long x0_3), .second, .val (.int x0_4), .val (.int x0_5), .val (.int v12), .val (.long v27), .second, .val (.ref (f1 x0_4 w_IR w_R w_U w_IW w_W)), .val (.ref (f1 x0_4 w_IR w_R w_U w_IW w_W)), .val (.ref b133), .val (.ref b136), .unset, .unset] [(.int (0 : Int32))])) _
          refine XS.istore Xr137.here hx rfl (hb hby at_111) rfl (l' := #[.val (.int x0_0), .val (.long x0_1), .second, .val (.int x0_2), .val (.long x0_3), .second, .val (.int x0_4), .val (.int x0_5), .val (.int v12), .val (.long v27), .second, .val (.ref (f1 x0_4 w_IR w_R w_U w_IW w_W)), .val (.ref (f1 x0_4 w_IR w_R w_U w_IW w_W)), .val (.ref b133), .val (.ref b136), .val (.int (0 : Int32)), .unset]) rfl ?_
          show Steps p.tables e below (T137.setTop (mkF m 113 #[.val (.int x0_0), .val (.long x0_1), .second, .val (.int x0_2), .val (.long x0_3), .second, .val (.int x0_4), .val (.int x0_5), .val (.int v12), .val (.long v27), .second, .val (.ref (f1 x0_4 w_IR w_R w_U w_IW w_W)), .val (.ref (f1 x0_4 w_IR w_R w_U w_IW w_W)), .val (.ref b133), .val (.ref b136), .val (.int (0 : Int32)), .unset] [])) _
          refine XS.iload Xr137.here hx rfl (hb hby at_113) rfl ?_
          show Steps p.tables e below (T137.setTop (mkF m 115 #[.val (.int x0_0), .val (.long x0_1), .second, .val (.int x0_2), .val (.long x0_3), .second, .val (.int x0_4), .val (.int x0_5), .val (.int v12), .val (.long v27), .second, .val (.ref (f1 x0_4 w_IR w_R w_U w_IW w_W)), .val (.ref (f1 x0_4 w_IR w_R w_U w_IW w_W)), .val (.ref b133), .val (.ref b136), .val (.int (0 : Int32)), .unset] [(.int x0_5)])) _
          refine XS.iconst Xr137.here hx rfl (hb hby at_115) ?_
          show Steps p.tables e below (T137.setTop (mkF m 116 #[.val (.int x0_0), .val (.long x0_1), .second, .val (.int x0_2), .val (.long x0_3), .second, .val (.int x0_4), .val (.int x0_5), .val (.int v12), .val (.long v27), .second, .val (.ref (f1 x0_4 w_IR w_R w_U w_IW w_W)), .val (.ref (f1 x0_4 w_IR w_R w_U w_IW w_W)), .val (.ref b133), .val (.ref b136), .val (.int (0 : Int32)), .unset] [(.int (3 : Int32)), (.int x0_5)])) _
          refine XS.iushr Xr137.here hx rfl (hb hby at_116) rfl ?_
          show Steps p.tables e below (T137.setTop (mkF m 117 #[.val (.int x0_0), .val (.long x0_1), .second, .val (.int x0_2), .val (.long x0_3), .second, .val (.int x0_4), .val (.int x0_5), .val (.int v12), .val (.long v27), .second, .val (.ref (f1 x0_4 w_IR w_R w_U w_IW w_W)), .val (.ref (f1 x0_4 w_IR w_R w_U w_IW w_W)), .val (.ref b133), .val (.ref b136), .val (.int (0 : Int32)), .unset] [(.int ((x0_5.toUInt32 >>> ((3 : Int32) &&& 31).toUInt32).toInt32))])) _
          refine XS.iconst Xr137.here hx rfl (hb hby at_117) ?_
          show Steps p.tables e below (T137.setTop (mkF m 118 #[.val (.int x0_0), .val (.long x0_1), .second, .val (.int x0_2), .val (.long x0_3), .second, .val (.int x0_4), .val (.int x0_5), .val (.int v12), .val (.long v27), .second, .val (.ref (f1 x0_4 w_IR w_R w_U w_IW w_W)), .val (.ref (f1 x0_4 w_IR w_R w_U w_IW w_W)), .val (.ref b133), .val (.ref b136), .val (.int (0 : Int32)), .unset] [(.int (3 : Int32)), (.int ((x0_5.toUInt32 >>> ((3 : Int32) &&& 31).toUInt32).toInt32))])) _
          refine XS.iand Xr137.here hx rfl (hb hby at_118) rfl ?_
          show Steps p.tables e below (T137.setTop (mkF m 119 #[.val (.int x0_0), .val (.long x0_1), .second, .val (.int x0_2), .val (.long x0_3), .second, .val (.int x0_4), .val (.int x0_5), .val (.int v12), .val (.long v27), .second, .val (.ref (f1 x0_4 w_IR w_R w_U w_IW w_W)), .val (.ref (f1 x0_4 w_IR w_R w_U w_IW w_W)), .val (.ref b133), .val (.ref b136), .val (.int (0 : Int32)), .unset] [(.int (((x0_5.toUInt32 >>> ((3 : Int32) &&& 31).toUInt32).toInt32) &&& (3 : Int32)))])) _
          refine XS.istore Xr137.here hx rfl (hb hby at_119) rfl (l' := #[.val (.int x0_0), .val (.long x0_1), .second, .val (.int x0_2), .val (.long x0_3), .second, .val (.int x0_4), .val (.int x0_5), .val (.int v12), .val (.long v27), .second, .val (.ref (f1 x0_4 w_IR w_R w_U w_IW w_W)), .val (.ref (f1 x0_4 w_IR w_R w_U w_IW w_W)), .val (.ref b133), .val (.ref b136), .val (.int (0 : Int32)), .val (.int (((x0_5.toUInt32 >>> ((3 : Int32) &&& 31).toUInt32).toInt32) &&& (3 : Int32)))]) rfl ?_
          exact kt
        obtain ⟨v119, hv119⟩ : ∃ z, z = (((x0_5.toUInt32 >>> ((3 : Int32) &&& 31).toUInt32).toInt32) &&& (3 : Int32)) := ⟨_, rfl⟩
        rw [← hv119] at sg170
        have sg171 : ∀ t, Steps p.tables e below (T137.setTop (mkF m 123 #[.val (.int x0_0), .val (.long x0_1), .second, .val (.int x0_2), .val (.long x0_3), .second, .val (.int x0_4), .val (.int x0_5), .val (.int v12), .val (.long v27), .second, .val (.ref (f1 x0_4 w_IR w_R w_U w_IW w_W)), .val (.ref (f1 x0_4 w_IR w_R w_U w_IW w_W)), .val (.ref b133), .val (.ref b136), .val (.int (0 : Int32)), .val (.int v119)] [(.int v119)])) t → Steps p.tables e below (T137.setTop (mkF m 121 #[.val (.int x0_0), .val (.long x0_1), .second, .val (.int x0_2), .val (.long x0_3), .second, .val (.int x0_4), .val (.int x0_5), .val (.int v12), .val (.long v27), .second, .val (.ref (f1 x0_4 w_IR w_R w_U w_IW w_W)), .val (.ref (f1 x0_4 w_IR w_R w_U w_IW w_W)), .val (.ref b133), .val (.ref b136), .val (.int (0 : Int32)), .val (.int v119)] [])) t := fun t kt => by
          show Steps p.tables e below (T137.setTop (mkF m 121 #[.val (.int x0_0), .val (.long x0_1), .second, .val (.int x0_2), .val (.long x0_3), .second, .val (.int x0_4), .val (.int x0_5), .val (.int v12), .val (.long v27), .second, .val (.ref (f1 x0_4 w_IR w_R w_U w_IW w_W)), .val (.ref (f1 x0_4 w_IR w_R w_U w_IW w_W)), .val (.ref b133), .val (.ref b136), .val (.int (0 : Int32)), .val (.int v119)] [])) _
          refine XS.iload Xr137.here hx rfl (hb hby at_121) rfl ?_
          exact kt
        by_cases hc123_172 : v119 = (0 : Int32)
        · have c173 := (Exa.keep (Exa.ext E136 Ex134) K137)
          have c174 := (Fld.keep (Fld.ext E136 Fq134_peer) K137 (ninS ne_b133_b136 nin0))
          have c175 := (Fld.keep (Fld.ext E136 Fq134_ticket) K137 (ninS ne_b133_b136 nin0))
          have c176 := (Fld.keep (Fld.ext E136 Fq134_mode) K137 (ninS ne_b133_b136 nin0))
          have sg178 : ∀ t, Steps p.tables e below (T137.setTop (mkF m 130 #[.val (.int x0_0), .val (.long x0_1), .second, .val (.int x0_2), .val (.long x0_3), .second, .val (.int x0_4), .val (.int x0_5), .val (.int v12), .val (.long v27), .second, .val (.ref (f1 x0_4 w_IR w_R w_U w_IW w_W)), .val (.ref (f1 x0_4 w_IR w_R w_U w_IW w_W)), .val (.ref b133), .val (.ref b136), .val (.int (0 : Int32)), .val (.int v119)] [(.ref b136), (.ref b133)])) t → Steps p.tables e below (T137.setTop (mkF m 123 #[.val (.int x0_0), .val (.long x0_1), .second, .val (.int x0_2), .val (.long x0_3), .second, .val (.int x0_4), .val (.int x0_5), .val (.int v12), .val (.long v27), .second, .val (.ref (f1 x0_4 w_IR w_R w_U w_IW w_W)), .val (.ref (f1 x0_4 w_IR w_R w_U w_IW w_W)), .val (.ref b133), .val (.ref b136), .val (.int (0 : Int32)), .val (.int v119)] [(.int v119)])) t := fun t kt => by
            show Steps p.tables e below (T137.setTop (mkF m 123 #[.val (.int x0_0), .val (.long x0_1), .second, .val (.int x0_2), .val (.long x0_3), .second, .val (.int x0_4), .val (.int x0_5), .val (.int v12), .val (.long v27), .second, .val (.ref (f1 x0_4 w_IR w_R w_U w_IW w_W)), .val (.ref (f1 x0_4 w_IR w_R w_U w_IW w_W)), .val (.ref b133), .val (.ref b136), .val (.int (0 : Int32)), .val (.int v119)] [(.int v119)])) _
            refine XS.ifNo Xr137.here hx rfl (hb hby at_123) rfl ((if0 _ _).trans (teq hc123_172).2) ?_
            show Steps p.tables e below (T137.setTop (mkF m 126 #[.val (.int x0_0), .val (.long x0_1), .second, .val (.int x0_2), .val (.long x0_3), .second, .val (.int x0_4), .val (.int x0_5), .val (.int v12), .val (.long v27), .second, .val (.ref (f1 x0_4 w_IR w_R w_U w_IW w_W)), .val (.ref (f1 x0_4 w_IR w_R w_U w_IW w_W)), .val (.ref b133), .val (.ref b136), .val (.int (0 : Int32)), .val (.int v119)] [])) _
            refine XS.aload Xr137.here hx rfl (hb hby at_126) rfl rfl ?_
            show Steps p.tables e below (T137.setTop (mkF m 128 #[.val (.int x0_0), .val (.long x0_1), .second, .val (.int x0_2), .val (.long x0_3), .second, .val (.int x0_4), .val (.int x0_5), .val (.int v12), .val (.long v27), .second, .val (.ref (f1 x0_4 w_IR w_R w_U w_IW w_W)), .val (.ref (f1 x0_4 w_IR w_R w_U w_IW w_W)), .val (.ref b133), .val (.ref b136), .val (.int (0 : Int32)), .val (.int v119)] [(.ref b133)])) _
            refine XS.aload Xr137.here hx rfl (hb hby at_128) rfl rfl ?_
            exact kt
          obtain ⟨cq177, kq177, q177a, q177b, q177c⟩ := isOf hZ rfl c173
          obtain ⟨v177, _, ⟨T177, L177, k177, n177⟩, -, X177, ⟨Lc177, hQ177, l177, y177, z177⟩, st177⟩ := Xr137.virtualBack hx (y := (⟨"com/example/libdmutex/libdmutex/core/TokenTree$Token$Queued", "equals", "(Ljava/lang/Object;)Z"⟩ : MethodName)) (z := (⟨"com/example/libdmutex/libdmutex/core/TokenTree$Token$Queued", "equals", "(Ljava/lang/Object;)Z"⟩ : MethodName)) hown (mvT hZ (hw _ (List.mem_of_getElem? (i := 39) rfl))) (mvT hZ (hw _ (List.mem_of_getElem? (i := 40) rfl))) (notFace_of_selects (args := #[]) (mvT hZ (hw _ (List.mem_of_getElem? (i := 42) rfl)))) (mvT hZ (hw _ (List.mem_of_getElem? (i := 42) rfl))) (mvT hZ (hw _ (List.mem_of_getElem? (i := 41) rfl))) (by decide) (backOf (W := 0) (rm5o l Z a0 hw [] b133 b136 x0_0 x0_1 (f1 x0_4 w_IR w_R w_U w_IW w_W) v12 v27 (f1 x0_4 w_IR w_R w_U w_IW w_W) T137.heap n0 Zs137 c173 Ex137 c174 c175 c176 Fq137_peer Fq137_ticket Fq137_mode) hZ (hw _ (List.mem_of_getElem? (i := 43) rfl)) (hw _ (List.mem_of_getElem? (i := 12) rfl)) (by decide) (by decide)) q177a q177c (g := (mkF m 130 #[.val (.int x0_0), .val (.long x0_1), .second, .val (.int x0_2), .val (.long x0_3), .second, .val (.int x0_4), .val (.int x0_5), .val (.int v12), .val (.long v27), .second, .val (.ref (f1 x0_4 w_IR w_R w_U w_IW w_W)), .val (.ref (f1 x0_4 w_IR w_R w_U w_IW w_W)), .val (.ref b133), .val (.ref b136), .val (.int (0 : Int32)), .val (.int v119)] [(.ref b136), (.ref b133)])) rfl (by rw [hml]; rfl) (Steps.refl _) (argsL := [(.ref b136)]) (rest := []) (lenOf pd_5 rfl) rfl (by show 2 * 0 + _ ≤ _; exact Nat.le_of_eq rfl) (hb hby at_130) (fun _ _ => ⟨rfl, rfl, (by decide : 6 + 0 ≤ _), (by decide : 46 + 0 ≤ _)⟩)
          dsimp only [Pt.U, Pt.locs, Pt.cells, Pt.slots] at X177 l177 y177 z177 st177 hQ177
          subst l177 y177 z177
          obtain ⟨hv177, N177q, e177⟩ := hQ177
          have N177 := Fr.app N137 N177q
          have hf177 : f5o b133 b136 x0_0 x0_1 (f1 x0_4 w_IR w_R w_U w_IW w_W) v12 v27 (f1 x0_4 w_IR w_R w_U w_IW w_W) = (0 : Int32) := by unfold f5o; rw [if_pos hc89_140, if_neg hc96_142]
          rw [hf177] at hv177
          subst hv177
          obtain ⟨fs, hr, hrun, hended, hRW⟩ := Stand.leaveW (s := s) (vm₁ := T137.vm) X177 hS137 (by rw [e177]; exact hk137) (v := some (.int (1 : Int32))) (fun h => by rw [Bd.returns] at h; cases h)
          refine ⟨_, _, pre0 _ (sg1 _ (sg2 _ (sg3 _ (sg4 _ (sg5 _ (sg6 _ (sg8 _ (sg9 _ (sg135 _ (sg138 _ (sg139 _ (sg141 _ (sg170 _ (sg171 _ (sg178 _ ?_))))))))))))))), hrun, hended, _, _, rfl, ?_, hRW.1, hRW.2.1, hRW.2.2.1, hRW.2.2.2.mono (by decide) (by decide)⟩
          · show Steps p.tables e below (T137.setTop (mkF m 130 #[.val (.int x0_0), .val (.long x0_1), .second, .val (.int x0_2), .val (.long x0_3), .second, .val (.int x0_4), .val (.int x0_5), .val (.int v12), .val (.long v27), .second, .val (.ref (f1 x0_4 w_IR w_R w_U w_IW w_W)), .val (.ref (f1 x0_4 w_IR w_R w_U w_IW w_W)), .val (.ref b133), .val (.ref b136), .val (.int (0 : Int32)), .val (.int v119)] [(.ref b136), (.ref b133)])) _
            refine st177.trans ?_
            show Steps p.tables e below (T177.setTop (mkF m 133 #[.val (.int x0_0), .val (.long x0_1), .second, .val (.int x0_2), .val (.long x0_3), .second, .val (.int x0_4), .val (.int x0_5), .val (.int v12), .val (.long v27), .second, .val (.ref (f1 x0_4 w_IR w_R w_U w_IW w_W)), .val (.ref (f1 x0_4 w_IR w_R w_U w_IW w_W)), .val (.ref b133), .val (.ref b136), .val (.int (0 : Int32)), .val (.int v119)] [(.int (0 : Int32))])) _
            refine XS.iload X177.here hx rfl (hb hby at_133) rfl ?_
            show Steps p.tables e below (T177.setTop (mkF m 135 #[.val (.int x0_0), .val (.long x0_1), .second, .val (.int x0_2), .val (.long x0_3), .second, .val (.int x0_4), .val (.int x0_5), .val (.int v12), .val (.long v27), .second, .val (.ref (f1 x0_4 w_IR w_R w_U w_IW w_W)), .val (.ref (f1 x0_4 w_IR w_R w_U w_IW w_W)), .val (.ref b133), .val (.ref b136), .val (.int (0 : Int32)), .val (.int v119)] [(.int (0 : Int32)), (.int (0 : Int32))])) _
            refine XS.icmpNo X177.here hx rfl (hb hby at_135) rfl (teq (by decide : ((0 : Int32) = (0 : Int32)))).2 ?_
            show Steps p.tables e below (T177.setTop (mkF m 138 #[.val (.int x0_0), .val (.long x0_1), .second, .val (.int x0_2), .val (.long x0_3), .second, .val (.int x0_4), .val (.int x0_5), .val (.int v12), .val (.long v27), .second, .val (.ref (f1 x0_4 w_IR w_R w_U w_IW w_W)), .val (.ref (f1 x0_4 w_IR w_R w_U w_IW w_W)), .val (.ref b133), .val (.ref b136), .val (.int (0 : Int32)), .val (.int v119)] [])) _
            refine XS.iconst X177.here hx rfl (hb hby at_138) ?_
            show Steps p.tables e below (T177.setTop (mkF m 139 #[.val (.int x0_0), .val (.long x0_1), .second, .val (.int x0_2), .val (.long x0_3), .second, .val (.int x0_4), .val (.int x0_5), .val (.int v12), .val (.long v27), .second, .val (.ref (f1 x0_4 w_IR w_R w_U w_IW w_W)), .val (.ref (f1 x0_4 w_IR w_R w_U w_IW w_W)), .val (.ref b133), .val (.ref b136), .val (.int (0 : Int32)), .val (.int v119)] [(.int (1 : Int32))])) _
            refine XS.goto X177.here hx rfl (pc0 := 139) (pc' := 143) rfl (hb hby at_139) (by decide) (by decide) ?_
            show Steps p.tables e below (T177.setTop (mkF m 143 #[.val (.int x0_0), .val (.long x0_1), .second, .val (.int x0_2), .val (.long x0_3), .second, .val (.int x0_4), .val (.int x0_5), .val (.int v12), .val (.long v27), .second, .val (.ref (f1 x0_4 w_IR w_R w_U w_IW w_W)), .val (.ref (f1 x0_4 w_IR w_R w_U w_IW w_W)), .val (.ref b133), .val (.ref b136), .val (.int (0 : Int32)), .val (.int v119)] [(.int (1 : Int32))])) _
            exact retN X177 hx (t := .boolean) Bd.returns (by simp) (hb hby at_143) hr
          · show Q0 Z x0_0 x0_1 x0_2 x0_3 x0_4 x0_5 w_IR w_R w_U w_IW w_W cA cl h0 n0 _ T177.heap _
            rw [e177]
            exact ⟨rfl, N177⟩
        · have sg179 : ∀ t, Steps p.tables e below (T137.setTop (mkF m 147 #[.val (.int x0_0), .val (.long x0_1), .second, .val (.int x0_2), .val (.long x0_3), .second, .val (.int x0_4), .val (.int x0_5), .val (.int v12), .val (.long v27), .second, .val (.ref (f1 x0_4 w_IR w_R w_U w_IW w_W)), .val (.ref (f1 x0_4 w_IR w_R w_U w_IW w_W)), .val (.ref b133), .val (.ref b136), .val (.int (0 : Int32)), .val (.int v119)] [(.int (1 : Int32)), (.int v119)])) t → Steps p.tables e below (T137.setTop (mkF m 123 #[.val (.int x0_0), .val (.long x0_1), .second, .val (.int x0_2), .val (.long x0_3), .second, .val (.int x0_4), .val (.int x0_5), .val (.int v12), .val (.long v27), .second, .val (.ref (f1 x0_4 w_IR w_R w_U w_IW w_W)), .val (.ref (f1 x0_4 w_IR w_R w_U w_IW w_W)), .val (.ref b133), .val (.ref b136), .val (.int (0 : Int32)), .val (.int v119)] [(.int v119)])) t := fun t kt => by
            show Steps p.tables e below (T137.setTop (mkF m 123 #[.val (.int x0_0), .val (.long x0_1), .second, .val (.int x0_2), .val (.long x0_3), .second, .val (.int x0_4), .val (.int x0_5), .val (.int v12), .val (.long v27), .second, .val (.ref (f1 x0_4 w_IR w_R w_U w_IW w_W)), .val (.ref (f1 x0_4 w_IR w_R w_U w_IW w_W)), .val (.ref b133), .val (.ref b136), .val (.int (0 : Int32)), .val (.int v119)] [(.int v119)])) _
            refine XS.ifYes Xr137.here hx rfl (pc0 := 123) (pc' := 144) rfl (hb hby at_123) rfl ((if0 _ _).trans (feq hc123_172).2) (by decide) (by decide) ?_
            show Steps p.tables e below (T137.setTop (mkF m 144 #[.val (.int x0_0), .val (.long x0_1), .second, .val (.int x0_2), .val (.long x0_3), .second, .val (.int x0_4), .val (.int x0_5), .val (.int v12), .val (.long v27), .second, .val (.ref (f1 x0_4 w_IR w_R w_U w_IW w_W)), .val (.ref (f1 x0_4 w_IR w_R w_U w_IW w_W)), .val (.ref b133), .val (.ref b136), .val (.int (0 : Int32)), .val (.int v119)] [])) _
            refine XS.iload Xr137.here hx rfl (hb hby at_144) rfl ?_
            show Steps p.tables e below (T137.setTop (mkF m 146 #[.val (.int x0_0), .val (.long x0_1), .second, .val (.int x0_2), .val (.long x0_3), .second, .val (.int x0_4), .val (.int x0_5), .val (.int v12), .val (.long v27), .second, .val (.ref (f1 x0_4 w_IR w_R w_U w_IW w_W)), .val (.ref (f1 x0_4 w_IR w_R w_U w_IW w_W)), .val (.ref b133), .val (.ref b136), .val (.int (0 : Int32)), .val (.int v119)] [(.int v119)])) _
            refine XS.iconst Xr137.here hx rfl (hb hby at_146) ?_
            exact kt
          by_cases hc147_180 : v119 = (1 : Int32)
          · have c181 := (Exa.keep (Exa.ext E136 Ex134) K137)
            have sg183 : ∀ t, Steps p.tables e below (T137.setTop (mkF m 153 #[.val (.int x0_0), .val (.long x0_1), .second, .val (.int x0_2), .val (.long x0_3), .second, .val (.int x0_4), .val (.int x0_5), .val (.int v12), .val (.long v27), .second, .val (.ref (f1 x0_4 w_IR w_R w_U w_IW w_W)), .val (.ref (f1 x0_4 w_IR w_R w_U w_IW w_W)), .val (.ref b133), .val (.ref b136), .val (.int (0 : Int32)), .val (.int v119)] [.null, (.ref b133)])) t → Steps p.tables e below (T137.setTop (mkF m 147 #[.val (.int x0_0), .val (.long x0_1), .second, .val (.int x0_2), .val (.long x0_3), .second, .val (.int x0_4), .val (.int x0_5), .val (.int v12), .val (.long v27), .second, .val (.ref (f1 x0_4 w_IR w_R w_U w_IW w_W)), .val (.ref (f1 x0_4 w_IR w_R w_U w_IW w_W)), .val (.ref b133), .val (.ref b136), .val (.int (0 : Int32)), .val (.int v119)] [(.int (1 : Int32)), (.int v119)])) t := fun t kt => by
              show Steps p.tables e below (T137.setTop (mkF m 147 #[.val (.int x0_0), .val (.long x0_1), .second, .val (.int x0_2), .val (.long x0_3), .second, .val (.int x0_4), .val (.int x0_5), .val (.int v12), .val (.long v27), .second, .val (.ref (f1 x0_4 w_IR w_R w_U w_IW w_W)), .val (.ref (f1 x0_4 w_IR w_R w_U w_IW w_W)), .val (.ref b133), .val (.ref b136), .val (.int (0 : Int32)), .val (.int v119)] [(.int (1 : Int32)), (.int v119)])) _
              refine XS.icmpNo Xr137.here hx rfl (hb hby at_147) rfl (teq hc147_180).2 ?_
              show Steps p.tables e below (T137.setTop (mkF m 150 #[.val (.int x0_0), .val (.long x0_1), .second, .val (.int x0_2), .val (.long x0_3), .second, .val (.int x0_4), .val (.int x0_5), .val (.int v12), .val (.long v27), .second, .val (.ref (f1 x0_4 w_IR w_R w_U w_IW w_W)), .val (.ref (f1 x0_4 w_IR w_R w_U w_IW w_W)), .val (.ref b133), .val (.ref b136), .val (.int (0 : Int32)), .val (.int v119)] [])) _
              refine XS.aload Xr137.here hx rfl (hb hby at_150) rfl rfl ?_
              show Steps p.tables e below (T137.setTop (mkF m 152 #[.val (.int x0_0), .val (.long x0_1), .second, .val (.int x0_2), .val (.long x0_3), .second, .val (.int x0_4), .val (.int x0_5), .val (.int v12), .val (.long v27), .second, .val (.ref (f1 x0_4 w_IR w_R w_U w_IW w_W)), .val (.ref (f1 x0_4 w_IR w_R w_U w_IW w_W)), .val (.ref b133), .val (.ref b136), .val (.int (0 : Int32)), .val (.int v119)] [(.ref b133)])) _
              refine XS.aconstNull Xr137.here hx rfl (hb hby at_152) ?_
              exact kt
            obtain ⟨cq182, kq182, q182a, q182b, q182c⟩ := isOf hZ rfl c181
            obtain ⟨v182, _, ⟨T182, L182, k182, n182⟩, -, X182, ⟨Lc182, hQ182, l182, y182, z182⟩, st182⟩ := Xr137.virtualBack hx (y := (⟨"com/example/libdmutex/libdmutex/core/TokenTree$Token$Queued", "equals", "(Ljava/lang/Object;)Z"⟩ : MethodName)) (z := (⟨"com/example/libdmutex/libdmutex/core/TokenTree$Token$Queued", "equals", "(Ljava/lang/Object;)Z"⟩ : MethodName)) hown (mvT hZ (hw _ (List.mem_of_getElem? (i := 39) rfl))) (mvT hZ (hw _ (List.mem_of_getElem? (i := 40) rfl))) (notFace_of_selects (args := #[]) (mvT hZ (hw _ (List.mem_of_getElem? (i := 42) rfl)))) (mvT hZ (hw _ (List.mem_of_getElem? (i := 42) rfl))) (mvT hZ (hw _ (List.mem_of_getElem? (i := 41) rfl))) (by decide) (backOf (W := 0) (rm5n l Z a0 hw [] b133 T137.heap n0 Zs137 c181) hZ (hw _ (List.mem_of_getElem? (i := 43) rfl)) (hw _ (List.mem_of_getElem? (i := 12) rfl)) (by decide) (by decide)) q182a q182c (g := (mkF m 153 #[.val (.int x0_0), .val (.long x0_1), .second, .val (.int x0_2), .val (.long x0_3), .second, .val (.int x0_4), .val (.int x0_5), .val (.int v12), .val (.long v27), .second, .val (.ref (f1 x0_4 w_IR w_R w_U w_IW w_W)), .val (.ref (f1 x0_4 w_IR w_R w_U w_IW w_W)), .val (.ref b133), .val (.ref b136), .val (.int (0 : Int32)), .val (.int v119)] [.null, (.ref b133)])) rfl (by rw [hml]; rfl) (Steps.refl _) (argsL := [.null]) (rest := []) (lenOf pd_5 rfl) rfl (by show 2 * 0 + _ ≤ _; exact Nat.le_of_eq rfl) (hb hby at_153) (fun _ _ => ⟨rfl, rfl, (by decide : 6 + 0 ≤ _), (by decide : 46 + 0 ≤ _)⟩)
            dsimp only [Pt.U, Pt.locs, Pt.cells, Pt.slots] at X182 l182 y182 z182 st182 hQ182
            subst l182 y182 z182
            obtain ⟨hv182, N182q, e182⟩ := hQ182
            have N182 := Fr.app N137 N182q
            have hf182 : f5n b133 = (0 : Int32) := rfl
            rw [hf182] at hv182
            subst hv182
            obtain ⟨fs, hr, hrun, hended, hRW⟩ := Stand.leaveW (s := s) (vm₁ := T137.vm) X182 hS137 (by rw [e182]; exact hk137) (v := some (.int (1 : Int32))) (fun h => by rw [Bd.returns] at h; cases h)
            refine ⟨_, _, pre0 _ (sg1 _ (sg2 _ (sg3 _ (sg4 _ (sg5 _ (sg6 _ (sg8 _ (sg9 _ (sg135 _ (sg138 _ (sg139 _ (sg141 _ (sg170 _ (sg171 _ (sg179 _ (sg183 _ ?_)))))))))))))))), hrun, hended, _, _, rfl, ?_, hRW.1, hRW.2.1, hRW.2.2.1, hRW.2.2.2.mono (by decide) (by decide)⟩
            · show Steps p.tables e below (T137.setTop (mkF m 153 #[.val (.int x0_0), .val (.long x0_1), .second, .val (.int x0_2), .val (.long x0_3), .second, .val (.int x0_4), .val (.int x0_5), .val (.int v12), .val (.long v27), .second, .val (.ref (f1 x0_4 w_IR w_R w_U w_IW w_W)), .val (.ref (f1 x0_4 w_IR w_R w_U w_IW w_W)), .val (.ref b133), .val (.ref b136), .val (.int (0 : Int32)), .val (.int v119)] [.null, (.ref b133)])) _
              refine st182.trans ?_
              show Steps p.tables e below (T182.setTop (mkF m 156 #[.val (.int x0_0), .val (.long x0_1), .second, .val (.int x0_2), .val (.long x0_3), .second, .val (.int x0_4), .val (.int x0_5), .val (.int v12), .val (.long v27), .second, .val (.ref (f1 x0_4 w_IR w_R w_U w_IW w_W)), .val (.ref (f1 x0_4 w_IR w_R w_U w_IW w_W)), .val (.ref b133), .val (.ref b136), .val (.int (0 : Int32)), .val (.int v119)] [(.int (0 : Int32))])) _
              refine XS.ifNo X182.here hx rfl (hb hby at_156) rfl ((if0 _ _).trans (teq (by decide : ((0 : Int32) = (0 : Int32)))).2) ?_
              show Steps p.tables e below (T182.setTop (mkF m 159 #[.val (.int x0_0), .val (.long x0_1), .second, .val (.int x0_2), .val (.long x0_3), .second, .val (.int x0_4), .val (.int x0_5), .val (.int v12), .val (.long v27), .second, .val (.ref (f1 x0_4 w_IR w_R w_U w_IW w_W)), .val (.ref (f1 x0_4 w_IR w_R w_U w_IW w_W)), .val (.ref b133), .val (.ref b136), .val (.int (0 : Int32)), .val (.int v119)] [])) _
              refine XS.iconst X182.here hx rfl (hb hby at_159) ?_
              show Steps p.tables e below (T182.setTop (mkF m 160 #[.val (.int x0_0), .val (.long x0_1), .second, .val (.int x0_2), .val (.long x0_3), .second, .val (.int x0_4), .val (.int x0_5), .val (.int v12), .val (.long v27), .second, .val (.ref (f1 x0_4 w_IR w_R w_U w_IW w_W)), .val (.ref (f1 x0_4 w_IR w_R w_U w_IW w_W)), .val (.ref b133), .val (.ref b136), .val (.int (0 : Int32)), .val (.int v119)] [(.int (1 : Int32))])) _
              refine XS.goto X182.here hx rfl (pc0 := 160) (pc' := 164) rfl (hb hby at_160) (by decide) (by decide) ?_
              show Steps p.tables e below (T182.setTop (mkF m 164 #[.val (.int x0_0), .val (.long x0_1), .second, .val (.int x0_2), .val (.long x0_3), .second, .val (.int x0_4), .val (.int x0_5), .val (.int v12), .val (.long v27), .second, .val (.ref (f1 x0_4 w_IR w_R w_U w_IW w_W)), .val (.ref (f1 x0_4 w_IR w_R w_U w_IW w_W)), .val (.ref b133), .val (.ref b136), .val (.int (0 : Int32)), .val (.int v119)] [(.int (1 : Int32))])) _
              exact retN X182 hx (t := .boolean) Bd.returns (by simp) (hb hby at_164) hr
            · show Q0 Z x0_0 x0_1 x0_2 x0_3 x0_4 x0_5 w_IR w_R w_U w_IW w_W cA cl h0 n0 _ T182.heap _
              rw [e182]
              exact ⟨rfl, N182⟩
          · have sg184 : ∀ t, Steps p.tables e below (T137.setTop (mkF m 168 #[.val (.int x0_0), .val (.long x0_1), .second, .val (.int x0_2), .val (.long x0_3), .second, .val (.int x0_4), .val (.int x0_5), .val (.int v12), .val (.long v27), .second, .val (.ref (f1 x0_4 w_IR w_R w_U w_IW w_W)), .val (.ref (f1 x0_4 w_IR w_R w_U w_IW w_W)), .val (.ref b133), .val (.ref b136), .val (.int (0 : Int32)), .val (.int v119)] [(.int (2 : Int32)), (.int v119)])) t → Steps p.tables e below (T137.setTop (mkF m 147 #[.val (.int x0_0), .val (.long x0_1), .second, .val (.int x0_2), .val (.long x0_3), .second, .val (.int x0_4), .val (.int x0_5), .val (.int v12), .val (.long v27), .second, .val (.ref (f1 x0_4 w_IR w_R w_U w_IW w_W)), .val (.ref (f1 x0_4 w_IR w_R w_U w_IW w_W)), .val (.ref b133), .val (.ref b136), .val (.int (0 : Int32)), .val (.int v119)] [(.int (1 : Int32)), (.int v119)])) t := fun t kt => by
              show Steps p.tables e below (T137.setTop (mkF m 147 #[.val (.int x0_0), .val (.long x0_1), .second, .val (.int x0_2), .val (.long x0_3), .second, .val (.int x0_4), .val (.int x0_5), .val (.int v12), .val (.long v27), .second, .val (.ref (f1 x0_4 w_IR w_R w_U w_IW w_W)), .val (.ref (f1 x0_4 w_IR w_R w_U w_IW w_W)), .val (.ref b133), .val (.ref b136), .val (.int (0 : Int32)), .val (.int v119)] [(.int (1 : Int32)), (.int v119)])) _
              refine XS.icmpYes Xr137.here hx rfl (pc0 := 147) (pc' := 165) rfl (hb hby at_147) rfl (feq hc147_180).2 (by decide) (by decide) ?_
              show Steps p.tables e below (T137.setTop (mkF m 165 #[.val (.int x0_0), .val (.long x0_1), .second, .val (.int x0_2), .val (.long x0_3), .second, .val (.int x0_4), .val (.int x0_5), .val (.int v12), .val (.long v27), .second, .val (.ref (f1 x0_4 w_IR w_R w_U w_IW w_W)), .val (.ref (f1 x0_4 w_IR w_R w_U w_IW w_W)), .val (.ref b133), .val (.ref b136), .val (.int (0 : Int32)), .val (.int v119)] [])) _
              refine XS.iload Xr137.here hx rfl (hb hby at_165) rfl ?_
              show Steps p.tables e below (T137.setTop (mkF m 167 #[.val (.int x0_0), .val (.long x0_1), .second, .val (.int x0_2), .val (.long x0_3), .second, .val (.int x0_4), .val (.int x0_5), .val (.int v12), .val (.long v27), .second, .val (.ref (f1 x0_4 w_IR w_R w_U w_IW w_W)), .val (.ref (f1 x0_4 w_IR w_R w_U w_IW w_W)), .val (.ref b133), .val (.ref b136), .val (.int (0 : Int32)), .val (.int v119)] [(.int v119)])) _
              refine XS.iconst Xr137.here hx rfl (hb hby at_167) ?_
              exact kt
            by_cases hc168_185 : v119 = (2 : Int32)
            · have sg187 : ∀ t, Steps p.tables e below (T137.setTop (mkF m 174 #[.val (.int x0_0), .val (.long x0_1), .second, .val (.int x0_2), .val (.long x0_3), .second, .val (.int x0_4), .val (.int x0_5), .val (.int v12), .val (.long v27), .second, .val (.ref (f1 x0_4 w_IR w_R w_U w_IW w_W)), .val (.ref (f1 x0_4 w_IR w_R w_U w_IW w_W)), .val (.ref b133), .val (.ref b136), .val (.int (0 : Int32)), .val (.int v119)] [(.int x0_0), (.ref b133)])) t → Steps p.tables e below (T137.setTop (mkF m 168 #[.val (.int x0_0), .val (.long x0_1), .second, .val (.int x0_2), .val (.long x0_3), .second, .val (.int x0_4), .val (.int x0_5), .val (.int v12), .val (.long v27), .second, .val (.ref (f1 x0_4 w_IR w_R w_U w_IW w_W)), .val (.ref (f1 x0_4 w_IR w_R w_U w_IW w_W)), .val (.ref b133), .val (.ref b136), .val (.int (0 : Int32)), .val (.int v119)] [(.int (2 : Int32)), (.int v119)])) t := fun t kt => by
                show Steps p.tables e below (T137.setTop (mkF m 168 #[.val (.int x0_0), .val (.long x0_1), .second, .val (.int x0_2), .val (.long x0_3), .second, .val (.int x0_4), .val (.int x0_5), .val (.int v12), .val (.long v27), .second, .val (.ref (f1 x0_4 w_IR w_R w_U w_IW w_W)), .val (.ref (f1 x0_4 w_IR w_R w_U w_IW w_W)), .val (.ref b133), .val (.ref b136), .val (.int (0 : Int32)), .val (.int v119)] [(.int (2 : Int32)), (.int v119)])) _
                refine XS.icmpNo Xr137.here hx rfl (hb hby at_168) rfl (teq hc168_185).2 ?_
                show Steps p.tables e below (T137.setTop (mkF m 171 #[.val (.int x0_0), .val (.long x0_1), .second, .val (.int x0_2), .val (.long x0_3), .second, .val (.int x0_4), .val (.int x0_5), .val (.int v12), .val (.long v27), .second, .val (.ref (f1 x0_4 w_IR w_R w_U w_IW w_W)), .val (.ref (f1 x0_4 w_IR w_R w_U w_IW w_W)), .val (.ref b133), .val (.ref b136), .val (.int (0 : Int32)), .val (.int v119)] [])) _
                refine XS.aload Xr137.here hx rfl (hb hby at_171) rfl rfl ?_
                show Steps p.tables e below (T137.setTop (mkF m 173 #[.val (.int x0_0), .val (.long x0_1), .second, .val (.int x0_2), .val (.long x0_3), .second, .val (.int x0_4), .val (.int x0_5), .val (.int v12), .val (.long v27), .second, .val (.ref (f1 x0_4 w_IR w_R w_U w_IW w_W)), .val (.ref (f1 x0_4 w_IR w_R w_U w_IW w_W)), .val (.ref b133), .val (.ref b136), .val (.int (0 : Int32)), .val (.int v119)] [(.ref b133)])) _
                refine XS.iloadN Xr137.here hx rfl (hb hby at_173) rfl ?_
                exact kt
              obtain ⟨v186, _, ⟨T186, L186, k186, n186⟩, -, X186, ⟨Lc186, hQ186, l186, y186, z186⟩, st186⟩ := Jvm.LawKit.callS Xr137 hx (y := (⟨"java/lang/Integer", "valueOf", "(I)Ljava/lang/Integer;"⟩ : MethodName)) hown (mvT hZ (hw _ (List.mem_of_getElem? (i := 48) rfl))) (mvT hZ (hw _ (List.mem_of_getElem? (i := 49) rfl))) (mvT hZ (hw _ (List.mem_of_getElem? (i := 50) rfl))) (mvT hZ (hw _ (List.mem_of_getElem? (i := 51) rfl))) (by decide) (backOf (W := 1) (rm6 l Z a0 hw [] x0_0 cA cl T137.heap n0 Zs137 Ol137 JC SC SH) hZ (hw _ (List.mem_of_getElem? (i := 51) rfl)) (hw _ (List.mem_of_getElem? (i := 50) rfl)) (by decide) (by decide)) (g := (mkF m 174 #[.val (.int x0_0), .val (.long x0_1), .second, .val (.int x0_2), .val (.long x0_3), .second, .val (.int x0_4), .val (.int x0_5), .val (.int v12), .val (.long v27), .second, .val (.ref (f1 x0_4 w_IR w_R w_U w_IW w_W)), .val (.ref (f1 x0_4 w_IR w_R w_U w_IW w_W)), .val (.ref b133), .val (.ref b136), .val (.int (0 : Int32)), .val (.int v119)] [(.int x0_0), (.ref b133)])) rfl (by rw [hml]; rfl) (argsL := [(.int x0_0)]) (rest := [(.ref b133)]) (lenOf pd_6 rfl) rfl (by show 2 * 0 + _ ≤ _; exact Nat.le_of_eq rfl) (hb hby at_174) (fun _ _ => ⟨rfl, rfl, (by decide : 6 + 1 ≤ _), (by decide : 46 + 1 ≤ _)⟩)
              dsimp only [Pt.U, Pt.locs, Pt.cells, Pt.slots] at X186 l186 y186 z186 st186 hQ186
              subst l186 y186 z186
              obtain ⟨r186, rfl, N186q, K186, Ex186⟩ := hQ186
              have N186 := Fr.app N137 N186q
              have Zs186 : n0 ≤ T186.heap.size := Nat.le_trans Zs137 K186.1
              have hk186 := Nat.le_trans hk137 K186.1
              have Ol186 : Old Z n0 T186.heap := (Ol137).keep K186 all0
              have c188 := (Exa.keep (Exa.keep (Exa.ext E136 Ex134) K137) K186)
              have sg190 : ∀ t, Steps p.tables e below (T186.setTop (mkF m 177 #[.val (.int x0_0), .val (.long x0_1), .second, .val (.int x0_2), .val (.long x0_3), .second, .val (.int x0_4), .val (.int x0_5), .val (.int v12), .val (.long v27), .second, .val (.ref (f1 x0_4 w_IR w_R w_U w_IW w_W)), .val (.ref (f1 x0_4 w_IR w_R w_U w_IW w_W)), .val (.ref b133), .val (.ref b136), .val (.int (0 : Int32)), .val (.int v119)] [(.ref r186), (.ref b133)])) t → Steps p.tables e below (T137.setTop (mkF m 174 #[.val (.int x0_0), .val (.long x0_1), .second, .val (.int x0_2), .val (.long x0_3), .second, .val (.int x0_4), .val (.int x0_5), .val (.int v12), .val (.long v27), .second, .val (.ref (f1 x0_4 w_IR w_R w_U w_IW w_W)), .val (.ref (f1 x0_4 w_IR w_R w_U w_IW w_W)), .val (.ref b133), .val (.ref b136), .val (.int (0 : Int32)), .val (.int v119)] [(.int x0_0), (.ref b133)])) t := fun t kt => by
                show Steps p.tables e below (T137.setTop (mkF m 174 #[.val (.int x0_0), .val (.long x0_1), .second, .val (.int x0_2), .val (.long x0_3), .second, .val (.int x0_4), .val (.int x0_5), .val (.int v12), .val (.long v27), .second, .val (.ref (f1 x0_4 w_IR w_R w_U w_IW w_W)), .val (.ref (f1 x0_4 w_IR w_R w_U w_IW w_W)), .val (.ref b133), .val (.ref b136), .val (.int (0 : Int32)), .val (.int v119)] [(.int x0_0), (.ref b133)])) _
                refine st186 _ ?_
                exact kt
              obtain ⟨cq189, kq189, q189a, q189b, q189c⟩ := isOf hZ rfl c188
              obtain ⟨v189, _, ⟨T189, L189, k189, n189⟩, -, X189, ⟨Lc189, hQ189, l189, y189, z189⟩, st189⟩ := X186.virtualBack hx (y := (⟨"com/example/libdmutex/libdmutex/core/TokenTree$Token$Queued", "equals", "(Ljava/lang/Object;)Z"⟩ : MethodName)) (z := (⟨"com/example/libdmutex/libdmutex/core/TokenTree$Token$Queued", "equals", "(Ljava/lang/Object;)Z"⟩ : MethodName)) hown (mvT hZ (hw _ (List.mem_of_getElem? (i := 39) rfl))) (mvT hZ (hw _ (List.mem_of_getElem? (i := 40) rfl))) (notFace_of_selects (args := #[]) (mvT hZ (hw _ (List.mem_of_getElem? (i := 42) rfl)))) (mvT hZ (hw _ (List.mem_of_getElem? (i := 42) rfl))) (mvT hZ (hw _ (List.mem_of_getElem? (i := 41) rfl))) (by decide) (backOf (W := 0) (rm5i l Z a0 hw [] b133 r186 T186.heap n0 Zs186 Ex186) hZ (hw _ (List.mem_of_getElem? (i := 43) rfl)) (hw _ (List.mem_of_getElem? (i := 12) rfl)) (by decide) (by decide)) q189a q189c (g := (mkF m 177 #[.val (.int x0_0), .val (.long x0_1), .second, .val (.int x0_2), .val (.long x0_3), .second, .val (.int x0_4), .val (.int x0_5), .val (.int v12), .val (.long v27), .second, .val (.ref (f1 x0_4 w_IR w_R w_U w_IW w_W)), .val (.ref (f1 x0_4 w_IR w_R w_U w_IW w_W)), .val (.ref b133), .val (.ref b136), .val (.int (0 : Int32)), .val (.int v119)] [(.ref r186), (.ref b133)])) rfl (by rw [hml]; rfl) (Steps.refl _) (argsL := [(.ref r186)]) (rest := []) (lenOf pd_5 rfl) rfl (by show 2 * 0 + _ ≤ _; exact Nat.le_of_eq rfl) (hb hby at_177) (fun _ _ => ⟨rfl, rfl, (by decide : 7 + 0 ≤ _), (by decide : 47 + 0 ≤ _)⟩)
              dsimp only [Pt.U, Pt.locs, Pt.cells, Pt.slots] at X189 l189 y189 z189 st189 hQ189
              subst l189 y189 z189
              obtain ⟨hv189, N189q, e189⟩ := hQ189
              have N189 := Fr.app N186 N189q
              have hf189 : f5i b133 r186 = (0 : Int32) := rfl
              rw [hf189] at hv189
              subst hv189
              obtain ⟨fs, hr, hrun, hended, hRW⟩ := Stand.leaveW (s := s) (vm₁ := T137.vm) X189 hS137 (by rw [e189]; exact hk186) (v := some (.int (1 : Int32))) (fun h => by rw [Bd.returns] at h; cases h)
              refine ⟨_, _, pre0 _ (sg1 _ (sg2 _ (sg3 _ (sg4 _ (sg5 _ (sg6 _ (sg8 _ (sg9 _ (sg135 _ (sg138 _ (sg139 _ (sg141 _ (sg170 _ (sg171 _ (sg179 _ (sg184 _ (sg187 _ (sg190 _ ?_)))))))))))))))))), hrun, hended, _, _, rfl, ?_, hRW.1, hRW.2.1, hRW.2.2.1, hRW.2.2.2.mono (by decide) (by decide)⟩
              · show Steps p.tables e below (T186.setTop (mkF m 177 #[.val (.int x0_0), .val (.long x0_1), .second, .val (.int x0_2), .val (.long x0_3), .second, .val (.int x0_4), .val (.int x0_5), .val (.int v12), .val (.long v27), .second, .val (.ref (f1 x0_4 w_IR w_R w_U w_IW w_W)), .val (.ref (f1 x0_4 w_IR w_R w_U w_IW w_W)), .val (.ref b133), .val (.ref b136), .val (.int (0 : Int32)), .val (.int v119)] [(.ref r186), (.ref b133)])) _
                refine st189.trans ?_
                show Steps p.tables e below (T189.setTop (mkF m 180 #[.val (.int x0_0), .val (.long x0_1), .second, .val (.int x0_2), .val (.long x0_3), .second, .val (.int x0_4), .val (.int x0_5), .val (.int v12), .val (.long v27), .second, .val (.ref (f1 x0_4 w_IR w_R w_U w_IW w_W)), .val (.ref (f1 x0_4 w_IR w_R w_U w_IW w_W)), .val (.ref b133), .val (.ref b136), .val (.int (0 : Int32)), .val (.int v119)] [(.int (0 : Int32))])) _
                refine XS.ifNo X189.here hx rfl (hb hby at_180) rfl ((if0 _ _).trans (teq (by decide : ((0 : Int32) = (0 : Int32)))).2) ?_
                show Steps p.tables e below (T189.setTop (mkF m 183 #[.val (.int x0_0), .val (.long x0_1), .second, .val (.int x0_2), .val (.long x0_3), .second, .val (.int x0_4), .val (.int x0_5), .val (.int v12), .val (.long v27), .second, .val (.ref (f1 x0_4 w_IR w_R w_U w_IW w_W)), .val (.ref (f1 x0_4 w_IR w_R w_U w_IW w_W)), .val (.ref b133), .val (.ref b136), .val (.int (0 : Int32)), .val (.int v119)] [])) _
                refine XS.iconst X189.here hx rfl (hb hby at_183) ?_
                show Steps p.tables e below (T189.setTop (mkF m 184 #[.val (.int x0_0), .val (.long x0_1), .second, .val (.int x0_2), .val (.long x0_3), .second, .val (.int x0_4), .val (.int x0_5), .val (.int v12), .val (.long v27), .second, .val (.ref (f1 x0_4 w_IR w_R w_U w_IW w_W)), .val (.ref (f1 x0_4 w_IR w_R w_U w_IW w_W)), .val (.ref b133), .val (.ref b136), .val (.int (0 : Int32)), .val (.int v119)] [(.int (1 : Int32))])) _
                refine XS.goto X189.here hx rfl (pc0 := 184) (pc' := 188) rfl (hb hby at_184) (by decide) (by decide) ?_
                show Steps p.tables e below (T189.setTop (mkF m 188 #[.val (.int x0_0), .val (.long x0_1), .second, .val (.int x0_2), .val (.long x0_3), .second, .val (.int x0_4), .val (.int x0_5), .val (.int v12), .val (.long v27), .second, .val (.ref (f1 x0_4 w_IR w_R w_U w_IW w_W)), .val (.ref (f1 x0_4 w_IR w_R w_U w_IW w_W)), .val (.ref b133), .val (.ref b136), .val (.int (0 : Int32)), .val (.int v119)] [(.int (1 : Int32))])) _
                exact retN X189 hx (t := .boolean) Bd.returns (by simp) (hb hby at_188) hr
              · show Q0 Z x0_0 x0_1 x0_2 x0_3 x0_4 x0_5 w_IR w_R w_U w_IW w_W cA cl h0 n0 _ T189.heap _
                rw [e189]
                exact ⟨rfl, N189⟩
            · have c191 := (Exa.keep (Exa.ext E136 Ex134) K137)
              have c192 := (Fld.keep (Fld.ext E136 Fq134_peer) K137 (ninS ne_b133_b136 nin0))
              have c193 := (Fld.keep (Fld.ext E136 Fq134_ticket) K137 (ninS ne_b133_b136 nin0))
              have c194 := (Fld.keep (Fld.ext E136 Fq134_mode) K137 (ninS ne_b133_b136 nin0))
              have sg196 : ∀ t, Steps p.tables e below (T137.setTop (mkF m 193 #[.val (.int x0_0), .val (.long x0_1), .second, .val (.int x0_2), .val (.long x0_3), .second, .val (.int x0_4), .val (.int x0_5), .val (.int v12), .val (.long v27), .second, .val (.ref (f1 x0_4 w_IR w_R w_U w_IW w_W)), .val (.ref (f1 x0_4 w_IR w_R w_U w_IW w_W)), .val (.ref b133), .val (.ref b136), .val (.int (0 : Int32)), .val (.int v119)] [(.ref b133), (.ref b136)])) t → Steps p.tables e below (T137.setTop (mkF m 168 #[.val (.int x0_0), .val (.long x0_1), .second, .val (.int x0_2), .val (.long x0_3), .second, .val (.int x0_4), .val (.int x0_5), .val (.int v12), .val (.long v27), .second, .val (.ref (f1 x0_4 w_IR w_R w_U w_IW w_W)), .val (.ref (f1 x0_4 w_IR w_R w_U w_IW w_W)), .val (.ref b133), .val (.ref b136), .val (.int (0 : Int32)), .val (.int v119)] [(.int (2 : Int32)), (.int v119)])) t := fun t kt => by
                show Steps p.tables e below (T137.setTop (mkF m 168 #[.val (.int x0_0), .val (.long x0_1), .second, .val (.int x0_2), .val (.long x0_3), .second, .val (.int x0_4), .val (.int x0_5), .val (.int v12), .val (.long v27), .second, .val (.ref (f1 x0_4 w_IR w_R w_U w_IW w_W)), .val (.ref (f1 x0_4 w_IR w_R w_U w_IW w_W)), .val (.ref b133), .val (.ref b136), .val (.int (0 : Int32)), .val (.int v119)] [(.int (2 : Int32)), (.int v119)])) _
                refine XS.icmpYes Xr137.here hx rfl (pc0 := 168) (pc' := 189) rfl (hb hby at_168) rfl (feq hc168_185).2 (by decide) (by decide) ?_
                show Steps p.tables e below (T137.setTop (mkF m 189 #[.val (.int x0_0), .val (.long x0_1), .second, .val (.int x0_2), .val (.long x0_3), .second, .val (.int x0_4), .val (.int x0_5), .val (.int v12), .val (.long v27), .second, .val (.ref (f1 x0_4 w_IR w_R w_U w_IW w_W)), .val (.ref (f1 x0_4 w_IR w_R w_U w_IW w_W)), .val (.ref b133), .val (.ref b136), .val (.int (0 : Int32)), .val (.int v119)] [])) _
                refine XS.aload Xr137.here hx rfl (hb hby at_189) rfl rfl ?_
                show Steps p.tables e below (T137.setTop (mkF m 191 #[.val (.int x0_0), .val (.long x0_1), .second, .val (.int x0_2), .val (.long x0_3), .second, .val (.int x0_4), .val (.int x0_5), .val (.int v12), .val (.long v27), .second, .val (.ref (f1 x0_4 w_IR w_R w_U w_IW w_W)), .val (.ref (f1 x0_4 w_IR w_R w_U w_IW w_W)), .val (.ref b133), .val (.ref b136), .val (.int (0 : Int32)), .val (.int v119)] [(.ref b136)])) _
                refine XS.aload Xr137.here hx rfl (hb hby at_191) rfl rfl ?_
                exact kt
              obtain ⟨cq195, kq195, q195a, q195b, q195c⟩ := isOf hZ rfl Ex137
              obtain ⟨v195, _, ⟨T195, L195, k195, n195⟩, -, X195, ⟨Lc195, hQ195, l195, y195, z195⟩, st195⟩ := Xr137.virtualBack hx (y := (⟨"com/example/libdmutex/libdmutex/core/TokenTree$Token$Queued", "equals", "(Ljava/lang/Object;)Z"⟩ : MethodName)) (z := (⟨"com/example/libdmutex/libdmutex/core/TokenTree$Token$Queued", "equals", "(Ljava/lang/Object;)Z"⟩ : MethodName)) hown (mvT hZ (hw _ (List.mem_of_getElem? (i := 39) rfl))) (mvT hZ (hw _ (List.mem_of_getElem? (i := 40) rfl))) (notFace_of_selects (args := #[]) (mvT hZ (hw _ (List.mem_of_getElem? (i := 42) rfl)))) (mvT hZ (hw _ (List.mem_of_getElem? (i := 42) rfl))) (mvT hZ (hw _ (List.mem_of_getElem? (i := 41) rfl))) (by decide) (backOf (W := 0) (rm5o l Z a0 hw [] b136 b133 v12 v27 (f1 x0_4 w_IR w_R w_U w_IW w_W) x0_0 x0_1 (f1 x0_4 w_IR w_R w_U w_IW w_W) T137.heap n0 Zs137 Ex137 c191 Fq137_peer Fq137_ticket Fq137_mode c192 c193 c194) hZ (hw _ (List.mem_of_getElem? (i := 43) rfl)) (hw _ (List.mem_of_getElem? (i := 12) rfl)) (by decide) (by decide)) q195a q195c (g := (mkF m 193 #[.val (.int x0_0), .val (.long x0_1), .second, .val (.int x0_2), .val (.long x0_3), .second, .val (.int x0_4), .val (.int x0_5), .val (.int v12), .val (.long v27), .second, .val (.ref (f1 x0_4 w_IR w_R w_U w_IW w_W)), .val (.ref (f1 x0_4 w_IR w_R w_U w_IW w_W)), .val (.ref b133), .val (.ref b136), .val (.int (0 : Int32)), .val (.int v119)] [(.ref b133), (.ref b136)])) rfl (by rw [hml]; rfl) (Steps.refl _) (argsL := [(.ref b133)]) (rest := []) (lenOf pd_5 rfl) rfl (by show 2 * 0 + _ ≤ _; exact Nat.le_of_eq rfl) (hb hby at_193) (fun _ _ => ⟨rfl, rfl, (by decide : 6 + 0 ≤ _), (by decide : 46 + 0 ≤ _)⟩)
              dsimp only [Pt.U, Pt.locs, Pt.cells, Pt.slots] at X195 l195 y195 z195 st195 hQ195
              subst l195 y195 z195
              obtain ⟨hv195, N195q, e195⟩ := hQ195
              have N195 := Fr.app N137 N195q
              have hf195 : f5o b136 b133 v12 v27 (f1 x0_4 w_IR w_R w_U w_IW w_W) x0_0 x0_1 (f1 x0_4 w_IR w_R w_U w_IW w_W) = (0 : Int32) := by unfold f5o; rw [if_pos (Eq.symm hc89_140), if_neg (Ne.symm hc96_142)]
              rw [hf195] at hv195
              subst hv195
              obtain ⟨fs, hr, hrun, hended, hRW⟩ := Stand.leaveW (s := s) (vm₁ := T137.vm) X195 hS137 (by rw [e195]; exact hk137) (v := some (.int (1 : Int32))) (fun h => by rw [Bd.returns] at h; cases h)
              refine ⟨_, _, pre0 _ (sg1 _ (sg2 _ (sg3 _ (sg4 _ (sg5 _ (sg6 _ (sg8 _ (sg9 _ (sg135 _ (sg138 _ (sg139 _ (sg141 _ (sg170 _ (sg171 _ (sg179 _ (sg184 _ (sg196 _ ?_))))))))))))))))), hrun, hended, _, _, rfl, ?_, hRW.1, hRW.2.1, hRW.2.2.1, hRW.2.2.2.mono (by decide) (by decide)⟩
              · show Steps p.tables e below (T137.setTop (mkF m 193 #[.val (.int x0_0), .val (.long x0_1), .second, .val (.int x0_2), .val (.long x0_3), .second, .val (.int x0_4), .val (.int x0_5), .val (.int v12), .val (.long v27), .second, .val (.ref (f1 x0_4 w_IR w_R w_U w_IW w_W)), .val (.ref (f1 x0_4 w_IR w_R w_U w_IW w_W)), .val (.ref b133), .val (.ref b136), .val (.int (0 : Int32)), .val (.int v119)] [(.ref b133), (.ref b136)])) _
                refine st195.trans ?_
                show Steps p.tables e below (T195.setTop (mkF m 196 #[.val (.int x0_0), .val (.long x0_1), .second, .val (.int x0_2), .val (.long x0_3), .second, .val (.int x0_4), .val (.int x0_5), .val (.int v12), .val (.long v27), .second, .val (.ref (f1 x0_4 w_IR w_R w_U w_IW w_W)), .val (.ref (f1 x0_4 w_IR w_R w_U w_IW w_W)), .val (.ref b133), .val (.ref b136), .val (.int (0 : Int32)), .val (.int v119)] [(.int (0 : Int32))])) _
                refine XS.iload X195.here hx rfl (hb hby at_196) rfl ?_
                show Steps p.tables e below (T195.setTop (mkF m 198 #[.val (.int x0_0), .val (.long x0_1), .second, .val (.int x0_2), .val (.long x0_3), .second, .val (.int x0_4), .val (.int x0_5), .val (.int v12), .val (.long v27), .second, .val (.ref (f1 x0_4 w_IR w_R w_U w_IW w_W)), .val (.ref (f1 x0_4 w_IR w_R w_U w_IW w_W)), .val (.ref b133), .val (.ref b136), .val (.int (0 : Int32)), .val (.int v119)] [(.int (0 : Int32)), (.int (0 : Int32))])) _
                refine XS.icmpNo X195.here hx rfl (hb hby at_198) rfl (teq (by decide : ((0 : Int32) = (0 : Int32)))).2 ?_
                show Steps p.tables e below (T195.setTop (mkF m 201 #[.val (.int x0_0), .val (.long x0_1), .second, .val (.int x0_2), .val (.long x0_3), .second, .val (.int x0_4), .val (.int x0_5), .val (.int v12), .val (.long v27), .second, .val (.ref (f1 x0_4 w_IR w_R w_U w_IW w_W)), .val (.ref (f1 x0_4 w_IR w_R w_U w_IW w_W)), .val (.ref b133), .val (.ref b136), .val (.int (0 : Int32)), .val (.int v119)] [])) _
                refine XS.iconst X195.here hx rfl (hb hby at_201) ?_
                show Steps p.tables e below (T195.setTop (mkF m 202 #[.val (.int x0_0), .val (.long x0_1), .second, .val (.int x0_2), .val (.long x0_3), .second, .val (.int x0_4), .val (.int x0_5), .val (.int v12), .val (.long v27), .second, .val (.ref (f1 x0_4 w_IR w_R w_U w_IW w_W)), .val (.ref (f1 x0_4 w_IR w_R w_U w_IW w_W)), .val (.ref b133), .val (.ref b136), .val (.int (0 : Int32)), .val (.int v119)] [(.int (1 : Int32))])) _
                refine XS.goto X195.here hx rfl (pc0 := 202) (pc' := 206) rfl (hb hby at_202) (by decide) (by decide) ?_
                show Steps p.tables e below (T195.setTop (mkF m 206 #[.val (.int x0_0), .val (.long x0_1), .second, .val (.int x0_2), .val (.long x0_3), .second, .val (.int x0_4), .val (.int x0_5), .val (.int v12), .val (.long v27), .second, .val (.ref (f1 x0_4 w_IR w_R w_U w_IW w_W)), .val (.ref (f1 x0_4 w_IR w_R w_U w_IW w_W)), .val (.ref b133), .val (.ref b136), .val (.int (0 : Int32)), .val (.int v119)] [(.int (1 : Int32))])) _
                exact retN X195 hx (t := .boolean) Bd.returns (by simp) (hb hby at_206) hr
              · show Q0 Z x0_0 x0_1 x0_2 x0_3 x0_4 x0_5 w_IR w_R w_U w_IW w_W cA cl h0 n0 _ T195.heap _
                rw [e195]
                exact ⟨rfl, N195⟩
    · have sg197 : ∀ t, Steps p.tables e below (T137.setTop (mkF m 121 #[.val (.int x0_0), .val (.long x0_1), .second, .val (.int x0_2), .val (.long x0_3), .second, .val (.int x0_4), .val (.int x0_5), .val (.int v12), .val (.long v27), .second, .val (.ref (f1 x0_4 w_IR w_R w_U w_IW w_W)), .val (.ref (f1 x0_4 w_IR w_R w_U w_IW w_W)), .val (.ref b133), .val (.ref b136), .val (.int (0 : Int32)), .val (.int (((x0_5.toUInt32 >>> ((3 : Int32) &&& 31).toUInt32).toInt32) &&& (3 : Int32)))] [])) t → Steps p.tables e below (T137.setTop (mkF m 89 #[.val (.int x0_0), .val (.long x0_1), .second, .val (.int x0_2), .val (.long x0_3), .second, .val (.int x0_4), .val (.int x0_5), .val (.int v12), .val (.long v27), .second, .val (.ref (f1 x0_4 w_IR w_R w_U w_IW w_W)), .val (.ref (f1 x0_4 w_IR w_R w_U w_IW w_W)), .val (.ref b133), .val (.ref b136), .unset, .unset] [(.int v12), (.int x0_0)])) t := fun t kt => by
        show Steps p.tables e below (T137.setTop (mkF m 89 #[.val (.int x0_0), .val (.long x0_1), .second, .val (.int x0_2), .val (.long x0_3), .second, .val (.int x0_4), .val (.int x0_5), .val (.int v12), .val (.long v27), .second, .val (.ref (f1 x0_4 w_IR w_R w_U w_IW w_W)), .val (.ref (f1 x0_4 w_IR w_R w_U w_IW w_W)), .val (.ref b133), .val (.ref b136), .unset, .unset] [(.int v12), (.int x0_0)])) _
        refine XS.icmpYes Xr137.here hx rfl (pc0 := 89) (pc' := 110) rfl (hb hby at_89) rfl (feq hc89_140).2 (by decide) (by decide) ?_
        show Steps p.tables e below (T137.setTop (mkF m 110 #[.val (.int x0_0), .val (.long x0_1), .second, .val (.int x0_2), .val (.long x0_3), .second, .val (.int x0_4), .val (.int x0_5), .val (.int v12), .val (.long v27), .second, .val (.ref (f1 x0_4 w_IR w_R w_U w_IW w_W)), .val (.ref (f1 x0_4 w_IR w_R w_U w_IW w_W)), .val (.ref b133), .val (.ref b136), .unset, .unset] [])) _
        refine XS.iconst Xr137.here hx rfl (hb hby at_110) ?_
        show Steps p.tables e below (T137.setTop (mkF m 111 #[.val (.int x0_0), .val (.long x0_1), .second, .val (.int x0_2), .val (.long x0_3), .second, .val (.int x0_4), .val (.int x0_5), .val (.int v12), .val (.long v27), .second, .val (.ref (f1 x0_4 w_IR w_R w_U w_IW w_W)), .val (.ref (f1 x0_4 w_IR w_R w_U w_IW w_W)), .val (.ref b133), .val (.ref b136), .unset, .unset] [(.int (0 : Int32))])) _
        refine XS.istore Xr137.here hx rfl (hb hby at_111) rfl (l' := #[.val (.int x0_0), .val (.long x0_1), .second, .val (.int x0_2), .val (.long x0_3), .second, .val (.int x0_4), .val (.int x0_5), .val (.int v12), .val (.long v27), .second, .val (.ref (f1 x0_4 w_IR w_R w_U w_IW w_W)), .val (.ref (f1 x0_4 w_IR w_R w_U w_IW w_W)), .val (.ref b133), .val (.ref b136), .val (.int (0 : Int32)), .unset]) rfl ?_
        show Steps p.tables e below (T137.setTop (mkF m 113 #[.val (.int x0_0), .val (.long x0_1), .second, .val (.int x0_2), .val (.long x0_3), .second, .val (.int x0_4), .val (.int x0_5), .val (.int v12), .val (.long v27), .second, .val (.ref (f1 x0_4 w_IR w_R w_U w_IW w_W)), .val (.ref (f1 x0_4 w_IR w_R w_U w_IW w_W)), .val (.ref b133), .val (.ref b136), .val (.int (0 : Int32)), .unset] [])) _
        refine XS.iload Xr137.here hx rfl (hb hby at_113) rfl ?_
        show Steps p.tables e below (T137.setTop (mkF m 115 #[.val (.int x0_0), .val (.long x0_1), .second, .val (.int x0_2), .val (.long x0_3), .second, .val (.int x0_4), .val (.int x0_5), .val (.int v12), .val (.long v27), .second, .val (.ref (f1 x0_4 w_IR w_R w_U w_IW w_W)), .val (.ref (f1 x0_4 w_IR w_R w_U w_IW w_W)), .val (.ref b133), .val (.ref b136), .val (.int (0 : Int32)), .unset] [(.int x0_5)])) _
        refine XS.iconst Xr137.here hx rfl (hb hby at_115) ?_
        show Steps p.tables e below (T137.setTop (mkF m 116 #[.val (.int x0_0), .val (.long x0_1), .second, .val (.int x0_2), .val (.long x0_3), .second, .val (.int x0_4), .val (.int x0_5), .val (.int v12), .val (.long v27), .second, .val (.ref (f1 x0_4 w_IR w_R w_U w_IW w_W)), .val (.ref (f1 x0_4 w_IR w_R w_U w_IW w_W)), .val (.ref b133), .val (.ref b136), .val (.int (0 : Int32)), .unset] [(.int (3 : Int32)), (.int x0_5)])) _
        refine XS.iushr Xr137.here hx rfl (hb hby at_116) rfl ?_
        show Steps p.tables e below (T137.setTop (mkF m 117 #[.val (.int x0_0), .val (.long x0_1), .second, .val (.int x0_2), .val (.long x0_3), .second, .val (.int x0_4), .val (.int x0_5), .val (.int v12), .val (.long v27), .second, .val (.ref (f1 x0_4 w_IR w_R w_U w_IW w_W)), .val (.ref (f1 x0_4 w_IR w_R w_U w_IW w_W)), .val (.ref b133), .val (.ref b136), .val (.int (0 : Int32)), .unset] [(.int ((x0_5.toUInt32 >>> ((3 : Int32) &&& 31).toUInt32).toInt32))])) _
        refine XS.iconst Xr137.here hx rfl (hb hby at_117) ?_
        show Steps p.tables e below (T137.setTop (mkF m 118 #[.val (.int x0_0), .val (.long x0_1), .second, .val (.int x0_2), .val (.long x0_3), .second, .val (.int x0_4), .val (.int x0_5), .val (.int v12), .val (.long v27), .second, .val (.ref (f1 x0_4 w_IR w_R w_U w_IW w_W)), .val (.ref (f1 x0_4 w_IR w_R w_U w_IW w_W)), .val (.ref b133), .val (.ref b136), .val (.int (0 : Int32)), .unset] [(.int (3 : Int32)), (.int ((x0_5.toUInt32 >>> ((3 : Int32) &&& 31).toUInt32).toInt32))])) _
        refine XS.iand Xr137.here hx rfl (hb hby at_118) rfl ?_
        show Steps p.tables e below (T137.setTop (mkF m 119 #[.val (.int x0_0), .val (.long x0_1), .second, .val (.int x0_2), .val (.long x0_3), .second, .val (.int x0_4), .val (.int x0_5), .val (.int v12), .val (.long v27), .second, .val (.ref (f1 x0_4 w_IR w_R w_U w_IW w_W)), .val (.ref (f1 x0_4 w_IR w_R w_U w_IW w_W)), .val (.ref b133), .val (.ref b136), .val (.int (0 : Int32)), .unset] [(.int (((x0_5.toUInt32 >>> ((3 : Int32) &&& 31).toUInt32).toInt32) &&& (3 : Int32)))])) _
        refine XS.istore Xr137.here hx rfl (hb hby at_119) rfl (l' := #[.val (.int x0_0), .val (.long x0_1), .second, .val (.int x0_2), .val (.long x0_3), .second, .val (.int x0_4), .val (.int x0_5), .val (.int v12), .val (.long v27), .second, .val (.ref (f1 x0_4 w_IR w_R w_U w_IW w_W)), .val (.ref (f1 x0_4 w_IR w_R w_U w_IW w_W)), .val (.ref b133), .val (.ref b136), .val (.int (0 : Int32)), .val (.int (((x0_5.toUInt32 >>> ((3 : Int32) &&& 31).toUInt32).toInt32) &&& (3 : Int32)))]) rfl ?_
        exact kt
      obtain ⟨v119, hv119⟩ : ∃ z, z = (((x0_5.toUInt32 >>> ((3 : Int32) &&& 31).toUInt32).toInt32) &&& (3 : Int32)) := ⟨_, rfl⟩
      rw [← hv119] at sg197
      have sg198 : ∀ t, Steps p.tables e below (T137.setTop (mkF m 123 #[.val (.int x0_0), .val (.long x0_1), .second, .val (.int x0_2), .val (.long x0_3), .second, .val (.int x0_4), .val (.int x0_5), .val (.int v12), .val (.long v27), .second, .val (.ref (f1 x0_4 w_IR w_R w_U w_IW w_W)), .val (.ref (f1 x0_4 w_IR w_R w_U w_IW w_W)), .val (.ref b133), .val (.ref b136), .val (.int (0 : Int32)), .val (.int v119)] [(.int v119)])) t → Steps p.tables e below (T137.setTop (mkF m 121 #[.val (.int x0_0), .val (.long x0_1), .second, .val (.int x0_2), .val (.long x0_3), .second, .val (.int x0_4), .val (.int x0_5), .val (.int v12), .val (.long v27), .second, .val (.ref (f1 x0_4 w_IR w_R w_U w_IW w_W)), .val (.ref (f1 x0_4 w_IR w_R w_U w_IW w_W)), .val (.ref b133), .val (.ref b136), .val (.int (0 : Int32)), .val (.int v119)] [])) t := fun t kt => by
        show Steps p.tables e below (T137.setTop (mkF m 121 #[.val (.int x0_0), .val (.long x0_1), .second, .val (.int x0_2), .val (.long x0_3), .second, .val (.int x0_4), .val (.int x0_5), .val (.int v12), .val (.long v27), .second, .val (.ref (f1 x0_4 w_IR w_R w_U w_IW w_W)), .val (.ref (f1 x0_4 w_IR w_R w_U w_IW w_W)), .val (.ref b133), .val (.ref b136), .val (.int (0 : Int32)), .val (.int v119)] [])) _
        refine XS.iload Xr137.here hx rfl (hb hby at_121) rfl ?_
        exact kt
      by_cases hc123_199 : v119 = (0 : Int32)
      · have c200 := (Exa.keep (Exa.ext E136 Ex134) K137)
        have c201 := (Fld.keep (Fld.ext E136 Fq134_peer) K137 (ninS ne_b133_b136 nin0))
        have c202 := (Fld.keep (Fld.ext E136 Fq134_ticket) K137 (ninS ne_b133_b136 nin0))
        have c203 := (Fld.keep (Fld.ext E136 Fq134_mode) K137 (ninS ne_b133_b136 nin0))
        have sg205 : ∀ t, Steps p.tables e below (T137.setTop (mkF m 130 #[.val (.int x0_0), .val (.long x0_1), .second, .val (.int x0_2), .val (.long x0_3), .second, .val (.int x0_4), .val (.int x0_5), .val (.int v12), .val (.long v27), .second, .val (.ref (f1 x0_4 w_IR w_R w_U w_IW w_W)), .val (.ref (f1 x0_4 w_IR w_R w_U w_IW w_W)), .val (.ref b133), .val (.ref b136), .val (.int (0 : Int32)), .val (.int v119)] [(.ref b136), (.ref b133)])) t → Steps p.tables e below (T137.setTop (mkF m 123 #[.val (.int x0_0), .val (.long x0_1), .second, .val (.int x0_2), .val (.long x0_3), .second, .val (.int x0_4), .val (.int x0_5), .val (.int v12), .val (.long v27), .second, .val (.ref (f1 x0_4 w_IR w_R w_U w_IW w_W)), .val (.ref (f1 x0_4 w_IR w_R w_U w_IW w_W)), .val (.ref b133), .val (.ref b136), .val (.int (0 : Int32)), .val (.int v119)] [(.int v119)])) t := fun t kt => by
          show Steps p.tables e below (T137.setTop (mkF m 123 #[.val (.int x0_0), .val (.long x0_1), .second, .val (.int x0_2), .val (.long x0_3), .second, .val (.int x0_4), .val (.int x0_5), .val (.int v12), .val (.long v27), .second, .val (.ref (f1 x0_4 w_IR w_R w_U w_IW w_W)), .val (.ref (f1 x0_4 w_IR w_R w_U w_IW w_W)), .val (.ref b133), .val (.ref b136), .val (.int (0 : Int32)), .val (.int v119)] [(.int v119)])) _
          refine XS.ifNo Xr137.here hx rfl (hb hby at_123) rfl ((if0 _ _).trans (teq hc123_199).2) ?_
          show Steps p.tables e below (T137.setTop (mkF m 126 #[.val (.int x0_0), .val (.long x0_1), .second, .val (.int x0_2), .val (.long x0_3), .second, .val (.int x0_4), .val (.int x0_5), .val (.int v12), .val (.long v27), .second, .val (.ref (f1 x0_4 w_IR w_R w_U w_IW w_W)), .val (.ref (f1 x0_4 w_IR w_R w_U w_IW w_W)), .val (.ref b133), .val (.ref b136), .val (.int (0 : Int32)), .val (.int v119)] [])) _
          refine XS.aload Xr137.here hx rfl (hb hby at_126) rfl rfl ?_
          show Steps p.tables e below (T137.setTop (mkF m 128 #[.val (.int x0_0), .val (.long x0_1), .second, .val (.int x0_2), .val (.long x0_3), .second, .val (.int x0_4), .val (.int x0_5), .val (.int v12), .val (.long v27), .second, .val (.ref (f1 x0_4 w_IR w_R w_U w_IW w_W)), .val (.ref (f1 x0_4 w_IR w_R w_U w_IW w_W)), .val (.ref b133), .val (.ref b136), .val (.int (0 : Int32)), .val (.int v119)] [(.ref b133)])) _
          refine XS.aload Xr137.here hx rfl (hb hby at_128) rfl rfl ?_
          exact kt
        obtain ⟨cq204, kq204, q204a, q204b, q204c⟩ := isOf hZ rfl c200
        obtain ⟨v204, _, ⟨T204, L204, k204, n204⟩, -, X204, ⟨Lc204, hQ204, l204, y204, z204⟩, st204⟩ := Xr137.virtualBack hx (y := (⟨"com/example/libdmutex/libdmutex/core/TokenTree$Token$Queued", "equals", "(Ljava/lang/Object;)Z"⟩ : MethodName)) (z := (⟨"com/example/libdmutex/libdmutex/core/TokenTree$Token$Queued", "equals", "(Ljava/lang/Object;)Z"⟩ : MethodName)) hown (mvT hZ (hw _ (List.mem_of_getElem? (i := 39) rfl))) (mvT hZ (hw _ (List.mem_of_getElem? (i := 40) rfl))) (notFace_of_selects (args := #[]) (mvT hZ (hw _ (List.mem_of_getElem? (i := 42) rfl)))) (mvT hZ (hw _ (List.mem_of_getElem? (i := 42) rfl))) (mvT hZ (hw _ (List.mem_of_getElem? (i := 41) rfl))) (by decide) (backOf (W := 0) (rm5o l Z a0 hw [] b133 b136 x0_0 x0_1 (f1 x0_4 w_IR w_R w_U w_IW w_W) v12 v27 (f1 x0_4 w_IR w_R w_U w_IW w_W) T137.heap n0 Zs137 c200 Ex137 c201 c202 c203 Fq137_peer Fq137_ticket Fq137_mode) hZ (hw _ (List.mem_of_getElem? (i := 43) rfl)) (hw _ (List.mem_of_getElem? (i := 12) rfl)) (by decide) (by decide)) q204a q204c (g := (mkF m 130 #[.val (.int x0_0), .val (.long x0_1), .second, .val (.int x0_2), .val (.long x0_3), .second, .val (.int x0_4), .val (.int x0_5), .val (.int v12), .val (.long v27), .second, .val (.ref (f1 x0_4 w_IR w_R w_U w_IW w_W)), .val (.ref (f1 x0_4 w_IR w_R w_U w_IW w_W)), .val (.ref b133), .val (.ref b136), .val (.int (0 : Int32)), .val (.int v119)] [(.ref b136), (.ref b133)])) rfl (by rw [hml]; rfl) (Steps.refl _) (argsL := [(.ref b136)]) (rest := []) (lenOf pd_5 rfl) rfl (by show 2 * 0 + _ ≤ _; exact Nat.le_of_eq rfl) (hb hby at_130) (fun _ _ => ⟨rfl, rfl, (by decide : 6 + 0 ≤ _), (by decide : 46 + 0 ≤ _)⟩)
        dsimp only [Pt.U, Pt.locs, Pt.cells, Pt.slots] at X204 l204 y204 z204 st204 hQ204
        subst l204 y204 z204
        obtain ⟨hv204, N204q, e204⟩ := hQ204
        have N204 := Fr.app N137 N204q
        have hf204 : f5o b133 b136 x0_0 x0_1 (f1 x0_4 w_IR w_R w_U w_IW w_W) v12 v27 (f1 x0_4 w_IR w_R w_U w_IW w_W) = (0 : Int32) := by unfold f5o; rw [if_neg hc89_140]
        rw [hf204] at hv204
        subst hv204
        obtain ⟨fs, hr, hrun, hended, hRW⟩ := Stand.leaveW (s := s) (vm₁ := T137.vm) X204 hS137 (by rw [e204]; exact hk137) (v := some (.int (1 : Int32))) (fun h => by rw [Bd.returns] at h; cases h)
        refine ⟨_, _, pre0 _ (sg1 _ (sg2 _ (sg3 _ (sg4 _ (sg5 _ (sg6 _ (sg8 _ (sg9 _ (sg135 _ (sg138 _ (sg139 _ (sg197 _ (sg198 _ (sg205 _ ?_)))))))))))))), hrun, hended, _, _, rfl, ?_, hRW.1, hRW.2.1, hRW.2.2.1, hRW.2.2.2.mono (by decide) (by decide)⟩
        · show Steps p.tables e below (T137.setTop (mkF m 130 #[.val (.int x0_0), .val (.long x0_1), .second, .val (.int x0_2), .val (.long x0_3), .second, .val (.int x0_4), .val (.int x0_5), .val (.int v12), .val (.long v27), .second, .val (.ref (f1 x0_4 w_IR w_R w_U w_IW w_W)), .val (.ref (f1 x0_4 w_IR w_R w_U w_IW w_W)), .val (.ref b133), .val (.ref b136), .val (.int (0 : Int32)), .val (.int v119)] [(.ref b136), (.ref b133)])) _
          refine st204.trans ?_
          show Steps p.tables e below (T204.setTop (mkF m 133 #[.val (.int x0_0), .val (.long x0_1), .second, .val (.int x0_2), .val (.long x0_3), .second, .val (.int x0_4), .val (.int x0_5), .val (.int v12), .val (.long v27), .second, .val (.ref (f1 x0_4 w_IR w_R w_U w_IW w_W)), .val (.ref (f1 x0_4 w_IR w_R w_U w_IW w_W)), .val (.ref b133), .val (.ref b136), .val (.int (0 : Int32)), .val (.int v119)] [(.int (0 : Int32))])) _
          refine XS.iload X204.here hx rfl (hb hby at_133) rfl ?_
          show Steps p.tables e below (T204.setTop (mkF m 135 #[.val (.int x0_0), .val (.long x0_1), .second, .val (.int x0_2), .val (.long x0_3), .second, .val (.int x0_4), .val (.int x0_5), .val (.int v12), .val (.long v27), .second, .val (.ref (f1 x0_4 w_IR w_R w_U w_IW w_W)), .val (.ref (f1 x0_4 w_IR w_R w_U w_IW w_W)), .val (.ref b133), .val (.ref b136), .val (.int (0 : Int32)), .val (.int v119)] [(.int (0 : Int32)), (.int (0 : Int32))])) _
          refine XS.icmpNo X204.here hx rfl (hb hby at_135) rfl (teq (by decide : ((0 : Int32) = (0 : Int32)))).2 ?_
          show Steps p.tables e below (T204.setTop (mkF m 138 #[.val (.int x0_0), .val (.long x0_1), .second, .val (.int x0_2), .val (.long x0_3), .second, .val (.int x0_4), .val (.int x0_5), .val (.int v12), .val (.long v27), .second, .val (.ref (f1 x0_4 w_IR w_R w_U w_IW w_W)), .val (.ref (f1 x0_4 w_IR w_R w_U w_IW w_W)), .val (.ref b133), .val (.ref b136), .val (.int (0 : Int32)), .val (.int v119)] [])) _
          refine XS.iconst X204.here hx rfl (hb hby at_138) ?_
          show Steps p.tables e below (T204.setTop (mkF m 139 #[.val (.int x0_0), .val (.long x0_1), .second, .val (.int x0_2), .val (.long x0_3), .second, .val (.int x0_4), .val (.int x0_5), .val (.int v12), .val (.long v27), .second, .val (.ref (f1 x0_4 w_IR w_R w_U w_IW w_W)), .val (.ref (f1 x0_4 w_IR w_R w_U w_IW w_W)), .val (.ref b133), .val (.ref b136), .val (.int (0 : Int32)), .val (.int v119)] [(.int (1 : Int32))])) _
          refine XS.goto X204.here hx rfl (pc0 := 139) (pc' := 143) rfl (hb hby at_139) (by decide) (by decide) ?_
          show Steps p.tables e below (T204.setTop (mkF m 143 #[.val (.int x0_0), .val (.long x0_1), .second, .val (.int x0_2), .val (.long x0_3), .second, .val (.int x0_4), .val (.int x0_5), .val (.int v12), .val (.long v27), .second, .val (.ref (f1 x0_4 w_IR w_R w_U w_IW w_W)), .val (.ref (f1 x0_4 w_IR w_R w_U w_IW w_W)), .val (.ref b133), .val (.ref b136), .val (.int (0 : Int32)), .val (.int v119)] [(.int (1 : Int32))])) _
          exact retN X204 hx (t := .boolean) Bd.returns (by simp) (hb hby at_143) hr
        · show Q0 Z x0_0 x0_1 x0_2 x0_3 x0_4 x0_5 w_IR w_R w_U w_IW w_W cA cl h0 n0 _ T204.heap _
          rw [e204]
          exact ⟨rfl, N204⟩
      · have sg206 : ∀ t, Steps p.tables e below (T137.setTop (mkF m 147 #[.val (.int x0_0), .val (.long x0_1), .second, .val (.int x0_2), .val (.long x0_3), .second, .val (.int x0_4), .val (.int x0_5), .val (.int v12), .val (.long v27), .second, .val (.ref (f1 x0_4 w_IR w_R w_U w_IW w_W)), .val (.ref (f1 x0_4 w_IR w_R w_U w_IW w_W)), .val (.ref b133), .val (.ref b136), .val (.int (0 : Int32)), .val (.int v119)] [(.int (1 : Int32)), (.int v119)])) t → Steps p.tables e below (T137.setTop (mkF m 123 #[.val (.int x0_0), .val (.long x0_1), .second, .val (.int x0_2), .val (.long x0_3), .second, .val (.int x0_4), .val (.int x0_5), .val (.int v12), .val (.long v27), .second, .val (.ref (f1 x0_4 w_IR w_R w_U w_IW w_W)), .val (.ref (f1 x0_4 w_IR w_R w_U w_IW w_W)), .val (.ref b133), .val (.ref b136), .val (.int (0 : Int32)), .val (.int v119)] [(.int v119)])) t := fun t kt => by
          show Steps p.tables e below (T137.setTop (mkF m 123 #[.val (.int x0_0), .val (.long x0_1), .second, .val (.int x0_2), .val (.long x0_3), .second, .val (.int x0_4), .val (.int x0_5), .val (.int v12), .val (.long v27), .second, .val (.ref (f1 x0_4 w_IR w_R w_U w_IW w_W)), .val (.ref (f1 x0_4 w_IR w_R w_U w_IW w_W)), .val (.ref b133), .val (.ref b136), .val (.int (0 : Int32)), .val (.int v119)] [(.int v119)])) _
          refine XS.ifYes Xr137.here hx rfl (pc0 := 123) (pc' := 144) rfl (hb hby at_123) rfl ((if0 _ _).trans (feq hc123_199).2) (by decide) (by decide) ?_
          show Steps p.tables e below (T137.setTop (mkF m 144 #[.val (.int x0_0), .val (.long x0_1), .second, .val (.int x0_2), .val (.long x0_3), .second, .val (.int x0_4), .val (.int x0_5), .val (.int v12), .val (.long v27), .second, .val (.ref (f1 x0_4 w_IR w_R w_U w_IW w_W)), .val (.ref (f1 x0_4 w_IR w_R w_U w_IW w_W)), .val (.ref b133), .val (.ref b136), .val (.int (0 : Int32)), .val (.int v119)] [])) _
          refine XS.iload Xr137.here hx rfl (hb hby at_144) rfl ?_
          show Steps p.tables e below (T137.setTop (mkF m 146 #[.val (.int x0_0), .val (.long x0_1), .second, .val (.int x0_2), .val (.long x0_3), .second, .val (.int x0_4), .val (.int x0_5), .val (.int v12), .val (.long v27), .second, .val (.ref (f1 x0_4 w_IR w_R w_U w_IW w_W)), .val (.ref (f1 x0_4 w_IR w_R w_U w_IW w_W)), .val (.ref b133), .val (.ref b136), .val (.int (0 : Int32)), .val (.int v119)] [(.int v119)])) _
          refine XS.iconst Xr137.here hx rfl (hb hby at_146) ?_
          exact kt
        by_cases hc147_207 : v119 = (1 : Int32)
        · have c208 := (Exa.keep (Exa.ext E136 Ex134) K137)
          have sg210 : ∀ t, Steps p.tables e below (T137.setTop (mkF m 153 #[.val (.int x0_0), .val (.long x0_1), .second, .val (.int x0_2), .val (.long x0_3), .second, .val (.int x0_4), .val (.int x0_5), .val (.int v12), .val (.long v27), .second, .val (.ref (f1 x0_4 w_IR w_R w_U w_IW w_W)), .val (.ref (f1 x0_4 w_IR w_R w_U w_IW w_W)), .val (.ref b133), .val (.ref b136), .val (.int (0 : Int32)), .val (.int v119)] [.null, (.ref b133)])) t → Steps p.tables e below (T137.setTop (mkF m 147 #[.val (.int x0_0), .val (.long x0_1), .second, .val (.int x0_2), .val (.long x0_3), .second, .val (.int x0_4), .val (.int x0_5), .val (.int v12), .val (.long v27), .second, .val (.ref (f1 x0_4 w_IR w_R w_U w_IW w_W)), .val (.ref (f1 x0_4 w_IR w_R w_U w_IW w_W)), .val (.ref b133), .val (.ref b136), .val (.int (0 : Int32)), .val (.int v119)] [(.int (1 : Int32)), (.int v119)])) t := fun t kt => by
            show Steps p.tables e below (T137.setTop (mkF m 147 #[.val (.int x0_0), .val (.long x0_1), .second, .val (.int x0_2), .val (.long x0_3), .second, .val (.int x0_4), .val (.int x0_5), .val (.int v12), .val (.long v27), .second, .val (.ref (f1 x0_4 w_IR w_R w_U w_IW w_W)), .val (.ref (f1 x0_4 w_IR w_R w_U w_IW w_W)), .val (.ref b133), .val (.ref b136), .val (.int (0 : Int32)), .val (.int v119)] [(.int (1 : Int32)), (.int v119)])) _
            refine XS.icmpNo Xr137.here hx rfl (hb hby at_147) rfl (teq hc147_207).2 ?_
            show Steps p.tables e below (T137.setTop (mkF m 150 #[.val (.int x0_0), .val (.long x0_1), .second, .val (.int x0_2), .val (.long x0_3), .second, .val (.int x0_4), .val (.int x0_5), .val (.int v12), .val (.long v27), .second, .val (.ref (f1 x0_4 w_IR w_R w_U w_IW w_W)), .val (.ref (f1 x0_4 w_IR w_R w_U w_IW w_W)), .val (.ref b133), .val (.ref b136), .val (.int (0 : Int32)), .val (.int v119)] [])) _
            refine XS.aload Xr137.here hx rfl (hb hby at_150) rfl rfl ?_
            show Steps p.tables e below (T137.setTop (mkF m 152 #[.val (.int x0_0), .val (.long x0_1), .second, .val (.int x0_2), .val (.long x0_3), .second, .val (.int x0_4), .val (.int x0_5), .val (.int v12), .val (.long v27), .second, .val (.ref (f1 x0_4 w_IR w_R w_U w_IW w_W)), .val (.ref (f1 x0_4 w_IR w_R w_U w_IW w_W)), .val (.ref b133), .val (.ref b136), .val (.int (0 : Int32)), .val (.int v119)] [(.ref b133)])) _
            refine XS.aconstNull Xr137.here hx rfl (hb hby at_152) ?_
            exact kt
          obtain ⟨cq209, kq209, q209a, q209b, q209c⟩ := isOf hZ rfl c208
          obtain ⟨v209, _, ⟨T209, L209, k209, n209⟩, -, X209, ⟨Lc209, hQ209, l209, y209, z209⟩, st209⟩ := Xr137.virtualBack hx (y := (⟨"com/example/libdmutex/libdmutex/core/TokenTree$Token$Queued", "equals", "(Ljava/lang/Object;)Z"⟩ : MethodName)) (z := (⟨"com/example/libdmutex/libdmutex/core/TokenTree$Token$Queued", "equals", "(Ljava/lang/Object;)Z"⟩ : MethodName)) hown (mvT hZ (hw _ (List.mem_of_getElem? (i := 39) rfl))) (mvT hZ (hw _ (List.mem_of_getElem? (i := 40) rfl))) (notFace_of_selects (args := #[]) (mvT hZ (hw _ (List.mem_of_getElem? (i := 42) rfl)))) (mvT hZ (hw _ (List.mem_of_getElem? (i := 42) rfl))) (mvT hZ (hw _ (List.mem_of_getElem? (i := 41) rfl))) (by decide) (backOf (W := 0) (rm5n l Z a0 hw [] b133 T137.heap n0 Zs137 c208) hZ (hw _ (List.mem_of_getElem? (i := 43) rfl)) (hw _ (List.mem_of_getElem? (i := 12) rfl)) (by decide) (by decide)) q209a q209c (g := (mkF m 153 #[.val (.int x0_0), .val (.long x0_1), .second, .val (.int x0_2), .val (.long x0_3), .second, .val (.int x0_4), .val (.int x0_5), .val (.int v12), .val (.long v27), .second, .val (.ref (f1 x0_4 w_IR w_R w_U w_IW w_W)), .val (.ref (f1 x0_4 w_IR w_R w_U w_IW w_W)), .val (.ref b133), .val (.ref b136), .val (.int (0 : Int32)), .val (.int v119)] [.null, (.ref b133)])) rfl (by rw [hml]; rfl) (Steps.refl _) (argsL := [.null]) (rest := []) (lenOf pd_5 rfl) rfl (by show 2 * 0 + _ ≤ _; exact Nat.le_of_eq rfl) (hb hby at_153) (fun _ _ => ⟨rfl, rfl, (by decide : 6 + 0 ≤ _), (by decide : 46 + 0 ≤ _)⟩)
          dsimp only [Pt.U, Pt.locs, Pt.cells, Pt.slots] at X209 l209 y209 z209 st209 hQ209
          subst l209 y209 z209
          obtain ⟨hv209, N209q, e209⟩ := hQ209
          have N209 := Fr.app N137 N209q
          have hf209 : f5n b133 = (0 : Int32) := rfl
          rw [hf209] at hv209
          subst hv209
          obtain ⟨fs, hr, hrun, hended, hRW⟩ := Stand.leaveW (s := s) (vm₁ := T137.vm) X209 hS137 (by rw [e209]; exact hk137) (v := some (.int (1 : Int32))) (fun h => by rw [Bd.returns] at h; cases h)
          refine ⟨_, _, pre0 _ (sg1 _ (sg2 _ (sg3 _ (sg4 _ (sg5 _ (sg6 _ (sg8 _ (sg9 _ (sg135 _ (sg138 _ (sg139 _ (sg197 _ (sg198 _ (sg206 _ (sg210 _ ?_))))))))))))))), hrun, hended, _, _, rfl, ?_, hRW.1, hRW.2.1, hRW.2.2.1, hRW.2.2.2.mono (by decide) (by decide)⟩
          · show Steps p.tables e below (T137.setTop (mkF m 153 #[.val (.int x0_0), .val (.long x0_1), .second, .val (.int x0_2), .val (.long x0_3), .second, .val (.int x0_4), .val (.int x0_5), .val (.int v12), .val (.long v27), .second, .val (.ref (f1 x0_4 w_IR w_R w_U w_IW w_W)), .val (.ref (f1 x0_4 w_IR w_R w_U w_IW w_W)), .val (.ref b133), .val (.ref b136), .val (.int (0 : Int32)), .val (.int v119)] [.null, (.ref b133)])) _
            refine st209.trans ?_
            show Steps p.tables e below (T209.setTop (mkF m 156 #[.val (.int x0_0), .val (.long x0_1), .second, .val (.int x0_2), .val (.long x0_3), .second, .val (.int x0_4), .val (.int x0_5), .val (.int v12), .val (.long v27), .second, .val (.ref (f1 x0_4 w_IR w_R w_U w_IW w_W)), .val (.ref (f1 x0_4 w_IR w_R w_U w_IW w_W)), .val (.ref b133), .val (.ref b136), .val (.int (0 : Int32)), .val (.int v119)] [(.int (0 : Int32))])) _
            refine XS.ifNo X209.here hx rfl (hb hby at_156) rfl ((if0 _ _).trans (teq (by decide : ((0 : Int32) = (0 : Int32)))).2) ?_
            show Steps p.tables e below (T209.setTop (mkF m 159 #[.val (.int x0_0), .val (.long x0_1), .second, .val (.int x0_2), .val (.long x0_3), .second, .val (.int x0_4), .val (.int x0_5), .val (.int v12), .val (.long v27), .second, .val (.ref (f1 x0_4 w_IR w_R w_U w_IW w_W)), .val (.ref (f1 x0_4 w_IR w_R w_U w_IW w_W)), .val (.ref b133), .val (.ref b136), .val (.int (0 : Int32)), .val (.int v119)] [])) _
            refine XS.iconst X209.here hx rfl (hb hby at_159) ?_
            show Steps p.tables e below (T209.setTop (mkF m 160 #[.val (.int x0_0), .val (.long x0_1), .second, .val (.int x0_2), .val (.long x0_3), .second, .val (.int x0_4), .val (.int x0_5), .val (.int v12), .val (.long v27), .second, .val (.ref (f1 x0_4 w_IR w_R w_U w_IW w_W)), .val (.ref (f1 x0_4 w_IR w_R w_U w_IW w_W)), .val (.ref b133), .val (.ref b136), .val (.int (0 : Int32)), .val (.int v119)] [(.int (1 : Int32))])) _
            refine XS.goto X209.here hx rfl (pc0 := 160) (pc' := 164) rfl (hb hby at_160) (by decide) (by decide) ?_
            show Steps p.tables e below (T209.setTop (mkF m 164 #[.val (.int x0_0), .val (.long x0_1), .second, .val (.int x0_2), .val (.long x0_3), .second, .val (.int x0_4), .val (.int x0_5), .val (.int v12), .val (.long v27), .second, .val (.ref (f1 x0_4 w_IR w_R w_U w_IW w_W)), .val (.ref (f1 x0_4 w_IR w_R w_U w_IW w_W)), .val (.ref b133), .val (.ref b136), .val (.int (0 : Int32)), .val (.int v119)] [(.int (1 : Int32))])) _
            exact retN X209 hx (t := .boolean) Bd.returns (by simp) (hb hby at_164) hr
          · show Q0 Z x0_0 x0_1 x0_2 x0_3 x0_4 x0_5 w_IR w_R w_U w_IW w_W cA cl h0 n0 _ T209.heap _
            rw [e209]
            exact ⟨rfl, N209⟩
        · have sg211 : ∀ t, Steps p.tables e below (T137.setTop (mkF m 168 #[.val (.int x0_0), .val (.long x0_1), .second, .val (.int x0_2), .val (.long x0_3), .second, .val (.int x0_4), .val (.int x0_5), .val (.int v12), .val (.long v27), .second, .val (.ref (f1 x0_4 w_IR w_R w_U w_IW w_W)), .val (.ref (f1 x0_4 w_IR w_R w_U w_IW w_W)), .val (.ref b133), .val (.ref b136), .val (.int (0 : Int32)), .val (.int v119)] [(.int (2 : Int32)), (.int v119)])) t → Steps p.tables e below (T137.setTop (mkF m 147 #[.val (.int x0_0), .val (.long x0_1), .second, .val (.int x0_2), .val (.long x0_3), .second, .val (.int x0_4), .val (.int x0_5), .val (.int v12), .val (.long v27), .second, .val (.ref (f1 x0_4 w_IR w_R w_U w_IW w_W)), .val (.ref (f1 x0_4 w_IR w_R w_U w_IW w_W)), .val (.ref b133), .val (.ref b136), .val (.int (0 : Int32)), .val (.int v119)] [(.int (1 : Int32)), (.int v119)])) t := fun t kt => by
            show Steps p.tables e below (T137.setTop (mkF m 147 #[.val (.int x0_0), .val (.long x0_1), .second, .val (.int x0_2), .val (.long x0_3), .second, .val (.int x0_4), .val (.int x0_5), .val (.int v12), .val (.long v27), .second, .val (.ref (f1 x0_4 w_IR w_R w_U w_IW w_W)), .val (.ref (f1 x0_4 w_IR w_R w_U w_IW w_W)), .val (.ref b133), .val (.ref b136), .val (.int (0 : Int32)), .val (.int v119)] [(.int (1 : Int32)), (.int v119)])) _
            refine XS.icmpYes Xr137.here hx rfl (pc0 := 147) (pc' := 165) rfl (hb hby at_147) rfl (feq hc147_207).2 (by decide) (by decide) ?_
            show Steps p.tables e below (T137.setTop (mkF m 165 #[.val (.int x0_0), .val (.long x0_1), .second, .val (.int x0_2), .val (.long x0_3), .second, .val (.int x0_4), .val (.int x0_5), .val (.int v12), .val (.long v27), .second, .val (.ref (f1 x0_4 w_IR w_R w_U w_IW w_W)), .val (.ref (f1 x0_4 w_IR w_R w_U w_IW w_W)), .val (.ref b133), .val (.ref b136), .val (.int (0 : Int32)), .val (.int v119)] [])) _
            refine XS.iload Xr137.here hx rfl (hb hby at_165) rfl ?_
            show Steps p.tables e below (T137.setTop (mkF m 167 #[.val (.int x0_0), .val (.long x0_1), .second, .val (.int x0_2), .val (.long x0_3), .second, .val (.int x0_4), .val (.int x0_5), .val (.int v12), .val (.long v27), .second, .val (.ref (f1 x0_4 w_IR w_R w_U w_IW w_W)), .val (.ref (f1 x0_4 w_IR w_R w_U w_IW w_W)), .val (.ref b133), .val (.ref b136), .val (.int (0 : Int32)), .val (.int v119)] [(.int v119)])) _
            refine XS.iconst Xr137.here hx rfl (hb hby at_167) ?_
            exact kt
          by_cases hc168_212 : v119 = (2 : Int32)
          · have sg214 : ∀ t, Steps p.tables e below (T137.setTop (mkF m 174 #[.val (.int x0_0), .val (.long x0_1), .second, .val (.int x0_2), .val (.long x0_3), .second, .val (.int x0_4), .val (.int x0_5), .val (.int v12), .val (.long v27), .second, .val (.ref (f1 x0_4 w_IR w_R w_U w_IW w_W)), .val (.ref (f1 x0_4 w_IR w_R w_U w_IW w_W)), .val (.ref b133), .val (.ref b136), .val (.int (0 : Int32)), .val (.int v119)] [(.int x0_0), (.ref b133)])) t → Steps p.tables e below (T137.setTop (mkF m 168 #[.val (.int x0_0), .val (.long x0_1), .second, .val (.int x0_2), .val (.long x0_3), .second, .val (.int x0_4), .val (.int x0_5), .val (.int v12), .val (.long v27), .second, .val (.ref (f1 x0_4 w_IR w_R w_U w_IW w_W)), .val (.ref (f1 x0_4 w_IR w_R w_U w_IW w_W)), .val (.ref b133), .val (.ref b136), .val (.int (0 : Int32)), .val (.int v119)] [(.int (2 : Int32)), (.int v119)])) t := fun t kt => by
              show Steps p.tables e below (T137.setTop (mkF m 168 #[.val (.int x0_0), .val (.long x0_1), .second, .val (.int x0_2), .val (.long x0_3), .second, .val (.int x0_4), .val (.int x0_5), .val (.int v12), .val (.long v27), .second, .val (.ref (f1 x0_4 w_IR w_R w_U w_IW w_W)), .val (.ref (f1 x0_4 w_IR w_R w_U w_IW w_W)), .val (.ref b133), .val (.ref b136), .val (.int (0 : Int32)), .val (.int v119)] [(.int (2 : Int32)), (.int v119)])) _
              refine XS.icmpNo Xr137.here hx rfl (hb hby at_168) rfl (teq hc168_212).2 ?_
              show Steps p.tables e below (T137.setTop (mkF m 171 #[.val (.int x0_0), .val (.long x0_1), .second, .val (.int x0_2), .val (.long x0_3), .second, .val (.int x0_4), .val (.int x0_5), .val (.int v12), .val (.long v27), .second, .val (.ref (f1 x0_4 w_IR w_R w_U w_IW w_W)), .val (.ref (f1 x0_4 w_IR w_R w_U w_IW w_W)), .val (.ref b133), .val (.ref b136), .val (.int (0 : Int32)), .val (.int v119)] [])) _
              refine XS.aload Xr137.here hx rfl (hb hby at_171) rfl rfl ?_
              show Steps p.tables e below (T137.setTop (mkF m 173 #[.val (.int x0_0), .val (.long x0_1), .second, .val (.int x0_2), .val (.long x0_3), .second, .val (.int x0_4), .val (.int x0_5), .val (.int v12), .val (.long v27), .second, .val (.ref (f1 x0_4 w_IR w_R w_U w_IW w_W)), .val (.ref (f1 x0_4 w_IR w_R w_U w_IW w_W)), .val (.ref b133), .val (.ref b136), .val (.int (0 : Int32)), .val (.int v119)] [(.ref b133)])) _
              refine XS.iloadN Xr137.here hx rfl (hb hby at_173) rfl ?_
              exact kt
            obtain ⟨v213, _, ⟨T213, L213, k213, n213⟩, -, X213, ⟨Lc213, hQ213, l213, y213, z213⟩, st213⟩ := Jvm.LawKit.callS Xr137 hx (y := (⟨"java/lang/Integer", "valueOf", "(I)Ljava/lang/Integer;"⟩ : MethodName)) hown (mvT hZ (hw _ (List.mem_of_getElem? (i := 48) rfl))) (mvT hZ (hw _ (List.mem_of_getElem? (i := 49) rfl))) (mvT hZ (hw _ (List.mem_of_getElem? (i := 50) rfl))) (mvT hZ (hw _ (List.mem_of_getElem? (i := 51) rfl))) (by decide) (backOf (W := 1) (rm6 l Z a0 hw [] x0_0 cA cl T137.heap n0 Zs137 Ol137 JC SC SH) hZ (hw _ (List.mem_of_getElem? (i := 51) rfl)) (hw _ (List.mem_of_getElem? (i := 50) rfl)) (by decide) (by decide)) (g := (mkF m 174 #[.val (.int x0_0), .val (.long x0_1), .second, .val (.int x0_2), .val (.long x0_3), .second, .val (.int x0_4), .val (.int x0_5), .val (.int v12), .val (.long v27), .second, .val (.ref (f1 x0_4 w_IR w_R w_U w_IW w_W)), .val (.ref (f1 x0_4 w_IR w_R w_U w_IW w_W)), .val (.ref b133), .val (.ref b136), .val (.int (0 : Int32)), .val (.int v119)] [(.int x0_0), (.ref b133)])) rfl (by rw [hml]; rfl) (argsL := [(.int x0_0)]) (rest := [(.ref b133)]) (lenOf pd_6 rfl) rfl (by show 2 * 0 + _ ≤ _; exact Nat.le_of_eq rfl) (hb hby at_174) (fun _ _ => ⟨rfl, rfl, (by decide : 6 + 1 ≤ _), (by decide : 46 + 1 ≤ _)⟩)
            dsimp only [Pt.U, Pt.locs, Pt.cells, Pt.slots] at X213 l213 y213 z213 st213 hQ213
            subst l213 y213 z213
            obtain ⟨r213, rfl, N213q, K213, Ex213⟩ := hQ213
            have N213 := Fr.app N137 N213q
            have Zs213 : n0 ≤ T213.heap.size := Nat.le_trans Zs137 K213.1
            have hk213 := Nat.le_trans hk137 K213.1
            have Ol213 : Old Z n0 T213.heap := (Ol137).keep K213 all0
            have c215 := (Exa.keep (Exa.keep (Exa.ext E136 Ex134) K137) K213)
            have sg217 : ∀ t, Steps p.tables e below (T213.setTop (mkF m 177 #[.val (.int x0_0), .val (.long x0_1), .second, .val (.int x0_2), .val (.long x0_3), .second, .val (.int x0_4), .val (.int x0_5), .val (.int v12), .val (.long v27), .second, .val (.ref (f1 x0_4 w_IR w_R w_U w_IW w_W)), .val (.ref (f1 x0_4 w_IR w_R w_U w_IW w_W)), .val (.ref b133), .val (.ref b136), .val (.int (0 : Int32)), .val (.int v119)] [(.ref r213), (.ref b133)])) t → Steps p.tables e below (T137.setTop (mkF m 174 #[.val (.int x0_0), .val (.long x0_1), .second, .val (.int x0_2), .val (.long x0_3), .second, .val (.int x0_4), .val (.int x0_5), .val (.int v12), .val (.long v27), .second, .val (.ref (f1 x0_4 w_IR w_R w_U w_IW w_W)), .val (.ref (f1 x0_4 w_IR w_R w_U w_IW w_W)), .val (.ref b133), .val (.ref b136), .val (.int (0 : Int32)), .val (.int v119)] [(.int x0_0), (.ref b133)])) t := fun t kt => by
              show Steps p.tables e below (T137.setTop (mkF m 174 #[.val (.int x0_0), .val (.long x0_1), .second, .val (.int x0_2), .val (.long x0_3), .second, .val (.int x0_4), .val (.int x0_5), .val (.int v12), .val (.long v27), .second, .val (.ref (f1 x0_4 w_IR w_R w_U w_IW w_W)), .val (.ref (f1 x0_4 w_IR w_R w_U w_IW w_W)), .val (.ref b133), .val (.ref b136), .val (.int (0 : Int32)), .val (.int v119)] [(.int x0_0), (.ref b133)])) _
              refine st213 _ ?_
              exact kt
            obtain ⟨cq216, kq216, q216a, q216b, q216c⟩ := isOf hZ rfl c215
            obtain ⟨v216, _, ⟨T216, L216, k216, n216⟩, -, X216, ⟨Lc216, hQ216, l216, y216, z216⟩, st216⟩ := X213.virtualBack hx (y := (⟨"com/example/libdmutex/libdmutex/core/TokenTree$Token$Queued", "equals", "(Ljava/lang/Object;)Z"⟩ : MethodName)) (z := (⟨"com/example/libdmutex/libdmutex/core/TokenTree$Token$Queued", "equals", "(Ljava/lang/Object;)Z"⟩ : MethodName)) hown (mvT hZ (hw _ (List.mem_of_getElem? (i := 39) rfl))) (mvT hZ (hw _ (List.mem_of_getElem? (i := 40) rfl))) (notFace_of_selects (args := #[]) (mvT hZ (hw _ (List.mem_of_getElem? (i := 42) rfl)))) (mvT hZ (hw _ (List.mem_of_getElem? (i := 42) rfl))) (mvT hZ (hw _ (List.mem_of_getElem? (i := 41) rfl))) (by decide) (backOf (W := 0) (rm5i l Z a0 hw [] b133 r213 T213.heap n0 Zs213 Ex213) hZ (hw _ (List.mem_of_getElem? (i := 43) rfl)) (hw _ (List.mem_of_getElem? (i := 12) rfl)) (by decide) (by decide)) q216a q216c (g := (mkF m 177 #[.val (.int x0_0), .val (.long x0_1), .second, .val (.int x0_2), .val (.long x0_3), .second, .val (.int x0_4), .val (.int x0_5), .val (.int v12), .val (.long v27), .second, .val (.ref (f1 x0_4 w_IR w_R w_U w_IW w_W)), .val (.ref (f1 x0_4 w_IR w_R w_U w_IW w_W)), .val (.ref b133), .val (.ref b136), .val (.int (0 : Int32)), .val (.int v119)] [(.ref r213), (.ref b133)])) rfl (by rw [hml]; rfl) (Steps.refl _) (argsL := [(.ref r213)]) (rest := []) (lenOf pd_5 rfl) rfl (by show 2 * 0 + _ ≤ _; exact Nat.le_of_eq rfl) (hb hby at_177) (fun _ _ => ⟨rfl, rfl, (by decide : 7 + 0 ≤ _), (by decide : 47 + 0 ≤ _)⟩)
            dsimp only [Pt.U, Pt.locs, Pt.cells, Pt.slots] at X216 l216 y216 z216 st216 hQ216
            subst l216 y216 z216
            obtain ⟨hv216, N216q, e216⟩ := hQ216
            have N216 := Fr.app N213 N216q
            have hf216 : f5i b133 r213 = (0 : Int32) := rfl
            rw [hf216] at hv216
            subst hv216
            obtain ⟨fs, hr, hrun, hended, hRW⟩ := Stand.leaveW (s := s) (vm₁ := T137.vm) X216 hS137 (by rw [e216]; exact hk213) (v := some (.int (1 : Int32))) (fun h => by rw [Bd.returns] at h; cases h)
            refine ⟨_, _, pre0 _ (sg1 _ (sg2 _ (sg3 _ (sg4 _ (sg5 _ (sg6 _ (sg8 _ (sg9 _ (sg135 _ (sg138 _ (sg139 _ (sg197 _ (sg198 _ (sg206 _ (sg211 _ (sg214 _ (sg217 _ ?_))))))))))))))))), hrun, hended, _, _, rfl, ?_, hRW.1, hRW.2.1, hRW.2.2.1, hRW.2.2.2.mono (by decide) (by decide)⟩
            · show Steps p.tables e below (T213.setTop (mkF m 177 #[.val (.int x0_0), .val (.long x0_1), .second, .val (.int x0_2), .val (.long x0_3), .second, .val (.int x0_4), .val (.int x0_5), .val (.int v12), .val (.long v27), .second, .val (.ref (f1 x0_4 w_IR w_R w_U w_IW w_W)), .val (.ref (f1 x0_4 w_IR w_R w_U w_IW w_W)), .val (.ref b133), .val (.ref b136), .val (.int (0 : Int32)), .val (.int v119)] [(.ref r213), (.ref b133)])) _
              refine st216.trans ?_
              show Steps p.tables e below (T216.setTop (mkF m 180 #[.val (.int x0_0), .val (.long x0_1), .second, .val (.int x0_2), .val (.long x0_3), .second, .val (.int x0_4), .val (.int x0_5), .val (.int v12), .val (.long v27), .second, .val (.ref (f1 x0_4 w_IR w_R w_U w_IW w_W)), .val (.ref (f1 x0_4 w_IR w_R w_U w_IW w_W)), .val (.ref b133), .val (.ref b136), .val (.int (0 : Int32)), .val (.int v119)] [(.int (0 : Int32))])) _
              refine XS.ifNo X216.here hx rfl (hb hby at_180) rfl ((if0 _ _).trans (teq (by decide : ((0 : Int32) = (0 : Int32)))).2) ?_
              show Steps p.tables e below (T216.setTop (mkF m 183 #[.val (.int x0_0), .val (.long x0_1), .second, .val (.int x0_2), .val (.long x0_3), .second, .val (.int x0_4), .val (.int x0_5), .val (.int v12), .val (.long v27), .second, .val (.ref (f1 x0_4 w_IR w_R w_U w_IW w_W)), .val (.ref (f1 x0_4 w_IR w_R w_U w_IW w_W)), .val (.ref b133), .val (.ref b136), .val (.int (0 : Int32)), .val (.int v119)] [])) _
              refine XS.iconst X216.here hx rfl (hb hby at_183) ?_
              show Steps p.tables e below (T216.setTop (mkF m 184 #[.val (.int x0_0), .val (.long x0_1), .second, .val (.int x0_2), .val (.long x0_3), .second, .val (.int x0_4), .val (.int x0_5), .val (.int v12), .val (.long v27), .second, .val (.ref (f1 x0_4 w_IR w_R w_U w_IW w_W)), .val (.ref (f1 x0_4 w_IR w_R w_U w_IW w_W)), .val (.ref b133), .val (.ref b136), .val (.int (0 : Int32)), .val (.int v119)] [(.int (1 : Int32))])) _
              refine XS.goto X216.here hx rfl (pc0 := 184) (pc' := 188) rfl (hb hby at_184) (by decide) (by decide) ?_
              show Steps p.tables e below (T216.setTop (mkF m 188 #[.val (.int x0_0), .val (.long x0_1), .second, .val (.int x0_2), .val (.long x0_3), .second, .val (.int x0_4), .val (.int x0_5), .val (.int v12), .val (.long v27), .second, .val (.ref (f1 x0_4 w_IR w_R w_U w_IW w_W)), .val (.ref (f1 x0_4 w_IR w_R w_U w_IW w_W)), .val (.ref b133), .val (.ref b136), .val (.int (0 : Int32)), .val (.int v119)] [(.int (1 : Int32))])) _
              exact retN X216 hx (t := .boolean) Bd.returns (by simp) (hb hby at_188) hr
            · show Q0 Z x0_0 x0_1 x0_2 x0_3 x0_4 x0_5 w_IR w_R w_U w_IW w_W cA cl h0 n0 _ T216.heap _
              rw [e216]
              exact ⟨rfl, N216⟩
          · have c218 := (Exa.keep (Exa.ext E136 Ex134) K137)
            have c219 := (Fld.keep (Fld.ext E136 Fq134_peer) K137 (ninS ne_b133_b136 nin0))
            have c220 := (Fld.keep (Fld.ext E136 Fq134_ticket) K137 (ninS ne_b133_b136 nin0))
            have c221 := (Fld.keep (Fld.ext E136 Fq134_mode) K137 (ninS ne_b133_b136 nin0))
            have sg223 : ∀ t, Steps p.tables e below (T137.setTop (mkF m 193 #[.val (.int x0_0), .val (.long x0_1), .second, .val (.int x0_2), .val (.long x0_3), .second, .val (.int x0_4), .val (.int x0_5), .val (.int v12), .val (.long v27), .second, .val (.ref (f1 x0_4 w_IR w_R w_U w_IW w_W)), .val (.ref (f1 x0_4 w_IR w_R w_U w_IW w_W)), .val (.ref b133), .val (.ref b136), .val (.int (0 : Int32)), .val (.int v119)] [(.ref b133), (.ref b136)])) t → Steps p.tables e below (T137.setTop (mkF m 168 #[.val (.int x0_0), .val (.long x0_1), .second, .val (.int x0_2), .val (.long x0_3), .second, .val (.int x0_4), .val (.int x0_5), .val (.int v12), .val (.long v27), .second, .val (.ref (f1 x0_4 w_IR w_R w_U w_IW w_W)), .val (.ref (f1 x0_4 w_IR w_R w_U w_IW w_W)), .val (.ref b133), .val (.ref b136), .val (.int (0 : Int32)), .val (.int v119)] [(.int (2 : Int32)), (.int v119)])) t := fun t kt => by
              show Steps p.tables e below (T137.setTop (mkF m 168 #[.val (.int x0_0), .val (.long x0_1), .second, .val (.int x0_2), .val (.long x0_3), .second, .val (.int x0_4), .val (.int x0_5), .val (.int v12), .val (.long v27), .second, .val (.ref (f1 x0_4 w_IR w_R w_U w_IW w_W)), .val (.ref (f1 x0_4 w_IR w_R w_U w_IW w_W)), .val (.ref b133), .val (.ref b136), .val (.int (0 : Int32)), .val (.int v119)] [(.int (2 : Int32)), (.int v119)])) _
              refine XS.icmpYes Xr137.here hx rfl (pc0 := 168) (pc' := 189) rfl (hb hby at_168) rfl (feq hc168_212).2 (by decide) (by decide) ?_
              show Steps p.tables e below (T137.setTop (mkF m 189 #[.val (.int x0_0), .val (.long x0_1), .second, .val (.int x0_2), .val (.long x0_3), .second, .val (.int x0_4), .val (.int x0_5), .val (.int v12), .val (.long v27), .second, .val (.ref (f1 x0_4 w_IR w_R w_U w_IW w_W)), .val (.ref (f1 x0_4 w_IR w_R w_U w_IW w_W)), .val (.ref b133), .val (.ref b136), .val (.int (0 : Int32)), .val (.int v119)] [])) _
              refine XS.aload Xr137.here hx rfl (hb hby at_189) rfl rfl ?_
              show Steps p.tables e below (T137.setTop (mkF m 191 #[.val (.int x0_0), .val (.long x0_1), .second, .val (.int x0_2), .val (.long x0_3), .second, .val (.int x0_4), .val (.int x0_5), .val (.int v12), .val (.long v27), .second, .val (.ref (f1 x0_4 w_IR w_R w_U w_IW w_W)), .val (.ref (f1 x0_4 w_IR w_R w_U w_IW w_W)), .val (.ref b133), .val (.ref b136), .val (.int (0 : Int32)), .val (.int v119)] [(.ref b136)])) _
              refine XS.aload Xr137.here hx rfl (hb hby at_191) rfl rfl ?_
              exact kt
            obtain ⟨cq222, kq222, q222a, q222b, q222c⟩ := isOf hZ rfl Ex137
            obtain ⟨v222, _, ⟨T222, L222, k222, n222⟩, -, X222, ⟨Lc222, hQ222, l222, y222, z222⟩, st222⟩ := Xr137.virtualBack hx (y := (⟨"com/example/libdmutex/libdmutex/core/TokenTree$Token$Queued", "equals", "(Ljava/lang/Object;)Z"⟩ : MethodName)) (z := (⟨"com/example/libdmutex/libdmutex/core/TokenTree$Token$Queued", "equals", "(Ljava/lang/Object;)Z"⟩ : MethodName)) hown (mvT hZ (hw _ (List.mem_of_getElem? (i := 39) rfl))) (mvT hZ (hw _ (List.mem_of_getElem? (i := 40) rfl))) (notFace_of_selects (args := #[]) (mvT hZ (hw _ (List.mem_of_getElem? (i := 42) rfl)))) (mvT hZ (hw _ (List.mem_of_getElem? (i := 42) rfl))) (mvT hZ (hw _ (List.mem_of_getElem? (i := 41) rfl))) (by decide) (backOf (W := 0) (rm5o l Z a0 hw [] b136 b133 v12 v27 (f1 x0_4 w_IR w_R w_U w_IW w_W) x0_0 x0_1 (f1 x0_4 w_IR w_R w_U w_IW w_W) T137.heap n0 Zs137 Ex137 c218 Fq137_peer Fq137_ticket Fq137_mode c219 c220 c221) hZ (hw _ (List.mem_of_getElem? (i := 43) rfl)) (hw _ (List.mem_of_getElem? (i := 12) rfl)) (by decide) (by decide)) q222a q222c (g := (mkF m 193 #[.val (.int x0_0), .val (.long x0_1), .second, .val (.int x0_2), .val (.long x0_3), .second, .val (.int x0_4), .val (.int x0_5), .val (.int v12), .val (.long v27), .second, .val (.ref (f1 x0_4 w_IR w_R w_U w_IW w_W)), .val (.ref (f1 x0_4 w_IR w_R w_U w_IW w_W)), .val (.ref b133), .val (.ref b136), .val (.int (0 : Int32)), .val (.int v119)] [(.ref b133), (.ref b136)])) rfl (by rw [hml]; rfl) (Steps.refl _) (argsL := [(.ref b133)]) (rest := []) (lenOf pd_5 rfl) rfl (by show 2 * 0 + _ ≤ _; exact Nat.le_of_eq rfl) (hb hby at_193) (fun _ _ => ⟨rfl, rfl, (by decide : 6 + 0 ≤ _), (by decide : 46 + 0 ≤ _)⟩)
            dsimp only [Pt.U, Pt.locs, Pt.cells, Pt.slots] at X222 l222 y222 z222 st222 hQ222
            subst l222 y222 z222
            obtain ⟨hv222, N222q, e222⟩ := hQ222
            have N222 := Fr.app N137 N222q
            have hf222 : f5o b136 b133 v12 v27 (f1 x0_4 w_IR w_R w_U w_IW w_W) x0_0 x0_1 (f1 x0_4 w_IR w_R w_U w_IW w_W) = (0 : Int32) := by unfold f5o; rw [if_neg (Ne.symm hc89_140)]
            rw [hf222] at hv222
            subst hv222
            obtain ⟨fs, hr, hrun, hended, hRW⟩ := Stand.leaveW (s := s) (vm₁ := T137.vm) X222 hS137 (by rw [e222]; exact hk137) (v := some (.int (1 : Int32))) (fun h => by rw [Bd.returns] at h; cases h)
            refine ⟨_, _, pre0 _ (sg1 _ (sg2 _ (sg3 _ (sg4 _ (sg5 _ (sg6 _ (sg8 _ (sg9 _ (sg135 _ (sg138 _ (sg139 _ (sg197 _ (sg198 _ (sg206 _ (sg211 _ (sg223 _ ?_)))))))))))))))), hrun, hended, _, _, rfl, ?_, hRW.1, hRW.2.1, hRW.2.2.1, hRW.2.2.2.mono (by decide) (by decide)⟩
            · show Steps p.tables e below (T137.setTop (mkF m 193 #[.val (.int x0_0), .val (.long x0_1), .second, .val (.int x0_2), .val (.long x0_3), .second, .val (.int x0_4), .val (.int x0_5), .val (.int v12), .val (.long v27), .second, .val (.ref (f1 x0_4 w_IR w_R w_U w_IW w_W)), .val (.ref (f1 x0_4 w_IR w_R w_U w_IW w_W)), .val (.ref b133), .val (.ref b136), .val (.int (0 : Int32)), .val (.int v119)] [(.ref b133), (.ref b136)])) _
              refine st222.trans ?_
              show Steps p.tables e below (T222.setTop (mkF m 196 #[.val (.int x0_0), .val (.long x0_1), .second, .val (.int x0_2), .val (.long x0_3), .second, .val (.int x0_4), .val (.int x0_5), .val (.int v12), .val (.long v27), .second, .val (.ref (f1 x0_4 w_IR w_R w_U w_IW w_W)), .val (.ref (f1 x0_4 w_IR w_R w_U w_IW w_W)), .val (.ref b133), .val (.ref b136), .val (.int (0 : Int32)), .val (.int v119)] [(.int (0 : Int32))])) _
              refine XS.iload X222.here hx rfl (hb hby at_196) rfl ?_
              show Steps p.tables e below (T222.setTop (mkF m 198 #[.val (.int x0_0), .val (.long x0_1), .second, .val (.int x0_2), .val (.long x0_3), .second, .val (.int x0_4), .val (.int x0_5), .val (.int v12), .val (.long v27), .second, .val (.ref (f1 x0_4 w_IR w_R w_U w_IW w_W)), .val (.ref (f1 x0_4 w_IR w_R w_U w_IW w_W)), .val (.ref b133), .val (.ref b136), .val (.int (0 : Int32)), .val (.int v119)] [(.int (0 : Int32)), (.int (0 : Int32))])) _
              refine XS.icmpNo X222.here hx rfl (hb hby at_198) rfl (teq (by decide : ((0 : Int32) = (0 : Int32)))).2 ?_
              show Steps p.tables e below (T222.setTop (mkF m 201 #[.val (.int x0_0), .val (.long x0_1), .second, .val (.int x0_2), .val (.long x0_3), .second, .val (.int x0_4), .val (.int x0_5), .val (.int v12), .val (.long v27), .second, .val (.ref (f1 x0_4 w_IR w_R w_U w_IW w_W)), .val (.ref (f1 x0_4 w_IR w_R w_U w_IW w_W)), .val (.ref b133), .val (.ref b136), .val (.int (0 : Int32)), .val (.int v119)] [])) _
              refine XS.iconst X222.here hx rfl (hb hby at_201) ?_
              show Steps p.tables e below (T222.setTop (mkF m 202 #[.val (.int x0_0), .val (.long x0_1), .second, .val (.int x0_2), .val (.long x0_3), .second, .val (.int x0_4), .val (.int x0_5), .val (.int v12), .val (.long v27), .second, .val (.ref (f1 x0_4 w_IR w_R w_U w_IW w_W)), .val (.ref (f1 x0_4 w_IR w_R w_U w_IW w_W)), .val (.ref b133), .val (.ref b136), .val (.int (0 : Int32)), .val (.int v119)] [(.int (1 : Int32))])) _
              refine XS.goto X222.here hx rfl (pc0 := 202) (pc' := 206) rfl (hb hby at_202) (by decide) (by decide) ?_
              show Steps p.tables e below (T222.setTop (mkF m 206 #[.val (.int x0_0), .val (.long x0_1), .second, .val (.int x0_2), .val (.long x0_3), .second, .val (.int x0_4), .val (.int x0_5), .val (.int v12), .val (.long v27), .second, .val (.ref (f1 x0_4 w_IR w_R w_U w_IW w_W)), .val (.ref (f1 x0_4 w_IR w_R w_U w_IW w_W)), .val (.ref b133), .val (.ref b136), .val (.int (0 : Int32)), .val (.int v119)] [(.int (1 : Int32))])) _
              exact retN X222 hx (t := .boolean) Bd.returns (by simp) (hb hby at_206) hr
            · show Q0 Z x0_0 x0_1 x0_2 x0_3 x0_4 x0_5 w_IR w_R w_U w_IW w_W cA cl h0 n0 _ T222.heap _
              rw [e222]
              exact ⟨rfl, N222⟩
set_option maxRecDepth 65536 in
set_option maxHeartbeats 40000000 in
theorem comes_1 {Post : Tables → Env → Array Value → State → Outcome → State → Prop} (hpost : ∀ tb e args s v u, (limb_1_1.after args s (.returned v) u = true ∧ limb_1_2.after args s (.returned v) u = true ∧ True) → ReturnedEndW s (.returned v) u (Jvm.fieldLocs frame_1_writes args s ++ Jvm.arrayLocs frame_1_arrays args s ++ Jvm.staticLocs frame_1_statics s) 16 1152 → Post tb e args s (.returned v) u) :
    ArmFor flags0 classFile x code maxLocals ret World_1 tables_1 room_1 Calls_1 rest_1 Pre_1 Post := by
  intro l hfl _ _ p e ha hc hk s m args below hf hA hF happ hP
  obtain ⟨hcalls, hrest, hpre⟩ := hP
  obtain ⟨-, -, -, hnamed, -, -, -, hat⟩ := (Spec.applies_iff hf).mp happ
  obtain ⟨hg, hn⟩ := and_e (Cond.before_iff.mp (show (Jvm.Cond.and given_1 narrow_1).before args s = true from hpre))
  obtain ⟨g1, g2⟩ := and_e hg
  obtain ⟨g3, g4⟩ := and_e g2
  obtain ⟨g5, g6⟩ := and_e g4
  obtain ⟨g7, g8⟩ := and_e g6
  obtain ⟨g9, g10⟩ := and_e g8
  obtain ⟨g11, g12⟩ := and_e g10
  obtain ⟨w0, w1, w2, w3, w4, w5, rfl⟩ : ∃ w0 w1 w2 w3 w4 w5 : Value, args = #[w0, w1, w2, w3, w4, w5] := by
    have hs : args.size = 6 := by simpa [Cond.value, given_1] using g1
    obtain ⟨L⟩ := args
    match L, hs with
    | [w0, w1, w2, w3, w4, w5], _ => exact ⟨w0, w1, w2, w3, w4, w5, rfl⟩
  have hw := fun d (hd : d ∈ tables_1) => atoms_spec (ws := Jvm.Cond.code x code maxLocals ret :: tables_1) hat d (List.mem_cons_of_mem _ hd)
  have hfit : Fit s := fun {y c} hc i hi => by
    obtain ⟨ha, rfl⟩ := Array.getElem?_eq_some_iff.mp hc
    have q := List.all_eq_true.mp ((Array.all_eq_true_iff_forall_mem.mp hF) _ (Array.getElem_mem ha)) i (List.mem_range.mpr hi)
    simpa [Array.getElem?_eq_getElem hi] using q
  obtain ⟨hsets, hown0⟩ := atoms_of _ (rest_1_c_eq ▸ (show rest_1_c.before _ s = true from hrest))
  obtain ⟨i0, ei0⟩ := is_v g3
  obtain rfl : w0 = (.int i0) := Option.some.inj ei0
  obtain ⟨i1, ei1⟩ := isL_v g5
  obtain rfl : w1 = (.long i1) := Option.some.inj ei1
  obtain ⟨i2, ei2⟩ := is_v g7
  obtain rfl : w2 = (.int i2) := Option.some.inj ei2
  obtain ⟨i3, ei3⟩ := isL_v g9
  obtain rfl : w3 = (.long i3) := Option.some.inj ei3
  obtain ⟨i4, ei4⟩ := is_v g11
  obtain rfl : w4 = (.int i4) := Option.some.inj ei4
  obtain ⟨i5, ei5⟩ := is_v g12
  obtain rfl : w5 = (.int i5) := Option.some.inj ei5
  obtain ⟨m1, m2⟩ := and_e hn
  obtain ⟨m3, m4⟩ := and_e m2
  obtain ⟨m5, m6⟩ := and_e m4
  obtain ⟨m7, m8⟩ := and_e m6
  obtain ⟨m9, m10⟩ := and_e m8
  obtain ⟨m11, m12⟩ := and_e m10
  obtain ⟨m13, m14⟩ := and_e m12
  obtain ⟨m15, m16⟩ := and_e m14
  obtain ⟨m17, m18⟩ := and_e m16
  obtain ⟨w_IR, evw_IR⟩ := exa_v m3
  obtain ⟨w_R, evw_R⟩ := exa_v m13
  obtain ⟨w_U, evw_U⟩ := exa_v m1
  obtain ⟨w_IW, evw_IW⟩ := exa_v m9
  obtain ⟨w_W, evw_W⟩ := exa_v m11
  have WW : World s s.heap w_IR w_R w_U w_IW w_W := ⟨Sta.start evw_IR (Or.inr ⟨(hw _ (List.mem_of_getElem? (i := 6) rfl)), (hw _ (List.mem_of_getElem? (i := 9) rfl))⟩), Sta.start evw_R (Or.inr ⟨(hw _ (List.mem_of_getElem? (i := 6) rfl)), (hw _ (List.mem_of_getElem? (i := 76) rfl))⟩), Sta.start evw_U (Or.inr ⟨(hw _ (List.mem_of_getElem? (i := 6) rfl)), (hw _ (List.mem_of_getElem? (i := 7) rfl))⟩), Sta.start evw_IW (Or.inr ⟨(hw _ (List.mem_of_getElem? (i := 6) rfl)), (hw _ (List.mem_of_getElem? (i := 47) rfl))⟩), Sta.start evw_W (Or.inr ⟨(hw _ (List.mem_of_getElem? (i := 6) rfl)), (hw _ (List.mem_of_getElem? (i := 73) rfl))⟩), Exa.start evw_IR m3, Exa.start evw_R m13, Exa.start evw_U m1, Exa.start evw_IW m9, Exa.start evw_W m11, Fld.start ((fld_at evw_IR).symm.trans (own_eqI m7)), Fld.start ((fld_at evw_R).symm.trans (own_eqI m15)), Fld.start ((fld_at evw_U).symm.trans (own_eqI m5)), Fld.start ((fld_at evw_IW).symm.trans (own_eqI m18)), Fld.start ((fld_at evw_W).symm.trans (own_eqI m17))⟩
  have ha4 := Cond.before_iff.mp (hsets _ (List.mem_of_getElem? (i := 4) rfl))
  obtain ⟨cA, evc⟩ := arr_v ha4
  obtain ⟨cl, AR⟩ := Arr.start evc ha4
  have hlen := own_eqI (Cond.before_iff.mp (hsets _ (List.mem_of_getElem? (i := 6) rfl)))
  obtain ⟨hl1, hl2⟩ := own_len evc AR hlen
  have SC : Sta s s.heap "java/lang/Integer$IntegerCache" "cache" "[Ljava/lang/Integer;" (.ref cA) := Sta.start evc (Or.inr ⟨(hw _ (List.mem_of_getElem? (i := 53) rfl)), (hsets _ (List.mem_of_getElem? (i := 2) rfl))⟩)
  have SH : Sta s s.heap "java/lang/Integer$IntegerCache" "high" "I" (.int (127 : Int32)) := Sta.start (own_eqI (Cond.before_iff.mp (hsets _ (List.mem_of_getElem? (i := 3) rfl)))) (Or.inl (hsets _ (List.mem_of_getElem? (i := 1) rfl)))
  have JC : Bxs s cA cl "java/lang/Integer" "I" 256 (fun j => .int (j - 128)) := Bxs.start (fun _ => evc) AR hl1 hl2 (by decide) (Cond.before_iff.mp (hsets _ (List.mem_of_getElem? (i := 7) rfl))) (fun X j hj h => eqv_i (own_sub hj) h)
  obtain ⟨n, o, h1, h2, h3, _, L, rfl, ⟨rfl, N⟩, hq⟩ := rm0 l s _ hw tables_1 i0 i1 i2 i3 i4 i5 w_IR w_R w_U w_IW w_W cA cl s.heap s.heap.size (Nat.le_refl _) WW (Old.start s) JC SC SH p e ha hc hk s m _ below hf ((Spec.applies_iff_loose hf).mp happ).1 ⟨rfl, State.Warmed39.refl s, rfl⟩ trivial
  refine ⟨n, _, h1, h2, h3, hpost _ _ _ _ _ _ ⟨Cond.after_iff.mpr rfl, Cond.after_iff.mpr (eq_i res_at (Term.int_eval (1)) rfl), trivial⟩ ⟨hq.1, hq.2.1, hq.2.2.1, (hq.2.2.2.sift fun y hy => Or.inr (N y hy)).mono (by decide) (by decide)⟩⟩
theorem main_1_1 : Claimed_1_1 := comes_1 fun _ _ _ _ _ _ h hF => ⟨h.1, hF⟩
theorem main_1_2 : Claimed_1_2 := comes_1 fun _ _ _ _ _ _ h hF => ⟨h.2.1, hF⟩
end Jvm.Pilot.@@N@@
namespace Jvm.Pilot.@@N@@
open Jvm Jvm.ClassFile Sem Op Lib Jvm.Free Jvm.Stand Jvm.Pilot.@@N@@.Jvm.D
/-! MADE BY PROGRAM (witnessworld.py) out of the Statement's table words and the real class files: 21 classes; the members and pool entries that the words name. The judged class is class 1, her method 2. -/
namespace start1
open Jvm.ClassFile
def u (s : String) : CpInfo := .utf8 (stringToUtf16 s)
/-- a pool by its gaps: so many unusable entries, then the entry; so many at the end -/
def gap : Nat → List CpInfo → List CpInfo
  | 0, r => r
  | n + 1, r => .unusable :: gap n r
def poolList (es : List (Nat × CpInfo)) (last : Nat) : List CpInfo := es.foldr (fun e r => gap e.1 (e.2 :: r)) (gap last [])
def pool (es : List (Nat × CpInfo)) (last : Nat) : Array CpInfo := ⟨poolList es last⟩
def fileOf (pool : Array CpInfo) (this : Nat) (attrs : Array Attribute := #[]) (ms : Array MethodInfo := #[]) (fl : Nat := 33) (sup : Nat := 0) (ifs : Array Nat := #[]) (fds : Array FieldInfo := #[]) : ClassFile where
  minorVersion := 0
  majorVersion := 65
  constantPool := pool
  accessFlags := fl
  thisClass := this
  superClass := sup
  interfaces := ifs
  fields := fds
  methods := ms
  attributes := attrs
def plain (name : String) (sup : Option ClassId) : Class where
  name := name
  kind := .ordinary
  loader := none
  accessFlags := 33
  super := sup
  interfaces := #[]
  cf := none
  fields := #[]
  methods := #[]
  instanceTypes := #[]
  staticTypes := #[]
  resolved := #[]
  callSites := []
  init := .initialized
  statics := none
  mirror := none

def pool0 : Array CpInfo := pool [(5, u "<init>"), (0, u "()V"), (1, .class_ 10), (1, u "java/lang/Object")] 113

def k0c0 : Code := { maxStack := 0, maxLocals := 1, code := object_method_1_code, exceptionTable := #[], attributes := #[] }
def k0m0 : Method := { name := "<init>", desc := "()V", sig := { parameters := [], returnType := none }, accessFlags := 1, code := some k0c0 }
/-- java/lang/Object -/
def k0 : Class := { plain "java/lang/Object" none with
  accessFlags := 33
  interfaces := #[]
  cf := some (fileOf pool0 8 #[] #[{ accessFlags := 1, nameIndex := 5, descriptorIndex := 6, attributes := #[] }] 33 0 #[] #[])
  fields := #[]
  methods := #[k0m0]
  instanceTypes := #[]
  staticTypes := #[]
  resolved := Array.replicate 124 none
  statics := none }

def pool1 : Array CpInfo := pool [(2, .class_ 4), (1, u "java/lang/Object"), (0, u "<init>"), (0, u "()V"), (0, .integer 2147483647), (0, .fieldref 9 10), (0, .class_ 11), (0, .nameAndType 12 13), (0, u "com/example/libdmutex/libdmutex/core/Mode"), (0, u "IR"), (0, u "Lcom/example/libdmutex/libdmutex/core/Mode;"), (0, .fieldref 9 15), (0, .nameAndType 16 13), (0, u "R"), (0, .fieldref 9 18), (0, .nameAndType 19 13), (0, u "U"), (0, .fieldref 9 21), (0, .nameAndType 22 13), (0, u "IW"), (0, .fieldref 9 24), (0, .nameAndType 25 13), (0, u "W"), (0, .methodref 27 28), (0, .class_ 29), (0, .nameAndType 30 31), (0, u "com/example/libdmutex/libdmutex/core/QueuedEqualsPinLaw"), (0, u "mode"), (0, u "(I)Lcom/example/libdmutex/libdmutex/core/Mode;"), (0, .class_ 33), (0, u "com/example/libdmutex/libdmutex/core/TokenTree$Token$Queued"), (0, .methodref 32 35), (0, .nameAndType 5 36), (0, u "(IJLcom/example/libdmutex/libdmutex/core/Mode;)V"), (0, .methodref 32 38), (0, .nameAndType 39 40), (0, u "equals"), (0, u "(Ljava/lang/Object;)Z"), (0, .methodref 42 43), (0, .class_ 44), (0, .nameAndType 45 46), (0, u "java/lang/Integer"), (0, u "valueOf"), (0, u "(I)Ljava/lang/Integer;"), (3, u "law"), (0, u "(IJIJII)Z")] 9

def k1m0 : Method := { name := "<init>", desc := "()V", sig := { parameters := [], returnType := none }, accessFlags := 2, code := none }
def k1c1 : Code := { maxStack := 2, maxLocals := 2, code := method_2_code, exceptionTable := #[], attributes := #[] }
def k1m1 : Method := { name := "mode", desc := "(I)Lcom/example/libdmutex/libdmutex/core/Mode;", sig := { parameters := [.int], returnType := some (.object "com/example/libdmutex/libdmutex/core/Mode") }, accessFlags := 10, code := some k1c1 }
def k1c2 : Code := { maxStack := 6, maxLocals := 17, code := code, exceptionTable := #[], attributes := #[] }
def k1m2 : Method := { name := "law", desc := "(IJIJII)Z", sig := { parameters := [.int, .long, .int, .long, .int, .int], returnType := some .boolean }, accessFlags := 9, code := some k1c2 }
/-- com/example/libdmutex/libdmutex/core/QueuedEqualsPinLaw -/
def k1 : Class := { plain "com/example/libdmutex/libdmutex/core/QueuedEqualsPinLaw" (some 0) with
  accessFlags := 49
  interfaces := #[]
  cf := some (fileOf pool1 27 #[] #[{ accessFlags := 2, nameIndex := 5, descriptorIndex := 6, attributes := #[] }, { accessFlags := 10, nameIndex := 30, descriptorIndex := 31, attributes := #[] }, { accessFlags := 9, nameIndex := 50, descriptorIndex := 51, attributes := #[] }] 49 2 #[] #[])
  fields := #[]
  methods := #[k1m0, k1m1, k1m2]
  instanceTypes := #[]
  staticTypes := #[]
  resolved := Array.replicate 61 none
  statics := none }

def pool2 : Array CpInfo := pool [(1, .class_ 2), (0, u "java/lang/constant/Constable"), (0, .class_ 4), (0, u "java/lang/Object")] 6

/-- java/lang/constant/Constable -/
def k2 : Class := { plain "java/lang/constant/Constable" (some 0) with
  accessFlags := 1537
  interfaces := #[]
  cf := some (fileOf pool2 1 #[] #[] 1537 3 #[] #[])
  fields := #[]
  methods := #[]
  instanceTypes := #[]
  staticTypes := #[]
  resolved := Array.replicate 11 none
  statics := none }

def pool3 : Array CpInfo := pool [(1, .class_ 2), (0, u "java/lang/Comparable"), (0, .class_ 4), (0, u "java/lang/Object")] 7

/-- java/lang/Comparable -/
def k3 : Class := { plain "java/lang/Comparable" (some 0) with
  accessFlags := 1537
  interfaces := #[]
  cf := some (fileOf pool3 1 #[] #[] 1537 3 #[] #[])
  fields := #[]
  methods := #[]
  instanceTypes := #[]
  staticTypes := #[]
  resolved := Array.replicate 12 none
  statics := none }

def pool4 : Array CpInfo := pool [(1, .class_ 2), (0, u "java/io/Serializable"), (0, .class_ 4), (0, u "java/lang/Object")] 2

/-- java/io/Serializable -/
def k4 : Class := { plain "java/io/Serializable" (some 0) with
  accessFlags := 1537
  interfaces := #[]
  cf := some (fileOf pool4 1 #[] #[] 1537 3 #[] #[])
  fields := #[]
  methods := #[]
  instanceTypes := #[]
  staticTypes := #[]
  resolved := Array.replicate 7 none
  statics := none }

def pool5 : Array CpInfo := pool [(2, .class_ 4), (1, u "java/lang/Enum"), (0, u "name"), (0, u "Ljava/lang/String;"), (2, u "ordinal"), (0, u "I"), (1, .class_ 14), (1, u "java/lang/Object"), (4, u "hash"), (86, .class_ 108), (1, u "java/lang/Enum$EnumDesc"), (2, .class_ 112), (0, u "java/lang/constant/Constable"), (0, .class_ 114), (0, u "java/lang/Comparable"), (0, .class_ 116), (0, u "java/io/Serializable")] 87

/-- java/lang/Enum -/
def k5 : Class := { plain "java/lang/Enum" (some 0) with
  accessFlags := 1057
  interfaces := #[2, 3, 4]
  cf := some (fileOf pool5 2 #[.nestMembers #[106]] #[] 1057 12 #[111, 113, 115] #[{ accessFlags := 18, nameIndex := 5, descriptorIndex := 6, attributes := #[] }, { accessFlags := 18, nameIndex := 9, descriptorIndex := 10, attributes := #[] }, { accessFlags := 2, nameIndex := 19, descriptorIndex := 10, attributes := #[] }])
  fields := #[{ name := "name", type := (.object "java/lang/String"), accessFlags := 18, slot := 0, constantValue := 0 }, { name := "ordinal", type := .int, accessFlags := 18, slot := 1, constantValue := 0 }, { name := "hash", type := .int, accessFlags := 2, slot := 2, constantValue := 0 }]
  methods := #[]
  instanceTypes := #[(.object "java/lang/String"), .int, .int]
  staticTypes := #[]
  resolved := Array.replicate 204 none
  statics := none }

def pool6 : Array CpInfo := pool [(1, .class_ 2), (0, u "com/example/libdmutex/libdmutex/core/Mode"), (2, u "IR"), (0, u "Lcom/example/libdmutex/libdmutex/core/Mode;"), (2, u "R"), (2, u "U"), (2, u "IW"), (2, u "W"), (2, u "$VALUES"), (0, u "[Lcom/example/libdmutex/libdmutex/core/Mode;"), (6, .class_ 31), (1, u "java/lang/Enum"), (8, u "strength"), (0, u "I"), (22, u "COMPATIBLE"), (0, u "[[Z")] 94

/-- com/example/libdmutex/libdmutex/core/Mode -/
def k6 : Class := { plain "com/example/libdmutex/libdmutex/core/Mode" (some 5) with
  accessFlags := 16433
  interfaces := #[]
  cf := some (fileOf pool6 1 #[] #[] 16433 29 #[] #[{ accessFlags := 16409, nameIndex := 5, descriptorIndex := 6, attributes := #[] }, { accessFlags := 16409, nameIndex := 9, descriptorIndex := 6, attributes := #[] }, { accessFlags := 16409, nameIndex := 12, descriptorIndex := 6, attributes := #[] }, { accessFlags := 16409, nameIndex := 15, descriptorIndex := 6, attributes := #[] }, { accessFlags := 16409, nameIndex := 18, descriptorIndex := 6, attributes := #[] }, { accessFlags := 26, nameIndex := 64, descriptorIndex := 65, attributes := #[] }, { accessFlags := 18, nameIndex := 40, descriptorIndex := 41, attributes := #[] }, { accessFlags := 4122, nameIndex := 21, descriptorIndex := 22, attributes := #[] }])
  fields := #[{ name := "IR", type := (.object "com/example/libdmutex/libdmutex/core/Mode"), accessFlags := 16409, slot := 0, constantValue := 0 }, { name := "R", type := (.object "com/example/libdmutex/libdmutex/core/Mode"), accessFlags := 16409, slot := 1, constantValue := 0 }, { name := "U", type := (.object "com/example/libdmutex/libdmutex/core/Mode"), accessFlags := 16409, slot := 2, constantValue := 0 }, { name := "IW", type := (.object "com/example/libdmutex/libdmutex/core/Mode"), accessFlags := 16409, slot := 3, constantValue := 0 }, { name := "W", type := (.object "com/example/libdmutex/libdmutex/core/Mode"), accessFlags := 16409, slot := 4, constantValue := 0 }, { name := "COMPATIBLE", type := (.array (.array .boolean)), accessFlags := 26, slot := 5, constantValue := 0 }, { name := "strength", type := .int, accessFlags := 18, slot := 3, constantValue := 0 }, { name := "$VALUES", type := (.array (.object "com/example/libdmutex/libdmutex/core/Mode")), accessFlags := 4122, slot := 6, constantValue := 0 }]
  methods := #[]
  instanceTypes := #[(.object "java/lang/String"), .int, .int, .int]
  staticTypes := #[(.object "com/example/libdmutex/libdmutex/core/Mode"), (.object "com/example/libdmutex/libdmutex/core/Mode"), (.object "com/example/libdmutex/libdmutex/core/Mode"), (.object "com/example/libdmutex/libdmutex/core/Mode"), (.object "com/example/libdmutex/libdmutex/core/Mode"), (.array (.array .boolean)), (.array (.object "com/example/libdmutex/libdmutex/core/Mode"))]
  resolved := Array.replicate 160 none
  statics := some 0 }

def pool7 : Array CpInfo := pool [(1, .methodref 2 3), (0, .class_ 4), (0, .nameAndType 5 6), (0, u "java/lang/Object"), (0, u "<init>"), (0, u "()V"), (0, .fieldref 8 9), (0, .class_ 10), (0, .nameAndType 11 12), (0, u "com/example/libdmutex/libdmutex/core/TokenTree$Token$Queued"), (0, u "peer"), (0, u "I"), (0, .fieldref 8 14), (0, .nameAndType 15 16), (0, u "ticket"), (0, u "J"), (0, .string 18), (0, u "mode"), (0, .methodref 20 21), (0, .class_ 22), (0, .nameAndType 23 24), (0, u "java/util/Objects"), (0, u "requireNonNull"), (0, u "(Ljava/lang/Object;Ljava/lang/String;)Ljava/lang/Object;"), (0, .class_ 26), (0, u "com/example/libdmutex/libdmutex/core/Mode"), (0, .fieldref 8 28), (0, .nameAndType 18 29), (0, u "Lcom/example/libdmutex/libdmutex/core/Mode;"), (24, u "(IJLcom/example/libdmutex/libdmutex/core/Mode;)V"), (5, u "equals"), (0, u "(Ljava/lang/Object;)Z"), (7, .class_ 70), (0, u "com/example/libdmutex/libdmutex/core/TokenTree")] 19

def k7c0 : Code := { maxStack := 3, maxLocals := 5, code := prog_62_method_1_code, exceptionTable := #[], attributes := #[] }
def k7m0 : Method := { name := "<init>", desc := "(IJLcom/example/libdmutex/libdmutex/core/Mode;)V", sig := { parameters := [.int, .long, (.object "com/example/libdmutex/libdmutex/core/Mode")], returnType := none }, accessFlags := 1, code := some k7c0 }
def k7c1 : Code := { maxStack := 4, maxLocals := 3, code := prog_62_method_5_code, exceptionTable := #[], attributes := #[] }
def k7m1 : Method := { name := "equals", desc := "(Ljava/lang/Object;)Z", sig := { parameters := [(.object "java/lang/Object")], returnType := some .boolean }, accessFlags := 1, code := some k7c1 }
/-- com/example/libdmutex/libdmutex/core/TokenTree$Token$Queued -/
def k7 : Class := { plain "com/example/libdmutex/libdmutex/core/TokenTree$Token$Queued" (some 0) with
  accessFlags := 49
  interfaces := #[]
  cf := some (fileOf pool7 8 #[.nestHost 69] #[{ accessFlags := 1, nameIndex := 5, descriptorIndex := 54, attributes := #[] }, { accessFlags := 1, nameIndex := 60, descriptorIndex := 61, attributes := #[] }] 49 2 #[] #[{ accessFlags := 18, nameIndex := 11, descriptorIndex := 12, attributes := #[] }, { accessFlags := 18, nameIndex := 15, descriptorIndex := 16, attributes := #[] }, { accessFlags := 18, nameIndex := 18, descriptorIndex := 29, attributes := #[] }])
  fields := #[{ name := "peer", type := .int, accessFlags := 18, slot := 0, constantValue := 0 }, { name := "ticket", type := .long, accessFlags := 18, slot := 1, constantValue := 0 }, { name := "mode", type := (.object "com/example/libdmutex/libdmutex/core/Mode"), accessFlags := 18, slot := 2, constantValue := 0 }]
  methods := #[k7m0, k7m1]
  instanceTypes := #[.int, .long, (.object "com/example/libdmutex/libdmutex/core/Mode")]
  staticTypes := #[]
  resolved := Array.replicate 90 none
  statics := none }

def pool8 : Array CpInfo := pool [(2, .class_ 4), (1, u "java/lang/CharSequence"), (42, .class_ 48), (0, u "java/lang/CharSequence$1CodePointIterator"), (10, .class_ 60), (0, u "java/lang/CharSequence$1CharIterator"), (5, .class_ 67), (0, u "java/lang/Object")] 63

/-- java/lang/CharSequence -/
def k8 : Class := { plain "java/lang/CharSequence" (some 0) with
  accessFlags := 1537
  interfaces := #[]
  cf := some (fileOf pool8 2 #[.nestMembers #[47, 59]] #[] 1537 66 #[] #[])
  fields := #[]
  methods := #[]
  instanceTypes := #[]
  staticTypes := #[]
  resolved := Array.replicate 131 none
  statics := none }

def pool9 : Array CpInfo := pool [(1, .class_ 2), (0, u "java/lang/constant/ConstantDesc"), (0, .class_ 4), (0, u "java/lang/Object")] 32

/-- java/lang/constant/ConstantDesc -/
def k9 : Class := { plain "java/lang/constant/ConstantDesc" (some 0) with
  accessFlags := 1537
  interfaces := #[]
  cf := some (fileOf pool9 1 #[] #[] 1537 3 #[] #[])
  fields := #[]
  methods := #[]
  instanceTypes := #[]
  staticTypes := #[]
  resolved := Array.replicate 37 none
  statics := none }

def pool10 : Array CpInfo := pool [(2, .class_ 4), (1, u "java/lang/Object"), (0, u "<init>"), (0, u "()V"), (3, .class_ 12), (1, u "java/lang/String"), (0, u "value"), (0, u "[B"), (2, u "coder"), (0, u "B"), (2, u "hash"), (0, u "I"), (2, u "hashIsZero"), (0, u "Z"), (13, u "COMPACT_STRINGS"), (534, .class_ 576), (0, u "java/lang/CharSequence"), (22, u "CASE_INSENSITIVE_ORDER"), (0, u "Ljava/util/Comparator;"), (500, u "serialPersistentFields"), (0, u "[Ljava/io/ObjectStreamField;"), (0, .class_ 1104), (0, u "java/lang/String$CaseInsensitiveComparator"), (1, .class_ 1107), (0, u "java/io/Serializable"), (0, .class_ 1109), (0, u "java/lang/Comparable"), (0, .class_ 1111), (0, u "java/lang/constant/Constable"), (0, .class_ 1113), (0, u "java/lang/constant/ConstantDesc"), (2, u "serialVersionUID"), (0, u "J"), (3, u "REPL"), (0, u "C"), (2, u "LATIN1"), (1, u "UTF16")] 323

def k10m0 : Method := { name := "<init>", desc := "()V", sig := { parameters := [], returnType := none }, accessFlags := 1, code := none }
/-- java/lang/String -/
def k10 : Class := { plain "java/lang/String" (some 0) with
  accessFlags := 49
  interfaces := #[4, 3, 8, 2, 9]
  cf := some (fileOf pool10 10 #[.nestMembers #[1103]] #[{ accessFlags := 1, nameIndex := 5, descriptorIndex := 6, attributes := #[] }] 49 2 #[1106, 1108, 575, 1110, 1112] #[{ accessFlags := 18, nameIndex := 13, descriptorIndex := 14, attributes := #[] }, { accessFlags := 18, nameIndex := 17, descriptorIndex := 18, attributes := #[] }, { accessFlags := 2, nameIndex := 21, descriptorIndex := 22, attributes := #[] }, { accessFlags := 2, nameIndex := 25, descriptorIndex := 26, attributes := #[] }, { accessFlags := 26, nameIndex := 1116, descriptorIndex := 1117, attributes := #[] }, { accessFlags := 24, nameIndex := 40, descriptorIndex := 26, attributes := #[] }, { accessFlags := 26, nameIndex := 1101, descriptorIndex := 1102, attributes := #[] }, { accessFlags := 26, nameIndex := 1121, descriptorIndex := 1122, attributes := #[] }, { accessFlags := 25, nameIndex := 599, descriptorIndex := 600, attributes := #[] }, { accessFlags := 24, nameIndex := 1125, descriptorIndex := 18, attributes := #[] }, { accessFlags := 24, nameIndex := 1127, descriptorIndex := 18, attributes := #[] }])
  fields := #[{ name := "value", type := (.array .byte), accessFlags := 18, slot := 0, constantValue := 0 }, { name := "coder", type := .byte, accessFlags := 18, slot := 1, constantValue := 0 }, { name := "hash", type := .int, accessFlags := 2, slot := 2, constantValue := 0 }, { name := "hashIsZero", type := .boolean, accessFlags := 2, slot := 3, constantValue := 0 }, { name := "serialVersionUID", type := .long, accessFlags := 26, slot := 0, constantValue := 0 }, { name := "COMPACT_STRINGS", type := .boolean, accessFlags := 24, slot := 1, constantValue := 0 }, { name := "serialPersistentFields", type := (.array (.object "java/io/ObjectStreamField")), accessFlags := 26, slot := 2, constantValue := 0 }, { name := "REPL", type := .char, accessFlags := 26, slot := 3, constantValue := 0 }, { name := "CASE_INSENSITIVE_ORDER", type := (.object "java/util/Comparator"), accessFlags := 25, slot := 4, constantValue := 0 }, { name := "LATIN1", type := .byte, accessFlags := 24, slot := 5, constantValue := 0 }, { name := "UTF16", type := .byte, accessFlags := 24, slot := 6, constantValue := 0 }]
  methods := #[k10m0]
  instanceTypes := #[(.array .byte), .byte, .int, .boolean]
  staticTypes := #[.long, .boolean, (.array (.object "java/io/ObjectStreamField")), .char, (.object "java/util/Comparator"), .byte, .byte]
  resolved := Array.replicate 1451 none
  statics := none }

def pool11 : Array CpInfo := pool [(2, .class_ 4), (1, u "java/lang/Object"), (0, u "<init>"), (0, u "()V"), (35, .class_ 44), (1, u "java/util/Objects"), (0, u "requireNonNull"), (48, u "(Ljava/lang/Object;Ljava/lang/String;)Ljava/lang/Object;")] 89

def k11m0 : Method := { name := "<init>", desc := "()V", sig := { parameters := [], returnType := none }, accessFlags := 2, code := none }
def k11c1 : Code := { maxStack := 3, maxLocals := 2, code := jdk_31_method_11_code, exceptionTable := #[], attributes := #[] }
def k11m1 : Method := { name := "requireNonNull", desc := "(Ljava/lang/Object;Ljava/lang/String;)Ljava/lang/Object;", sig := { parameters := [(.object "java/lang/Object"), (.object "java/lang/String")], returnType := some (.object "java/lang/Object") }, accessFlags := 9, code := some k11c1 }
/-- java/util/Objects -/
def k11 : Class := { plain "java/util/Objects" (some 0) with
  accessFlags := 49
  interfaces := #[]
  cf := some (fileOf pool11 42 #[] #[{ accessFlags := 2, nameIndex := 5, descriptorIndex := 6, attributes := #[] }, { accessFlags := 9, nameIndex := 45, descriptorIndex := 94, attributes := #[] }] 49 2 #[] #[])
  fields := #[]
  methods := #[k11m0, k11m1]
  instanceTypes := #[]
  staticTypes := #[]
  resolved := Array.replicate 184 none
  statics := none }

def pool12 : Array CpInfo := pool [(1, .methodref 2 3), (0, .class_ 4), (0, .nameAndType 5 6), (0, u "java/lang/Object"), (0, u "<init>"), (0, u "()V"), (1, .class_ 10), (1, u "java/lang/Number"), (2, .class_ 14), (0, u "java/io/Serializable"), (0, u "serialVersionUID"), (0, u "J")] 20

def k12c0 : Code := { maxStack := 1, maxLocals := 1, code := jdk_18_method_1_code, exceptionTable := #[], attributes := #[] }
def k12m0 : Method := { name := "<init>", desc := "()V", sig := { parameters := [], returnType := none }, accessFlags := 1, code := some k12c0 }
/-- java/lang/Number -/
def k12 : Class := { plain "java/lang/Number" (some 0) with
  accessFlags := 1057
  interfaces := #[4]
  cf := some (fileOf pool12 8 #[] #[{ accessFlags := 1, nameIndex := 5, descriptorIndex := 6, attributes := #[] }] 1057 2 #[13] #[{ accessFlags := 26, nameIndex := 15, descriptorIndex := 16, attributes := #[] }])
  fields := #[{ name := "serialVersionUID", type := .long, accessFlags := 26, slot := 0, constantValue := 0 }]
  methods := #[k12m0]
  instanceTypes := #[]
  staticTypes := #[.long]
  resolved := Array.replicate 37 none
  statics := none }

def pool13 : Array CpInfo := pool [(1, .class_ 2), (0, u "java/lang/Integer"), (16, u "digits"), (0, u "[C"), (46, u "<init>"), (17, u "DigitOnes"), (0, u "[B"), (2, u "DigitTens"), (10, .nameAndType 67 101), (0, u "()V"), (85, u "valueOf"), (0, u "(I)Ljava/lang/Integer;"), (0, .class_ 190), (0, u "java/lang/Integer$IntegerCache"), (0, .fieldref 189 192), (0, .nameAndType 193 194), (0, u "high"), (0, u "I"), (0, .fieldref 189 196), (0, .nameAndType 197 198), (0, u "cache"), (0, u "[Ljava/lang/Integer;"), (0, .methodref 1 200), (0, .nameAndType 67 201), (0, u "(I)V"), (0, .methodref 203 100), (0, .class_ 204), (0, u "java/lang/Number"), (0, .fieldref 1 206), (0, .nameAndType 207 194), (0, u "value"), (94, u "TYPE"), (0, u "Ljava/lang/Class;"), (0, .class_ 305), (0, u "java/lang/Comparable"), (0, .class_ 307), (0, u "java/lang/constant/Constable"), (0, .class_ 309), (0, u "java/lang/constant/ConstantDesc"), (0, u "MIN_VALUE"), (1, u "MAX_VALUE"), (3, u "SIZE"), (1, u "BYTES"), (1, u "serialVersionUID"), (0, u "J")] 131

def k13c0 : Code := { maxStack := 3, maxLocals := 1, code := jdk_33_method_22_code, exceptionTable := #[], attributes := #[] }
def k13m0 : Method := { name := "valueOf", desc := "(I)Ljava/lang/Integer;", sig := { parameters := [.int], returnType := some (.object "java/lang/Integer") }, accessFlags := 9, code := some k13c0 }
def k13c1 : Code := { maxStack := 2, maxLocals := 2, code := jdk_33_method_23_code, exceptionTable := #[], attributes := #[] }
def k13m1 : Method := { name := "<init>", desc := "(I)V", sig := { parameters := [.int], returnType := none }, accessFlags := 1, code := some k13c1 }
/-- java/lang/Integer -/
def k13 : Class := { plain "java/lang/Integer" (some 12) with
  accessFlags := 49
  interfaces := #[3, 2, 9]
  cf := some (fileOf pool13 1 #[.nestMembers #[189]] #[{ accessFlags := 9, nameIndex := 187, descriptorIndex := 188, attributes := #[] }, { accessFlags := 1, nameIndex := 67, descriptorIndex := 201, attributes := #[] }] 49 203 #[304, 306, 308] #[{ accessFlags := 25, nameIndex := 310, descriptorIndex := 194, attributes := #[] }, { accessFlags := 25, nameIndex := 312, descriptorIndex := 194, attributes := #[] }, { accessFlags := 25, nameIndex := 302, descriptorIndex := 303, attributes := #[] }, { accessFlags := 24, nameIndex := 19, descriptorIndex := 20, attributes := #[] }, { accessFlags := 24, nameIndex := 89, descriptorIndex := 86, attributes := #[] }, { accessFlags := 24, nameIndex := 85, descriptorIndex := 86, attributes := #[] }, { accessFlags := 18, nameIndex := 207, descriptorIndex := 194, attributes := #[] }, { accessFlags := 25, nameIndex := 316, descriptorIndex := 194, attributes := #[] }, { accessFlags := 25, nameIndex := 318, descriptorIndex := 194, attributes := #[] }, { accessFlags := 26, nameIndex := 320, descriptorIndex := 321, attributes := #[] }])
  fields := #[{ name := "MIN_VALUE", type := .int, accessFlags := 25, slot := 0, constantValue := 0 }, { name := "MAX_VALUE", type := .int, accessFlags := 25, slot := 1, constantValue := 0 }, { name := "TYPE", type := (.object "java/lang/Class"), accessFlags := 25, slot := 2, constantValue := 0 }, { name := "digits", type := (.array .char), accessFlags := 24, slot := 3, constantValue := 0 }, { name := "DigitTens", type := (.array .byte), accessFlags := 24, slot := 4, constantValue := 0 }, { name := "DigitOnes", type := (.array .byte), accessFlags := 24, slot := 5, constantValue := 0 }, { name := "value", type := .int, accessFlags := 18, slot := 0, constantValue := 0 }, { name := "SIZE", type := .int, accessFlags := 25, slot := 6, constantValue := 0 }, { name := "BYTES", type := .int, accessFlags := 25, slot := 7, constantValue := 0 }, { name := "serialVersionUID", type := .long, accessFlags := 26, slot := 8, constantValue := 0 }]
  methods := #[k13m0, k13m1]
  instanceTypes := #[.int]
  staticTypes := #[.int, .int, (.object "java/lang/Class"), (.array .char), (.array .byte), (.array .byte), .int, .int, .long]
  resolved := Array.replicate 453 none
  statics := none }

def pool14 : Array CpInfo := pool [(2, .class_ 4), (1, u "java/lang/Object"), (0, u "<init>"), (0, u "()V"), (0, .class_ 8), (0, u "java/lang/Integer"), (7, .class_ 18), (1, u "java/lang/Integer$IntegerCache"), (0, u "$assertionsDisabled"), (0, u "Z"), (26, u "high"), (0, u "I"), (8, u "archivedCache"), (0, u "[Ljava/lang/Integer;"), (12, u "cache"), (0, u "low")] 27

def k14m0 : Method := { name := "<init>", desc := "()V", sig := { parameters := [], returnType := none }, accessFlags := 2, code := none }
/-- java/lang/Integer$IntegerCache -/
def k14 : Class := { plain "java/lang/Integer$IntegerCache" (some 0) with
  accessFlags := 48
  interfaces := #[]
  cf := some (fileOf pool14 16 #[.nestHost 7] #[{ accessFlags := 2, nameIndex := 5, descriptorIndex := 6, attributes := #[] }] 48 2 #[] #[{ accessFlags := 24, nameIndex := 72, descriptorIndex := 48, attributes := #[] }, { accessFlags := 24, nameIndex := 47, descriptorIndex := 48, attributes := #[] }, { accessFlags := 24, nameIndex := 71, descriptorIndex := 58, attributes := #[] }, { accessFlags := 8, nameIndex := 57, descriptorIndex := 58, attributes := #[] }, { accessFlags := 4120, nameIndex := 19, descriptorIndex := 20, attributes := #[] }])
  fields := #[{ name := "low", type := .int, accessFlags := 24, slot := 0, constantValue := 0 }, { name := "high", type := .int, accessFlags := 24, slot := 1, constantValue := 0 }, { name := "cache", type := (.array (.object "java/lang/Integer")), accessFlags := 24, slot := 2, constantValue := 0 }, { name := "archivedCache", type := (.array (.object "java/lang/Integer")), accessFlags := 8, slot := 3, constantValue := 0 }, { name := "$assertionsDisabled", type := .boolean, accessFlags := 4120, slot := 4, constantValue := 0 }]
  methods := #[k14m0]
  instanceTypes := #[]
  staticTypes := #[.int, .int, (.array (.object "java/lang/Integer")), (.array (.object "java/lang/Integer")), .boolean]
  resolved := Array.replicate 100 none
  statics := some 1 }

def pool15 : Array CpInfo := pool [(1, u "java/lang/Cloneable"), (0, .class_ 1), (0, u "java/lang/Object"), (0, .class_ 3)] 3

/-- java/lang/Cloneable -/
def k15 : Class := { plain "java/lang/Cloneable" (some 0) with
  accessFlags := 1537
  interfaces := #[]
  cf := some (fileOf pool15 2 #[] #[] 1537 4 #[] #[])
  fields := #[]
  methods := #[]
  instanceTypes := #[]
  staticTypes := #[]
  resolved := Array.replicate 8 none
  statics := none }

/-- the primitive byte -/
def k16 : Class := { plain "byte" none with kind := .primitive 'B', accessFlags := 0x411 }
/-- [B -/
def k17 : Class := { plain "[B" (some 0) with kind := .array 16 .byte, interfaces := #[15, 4], accessFlags := 1041 }

/-- the primitive int -/
def k18 : Class := { plain "int" none with kind := .primitive 'I', accessFlags := 0x411 }
/-- [I -/
def k19 : Class := { plain "[I" (some 0) with kind := .array 18 .int, interfaces := #[15, 4], accessFlags := 1041 }

/-- [Ljava/lang/Integer; -/
def k20 : Class := { plain "[Ljava/lang/Integer;" (some 0) with kind := .array 13 (.object "java/lang/Integer"), interfaces := #[15, 4], accessFlags := 1041 }

def heap : Heap := #[{ cls := 6, slots := #[.ref 259, .ref 260, .ref 261, .ref 262, .ref 263, .null, .null], vm := .statics 6 },
  { cls := 14, slots := #[.int 0, .int 127, .ref 2, .null, .int 0], vm := .statics 14 },
  { cls := 20, slots := #[.ref 3, .ref 4, .ref 5, .ref 6, .ref 7, .ref 8, .ref 9, .ref 10, .ref 11, .ref 12, .ref 13, .ref 14, .ref 15, .ref 16, .ref 17, .ref 18, .ref 19, .ref 20, .ref 21, .ref 22, .ref 23, .ref 24, .ref 25, .ref 26, .ref 27, .ref 28, .ref 29, .ref 30, .ref 31, .ref 32, .ref 33, .ref 34, .ref 35, .ref 36, .ref 37, .ref 38, .ref 39, .ref 40, .ref 41, .ref 42, .ref 43, .ref 44, .ref 45, .ref 46, .ref 47, .ref 48, .ref 49, .ref 50, .ref 51, .ref 52, .ref 53, .ref 54, .ref 55, .ref 56, .ref 57, .ref 58, .ref 59, .ref 60, .ref 61, .ref 62, .ref 63, .ref 64, .ref 65, .ref 66, .ref 67, .ref 68, .ref 69, .ref 70, .ref 71, .ref 72, .ref 73, .ref 74, .ref 75, .ref 76, .ref 77, .ref 78, .ref 79, .ref 80, .ref 81, .ref 82, .ref 83, .ref 84, .ref 85, .ref 86, .ref 87, .ref 88, .ref 89, .ref 90, .ref 91, .ref 92, .ref 93, .ref 94, .ref 95, .ref 96, .ref 97, .ref 98, .ref 99, .ref 100, .ref 101, .ref 102, .ref 103, .ref 104, .ref 105, .ref 106, .ref 107, .ref 108, .ref 109, .ref 110, .ref 111, .ref 112, .ref 113, .ref 114, .ref 115, .ref 116, .ref 117, .ref 118, .ref 119, .ref 120, .ref 121, .ref 122, .ref 123, .ref 124, .ref 125, .ref 126, .ref 127, .ref 128, .ref 129, .ref 130, .ref 131, .ref 132, .ref 133, .ref 134, .ref 135, .ref 136, .ref 137, .ref 138, .ref 139, .ref 140, .ref 141, .ref 142, .ref 143, .ref 144, .ref 145, .ref 146, .ref 147, .ref 148, .ref 149, .ref 150, .ref 151, .ref 152, .ref 153, .ref 154, .ref 155, .ref 156, .ref 157, .ref 158, .ref 159, .ref 160, .ref 161, .ref 162, .ref 163, .ref 164, .ref 165, .ref 166, .ref 167, .ref 168, .ref 169, .ref 170, .ref 171, .ref 172, .ref 173, .ref 174, .ref 175, .ref 176, .ref 177, .ref 178, .ref 179, .ref 180, .ref 181, .ref 182, .ref 183, .ref 184, .ref 185, .ref 186, .ref 187, .ref 188, .ref 189, .ref 190, .ref 191, .ref 192, .ref 193, .ref 194, .ref 195, .ref 196, .ref 197, .ref 198, .ref 199, .ref 200, .ref 201, .ref 202, .ref 203, .ref 204, .ref 205, .ref 206, .ref 207, .ref 208, .ref 209, .ref 210, .ref 211, .ref 212, .ref 213, .ref 214, .ref 215, .ref 216, .ref 217, .ref 218, .ref 219, .ref 220, .ref 221, .ref 222, .ref 223, .ref 224, .ref 225, .ref 226, .ref 227, .ref 228, .ref 229, .ref 230, .ref 231, .ref 232, .ref 233, .ref 234, .ref 235, .ref 236, .ref 237, .ref 238, .ref 239, .ref 240, .ref 241, .ref 242, .ref 243, .ref 244, .ref 245, .ref 246, .ref 247, .ref 248, .ref 249, .ref 250, .ref 251, .ref 252, .ref 253, .ref 254, .ref 255, .ref 256, .ref 257, .ref 258], vm := .none },
  { cls := 13, slots := #[.int (-128)], vm := .none },
  { cls := 13, slots := #[.int (-127)], vm := .none },
  { cls := 13, slots := #[.int (-126)], vm := .none },
  { cls := 13, slots := #[.int (-125)], vm := .none },
  { cls := 13, slots := #[.int (-124)], vm := .none },
  { cls := 13, slots := #[.int (-123)], vm := .none },
  { cls := 13, slots := #[.int (-122)], vm := .none },
  { cls := 13, slots := #[.int (-121)], vm := .none },
  { cls := 13, slots := #[.int (-120)], vm := .none },
  { cls := 13, slots := #[.int (-119)], vm := .none },
  { cls := 13, slots := #[.int (-118)], vm := .none },
  { cls := 13, slots := #[.int (-117)], vm := .none },
  { cls := 13, slots := #[.int (-116)], vm := .none },
  { cls := 13, slots := #[.int (-115)], vm := .none },
  { cls := 13, slots := #[.int (-114)], vm := .none },
  { cls := 13, slots := #[.int (-113)], vm := .none },
  { cls := 13, slots := #[.int (-112)], vm := .none },
  { cls := 13, slots := #[.int (-111)], vm := .none },
  { cls := 13, slots := #[.int (-110)], vm := .none },
  { cls := 13, slots := #[.int (-109)], vm := .none },
  { cls := 13, slots := #[.int (-108)], vm := .none },
  { cls := 13, slots := #[.int (-107)], vm := .none },
  { cls := 13, slots := #[.int (-106)], vm := .none },
  { cls := 13, slots := #[.int (-105)], vm := .none },
  { cls := 13, slots := #[.int (-104)], vm := .none },
  { cls := 13, slots := #[.int (-103)], vm := .none },
  { cls := 13, slots := #[.int (-102)], vm := .none },
  { cls := 13, slots := #[.int (-101)], vm := .none },
  { cls := 13, slots := #[.int (-100)], vm := .none },
  { cls := 13, slots := #[.int (-99)], vm := .none },
  { cls := 13, slots := #[.int (-98)], vm := .none },
  { cls := 13, slots := #[.int (-97)], vm := .none },
  { cls := 13, slots := #[.int (-96)], vm := .none },
  { cls := 13, slots := #[.int (-95)], vm := .none },
  { cls := 13, slots := #[.int (-94)], vm := .none },
  { cls := 13, slots := #[.int (-93)], vm := .none },
  { cls := 13, slots := #[.int (-92)], vm := .none },
  { cls := 13, slots := #[.int (-91)], vm := .none },
  { cls := 13, slots := #[.int (-90)], vm := .none },
  { cls := 13, slots := #[.int (-89)], vm := .none },
  { cls := 13, slots := #[.int (-88)], vm := .none },
  { cls := 13, slots := #[.int (-87)], vm := .none },
  { cls := 13, slots := #[.int (-86)], vm := .none },
  { cls := 13, slots := #[.int (-85)], vm := .none },
  { cls := 13, slots := #[.int (-84)], vm := .none },
  { cls := 13, slots := #[.int (-83)], vm := .none },
  { cls := 13, slots := #[.int (-82)], vm := .none },
  { cls := 13, slots := #[.int (-81)], vm := .none },
  { cls := 13, slots := #[.int (-80)], vm := .none },
  { cls := 13, slots := #[.int (-79)], vm := .none },
  { cls := 13, slots := #[.int (-78)], vm := .none },
  { cls := 13, slots := #[.int (-77)], vm := .none },
  { cls := 13, slots := #[.int (-76)], vm := .none },
  { cls := 13, slots := #[.int (-75)], vm := .none },
  { cls := 13, slots := #[.int (-74)], vm := .none },
  { cls := 13, slots := #[.int (-73)], vm := .none },
  { cls := 13, slots := #[.int (-72)], vm := .none },
  { cls := 13, slots := #[.int (-71)], vm := .none },
  { cls := 13, slots := #[.int (-70)], vm := .none },
  { cls := 13, slots := #[.int (-69)], vm := .none },
  { cls := 13, slots := #[.int (-68)], vm := .none },
  { cls := 13, slots := #[.int (-67)], vm := .none },
  { cls := 13, slots := #[.int (-66)], vm := .none },
  { cls := 13, slots := #[.int (-65)], vm := .none },
  { cls := 13, slots := #[.int (-64)], vm := .none },
  { cls := 13, slots := #[.int (-63)], vm := .none },
  { cls := 13, slots := #[.int (-62)], vm := .none },
  { cls := 13, slots := #[.int (-61)], vm := .none },
  { cls := 13, slots := #[.int (-60)], vm := .none },
  { cls := 13, slots := #[.int (-59)], vm := .none },
  { cls := 13, slots := #[.int (-58)], vm := .none },
  { cls := 13, slots := #[.int (-57)], vm := .none },
  { cls := 13, slots := #[.int (-56)], vm := .none },
  { cls := 13, slots := #[.int (-55)], vm := .none },
  { cls := 13, slots := #[.int (-54)], vm := .none },
  { cls := 13, slots := #[.int (-53)], vm := .none },
  { cls := 13, slots := #[.int (-52)], vm := .none },
  { cls := 13, slots := #[.int (-51)], vm := .none },
  { cls := 13, slots := #[.int (-50)], vm := .none },
  { cls := 13, slots := #[.int (-49)], vm := .none },
  { cls := 13, slots := #[.int (-48)], vm := .none },
  { cls := 13, slots := #[.int (-47)], vm := .none },
  { cls := 13, slots := #[.int (-46)], vm := .none },
  { cls := 13, slots := #[.int (-45)], vm := .none },
  { cls := 13, slots := #[.int (-44)], vm := .none },
  { cls := 13, slots := #[.int (-43)], vm := .none },
  { cls := 13, slots := #[.int (-42)], vm := .none },
  { cls := 13, slots := #[.int (-41)], vm := .none },
  { cls := 13, slots := #[.int (-40)], vm := .none },
  { cls := 13, slots := #[.int (-39)], vm := .none },
  { cls := 13, slots := #[.int (-38)], vm := .none },
  { cls := 13, slots := #[.int (-37)], vm := .none },
  { cls := 13, slots := #[.int (-36)], vm := .none },
  { cls := 13, slots := #[.int (-35)], vm := .none },
  { cls := 13, slots := #[.int (-34)], vm := .none },
  { cls := 13, slots := #[.int (-33)], vm := .none },
  { cls := 13, slots := #[.int (-32)], vm := .none },
  { cls := 13, slots := #[.int (-31)], vm := .none },
  { cls := 13, slots := #[.int (-30)], vm := .none },
  { cls := 13, slots := #[.int (-29)], vm := .none },
  { cls := 13, slots := #[.int (-28)], vm := .none },
  { cls := 13, slots := #[.int (-27)], vm := .none },
  { cls := 13, slots := #[.int (-26)], vm := .none },
  { cls := 13, slots := #[.int (-25)], vm := .none },
  { cls := 13, slots := #[.int (-24)], vm := .none },
  { cls := 13, slots := #[.int (-23)], vm := .none },
  { cls := 13, slots := #[.int (-22)], vm := .none },
  { cls := 13, slots := #[.int (-21)], vm := .none },
  { cls := 13, slots := #[.int (-20)], vm := .none },
  { cls := 13, slots := #[.int (-19)], vm := .none },
  { cls := 13, slots := #[.int (-18)], vm := .none },
  { cls := 13, slots := #[.int (-17)], vm := .none },
  { cls := 13, slots := #[.int (-16)], vm := .none },
  { cls := 13, slots := #[.int (-15)], vm := .none },
  { cls := 13, slots := #[.int (-14)], vm := .none },
  { cls := 13, slots := #[.int (-13)], vm := .none },
  { cls := 13, slots := #[.int (-12)], vm := .none },
  { cls := 13, slots := #[.int (-11)], vm := .none },
  { cls := 13, slots := #[.int (-10)], vm := .none },
  { cls := 13, slots := #[.int (-9)], vm := .none },
  { cls := 13, slots := #[.int (-8)], vm := .none },
  { cls := 13, slots := #[.int (-7)], vm := .none },
  { cls := 13, slots := #[.int (-6)], vm := .none },
  { cls := 13, slots := #[.int (-5)], vm := .none },
  { cls := 13, slots := #[.int (-4)], vm := .none },
  { cls := 13, slots := #[.int (-3)], vm := .none },
  { cls := 13, slots := #[.int (-2)], vm := .none },
  { cls := 13, slots := #[.int (-1)], vm := .none },
  { cls := 13, slots := #[.int (0)], vm := .none },
  { cls := 13, slots := #[.int (1)], vm := .none },
  { cls := 13, slots := #[.int (2)], vm := .none },
  { cls := 13, slots := #[.int (3)], vm := .none },
  { cls := 13, slots := #[.int (4)], vm := .none },
  { cls := 13, slots := #[.int (5)], vm := .none },
  { cls := 13, slots := #[.int (6)], vm := .none },
  { cls := 13, slots := #[.int (7)], vm := .none },
  { cls := 13, slots := #[.int (8)], vm := .none },
  { cls := 13, slots := #[.int (9)], vm := .none },
  { cls := 13, slots := #[.int (10)], vm := .none },
  { cls := 13, slots := #[.int (11)], vm := .none },
  { cls := 13, slots := #[.int (12)], vm := .none },
  { cls := 13, slots := #[.int (13)], vm := .none },
  { cls := 13, slots := #[.int (14)], vm := .none },
  { cls := 13, slots := #[.int (15)], vm := .none },
  { cls := 13, slots := #[.int (16)], vm := .none },
  { cls := 13, slots := #[.int (17)], vm := .none },
  { cls := 13, slots := #[.int (18)], vm := .none },
  { cls := 13, slots := #[.int (19)], vm := .none },
  { cls := 13, slots := #[.int (20)], vm := .none },
  { cls := 13, slots := #[.int (21)], vm := .none },
  { cls := 13, slots := #[.int (22)], vm := .none },
  { cls := 13, slots := #[.int (23)], vm := .none },
  { cls := 13, slots := #[.int (24)], vm := .none },
  { cls := 13, slots := #[.int (25)], vm := .none },
  { cls := 13, slots := #[.int (26)], vm := .none },
  { cls := 13, slots := #[.int (27)], vm := .none },
  { cls := 13, slots := #[.int (28)], vm := .none },
  { cls := 13, slots := #[.int (29)], vm := .none },
  { cls := 13, slots := #[.int (30)], vm := .none },
  { cls := 13, slots := #[.int (31)], vm := .none },
  { cls := 13, slots := #[.int (32)], vm := .none },
  { cls := 13, slots := #[.int (33)], vm := .none },
  { cls := 13, slots := #[.int (34)], vm := .none },
  { cls := 13, slots := #[.int (35)], vm := .none },
  { cls := 13, slots := #[.int (36)], vm := .none },
  { cls := 13, slots := #[.int (37)], vm := .none },
  { cls := 13, slots := #[.int (38)], vm := .none },
  { cls := 13, slots := #[.int (39)], vm := .none },
  { cls := 13, slots := #[.int (40)], vm := .none },
  { cls := 13, slots := #[.int (41)], vm := .none },
  { cls := 13, slots := #[.int (42)], vm := .none },
  { cls := 13, slots := #[.int (43)], vm := .none },
  { cls := 13, slots := #[.int (44)], vm := .none },
  { cls := 13, slots := #[.int (45)], vm := .none },
  { cls := 13, slots := #[.int (46)], vm := .none },
  { cls := 13, slots := #[.int (47)], vm := .none },
  { cls := 13, slots := #[.int (48)], vm := .none },
  { cls := 13, slots := #[.int (49)], vm := .none },
  { cls := 13, slots := #[.int (50)], vm := .none },
  { cls := 13, slots := #[.int (51)], vm := .none },
  { cls := 13, slots := #[.int (52)], vm := .none },
  { cls := 13, slots := #[.int (53)], vm := .none },
  { cls := 13, slots := #[.int (54)], vm := .none },
  { cls := 13, slots := #[.int (55)], vm := .none },
  { cls := 13, slots := #[.int (56)], vm := .none },
  { cls := 13, slots := #[.int (57)], vm := .none },
  { cls := 13, slots := #[.int (58)], vm := .none },
  { cls := 13, slots := #[.int (59)], vm := .none },
  { cls := 13, slots := #[.int (60)], vm := .none },
  { cls := 13, slots := #[.int (61)], vm := .none },
  { cls := 13, slots := #[.int (62)], vm := .none },
  { cls := 13, slots := #[.int (63)], vm := .none },
  { cls := 13, slots := #[.int (64)], vm := .none },
  { cls := 13, slots := #[.int (65)], vm := .none },
  { cls := 13, slots := #[.int (66)], vm := .none },
  { cls := 13, slots := #[.int (67)], vm := .none },
  { cls := 13, slots := #[.int (68)], vm := .none },
  { cls := 13, slots := #[.int (69)], vm := .none },
  { cls := 13, slots := #[.int (70)], vm := .none },
  { cls := 13, slots := #[.int (71)], vm := .none },
  { cls := 13, slots := #[.int (72)], vm := .none },
  { cls := 13, slots := #[.int (73)], vm := .none },
  { cls := 13, slots := #[.int (74)], vm := .none },
  { cls := 13, slots := #[.int (75)], vm := .none },
  { cls := 13, slots := #[.int (76)], vm := .none },
  { cls := 13, slots := #[.int (77)], vm := .none },
  { cls := 13, slots := #[.int (78)], vm := .none },
  { cls := 13, slots := #[.int (79)], vm := .none },
  { cls := 13, slots := #[.int (80)], vm := .none },
  { cls := 13, slots := #[.int (81)], vm := .none },
  { cls := 13, slots := #[.int (82)], vm := .none },
  { cls := 13, slots := #[.int (83)], vm := .none },
  { cls := 13, slots := #[.int (84)], vm := .none },
  { cls := 13, slots := #[.int (85)], vm := .none },
  { cls := 13, slots := #[.int (86)], vm := .none },
  { cls := 13, slots := #[.int (87)], vm := .none },
  { cls := 13, slots := #[.int (88)], vm := .none },
  { cls := 13, slots := #[.int (89)], vm := .none },
  { cls := 13, slots := #[.int (90)], vm := .none },
  { cls := 13, slots := #[.int (91)], vm := .none },
  { cls := 13, slots := #[.int (92)], vm := .none },
  { cls := 13, slots := #[.int (93)], vm := .none },
  { cls := 13, slots := #[.int (94)], vm := .none },
  { cls := 13, slots := #[.int (95)], vm := .none },
  { cls := 13, slots := #[.int (96)], vm := .none },
  { cls := 13, slots := #[.int (97)], vm := .none },
  { cls := 13, slots := #[.int (98)], vm := .none },
  { cls := 13, slots := #[.int (99)], vm := .none },
  { cls := 13, slots := #[.int (100)], vm := .none },
  { cls := 13, slots := #[.int (101)], vm := .none },
  { cls := 13, slots := #[.int (102)], vm := .none },
  { cls := 13, slots := #[.int (103)], vm := .none },
  { cls := 13, slots := #[.int (104)], vm := .none },
  { cls := 13, slots := #[.int (105)], vm := .none },
  { cls := 13, slots := #[.int (106)], vm := .none },
  { cls := 13, slots := #[.int (107)], vm := .none },
  { cls := 13, slots := #[.int (108)], vm := .none },
  { cls := 13, slots := #[.int (109)], vm := .none },
  { cls := 13, slots := #[.int (110)], vm := .none },
  { cls := 13, slots := #[.int (111)], vm := .none },
  { cls := 13, slots := #[.int (112)], vm := .none },
  { cls := 13, slots := #[.int (113)], vm := .none },
  { cls := 13, slots := #[.int (114)], vm := .none },
  { cls := 13, slots := #[.int (115)], vm := .none },
  { cls := 13, slots := #[.int (116)], vm := .none },
  { cls := 13, slots := #[.int (117)], vm := .none },
  { cls := 13, slots := #[.int (118)], vm := .none },
  { cls := 13, slots := #[.int (119)], vm := .none },
  { cls := 13, slots := #[.int (120)], vm := .none },
  { cls := 13, slots := #[.int (121)], vm := .none },
  { cls := 13, slots := #[.int (122)], vm := .none },
  { cls := 13, slots := #[.int (123)], vm := .none },
  { cls := 13, slots := #[.int (124)], vm := .none },
  { cls := 13, slots := #[.int (125)], vm := .none },
  { cls := 13, slots := #[.int (126)], vm := .none },
  { cls := 13, slots := #[.int (127)], vm := .none },
  { cls := 6, slots := #[.null, .int 0, .int 0, .int 0], vm := .none },
  { cls := 6, slots := #[.null, .int 1, .int 0, .int 0], vm := .none },
  { cls := 6, slots := #[.null, .int 2, .int 0, .int 0], vm := .none },
  { cls := 6, slots := #[.null, .int 3, .int 0, .int 0], vm := .none },
  { cls := 6, slots := #[.null, .int 4, .int 0, .int 0], vm := .none }]
def classes : Array Class := #[k0, k1, k2, k3, k4, k5, k6, k7, k8, k9, k10, k11, k12, k13, k14, k15, k16, k17, k18, k19, k20]
def interned : List (Array UInt16 × Addr) := []
def slotsUsed : Nat := 544
def theMethod : MethodId := ⟨1, 2⟩
def args0 : Array Value := #[.int 5, .long 7, .int 7, .long 11, .int 1, .int 9]
def aboutOver (below : List Frame) : State where
  vm := { classes := classes, interned := interned.toArray }
  heap := heap
  slotsUsed := slotsUsed
  threads := #[{ frames := .invoking theMethod args0 :: below }]
def below0 : List Frame := [.native { method := ⟨0, 0⟩, args := #[] }]
def about1 : State := aboutOver below0
def p0 : Program := .bare "" "" ""
def e0 : Env := launch0.env 0 0 0
theorem w_frames : about1.frames = Frame.invoking theMethod args0 :: below0 := rfl
set_option maxRecDepth 65536 in
theorem w_args : argsFit about1.vm theMethod args0 = true := by decide +kernel
set_option maxRecDepth 65536 in
theorem w_heap : heapFits about1 = true := by decide +kernel
set_option maxRecDepth 65536 in
theorem w_runnable : about1.curStatus? = some .runnable := by decide +kernel
set_option maxRecDepth 65536 in
theorem w_alone : about1.alone = true := by decide +kernel
set_option maxRecDepth 65536 in
theorem w_named : about1.methodNamed? x = some theMethod := by decide +kernel
set_option maxRecDepth 65536 in
theorem w_hears : about1.hears theMethod below0 = true := by decide +kernel
set_option maxRecDepth 65536 in
theorem w_ripe : about1.ripe theMethod args0 below0 = true := by decide +kernel
theorem w_running : about1.status = .running := rfl
set_option maxRecDepth 65536 in
theorem w_room : about1.hasRoom e0.platform room_1 = true :=
  launch0.hasRoom_least _ room_1 (by decide +kernel) (by decide +kernel) (by decide +kernel) (by decide +kernel) (by decide +kernel) (by decide +kernel)
theorem allAtoms_all (ts : List Jvm.Cond) (a : Array Jvm.Value) (st : Jvm.State) : (allAtoms ts).before a st = ts.all (fun c => c.before a st) := by
  induction ts with
  | nil => rfl
  | cons c t ih =>
    show (Jvm.Cond.and c (allAtoms t)).before a st = _
    rw [Jvm.Cond.before_and, ih, List.all_cons]
def words1 : List Jvm.Cond := Jvm.Cond.code x code maxLocals ret :: tables_1
/-- a 'code' word, met by the world's own term for the bytes: nothing is compared byte by byte -/
theorem code_word {y : MethodName} {bytes : ByteArray} {mx : Nat} {rt : Option FieldType} {a : Array Value} {s : State} {m : MethodId} {meth : Method} {c : Code} (h1 : s.methodNamed? y = some m) (h2 : s.vm.method? m = some meth) (h3 : meth.code = some c) (h4 : c.code = bytes)
    (h5 : (c.maxLocals == mx && c.exceptionTable.isEmpty && decide (c.maxStack ≤ mostOperands) && decide (meth.sig.returnType = rt) && !meth.locks && decide (parseMethodDescriptor y.desc = some meth.sig)) = true) : (Jvm.Cond.code y bytes mx rt).before a s = true := by
  simp only [Bool.and_eq_true, beq_iff_eq, Bool.not_eq_true', decide_eq_true_eq] at h5
  obtain ⟨⟨⟨⟨⟨g1, g2⟩, g3⟩, g4⟩, g5⟩, g6⟩ := h5
  simp [Cond.before, Cond.holds, Cond.value, h1, h2, h3, h4, g1, g2, g3, g4, g5, g6]
def isCode : Jvm.Cond → Bool
  | .code _ _ _ _ => true
  | _ => false
theorem all_split {L : List Jvm.Cond} {P : Jvm.Cond → Bool} (h1 : L.all (fun c => isCode c || P c) = true) (h2 : ∀ c ∈ L.filter isCode, P c = true) : L.all P = true := by
  refine List.all_eq_true.mpr fun c hc => ?_
  have h := List.all_eq_true.mp h1 c hc
  rcases Bool.eq_false_or_eq_true (isCode c) with hi | hi
  · exact h2 c (List.mem_filter.mpr ⟨hc, hi⟩)
  · simpa [hi] using h
set_option maxRecDepth 65536 in
theorem w_c0 : (Jvm.Cond.code x code maxLocals ret).before args0 about1 = true := code_word (m := ⟨1, 2⟩) (meth := k1m2) (c := k1c2) (by decide +kernel) rfl rfl rfl (by decide +kernel)
set_option maxRecDepth 65536 in
theorem w_c1 : (Jvm.Cond.code ({ cls := "com/example/libdmutex/libdmutex/core/QueuedEqualsPinLaw", name := "mode", desc := "(I)Lcom/example/libdmutex/libdmutex/core/Mode;" } : Jvm.MethodName) method_2_code (2 : Nat) (Option.some (Jvm.ClassFile.FieldType.object "com/example/libdmutex/libdmutex/core/Mode"))).before args0 about1 = true := code_word (m := ⟨1, 1⟩) (meth := k1m1) (c := k1c1) (by decide +kernel) rfl rfl rfl (by decide +kernel)
set_option maxRecDepth 65536 in
theorem w_c2 : (Jvm.Cond.code ({ cls := "com/example/libdmutex/libdmutex/core/TokenTree$Token$Queued", name := "<init>", desc := "(IJLcom/example/libdmutex/libdmutex/core/Mode;)V" } : Jvm.MethodName) prog_62_method_1_code (5 : Nat) (Option.none : Option Jvm.ClassFile.FieldType)).before args0 about1 = true := code_word (m := ⟨7, 0⟩) (meth := k7m0) (c := k7c0) (by decide +kernel) rfl rfl rfl (by decide +kernel)
set_option maxRecDepth 65536 in
theorem w_c3 : (Jvm.Cond.code ({ cls := "java/lang/Object", name := "<init>", desc := "()V" } : Jvm.MethodName) object_method_1_code (1 : Nat) (Option.none : Option Jvm.ClassFile.FieldType)).before args0 about1 = true := code_word (m := ⟨0, 0⟩) (meth := k0m0) (c := k0c0) (by decide +kernel) rfl rfl rfl (by decide +kernel)
set_option maxRecDepth 65536 in
theorem w_c4 : (Jvm.Cond.code ({ cls := "java/util/Objects", name := "requireNonNull", desc := "(Ljava/lang/Object;Ljava/lang/String;)Ljava/lang/Object;" } : Jvm.MethodName) jdk_31_method_11_code (2 : Nat) (Option.some (Jvm.ClassFile.FieldType.object "java/lang/Object"))).before args0 about1 = true := code_word (m := ⟨11, 1⟩) (meth := k11m1) (c := k11c1) (by decide +kernel) rfl rfl rfl (by decide +kernel)
set_option maxRecDepth 65536 in
theorem w_c5 : (Jvm.Cond.code ({ cls := "com/example/libdmutex/libdmutex/core/TokenTree$Token$Queued", name := "equals", desc := "(Ljava/lang/Object;)Z" } : Jvm.MethodName) prog_62_method_5_code (3 : Nat) (Option.some Jvm.ClassFile.FieldType.boolean)).before args0 about1 = true := code_word (m := ⟨7, 1⟩) (meth := k7m1) (c := k7c1) (by decide +kernel) rfl rfl rfl (by decide +kernel)
set_option maxRecDepth 65536 in
theorem w_c6 : (Jvm.Cond.code ({ cls := "java/lang/Integer", name := "valueOf", desc := "(I)Ljava/lang/Integer;" } : Jvm.MethodName) jdk_33_method_22_code (1 : Nat) (Option.some (Jvm.ClassFile.FieldType.object "java/lang/Integer"))).before args0 about1 = true := code_word (m := ⟨13, 0⟩) (meth := k13m0) (c := k13c0) (by decide +kernel) rfl rfl rfl (by decide +kernel)
set_option maxRecDepth 65536 in
theorem w_c7 : (Jvm.Cond.code ({ cls := "java/lang/Integer", name := "<init>", desc := "(I)V" } : Jvm.MethodName) jdk_33_method_23_code (2 : Nat) (Option.none : Option Jvm.ClassFile.FieldType)).before args0 about1 = true := code_word (m := ⟨13, 1⟩) (meth := k13m1) (c := k13c1) (by decide +kernel) rfl rfl rfl (by decide +kernel)
set_option maxRecDepth 65536 in
theorem w_c8 : (Jvm.Cond.code ({ cls := "java/lang/Number", name := "<init>", desc := "()V" } : Jvm.MethodName) jdk_18_method_1_code (1 : Nat) (Option.none : Option Jvm.ClassFile.FieldType)).before args0 about1 = true := code_word (m := ⟨12, 0⟩) (meth := k12m0) (c := k12c0) (by decide +kernel) rfl rfl rfl (by decide +kernel)
def codes1 : List Jvm.Cond := [Jvm.Cond.code x code maxLocals ret, Jvm.Cond.code ({ cls := "com/example/libdmutex/libdmutex/core/QueuedEqualsPinLaw", name := "mode", desc := "(I)Lcom/example/libdmutex/libdmutex/core/Mode;" } : Jvm.MethodName) method_2_code (2 : Nat) (Option.some (Jvm.ClassFile.FieldType.object "com/example/libdmutex/libdmutex/core/Mode")), Jvm.Cond.code ({ cls := "com/example/libdmutex/libdmutex/core/TokenTree$Token$Queued", name := "<init>", desc := "(IJLcom/example/libdmutex/libdmutex/core/Mode;)V" } : Jvm.MethodName) prog_62_method_1_code (5 : Nat) (Option.none : Option Jvm.ClassFile.FieldType), Jvm.Cond.code ({ cls := "java/lang/Object", name := "<init>", desc := "()V" } : Jvm.MethodName) object_method_1_code (1 : Nat) (Option.none : Option Jvm.ClassFile.FieldType), Jvm.Cond.code ({ cls := "java/util/Objects", name := "requireNonNull", desc := "(Ljava/lang/Object;Ljava/lang/String;)Ljava/lang/Object;" } : Jvm.MethodName) jdk_31_method_11_code (2 : Nat) (Option.some (Jvm.ClassFile.FieldType.object "java/lang/Object")), Jvm.Cond.code ({ cls := "com/example/libdmutex/libdmutex/core/TokenTree$Token$Queued", name := "equals", desc := "(Ljava/lang/Object;)Z" } : Jvm.MethodName) prog_62_method_5_code (3 : Nat) (Option.some Jvm.ClassFile.FieldType.boolean), Jvm.Cond.code ({ cls := "java/lang/Integer", name := "valueOf", desc := "(I)Ljava/lang/Integer;" } : Jvm.MethodName) jdk_33_method_22_code (1 : Nat) (Option.some (Jvm.ClassFile.FieldType.object "java/lang/Integer")), Jvm.Cond.code ({ cls := "java/lang/Integer", name := "<init>", desc := "(I)V" } : Jvm.MethodName) jdk_33_method_23_code (2 : Nat) (Option.none : Option Jvm.ClassFile.FieldType), Jvm.Cond.code ({ cls := "java/lang/Number", name := "<init>", desc := "()V" } : Jvm.MethodName) jdk_18_method_1_code (1 : Nat) (Option.none : Option Jvm.ClassFile.FieldType)]
set_option maxRecDepth 65536 in
theorem codes_eq : words1.filter isCode = codes1 := rfl
theorem w_codes : ∀ c ∈ words1.filter isCode, c.before args0 about1 = true := by
  rw [codes_eq]
  intro c hc
  simp only [codes1, List.mem_cons, List.not_mem_nil, or_false] at hc
  rcases hc with rfl | rfl | rfl | rfl | rfl | rfl | rfl | rfl | rfl
  · exact w_c0
  · exact w_c1
  · exact w_c2
  · exact w_c3
  · exact w_c4
  · exact w_c5
  · exact w_c6
  · exact w_c7
  · exact w_c8
set_option maxRecDepth 65536 in
theorem w_t1 : (words1.take 24).all (fun c => isCode c || c.before args0 about1) = true := by decide +kernel
set_option maxRecDepth 65536 in
theorem w_t2 : ((words1.drop 24).take 24).all (fun c => isCode c || c.before args0 about1) = true := by decide +kernel
set_option maxRecDepth 65536 in
theorem w_t3 : (((words1.drop 24).drop 24).take 24).all (fun c => isCode c || c.before args0 about1) = true := by decide +kernel
set_option maxRecDepth 65536 in
theorem w_t4 : (((words1.drop 24).drop 24).drop 24).all (fun c => isCode c || c.before args0 about1) = true := by decide +kernel
theorem w_tables : (allAtoms (Jvm.Cond.code x code maxLocals ret :: tables_1)).before args0 about1 = true := by
  rw [allAtoms_all]
  show words1.all (fun c => c.before args0 about1) = true
  refine all_split ?_ w_codes
  rw [← List.take_append_drop 24 words1, List.all_append, w_t1, ← List.take_append_drop 24 (words1.drop 24), List.all_append, w_t2, ← List.take_append_drop 24 ((words1.drop 24).drop 24), List.all_append, w_t3, w_t4]
  rfl
set_option maxRecDepth 65536 in
theorem w_rest : rest_1_c.before args0 about1 = true := by decide +kernel
set_option maxRecDepth 65536 in
theorem w_case : (Jvm.Cond.and given_1 narrow_1).before args0 about1 = true := by decide +kernel
theorem w_applies : (headSpec (Jvm.Cond.code x code maxLocals ret :: tables_1) room_1).applies x e0.platform about1 = true :=
  (Spec.applies_iff w_frames).mpr ⟨w_running, w_runnable, w_alone, w_named, w_hears, w_ripe, w_room, w_tables⟩
theorem atStart : AtStart classFile x code maxLocals ret World_1 tables_1 room_1 Calls_1 rest_1 Pre_1 launch0 p0 e0 about1 theMethod args0 below0 :=
  ⟨lists_1, trivial, launch0.admits_env _ _ _, launch0.least_env, fairChoices_fair.cas, fairChoices_fair.clock, w_frames, w_args, w_heap, w_applies, trivial, w_rest, w_case⟩
end start1
theorem witness_1 : WitnessClaimed_1 := ⟨start1.p0, start1.e0, start1.about1, start1.theMethod, start1.args0, start1.below0, start1.atStart⟩
end Jvm.Pilot.@@N@@
