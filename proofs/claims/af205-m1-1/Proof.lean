import JvmDerived
import JvmDerived.Pilot.@@N@@Statement
import JvmDerived.Pilot.@@N@@Code
set_option linter.unusedVariables false
set_option linter.unusedSimpArgs false
@@BLOCK:NumsL.lean.txt@@
@@BLOCK:Masks.lean.txt@@
namespace Jvm.RoadKit
open Sem ClassFile Op Lib Jvm.Stand Jvm.Free Jvm.LawKit
section New
variable {p : Program} {l : Launch} {e : Env} {R : Room} {s : State} {m : MethodId} {args : Array Value} {below : List Frame} {meth : Method} {c : Code} {T : State} {locs : List Loc} {cells slots : Nat}
theorem retI (X : Stand p l e R s m args below meth c T locs cells slots) (hx : p.tables.exec = Jvm.exec) {pc : Nat} {Ls : Array Slot} {z : Int32} {rest : List Value} (hret : meth.sig.returnType = some .int) (hd : decode c.code pc = .ok (.ireturn, 1)) {fs : List Frame}
    (hl : ∀ (f : JFrame) (acts : List Action), f.method = m → f.locked = none → f.entered = [] → (doReturn e (T.setTop f) acts (some (.int z))).1 = T.setFrames fs) : Steps p.tables e below (T.setTop (mkF m pc Ls (.int z :: rest))) (T.setFrames fs) := by
  have hm' : T.vm.method? m = some meth := X.method'
  have hn : narrow .int (.int z) = .int z := rfl
  show Steps p.tables e below (T.setTop { method := m, pc := pc, locals := Ls, stack := _ :: rest, locked := none }) _
  jvm_step X.here [X.here.top, hx, hd, hm', hret, hn]
  first | (intro acts; rw [hl _ acts rfl rfl rfl]) | rw [hl _ _ rfl rfl rfl]
  exact Steps.refl _
end New
end Jvm.RoadKit
namespace Jvm.Pilot.@@N@@
open Jvm Jvm.ClassFile Sem Op Lib Jvm.Free Jvm.Stand Jvm.LawKit Jvm.RoadKit Bundle Jvm.Pilot.@@N@@.Jvm.D
theorem own_lrem (x y : Int64) : x - (x / y) * y = x % y := Int64.toInt_inj.mp (by rw [Jvm.Kit.i64_rem, Int64.toInt_mod])
theorem lremM {p : Program} {l : Launch} {e : Env} {R : Room} {s : State} {m : MethodId} {args : Array Value} {below : List Frame} {meth : Method} {c : Code} {T : State} {locs : List Loc} {cells slots : Nat} {g : JFrame} {target : State} (X : Stand p l e R s m args below meth c T locs cells slots) (hx : p.tables.exec = Jvm.exec) (hg : g.method = m) {x y : Int64} {rest : List Value} (hd : decode c.code g.pc = .ok (.lrem, 1)) (hs : g.stack = .long y :: .long x :: rest) (hy : y ≠ 0)
    (hr : Steps p.tables e below (T.setTop { g with pc := g.pc + 1, stack := .long (x % y) :: rest }) target) : Steps p.tables e below (T.setTop g) target := by
  exact XS.lrem X.here hx hg hd hs hy (by rw [own_lrem]; exact hr)
theorem own_eqI {args : Array Value} {s : State} {t : Jvm.Term} {n : Int32} (h : (Jvm.Cond.eq t (.int n)).value args s none s [] = some true) : t.eval args s none [] s = some (.int n) := by
  obtain ⟨x, y, hx, hy, k1, k2⟩ := cmp_v (Or.inl h)
  obtain rfl : y = .int n := Option.some.inj (hy.symm.trans (Term.int_eval n))
  obtain ⟨z, rfl⟩ := k2
  have q : z = n := by simpa [Jvm.Cond.value, hx, hy] using h
  rw [hx, q]

theorem own_ush1 (y : Int64) (h : y.toInt < 0) : ((y.toUInt64 >>> ((63 : Int32) &&& 0x3f).toInt64.toUInt64).toInt64) = 1 := by
  have hb := y.toBitVec.isLt
  have h1 : y.toInt = y.toBitVec.toInt := rfl
  rw [h1, BitVec.toInt_eq_toNat_cond] at h
  have q : (((63 : Int32) &&& 0x3f).toInt64.toUInt64).toNat = 63 := by decide
  have e2 : ((y.toUInt64 >>> ((63 : Int32) &&& 0x3f).toInt64.toUInt64).toInt64).toBitVec.toNat = y.toBitVec.toNat / 2 ^ 63 := by
    simp only [UInt64.toBitVec_toInt64, UInt64.toBitVec_shiftRight, Int64.toBitVec_toUInt64]
    generalize hn : ((63 : Int32) &&& 0x3f).toInt64.toUInt64 = n at q
    simp [BitVec.toNat_ushiftRight, Nat.shiftRight_eq_div_pow, q]
  apply Int64.toBitVec_inj.mp
  apply BitVec.eq_of_toNat_eq
  rw [e2, show (1 : Int64).toBitVec.toNat = 1 from by decide]
  split at h <;> omega
theorem own_ush0 (y : Int64) (h : 0 ≤ y.toInt) : ((y.toUInt64 >>> ((63 : Int32) &&& 0x3f).toInt64.toUInt64).toInt64) = 0 := by
  apply Int64.toInt_inj.mp
  rw [Jvm.Kit.i64_lushr (Jvm.Kit.i64_nonneg.mpr h) (k := 63) (by decide) (by decide), show (0 : Int64).toInt = 0 from by decide]
  have := y.toInt_lt
  omega
theorem own_or1 (z : Int32) : (-1 : Int32) ||| z = -1 := by
  apply Int32.toBitVec_inj.mp
  rw [Int32.toBitVec_or, show (-1 : Int32).toBitVec = BitVec.allOnes 32 from by decide, BitVec.allOnes_or]
theorem own_shr (x : Int32) : (x >>> ((31 : Int32) &&& 31)).toInt = x.toInt / 2 ^ 31 := Jvm.Kit.i32_shr x _ (by decide)
theorem own_ng (x : Int32) : (-(x.toInt64)).toInt = - x.toInt := by
  have a := x.toInt_lt
  have b := x.le_toInt
  rw [Jvm.Kit.i64_neg (by rw [Jvm.Kit.i64_of_i32]; omega), Jvm.Kit.i64_of_i32]


def World (Z : State) (h : Heap) (w_LESS w_EQUAL w_GREATER : Addr) : Prop :=
  Sta Z h "com/example/graticule/graticule/filter/ValueOrder" "LESS" "Lcom/example/graticule/graticule/filter/ValueOrder;" (.ref w_LESS) ∧
  Sta Z h "com/example/graticule/graticule/filter/ValueOrder" "EQUAL" "Lcom/example/graticule/graticule/filter/ValueOrder;" (.ref w_EQUAL) ∧
  Sta Z h "com/example/graticule/graticule/filter/ValueOrder" "GREATER" "Lcom/example/graticule/graticule/filter/ValueOrder;" (.ref w_GREATER) ∧
  Exa Z h w_LESS "com/example/graticule/graticule/filter/ValueOrder" ∧
  Exa Z h w_EQUAL "com/example/graticule/graticule/filter/ValueOrder" ∧
  Exa Z h w_GREATER "com/example/graticule/graticule/filter/ValueOrder" ∧
  Fld Z h w_LESS "java/lang/Enum" "ordinal" "I" (.int (0 : Int32)) ∧
  Fld Z h w_EQUAL "java/lang/Enum" "ordinal" "I" (.int (1 : Int32)) ∧
  Fld Z h w_GREATER "java/lang/Enum" "ordinal" "I" (.int (2 : Int32))
theorem World.ext {Z : State} {h h' : Heap} {w_LESS w_EQUAL w_GREATER : Addr} (E : Ext h h') (W : World Z h w_LESS w_EQUAL w_GREATER) : World Z h' w_LESS w_EQUAL w_GREATER :=
  ⟨Sta.ext E W.1, Sta.ext E W.2.1, Sta.ext E W.2.2.1, Exa.ext E W.2.2.2.1, Exa.ext E W.2.2.2.2.1, Exa.ext E W.2.2.2.2.2.1, Fld.ext E W.2.2.2.2.2.2.1, Fld.ext E W.2.2.2.2.2.2.2.1, Fld.ext E W.2.2.2.2.2.2.2.2⟩
theorem d1_0 : decode prog_10_method_14_code 0 = .ok (.iload_n 0, 1) := by decide +kernel
theorem d1_1 : decode prog_10_method_14_code 1 = .ok (.ifCond .ge 9, 3) := by decide +kernel
theorem d1_4 : decode prog_10_method_14_code 4 = .ok (.getstatic 3, 3) := by decide +kernel
theorem d1_7 : decode prog_10_method_14_code 7 = .ok (.goto 16, 3) := by decide +kernel
theorem d1_10 : decode prog_10_method_14_code 10 = .ok (.iload_n 0, 1) := by decide +kernel
theorem d1_11 : decode prog_10_method_14_code 11 = .ok (.ifCond .le 9, 3) := by decide +kernel
theorem d1_14 : decode prog_10_method_14_code 14 = .ok (.getstatic 10, 3) := by decide +kernel
theorem d1_17 : decode prog_10_method_14_code 17 = .ok (.goto 6, 3) := by decide +kernel
theorem d1_20 : decode prog_10_method_14_code 20 = .ok (.getstatic 7, 3) := by decide +kernel
theorem d1_23 : decode prog_10_method_14_code 23 = .ok (.areturn, 1) := by decide +kernel
theorem pn_0 : plainName "com/example/graticule/graticule/filter/ValueOrder" = true := by first | (simp [plainName, overriddenIn]; done) | decide +kernel
theorem ef_1 (m : MethodId) (x1_0 : Int32) : entryFrame m #[(.int x1_0)] 1 = mkF m 0 #[.val (.int x1_0)] [] := by first | (simp [entryFrame, mkF, argsToLocals, Value.category]; done) | rfl
def f1 (x1_0 : Int32) (w_LESS w_EQUAL w_GREATER : Addr) : Addr := if x1_0 < (0 : Int32) then w_LESS else if (0 : Int32) < x1_0 then w_GREATER else w_EQUAL
def Q1 (Z : State) (x1_0 : Int32) (w_LESS w_EQUAL w_GREATER : Addr) (h0 : Heap) (n0 : Nat) (v : Option Value) (h : Heap) (L : List Loc) : Prop := v = some (.ref (f1 x1_0 w_LESS w_EQUAL w_GREATER)) ∧ Fr n0 L ∧ h = h0
set_option maxRecDepth 65536 in
set_option maxHeartbeats 40000000 in
theorem rm1 (l : Launch) (Z : State) (a0 : Array Value) (hw : ∀ d ∈ tables_1, d.before a0 Z = true) (ws : List Jvm.Cond) (x1_0 : Int32) (w_LESS w_EQUAL w_GREATER : Addr) (h0 : Heap) (n0 : Nat) (Z0 : n0 ≤ h0.size) (W : World Z h0 w_LESS w_EQUAL w_GREATER) :
    MetFree l (⟨"com/example/graticule/graticule/filter/ValueOrder", "sign", "(I)Lcom/example/graticule/graticule/filter/ValueOrder;"⟩ : MethodName) (head1 (Jvm.Cond.code (⟨"com/example/graticule/graticule/filter/ValueOrder", "sign", "(I)Lcom/example/graticule/graticule/filter/ValueOrder;"⟩ : MethodName) prog_10_method_14_code 1 (some (.object "com/example/graticule/graticule/filter/ValueOrder")) :: ws) ({ frames := 0, cells := 0, slots := 0, locals := 0 } : Room)) (fun a U => a = #[(.int x1_0)] ∧ Z.Warmed39 U.vm ∧ U.heap = h0) (fun _ _ _ _ _ => True) (fun _ U o U' => ∃ v L, o = .returned v ∧ Q1 Z x1_0 w_LESS w_EQUAL w_GREATER h0 n0 v U'.heap L ∧ FrameEnd U o U' L ({ frames := 0, cells := 0, slots := 0, locals := 0 } : Room).cells ({ frames := 0, cells := 0, slots := 0, locals := 0 } : Room).slots) := by
  refine MetFree.of_bodySF (plainFor_of_name pn_0) hisR ?_
  intro p e s m args below meth c s₁ Bd hml0 hP hK
  obtain ⟨rfl, hZ, hh⟩ := hP
  have hx := Bd.exec
  have hby := Bd.bytes
  have hml : c.maxLocals = 1 := hml0
  have hown : s.vm.findClass "com/example/graticule/graticule/filter/ValueOrder" = some m.cls := findClass_of_methodNamed Bd.named
  have hnm := (name_of_methodNamed Bd.named Bd.method).1
  have X0 : Stand p l e ({ frames := 0, cells := 0, slots := 0, locals := 0 } : Room) s m #[(.int x1_0)] below meth c s₁ [] 0 0 := Stand.of_body Bd
  have e0 : s₁.heap = h0 := by rw [← hh, Bd.state]; rfl
  have N0 := Fr.nil n0
  have pre0 : ∀ t, Steps p.tables e below (s₁.setTop (mkF m 0 #[.val (.int x1_0)] [])) t → Steps p.tables e below (s₁.setTop (entryFrame m #[(.int x1_0)] 1)) t := fun t k => castTop (ef_1 m x1_0) k
  have sg1 : ∀ t, Steps p.tables e below (s₁.setTop (mkF m 1 #[.val (.int x1_0)] [(.int x1_0)])) t → Steps p.tables e below (s₁.setTop (mkF m 0 #[.val (.int x1_0)] [])) t := fun t kt => by
    show Steps p.tables e below (s₁.setTop (mkF m 0 #[.val (.int x1_0)] [])) _
    refine XS.iloadN X0.here hx rfl (hb hby d1_0) rfl ?_
    exact kt
  by_cases hc1_2 : x1_0 < (0 : Int32)
  · obtain ⟨T3, X3, e3, st3⟩ := getS2 X0 hx hZ hown (host := "") (Or.inl (hw _ (List.mem_of_getElem? (i := 21) rfl))) Via.refl e0 (W.1) (g := (mkF m 4 #[.val (.int x1_0)] [])) rfl (hb hby d1_4)
    obtain ⟨fs, hr, hrun, hended, hW, hsame⟩ := X3.leave (v := some (.ref w_LESS)) (fun h => by rw [Bd.returns] at h; cases h)
    refine ⟨_, _, pre0 _ (sg1 _ ?_), hrun, hended, _, _, rfl, ?_, ⟨_, rfl⟩, hW, hsame.mono (by decide) (by decide)⟩
    · show Steps p.tables e below (s₁.setTop (mkF m 1 #[.val (.int x1_0)] [(.int x1_0)])) _
      refine XS.ifNo X0.here hx rfl (hb hby d1_1) rfl ((if0 _ _).trans (tlt hc1_2).2.1) ?_
      show Steps p.tables e below (s₁.setTop (mkF m 4 #[.val (.int x1_0)] [])) _
      refine st3 _ ?_
      show Steps p.tables e below (T3.setTop (mkF m 7 #[.val (.int x1_0)] [(.ref w_LESS)])) _
      refine XS.goto X3.here hx rfl (pc0 := 7) (pc' := 23) rfl (hb hby d1_7) (by decide) (by decide) ?_
      show Steps p.tables e below (T3.setTop (mkF m 23 #[.val (.int x1_0)] [(.ref w_LESS)])) _
      exact retOut X3 hx Bd.returns rfl (Or.inr (Or.inr (Or.inr (Or.inr ⟨rfl, rfl, rfl⟩)))) (hb hby d1_23) hr
    · exact ⟨congrArg (fun z => some (Value.ref z)) (show w_LESS = f1 x1_0 w_LESS w_EQUAL w_GREATER from by unfold f1; rw [if_pos hc1_2]), N0, e3⟩
  · have sg4 : ∀ t, Steps p.tables e below (s₁.setTop (mkF m 11 #[.val (.int x1_0)] [(.int x1_0)])) t → Steps p.tables e below (s₁.setTop (mkF m 1 #[.val (.int x1_0)] [(.int x1_0)])) t := fun t kt => by
      show Steps p.tables e below (s₁.setTop (mkF m 1 #[.val (.int x1_0)] [(.int x1_0)])) _
      refine XS.ifYes X0.here hx rfl (pc0 := 1) (pc' := 10) rfl (hb hby d1_1) rfl ((if0 _ _).trans (flt hc1_2).2.1) (by decide) (by decide) ?_
      show Steps p.tables e below (s₁.setTop (mkF m 10 #[.val (.int x1_0)] [])) _
      refine XS.iloadN X0.here hx rfl (hb hby d1_10) rfl ?_
      exact kt
    by_cases hc11_5 : (0 : Int32) < x1_0
    · obtain ⟨T6, X6, e6, st6⟩ := getS2 X0 hx hZ hown (host := "") (Or.inl (hw _ (List.mem_of_getElem? (i := 19) rfl))) Via.refl e0 (W.2.2.1) (g := (mkF m 14 #[.val (.int x1_0)] [])) rfl (hb hby d1_14)
      obtain ⟨fs, hr, hrun, hended, hW, hsame⟩ := X6.leave (v := some (.ref w_GREATER)) (fun h => by rw [Bd.returns] at h; cases h)
      refine ⟨_, _, pre0 _ (sg1 _ (sg4 _ ?_)), hrun, hended, _, _, rfl, ?_, ⟨_, rfl⟩, hW, hsame.mono (by decide) (by decide)⟩
      · show Steps p.tables e below (s₁.setTop (mkF m 11 #[.val (.int x1_0)] [(.int x1_0)])) _
        refine XS.ifNo X0.here hx rfl (hb hby d1_11) rfl ((if0 _ _).trans (tlt hc11_5).2.2.2) ?_
        show Steps p.tables e below (s₁.setTop (mkF m 14 #[.val (.int x1_0)] [])) _
        refine st6 _ ?_
        show Steps p.tables e below (T6.setTop (mkF m 17 #[.val (.int x1_0)] [(.ref w_GREATER)])) _
        refine XS.goto X6.here hx rfl (pc0 := 17) (pc' := 23) rfl (hb hby d1_17) (by decide) (by decide) ?_
        show Steps p.tables e below (T6.setTop (mkF m 23 #[.val (.int x1_0)] [(.ref w_GREATER)])) _
        exact retOut X6 hx Bd.returns rfl (Or.inr (Or.inr (Or.inr (Or.inr ⟨rfl, rfl, rfl⟩)))) (hb hby d1_23) hr
      · exact ⟨congrArg (fun z => some (Value.ref z)) (show w_GREATER = f1 x1_0 w_LESS w_EQUAL w_GREATER from by unfold f1; rw [if_neg hc1_2, if_pos hc11_5]), N0, e6⟩
    · obtain ⟨T7, X7, e7, st7⟩ := getS2 X0 hx hZ hown (host := "") (Or.inl (hw _ (List.mem_of_getElem? (i := 4) rfl))) Via.refl e0 (W.2.1) (g := (mkF m 20 #[.val (.int x1_0)] [])) rfl (hb hby d1_20)
      obtain ⟨fs, hr, hrun, hended, hW, hsame⟩ := X7.leave (v := some (.ref w_EQUAL)) (fun h => by rw [Bd.returns] at h; cases h)
      refine ⟨_, _, pre0 _ (sg1 _ (sg4 _ ?_)), hrun, hended, _, _, rfl, ?_, ⟨_, rfl⟩, hW, hsame.mono (by decide) (by decide)⟩
      · show Steps p.tables e below (s₁.setTop (mkF m 11 #[.val (.int x1_0)] [(.int x1_0)])) _
        refine XS.ifYes X0.here hx rfl (pc0 := 11) (pc' := 20) rfl (hb hby d1_11) rfl ((if0 _ _).trans (flt hc11_5).2.2.2) (by decide) (by decide) ?_
        show Steps p.tables e below (s₁.setTop (mkF m 20 #[.val (.int x1_0)] [])) _
        refine st7 _ ?_
        show Steps p.tables e below (T7.setTop (mkF m 23 #[.val (.int x1_0)] [(.ref w_EQUAL)])) _
        exact retOut X7 hx Bd.returns rfl (Or.inr (Or.inr (Or.inr (Or.inr ⟨rfl, rfl, rfl⟩)))) (hb hby d1_23) hr
      · exact ⟨congrArg (fun z => some (Value.ref z)) (show w_EQUAL = f1 x1_0 w_LESS w_EQUAL w_GREATER from by unfold f1; rw [if_neg hc1_2, if_neg hc11_5]), N0, e7⟩
theorem d2_0 : decode jdk_37_method_2_code 0 = .ok (.aload_n 0, 1) := by decide +kernel
theorem d2_1 : decode jdk_37_method_2_code 1 = .ok (.getfield 7, 3) := by decide +kernel
theorem d2_4 : decode jdk_37_method_2_code 4 = .ok (.ireturn, 1) := by decide +kernel
theorem pn_1 : plainName "java/lang/Enum" = true := by first | (simp [plainName, overriddenIn]; done) | decide +kernel
theorem ef_2 (m : MethodId) (x2_0 : Addr) : entryFrame m #[(.ref x2_0)] 1 = mkF m 0 #[.val (.ref x2_0)] [] := by first | (simp [entryFrame, mkF, argsToLocals, Value.category]; done) | rfl
def f2 (x2_0 : Addr) (w_LESS w_EQUAL w_GREATER : Addr) (oi : Int32) : Int32 := oi
def Q2 (Z : State) (x2_0 : Addr) (w_LESS w_EQUAL w_GREATER : Addr) (oi : Int32) (h0 : Heap) (n0 : Nat) (v : Option Value) (h : Heap) (L : List Loc) : Prop := v = some (.int (f2 x2_0 w_LESS w_EQUAL w_GREATER oi)) ∧ Fr n0 L ∧ h = h0
set_option maxRecDepth 65536 in
set_option maxHeartbeats 40000000 in
theorem rm2 (l : Launch) (Z : State) (a0 : Array Value) (hw : ∀ d ∈ tables_1, d.before a0 Z = true) (ws : List Jvm.Cond) (x2_0 : Addr) (w_LESS w_EQUAL w_GREATER : Addr) (oi : Int32) (h0 : Heap) (n0 : Nat) (Z0 : n0 ≤ h0.size) (W : World Z h0 w_LESS w_EQUAL w_GREATER) (Ford : Fld Z h0 x2_0 "java/lang/Enum" "ordinal" "I" (.int oi)) :
    MetFree l (⟨"java/lang/Enum", "ordinal", "()I"⟩ : MethodName) (head1 (Jvm.Cond.code (⟨"java/lang/Enum", "ordinal", "()I"⟩ : MethodName) jdk_37_method_2_code 1 (some .int) :: ws) ({ frames := 0, cells := 0, slots := 0, locals := 0 } : Room)) (fun a U => a = #[(.ref x2_0)] ∧ Z.Warmed39 U.vm ∧ U.heap = h0) (fun _ _ _ _ _ => True) (fun _ U o U' => ∃ v L, o = .returned v ∧ Q2 Z x2_0 w_LESS w_EQUAL w_GREATER oi h0 n0 v U'.heap L ∧ FrameEnd U o U' L ({ frames := 0, cells := 0, slots := 0, locals := 0 } : Room).cells ({ frames := 0, cells := 0, slots := 0, locals := 0 } : Room).slots) := by
  refine MetFree.of_bodySF (plainFor_of_name pn_1) hisR ?_
  intro p e s m args below meth c s₁ Bd hml0 hP hK
  obtain ⟨rfl, hZ, hh⟩ := hP
  have hx := Bd.exec
  have hby := Bd.bytes
  have hml : c.maxLocals = 1 := hml0
  have hown : s.vm.findClass "java/lang/Enum" = some m.cls := findClass_of_methodNamed Bd.named
  have hnm := (name_of_methodNamed Bd.named Bd.method).1
  have X0 : Stand p l e ({ frames := 0, cells := 0, slots := 0, locals := 0 } : Room) s m #[(.ref x2_0)] below meth c s₁ [] 0 0 := Stand.of_body Bd
  have e0 : s₁.heap = h0 := by rw [← hh, Bd.state]; rfl
  have N0 := Fr.nil n0
  have pre0 : ∀ t, Steps p.tables e below (s₁.setTop (mkF m 0 #[.val (.ref x2_0)] [])) t → Steps p.tables e below (s₁.setTop (entryFrame m #[(.ref x2_0)] 1)) t := fun t k => castTop (ef_2 m x2_0) k
  obtain ⟨T1, X1, e1, st1⟩ := getF X0 hx hZ hown (host := "") (Or.inl (hw _ (List.mem_of_getElem? (i := 13) rfl))) Via.refl e0 Ford (g := (mkF m 1 #[.val (.ref x2_0)] [(.ref x2_0)])) rfl rfl (hb hby d2_1)
  obtain ⟨fs, hr, hrun, hended, hW, hsame⟩ := X1.leave (v := some (.int oi)) (fun h => by rw [Bd.returns] at h; cases h)
  refine ⟨_, _, pre0 _ (?_), hrun, hended, _, _, rfl, ?_, ⟨_, rfl⟩, hW, hsame.mono (by decide) (by decide)⟩
  · show Steps p.tables e below (s₁.setTop (mkF m 0 #[.val (.ref x2_0)] [])) _
    refine XS.aloadN X0.here hx rfl (hb hby d2_0) rfl rfl ?_
    show Steps p.tables e below (s₁.setTop (mkF m 1 #[.val (.ref x2_0)] [(.ref x2_0)])) _
    refine st1 _ ?_
    show Steps p.tables e below (T1.setTop (mkF m 4 #[.val (.ref x2_0)] [(.int oi)])) _
    exact retI X1 hx Bd.returns (hb hby d2_4) hr
  · exact ⟨rfl, N0, e1⟩
theorem d3_0 : decode method_2_code 0 = .ok (.iload_n 0, 1) := by decide +kernel
theorem d3_1 : decode method_2_code 1 = .ok (.bipush 31, 2) := by decide +kernel
theorem d3_3 : decode method_2_code 3 = .ok (.ishr, 1) := by decide +kernel
theorem d3_4 : decode method_2_code 4 = .ok (.iload_n 0, 1) := by decide +kernel
theorem d3_5 : decode method_2_code 5 = .ok (.i2l, 1) := by decide +kernel
theorem d3_6 : decode method_2_code 6 = .ok (.lneg, 1) := by decide +kernel
theorem d3_7 : decode method_2_code 7 = .ok (.bipush 63, 2) := by decide +kernel
theorem d3_9 : decode method_2_code 9 = .ok (.lushr, 1) := by decide +kernel
theorem d3_10 : decode method_2_code 10 = .ok (.l2i, 1) := by decide +kernel
theorem d3_11 : decode method_2_code 11 = .ok (.ior, 1) := by decide +kernel
theorem d3_12 : decode method_2_code 12 = .ok (.ireturn, 1) := by decide +kernel
theorem pn_2 : plainName "com/example/graticule/graticule/filter/ValueOrderSignPinLaw" = true := by first | (simp [plainName, overriddenIn]; done) | decide +kernel
theorem ef_3 (m : MethodId) (x3_0 : Int32) : entryFrame m #[(.int x3_0)] 1 = mkF m 0 #[.val (.int x3_0)] [] := by first | (simp [entryFrame, mkF, argsToLocals, Value.category]; done) | rfl
def f3 (x3_0 : Int32) (w_LESS w_EQUAL w_GREATER : Addr) : Int32 := ((x3_0 >>> ((31 : Int32) &&& 31)) ||| ((((-(x3_0.toInt64)).toUInt64 >>> ((63 : Int32) &&& 0x3f).toInt64.toUInt64).toInt64).toInt32))
def Q3 (Z : State) (x3_0 : Int32) (w_LESS w_EQUAL w_GREATER : Addr) (h0 : Heap) (n0 : Nat) (v : Option Value) (h : Heap) (L : List Loc) : Prop := v = some (.int (f3 x3_0 w_LESS w_EQUAL w_GREATER)) ∧ Fr n0 L ∧ h = h0
set_option maxRecDepth 65536 in
set_option maxHeartbeats 40000000 in
theorem rm3 (l : Launch) (Z : State) (a0 : Array Value) (hw : ∀ d ∈ tables_1, d.before a0 Z = true) (ws : List Jvm.Cond) (x3_0 : Int32) (w_LESS w_EQUAL w_GREATER : Addr) (h0 : Heap) (n0 : Nat) (Z0 : n0 ≤ h0.size) (W : World Z h0 w_LESS w_EQUAL w_GREATER) :
    MetFree l (⟨"com/example/graticule/graticule/filter/ValueOrderSignPinLaw", "signum", "(I)I"⟩ : MethodName) (head1 (Jvm.Cond.code (⟨"com/example/graticule/graticule/filter/ValueOrderSignPinLaw", "signum", "(I)I"⟩ : MethodName) method_2_code 1 (some .int) :: ws) ({ frames := 0, cells := 0, slots := 0, locals := 0 } : Room)) (fun a U => a = #[(.int x3_0)] ∧ Z.Warmed39 U.vm ∧ U.heap = h0) (fun _ _ _ _ _ => True) (fun _ U o U' => ∃ v L, o = .returned v ∧ Q3 Z x3_0 w_LESS w_EQUAL w_GREATER h0 n0 v U'.heap L ∧ FrameEnd U o U' L ({ frames := 0, cells := 0, slots := 0, locals := 0 } : Room).cells ({ frames := 0, cells := 0, slots := 0, locals := 0 } : Room).slots) := by
  refine MetFree.of_bodySF (plainFor_of_name pn_2) hisR ?_
  intro p e s m args below meth c s₁ Bd hml0 hP hK
  obtain ⟨rfl, hZ, hh⟩ := hP
  have hx := Bd.exec
  have hby := Bd.bytes
  have hml : c.maxLocals = 1 := hml0
  have hown : s.vm.findClass "com/example/graticule/graticule/filter/ValueOrderSignPinLaw" = some m.cls := findClass_of_methodNamed Bd.named
  have hnm := (name_of_methodNamed Bd.named Bd.method).1
  have X0 : Stand p l e ({ frames := 0, cells := 0, slots := 0, locals := 0 } : Room) s m #[(.int x3_0)] below meth c s₁ [] 0 0 := Stand.of_body Bd
  have e0 : s₁.heap = h0 := by rw [← hh, Bd.state]; rfl
  have N0 := Fr.nil n0
  have pre0 : ∀ t, Steps p.tables e below (s₁.setTop (mkF m 0 #[.val (.int x3_0)] [])) t → Steps p.tables e below (s₁.setTop (entryFrame m #[(.int x3_0)] 1)) t := fun t k => castTop (ef_3 m x3_0) k
  obtain ⟨fs, hr, hrun, hended, hW, hsame⟩ := X0.leave (v := some (.int ((x3_0 >>> ((31 : Int32) &&& 31)) ||| ((((-(x3_0.toInt64)).toUInt64 >>> ((63 : Int32) &&& 0x3f).toInt64.toUInt64).toInt64).toInt32)))) (fun h => by rw [Bd.returns] at h; cases h)
  refine ⟨_, _, pre0 _ (?_), hrun, hended, _, _, rfl, ?_, ⟨_, rfl⟩, hW, hsame.mono (by decide) (by decide)⟩
  · show Steps p.tables e below (s₁.setTop (mkF m 0 #[.val (.int x3_0)] [])) _
    refine XS.iloadN X0.here hx rfl (hb hby d3_0) rfl ?_
    show Steps p.tables e below (s₁.setTop (mkF m 1 #[.val (.int x3_0)] [(.int x3_0)])) _
    refine XS.bipush X0.here hx rfl (hb hby d3_1) ?_
    show Steps p.tables e below (s₁.setTop (mkF m 3 #[.val (.int x3_0)] [(.int (31 : Int32)), (.int x3_0)])) _
    refine XS.ishr X0.here hx rfl (hb hby d3_3) rfl ?_
    show Steps p.tables e below (s₁.setTop (mkF m 4 #[.val (.int x3_0)] [(.int (x3_0 >>> ((31 : Int32) &&& 31)))])) _
    refine XS.iloadN X0.here hx rfl (hb hby d3_4) rfl ?_
    show Steps p.tables e below (s₁.setTop (mkF m 5 #[.val (.int x3_0)] [(.int x3_0), (.int (x3_0 >>> ((31 : Int32) &&& 31)))])) _
    refine XS.i2l X0.here hx rfl (hb hby d3_5) rfl ?_
    show Steps p.tables e below (s₁.setTop (mkF m 6 #[.val (.int x3_0)] [(.long (x3_0.toInt64)), (.int (x3_0 >>> ((31 : Int32) &&& 31)))])) _
    refine XS.lneg X0.here hx rfl (hb hby d3_6) rfl ?_
    show Steps p.tables e below (s₁.setTop (mkF m 7 #[.val (.int x3_0)] [(.long (-(x3_0.toInt64))), (.int (x3_0 >>> ((31 : Int32) &&& 31)))])) _
    refine XS.bipush X0.here hx rfl (hb hby d3_7) ?_
    show Steps p.tables e below (s₁.setTop (mkF m 9 #[.val (.int x3_0)] [(.int (63 : Int32)), (.long (-(x3_0.toInt64))), (.int (x3_0 >>> ((31 : Int32) &&& 31)))])) _
    refine XS.lushr X0.here hx rfl (hb hby d3_9) rfl ?_
    show Steps p.tables e below (s₁.setTop (mkF m 10 #[.val (.int x3_0)] [(.long (((-(x3_0.toInt64)).toUInt64 >>> ((63 : Int32) &&& 0x3f).toInt64.toUInt64).toInt64)), (.int (x3_0 >>> ((31 : Int32) &&& 31)))])) _
    refine XS.l2i X0.here hx rfl (hb hby d3_10) rfl ?_
    show Steps p.tables e below (s₁.setTop (mkF m 11 #[.val (.int x3_0)] [(.int ((((-(x3_0.toInt64)).toUInt64 >>> ((63 : Int32) &&& 0x3f).toInt64.toUInt64).toInt64).toInt32)), (.int (x3_0 >>> ((31 : Int32) &&& 31)))])) _
    refine XS.ior X0.here hx rfl (hb hby d3_11) rfl ?_
    show Steps p.tables e below (s₁.setTop (mkF m 12 #[.val (.int x3_0)] [(.int ((x3_0 >>> ((31 : Int32) &&& 31)) ||| ((((-(x3_0.toInt64)).toUInt64 >>> ((63 : Int32) &&& 0x3f).toInt64.toUInt64).toInt64).toInt32)))])) _
    exact retI X0 hx Bd.returns (hb hby d3_12) hr
  · exact ⟨rfl, N0, e0⟩
theorem pd_0 : parseMethodDescriptor "(I)Lcom/example/graticule/graticule/filter/ValueOrder;" = some ⟨[.int], some (.object "com/example/graticule/graticule/filter/ValueOrder")⟩ := by decide +kernel
theorem pd_1 : parseMethodDescriptor "()I" = some ⟨[], some .int⟩ := by decide +kernel
theorem pd_2 : parseMethodDescriptor "(I)I" = some ⟨[.int], some .int⟩ := by decide +kernel
theorem ef_0 (m : MethodId) (x0_0 : Int32) : entryFrame m #[(.int x0_0)] maxLocals = mkF m 0 #[.val (.int x0_0), .unset] [] := by first | (simp [entryFrame, mkF, argsToLocals, Value.category, maxLocals]; done) | rfl
def f0 (x0_0 : Int32) (w_LESS w_EQUAL w_GREATER : Addr) : Int32 := if x0_0 < (0 : Int32) then (if (0 : Int32) = ((f3 x0_0 w_LESS w_EQUAL w_GREATER) + (1 : Int32)) then (1 : Int32) else (0 : Int32)) else if (0 : Int32) < x0_0 then (if (2 : Int32) = ((f3 x0_0 w_LESS w_EQUAL w_GREATER) + (1 : Int32)) then (1 : Int32) else (0 : Int32)) else if (1 : Int32) = ((f3 x0_0 w_LESS w_EQUAL w_GREATER) + (1 : Int32)) then (1 : Int32) else (0 : Int32)
def Q0 (Z : State) (x0_0 : Int32) (w_LESS w_EQUAL w_GREATER : Addr) (h0 : Heap) (n0 : Nat) (v : Option Value) (h : Heap) (L : List Loc) : Prop := v = some (.int (f0 x0_0 w_LESS w_EQUAL w_GREATER)) ∧ Fr n0 L ∧ h = h0
set_option maxRecDepth 65536 in
set_option maxHeartbeats 40000000 in
theorem rm0 (l : Launch) (Z : State) (a0 : Array Value) (hw : ∀ d ∈ tables_1, d.before a0 Z = true) (ws : List Jvm.Cond) (x0_0 : Int32) (w_LESS w_EQUAL w_GREATER : Addr) (h0 : Heap) (n0 : Nat) (Z0 : n0 ≤ h0.size) (W : World Z h0 w_LESS w_EQUAL w_GREATER) :
    MetFree l x (head1 (Jvm.Cond.code x code maxLocals ret :: ws) room_1) (fun a U => a = #[(.int x0_0)] ∧ Z.Warmed39 U.vm ∧ U.heap = h0) (fun _ _ _ _ _ => True) (fun _ U o U' => ∃ v L, o = .returned v ∧ Q0 Z x0_0 w_LESS w_EQUAL w_GREATER h0 n0 v U'.heap L ∧ FrameEnd U o U' L room_1.cells room_1.slots) := by
  refine MetFree.of_bodySF (plainFor_of_name pn_2) hisR ?_
  intro p e s m args below meth c s₁ Bd hml0 hP hK
  obtain ⟨rfl, hZ, hh⟩ := hP
  have hx := Bd.exec
  have hby := Bd.bytes
  have hml : c.maxLocals = 2 := hml0
  have hown : s.vm.findClass "com/example/graticule/graticule/filter/ValueOrderSignPinLaw" = some m.cls := findClass_of_methodNamed Bd.named
  have hnm := (name_of_methodNamed Bd.named Bd.method).1
  have X0 : Stand p l e room_1 s m #[(.int x0_0)] below meth c s₁ [] 0 0 := Stand.of_body Bd
  have e0 : s₁.heap = h0 := by rw [← hh, Bd.state]; rfl
  have N0 := Fr.nil n0
  have pre0 : ∀ t, Steps p.tables e below (s₁.setTop (mkF m 0 #[.val (.int x0_0), .unset] [])) t → Steps p.tables e below (s₁.setTop (entryFrame m #[(.int x0_0)] maxLocals)) t := fun t k => castTop (ef_0 m x0_0) k
  have sg2 : ∀ t, Steps p.tables e below (s₁.setTop (mkF m 1 #[.val (.int x0_0), .unset] [(.int x0_0)])) t → Steps p.tables e below (s₁.setTop (mkF m 0 #[.val (.int x0_0), .unset] [])) t := fun t kt => by
    show Steps p.tables e below (s₁.setTop (mkF m 0 #[.val (.int x0_0), .unset] [])) _
    refine XS.iloadN X0.here hx rfl (hb hby at_0) rfl ?_
    exact kt
  obtain ⟨v1, _, ⟨T1, L1, k1, n1⟩, -, X1, ⟨Lc1, hQ1, l1, y1, z1⟩, st1⟩ := Jvm.LawKit.callS X0 hx (y := (⟨"com/example/graticule/graticule/filter/ValueOrder", "sign", "(I)Lcom/example/graticule/graticule/filter/ValueOrder;"⟩ : MethodName)) hown (mvT hZ (hw _ (List.mem_of_getElem? (i := 0) rfl))) (mvT hZ (hw _ (List.mem_of_getElem? (i := 1) rfl))) (mvT hZ (hw _ (List.mem_of_getElem? (i := 2) rfl))) (mvT hZ (hw _ (List.mem_of_getElem? (i := 3) rfl))) (by decide) (backOf (W := 0) (rm1 l Z a0 hw [] x0_0 w_LESS w_EQUAL w_GREATER h0 n0 Z0 W) hZ (hw _ (List.mem_of_getElem? (i := 3) rfl)) (hw _ (List.mem_of_getElem? (i := 2) rfl)) (by decide) (by decide)) (g := (mkF m 1 #[.val (.int x0_0), .unset] [(.int x0_0)])) rfl (by rw [hml]; rfl) (argsL := [(.int x0_0)]) (rest := []) (lenOf pd_0 rfl) rfl (by show 2 * 0 + _ ≤ _; exact Nat.le_of_eq rfl) (hb hby at_1) (fun _ _ => ⟨rfl, e0, (by decide : 0 + 0 ≤ _), (by decide : 0 + 0 ≤ _)⟩)
  dsimp only [Pt.U, Pt.locs, Pt.cells, Pt.slots] at X1 l1 y1 z1 st1 hQ1
  subst l1 y1 z1
  obtain ⟨hv1, N1q, e1⟩ := hQ1
  have N1 := Fr.app N0 N1q
  by_cases hs1_3 : x0_0 < (0 : Int32)
  · have hf1 : f1 x0_0 w_LESS w_EQUAL w_GREATER = w_LESS := by unfold f1; rw [if_pos hs1_3]
    rw [hf1] at hv1
    subst hv1
    have sg5 : ∀ t, Steps p.tables e below (T1.setTop (mkF m 12 #[.val (.int x0_0), .val (.ref w_LESS)] [(.ref w_LESS)])) t → Steps p.tables e below (s₁.setTop (mkF m 1 #[.val (.int x0_0), .unset] [(.int x0_0)])) t := fun t kt => by
      show Steps p.tables e below (s₁.setTop (mkF m 1 #[.val (.int x0_0), .unset] [(.int x0_0)])) _
      refine st1 _ ?_
      show Steps p.tables e below (T1.setTop (mkF m 4 #[.val (.int x0_0), .unset] [(.ref w_LESS)])) _
      refine XS.astoreN X1.here hx rfl (hb hby at_4) rfl rfl (l' := #[.val (.int x0_0), .val (.ref w_LESS)]) rfl ?_
      show Steps p.tables e below (T1.setTop (mkF m 5 #[.val (.int x0_0), .val (.ref w_LESS)] [])) _
      refine XS.aloadN X1.here hx rfl (hb hby at_5) rfl rfl ?_
      show Steps p.tables e below (T1.setTop (mkF m 6 #[.val (.int x0_0), .val (.ref w_LESS)] [(.ref w_LESS)])) _
      refine XS.ifnonnullYes X1.here hx rfl (pc0 := 6) (pc' := 11) rfl (hb hby at_6) rfl (by decide) (by decide) ?_
      show Steps p.tables e below (T1.setTop (mkF m 11 #[.val (.int x0_0), .val (.ref w_LESS)] [])) _
      refine XS.aloadN X1.here hx rfl (hb hby at_11) rfl rfl ?_
      exact kt
    obtain ⟨cq4, kq4, q4a, q4b, q4c⟩ := isOf hZ e1 (W.2.2.2.1)
    obtain ⟨v4, _, ⟨T4, L4, k4, n4⟩, -, X4, ⟨Lc4, hQ4, l4, y4, z4⟩, st4⟩ := X1.virtualBackUp hx (owner := "java/lang/Enum") (x := (⟨"com/example/graticule/graticule/filter/ValueOrder", "ordinal", "()I"⟩ : MethodName)) (y := (⟨"java/lang/Enum", "ordinal", "()I"⟩ : MethodName)) hown (mvT hZ (hw _ (List.mem_of_getElem? (i := 6) rfl))) (mvT hZ (hw _ (List.mem_of_getElem? (i := 7) rfl))) (mvT hZ (hw _ (List.mem_of_getElem? (i := 8) rfl))) (by decide) (mvT hZ (hw _ (List.mem_of_getElem? (i := 10) rfl))) (mvT hZ (hw _ (List.mem_of_getElem? (i := 9) rfl))) (backOf (W := 0) (rm2 l Z a0 hw [] w_LESS w_LESS w_EQUAL w_GREATER (0 : Int32) h0 n0 Z0 W (W.2.2.2.2.2.2.1)) hZ (hw _ (List.mem_of_getElem? (i := 12) rfl)) (hw _ (List.mem_of_getElem? (i := 11) rfl)) (by decide) (by decide)) q4a q4c (g := (mkF m 12 #[.val (.int x0_0), .val (.ref w_LESS)] [(.ref w_LESS)])) rfl (by rw [hml]; rfl) (Steps.refl _) (argsL := []) (rest := []) (lenOf pd_1 rfl) rfl (by show 2 * 0 + _ ≤ _; exact Nat.le_of_eq rfl) (hb hby at_12) (fun _ _ => ⟨rfl, e1, (by decide : 0 + 0 ≤ _), (by decide : 0 + 0 ≤ _)⟩)
    dsimp only [Pt.U, Pt.locs, Pt.cells, Pt.slots] at X4 l4 y4 z4 st4 hQ4
    subst l4 y4 z4
    obtain ⟨hv4, N4q, e4⟩ := hQ4
    have N4 := Fr.app N1 N4q
    have hf4 : f2 w_LESS w_LESS w_EQUAL w_GREATER (0 : Int32) = (0 : Int32) := rfl
    rw [hf4] at hv4
    subst hv4
    have sg7 : ∀ t, Steps p.tables e below (T4.setTop (mkF m 16 #[.val (.int x0_0), .val (.ref w_LESS)] [(.int x0_0), (.int (0 : Int32))])) t → Steps p.tables e below (T1.setTop (mkF m 12 #[.val (.int x0_0), .val (.ref w_LESS)] [(.ref w_LESS)])) t := fun t kt => by
      show Steps p.tables e below (T1.setTop (mkF m 12 #[.val (.int x0_0), .val (.ref w_LESS)] [(.ref w_LESS)])) _
      refine st4.trans ?_
      show Steps p.tables e below (T4.setTop (mkF m 15 #[.val (.int x0_0), .val (.ref w_LESS)] [(.int (0 : Int32))])) _
      refine XS.iloadN X4.here hx rfl (hb hby at_15) rfl ?_
      exact kt
    obtain ⟨v6, _, ⟨T6, L6, k6, n6⟩, -, X6, ⟨Lc6, hQ6, l6, y6, z6⟩, st6⟩ := Jvm.LawKit.callS X4 hx (y := (⟨"com/example/graticule/graticule/filter/ValueOrderSignPinLaw", "signum", "(I)I"⟩ : MethodName)) hown (mvT hZ (hw _ (List.mem_of_getElem? (i := 15) rfl))) (mvT hZ (hw _ (List.mem_of_getElem? (i := 16) rfl))) (mvT hZ (hw _ (List.mem_of_getElem? (i := 17) rfl))) (mvT hZ (hw _ (List.mem_of_getElem? (i := 18) rfl))) (by decide) (backOf (W := 1) (rm3 l Z a0 hw [] x0_0 w_LESS w_EQUAL w_GREATER h0 n0 Z0 W) hZ (hw _ (List.mem_of_getElem? (i := 18) rfl)) (hw _ (List.mem_of_getElem? (i := 17) rfl)) (by decide) (by decide)) (g := (mkF m 16 #[.val (.int x0_0), .val (.ref w_LESS)] [(.int x0_0), (.int (0 : Int32))])) rfl (by rw [hml]; rfl) (argsL := [(.int x0_0)]) (rest := [(.int (0 : Int32))]) (lenOf pd_2 rfl) rfl (by show 2 * 0 + _ ≤ _; exact Nat.le_of_eq rfl) (hb hby at_16) (fun _ _ => ⟨rfl, e4, (by decide : 0 + 0 ≤ _), (by decide : 0 + 0 ≤ _)⟩)
    dsimp only [Pt.U, Pt.locs, Pt.cells, Pt.slots] at X6 l6 y6 z6 st6 hQ6
    subst l6 y6 z6
    obtain ⟨hv6, N6q, e6⟩ := hQ6
    have N6 := Fr.app N4 N6q
    subst hv6
    have sg8 : ∀ t, Steps p.tables e below (T6.setTop (mkF m 21 #[.val (.int x0_0), .val (.ref w_LESS)] [(.int ((f3 x0_0 w_LESS w_EQUAL w_GREATER) + (1 : Int32))), (.int (0 : Int32))])) t → Steps p.tables e below (T4.setTop (mkF m 16 #[.val (.int x0_0), .val (.ref w_LESS)] [(.int x0_0), (.int (0 : Int32))])) t := fun t kt => by
      show Steps p.tables e below (T4.setTop (mkF m 16 #[.val (.int x0_0), .val (.ref w_LESS)] [(.int x0_0), (.int (0 : Int32))])) _
      refine st6 _ ?_
      show Steps p.tables e below (T6.setTop (mkF m 19 #[.val (.int x0_0), .val (.ref w_LESS)] [(.int (f3 x0_0 w_LESS w_EQUAL w_GREATER)), (.int (0 : Int32))])) _
      refine XS.iconst X6.here hx rfl (hb hby at_19) ?_
      show Steps p.tables e below (T6.setTop (mkF m 20 #[.val (.int x0_0), .val (.ref w_LESS)] [(.int (1 : Int32)), (.int (f3 x0_0 w_LESS w_EQUAL w_GREATER)), (.int (0 : Int32))])) _
      refine XS.iadd X6.here hx rfl (hb hby at_20) rfl ?_
      exact kt
    by_cases hc21_9 : (0 : Int32) = ((f3 x0_0 w_LESS w_EQUAL w_GREATER) + (1 : Int32))
    · obtain ⟨fs, hr, hrun, hended, hW, hsame⟩ := X6.leave (v := some (.int (1 : Int32))) (fun h => by rw [Bd.returns] at h; cases h)
      refine ⟨_, _, pre0 _ (sg2 _ (sg5 _ (sg7 _ (sg8 _ ?_)))), hrun, hended, _, _, rfl, ?_, ⟨_, rfl⟩, hW, hsame.mono (by decide) (by decide)⟩
      · show Steps p.tables e below (T6.setTop (mkF m 21 #[.val (.int x0_0), .val (.ref w_LESS)] [(.int ((f3 x0_0 w_LESS w_EQUAL w_GREATER) + (1 : Int32))), (.int (0 : Int32))])) _
        refine XS.icmpNo X6.here hx rfl (hb hby at_21) rfl (teq hc21_9).2 ?_
        show Steps p.tables e below (T6.setTop (mkF m 24 #[.val (.int x0_0), .val (.ref w_LESS)] [])) _
        refine XS.iconst X6.here hx rfl (hb hby at_24) ?_
        show Steps p.tables e below (T6.setTop (mkF m 25 #[.val (.int x0_0), .val (.ref w_LESS)] [(.int (1 : Int32))])) _
        refine XS.goto X6.here hx rfl (pc0 := 25) (pc' := 29) rfl (hb hby at_25) (by decide) (by decide) ?_
        show Steps p.tables e below (T6.setTop (mkF m 29 #[.val (.int x0_0), .val (.ref w_LESS)] [(.int (1 : Int32))])) _
        exact retN X6 hx (t := .boolean) Bd.returns (by simp) (hb hby at_29) hr
      · exact ⟨congrArg (fun z => some (Value.int z)) (show (1 : Int32) = f0 x0_0 w_LESS w_EQUAL w_GREATER from by unfold f0; rw [if_pos hs1_3, if_pos hc21_9]), N6, e6⟩
    · obtain ⟨fs, hr, hrun, hended, hW, hsame⟩ := X6.leave (v := some (.int (0 : Int32))) (fun h => by rw [Bd.returns] at h; cases h)
      refine ⟨_, _, pre0 _ (sg2 _ (sg5 _ (sg7 _ (sg8 _ ?_)))), hrun, hended, _, _, rfl, ?_, ⟨_, rfl⟩, hW, hsame.mono (by decide) (by decide)⟩
      · show Steps p.tables e below (T6.setTop (mkF m 21 #[.val (.int x0_0), .val (.ref w_LESS)] [(.int ((f3 x0_0 w_LESS w_EQUAL w_GREATER) + (1 : Int32))), (.int (0 : Int32))])) _
        refine XS.icmpYes X6.here hx rfl (pc0 := 21) (pc' := 28) rfl (hb hby at_21) rfl (feq hc21_9).2 (by decide) (by decide) ?_
        show Steps p.tables e below (T6.setTop (mkF m 28 #[.val (.int x0_0), .val (.ref w_LESS)] [])) _
        refine XS.iconst X6.here hx rfl (hb hby at_28) ?_
        show Steps p.tables e below (T6.setTop (mkF m 29 #[.val (.int x0_0), .val (.ref w_LESS)] [(.int (0 : Int32))])) _
        exact retN X6 hx (t := .boolean) Bd.returns (by simp) (hb hby at_29) hr
      · exact ⟨congrArg (fun z => some (Value.int z)) (show (0 : Int32) = f0 x0_0 w_LESS w_EQUAL w_GREATER from by unfold f0; rw [if_pos hs1_3, if_neg hc21_9]), N6, e6⟩
  · by_cases hs1_10 : (0 : Int32) < x0_0
    · have hf1 : f1 x0_0 w_LESS w_EQUAL w_GREATER = w_GREATER := by unfold f1; rw [if_neg hs1_3, if_pos hs1_10]
      rw [hf1] at hv1
      subst hv1
      have sg12 : ∀ t, Steps p.tables e below (T1.setTop (mkF m 12 #[.val (.int x0_0), .val (.ref w_GREATER)] [(.ref w_GREATER)])) t → Steps p.tables e below (s₁.setTop (mkF m 1 #[.val (.int x0_0), .unset] [(.int x0_0)])) t := fun t kt => by
        show Steps p.tables e below (s₁.setTop (mkF m 1 #[.val (.int x0_0), .unset] [(.int x0_0)])) _
        refine st1 _ ?_
        show Steps p.tables e below (T1.setTop (mkF m 4 #[.val (.int x0_0), .unset] [(.ref w_GREATER)])) _
        refine XS.astoreN X1.here hx rfl (hb hby at_4) rfl rfl (l' := #[.val (.int x0_0), .val (.ref w_GREATER)]) rfl ?_
        show Steps p.tables e below (T1.setTop (mkF m 5 #[.val (.int x0_0), .val (.ref w_GREATER)] [])) _
        refine XS.aloadN X1.here hx rfl (hb hby at_5) rfl rfl ?_
        show Steps p.tables e below (T1.setTop (mkF m 6 #[.val (.int x0_0), .val (.ref w_GREATER)] [(.ref w_GREATER)])) _
        refine XS.ifnonnullYes X1.here hx rfl (pc0 := 6) (pc' := 11) rfl (hb hby at_6) rfl (by decide) (by decide) ?_
        show Steps p.tables e below (T1.setTop (mkF m 11 #[.val (.int x0_0), .val (.ref w_GREATER)] [])) _
        refine XS.aloadN X1.here hx rfl (hb hby at_11) rfl rfl ?_
        exact kt
      obtain ⟨cq11, kq11, q11a, q11b, q11c⟩ := isOf hZ e1 (W.2.2.2.2.2.1)
      obtain ⟨v11, _, ⟨T11, L11, k11, n11⟩, -, X11, ⟨Lc11, hQ11, l11, y11, z11⟩, st11⟩ := X1.virtualBackUp hx (owner := "java/lang/Enum") (x := (⟨"com/example/graticule/graticule/filter/ValueOrder", "ordinal", "()I"⟩ : MethodName)) (y := (⟨"java/lang/Enum", "ordinal", "()I"⟩ : MethodName)) hown (mvT hZ (hw _ (List.mem_of_getElem? (i := 6) rfl))) (mvT hZ (hw _ (List.mem_of_getElem? (i := 7) rfl))) (mvT hZ (hw _ (List.mem_of_getElem? (i := 8) rfl))) (by decide) (mvT hZ (hw _ (List.mem_of_getElem? (i := 10) rfl))) (mvT hZ (hw _ (List.mem_of_getElem? (i := 9) rfl))) (backOf (W := 0) (rm2 l Z a0 hw [] w_GREATER w_LESS w_EQUAL w_GREATER (2 : Int32) h0 n0 Z0 W (W.2.2.2.2.2.2.2.2)) hZ (hw _ (List.mem_of_getElem? (i := 12) rfl)) (hw _ (List.mem_of_getElem? (i := 11) rfl)) (by decide) (by decide)) q11a q11c (g := (mkF m 12 #[.val (.int x0_0), .val (.ref w_GREATER)] [(.ref w_GREATER)])) rfl (by rw [hml]; rfl) (Steps.refl _) (argsL := []) (rest := []) (lenOf pd_1 rfl) rfl (by show 2 * 0 + _ ≤ _; exact Nat.le_of_eq rfl) (hb hby at_12) (fun _ _ => ⟨rfl, e1, (by decide : 0 + 0 ≤ _), (by decide : 0 + 0 ≤ _)⟩)
      dsimp only [Pt.U, Pt.locs, Pt.cells, Pt.slots] at X11 l11 y11 z11 st11 hQ11
      subst l11 y11 z11
      obtain ⟨hv11, N11q, e11⟩ := hQ11
      have N11 := Fr.app N1 N11q
      have hf11 : f2 w_GREATER w_LESS w_EQUAL w_GREATER (2 : Int32) = (2 : Int32) := rfl
      rw [hf11] at hv11
      subst hv11
      have sg14 : ∀ t, Steps p.tables e below (T11.setTop (mkF m 16 #[.val (.int x0_0), .val (.ref w_GREATER)] [(.int x0_0), (.int (2 : Int32))])) t → Steps p.tables e below (T1.setTop (mkF m 12 #[.val (.int x0_0), .val (.ref w_GREATER)] [(.ref w_GREATER)])) t := fun t kt => by
        show Steps p.tables e below (T1.setTop (mkF m 12 #[.val (.int x0_0), .val (.ref w_GREATER)] [(.ref w_GREATER)])) _
        refine st11.trans ?_
        show Steps p.tables e below (T11.setTop (mkF m 15 #[.val (.int x0_0), .val (.ref w_GREATER)] [(.int (2 : Int32))])) _
        refine XS.iloadN X11.here hx rfl (hb hby at_15) rfl ?_
        exact kt
      obtain ⟨v13, _, ⟨T13, L13, k13, n13⟩, -, X13, ⟨Lc13, hQ13, l13, y13, z13⟩, st13⟩ := Jvm.LawKit.callS X11 hx (y := (⟨"com/example/graticule/graticule/filter/ValueOrderSignPinLaw", "signum", "(I)I"⟩ : MethodName)) hown (mvT hZ (hw _ (List.mem_of_getElem? (i := 15) rfl))) (mvT hZ (hw _ (List.mem_of_getElem? (i := 16) rfl))) (mvT hZ (hw _ (List.mem_of_getElem? (i := 17) rfl))) (mvT hZ (hw _ (List.mem_of_getElem? (i := 18) rfl))) (by decide) (backOf (W := 1) (rm3 l Z a0 hw [] x0_0 w_LESS w_EQUAL w_GREATER h0 n0 Z0 W) hZ (hw _ (List.mem_of_getElem? (i := 18) rfl)) (hw _ (List.mem_of_getElem? (i := 17) rfl)) (by decide) (by decide)) (g := (mkF m 16 #[.val (.int x0_0), .val (.ref w_GREATER)] [(.int x0_0), (.int (2 : Int32))])) rfl (by rw [hml]; rfl) (argsL := [(.int x0_0)]) (rest := [(.int (2 : Int32))]) (lenOf pd_2 rfl) rfl (by show 2 * 0 + _ ≤ _; exact Nat.le_of_eq rfl) (hb hby at_16) (fun _ _ => ⟨rfl, e11, (by decide : 0 + 0 ≤ _), (by decide : 0 + 0 ≤ _)⟩)
      dsimp only [Pt.U, Pt.locs, Pt.cells, Pt.slots] at X13 l13 y13 z13 st13 hQ13
      subst l13 y13 z13
      obtain ⟨hv13, N13q, e13⟩ := hQ13
      have N13 := Fr.app N11 N13q
      subst hv13
      have sg15 : ∀ t, Steps p.tables e below (T13.setTop (mkF m 21 #[.val (.int x0_0), .val (.ref w_GREATER)] [(.int ((f3 x0_0 w_LESS w_EQUAL w_GREATER) + (1 : Int32))), (.int (2 : Int32))])) t → Steps p.tables e below (T11.setTop (mkF m 16 #[.val (.int x0_0), .val (.ref w_GREATER)] [(.int x0_0), (.int (2 : Int32))])) t := fun t kt => by
        show Steps p.tables e below (T11.setTop (mkF m 16 #[.val (.int x0_0), .val (.ref w_GREATER)] [(.int x0_0), (.int (2 : Int32))])) _
        refine st13 _ ?_
        show Steps p.tables e below (T13.setTop (mkF m 19 #[.val (.int x0_0), .val (.ref w_GREATER)] [(.int (f3 x0_0 w_LESS w_EQUAL w_GREATER)), (.int (2 : Int32))])) _
        refine XS.iconst X13.here hx rfl (hb hby at_19) ?_
        show Steps p.tables e below (T13.setTop (mkF m 20 #[.val (.int x0_0), .val (.ref w_GREATER)] [(.int (1 : Int32)), (.int (f3 x0_0 w_LESS w_EQUAL w_GREATER)), (.int (2 : Int32))])) _
        refine XS.iadd X13.here hx rfl (hb hby at_20) rfl ?_
        exact kt
      by_cases hc21_16 : (2 : Int32) = ((f3 x0_0 w_LESS w_EQUAL w_GREATER) + (1 : Int32))
      · obtain ⟨fs, hr, hrun, hended, hW, hsame⟩ := X13.leave (v := some (.int (1 : Int32))) (fun h => by rw [Bd.returns] at h; cases h)
        refine ⟨_, _, pre0 _ (sg2 _ (sg12 _ (sg14 _ (sg15 _ ?_)))), hrun, hended, _, _, rfl, ?_, ⟨_, rfl⟩, hW, hsame.mono (by decide) (by decide)⟩
        · show Steps p.tables e below (T13.setTop (mkF m 21 #[.val (.int x0_0), .val (.ref w_GREATER)] [(.int ((f3 x0_0 w_LESS w_EQUAL w_GREATER) + (1 : Int32))), (.int (2 : Int32))])) _
          refine XS.icmpNo X13.here hx rfl (hb hby at_21) rfl (teq hc21_16).2 ?_
          show Steps p.tables e below (T13.setTop (mkF m 24 #[.val (.int x0_0), .val (.ref w_GREATER)] [])) _
          refine XS.iconst X13.here hx rfl (hb hby at_24) ?_
          show Steps p.tables e below (T13.setTop (mkF m 25 #[.val (.int x0_0), .val (.ref w_GREATER)] [(.int (1 : Int32))])) _
          refine XS.goto X13.here hx rfl (pc0 := 25) (pc' := 29) rfl (hb hby at_25) (by decide) (by decide) ?_
          show Steps p.tables e below (T13.setTop (mkF m 29 #[.val (.int x0_0), .val (.ref w_GREATER)] [(.int (1 : Int32))])) _
          exact retN X13 hx (t := .boolean) Bd.returns (by simp) (hb hby at_29) hr
        · exact ⟨congrArg (fun z => some (Value.int z)) (show (1 : Int32) = f0 x0_0 w_LESS w_EQUAL w_GREATER from by unfold f0; rw [if_neg hs1_3, if_pos hs1_10, if_pos hc21_16]), N13, e13⟩
      · obtain ⟨fs, hr, hrun, hended, hW, hsame⟩ := X13.leave (v := some (.int (0 : Int32))) (fun h => by rw [Bd.returns] at h; cases h)
        refine ⟨_, _, pre0 _ (sg2 _ (sg12 _ (sg14 _ (sg15 _ ?_)))), hrun, hended, _, _, rfl, ?_, ⟨_, rfl⟩, hW, hsame.mono (by decide) (by decide)⟩
        · show Steps p.tables e below (T13.setTop (mkF m 21 #[.val (.int x0_0), .val (.ref w_GREATER)] [(.int ((f3 x0_0 w_LESS w_EQUAL w_GREATER) + (1 : Int32))), (.int (2 : Int32))])) _
          refine XS.icmpYes X13.here hx rfl (pc0 := 21) (pc' := 28) rfl (hb hby at_21) rfl (feq hc21_16).2 (by decide) (by decide) ?_
          show Steps p.tables e below (T13.setTop (mkF m 28 #[.val (.int x0_0), .val (.ref w_GREATER)] [])) _
          refine XS.iconst X13.here hx rfl (hb hby at_28) ?_
          show Steps p.tables e below (T13.setTop (mkF m 29 #[.val (.int x0_0), .val (.ref w_GREATER)] [(.int (0 : Int32))])) _
          exact retN X13 hx (t := .boolean) Bd.returns (by simp) (hb hby at_29) hr
        · exact ⟨congrArg (fun z => some (Value.int z)) (show (0 : Int32) = f0 x0_0 w_LESS w_EQUAL w_GREATER from by unfold f0; rw [if_neg hs1_3, if_pos hs1_10, if_neg hc21_16]), N13, e13⟩
    · have hf1 : f1 x0_0 w_LESS w_EQUAL w_GREATER = w_EQUAL := by unfold f1; rw [if_neg hs1_3, if_neg hs1_10]
      rw [hf1] at hv1
      subst hv1
      have sg18 : ∀ t, Steps p.tables e below (T1.setTop (mkF m 12 #[.val (.int x0_0), .val (.ref w_EQUAL)] [(.ref w_EQUAL)])) t → Steps p.tables e below (s₁.setTop (mkF m 1 #[.val (.int x0_0), .unset] [(.int x0_0)])) t := fun t kt => by
        show Steps p.tables e below (s₁.setTop (mkF m 1 #[.val (.int x0_0), .unset] [(.int x0_0)])) _
        refine st1 _ ?_
        show Steps p.tables e below (T1.setTop (mkF m 4 #[.val (.int x0_0), .unset] [(.ref w_EQUAL)])) _
        refine XS.astoreN X1.here hx rfl (hb hby at_4) rfl rfl (l' := #[.val (.int x0_0), .val (.ref w_EQUAL)]) rfl ?_
        show Steps p.tables e below (T1.setTop (mkF m 5 #[.val (.int x0_0), .val (.ref w_EQUAL)] [])) _
        refine XS.aloadN X1.here hx rfl (hb hby at_5) rfl rfl ?_
        show Steps p.tables e below (T1.setTop (mkF m 6 #[.val (.int x0_0), .val (.ref w_EQUAL)] [(.ref w_EQUAL)])) _
        refine XS.ifnonnullYes X1.here hx rfl (pc0 := 6) (pc' := 11) rfl (hb hby at_6) rfl (by decide) (by decide) ?_
        show Steps p.tables e below (T1.setTop (mkF m 11 #[.val (.int x0_0), .val (.ref w_EQUAL)] [])) _
        refine XS.aloadN X1.here hx rfl (hb hby at_11) rfl rfl ?_
        exact kt
      obtain ⟨cq17, kq17, q17a, q17b, q17c⟩ := isOf hZ e1 (W.2.2.2.2.1)
      obtain ⟨v17, _, ⟨T17, L17, k17, n17⟩, -, X17, ⟨Lc17, hQ17, l17, y17, z17⟩, st17⟩ := X1.virtualBackUp hx (owner := "java/lang/Enum") (x := (⟨"com/example/graticule/graticule/filter/ValueOrder", "ordinal", "()I"⟩ : MethodName)) (y := (⟨"java/lang/Enum", "ordinal", "()I"⟩ : MethodName)) hown (mvT hZ (hw _ (List.mem_of_getElem? (i := 6) rfl))) (mvT hZ (hw _ (List.mem_of_getElem? (i := 7) rfl))) (mvT hZ (hw _ (List.mem_of_getElem? (i := 8) rfl))) (by decide) (mvT hZ (hw _ (List.mem_of_getElem? (i := 10) rfl))) (mvT hZ (hw _ (List.mem_of_getElem? (i := 9) rfl))) (backOf (W := 0) (rm2 l Z a0 hw [] w_EQUAL w_LESS w_EQUAL w_GREATER (1 : Int32) h0 n0 Z0 W (W.2.2.2.2.2.2.2.1)) hZ (hw _ (List.mem_of_getElem? (i := 12) rfl)) (hw _ (List.mem_of_getElem? (i := 11) rfl)) (by decide) (by decide)) q17a q17c (g := (mkF m 12 #[.val (.int x0_0), .val (.ref w_EQUAL)] [(.ref w_EQUAL)])) rfl (by rw [hml]; rfl) (Steps.refl _) (argsL := []) (rest := []) (lenOf pd_1 rfl) rfl (by show 2 * 0 + _ ≤ _; exact Nat.le_of_eq rfl) (hb hby at_12) (fun _ _ => ⟨rfl, e1, (by decide : 0 + 0 ≤ _), (by decide : 0 + 0 ≤ _)⟩)
      dsimp only [Pt.U, Pt.locs, Pt.cells, Pt.slots] at X17 l17 y17 z17 st17 hQ17
      subst l17 y17 z17
      obtain ⟨hv17, N17q, e17⟩ := hQ17
      have N17 := Fr.app N1 N17q
      have hf17 : f2 w_EQUAL w_LESS w_EQUAL w_GREATER (1 : Int32) = (1 : Int32) := rfl
      rw [hf17] at hv17
      subst hv17
      have sg20 : ∀ t, Steps p.tables e below (T17.setTop (mkF m 16 #[.val (.int x0_0), .val (.ref w_EQUAL)] [(.int x0_0), (.int (1 : Int32))])) t → Steps p.tables e below (T1.setTop (mkF m 12 #[.val (.int x0_0), .val (.ref w_EQUAL)] [(.ref w_EQUAL)])) t := fun t kt => by
        show Steps p.tables e below (T1.setTop (mkF m 12 #[.val (.int x0_0), .val (.ref w_EQUAL)] [(.ref w_EQUAL)])) _
        refine st17.trans ?_
        show Steps p.tables e below (T17.setTop (mkF m 15 #[.val (.int x0_0), .val (.ref w_EQUAL)] [(.int (1 : Int32))])) _
        refine XS.iloadN X17.here hx rfl (hb hby at_15) rfl ?_
        exact kt
      obtain ⟨v19, _, ⟨T19, L19, k19, n19⟩, -, X19, ⟨Lc19, hQ19, l19, y19, z19⟩, st19⟩ := Jvm.LawKit.callS X17 hx (y := (⟨"com/example/graticule/graticule/filter/ValueOrderSignPinLaw", "signum", "(I)I"⟩ : MethodName)) hown (mvT hZ (hw _ (List.mem_of_getElem? (i := 15) rfl))) (mvT hZ (hw _ (List.mem_of_getElem? (i := 16) rfl))) (mvT hZ (hw _ (List.mem_of_getElem? (i := 17) rfl))) (mvT hZ (hw _ (List.mem_of_getElem? (i := 18) rfl))) (by decide) (backOf (W := 1) (rm3 l Z a0 hw [] x0_0 w_LESS w_EQUAL w_GREATER h0 n0 Z0 W) hZ (hw _ (List.mem_of_getElem? (i := 18) rfl)) (hw _ (List.mem_of_getElem? (i := 17) rfl)) (by decide) (by decide)) (g := (mkF m 16 #[.val (.int x0_0), .val (.ref w_EQUAL)] [(.int x0_0), (.int (1 : Int32))])) rfl (by rw [hml]; rfl) (argsL := [(.int x0_0)]) (rest := [(.int (1 : Int32))]) (lenOf pd_2 rfl) rfl (by show 2 * 0 + _ ≤ _; exact Nat.le_of_eq rfl) (hb hby at_16) (fun _ _ => ⟨rfl, e17, (by decide : 0 + 0 ≤ _), (by decide : 0 + 0 ≤ _)⟩)
      dsimp only [Pt.U, Pt.locs, Pt.cells, Pt.slots] at X19 l19 y19 z19 st19 hQ19
      subst l19 y19 z19
      obtain ⟨hv19, N19q, e19⟩ := hQ19
      have N19 := Fr.app N17 N19q
      subst hv19
      have sg21 : ∀ t, Steps p.tables e below (T19.setTop (mkF m 21 #[.val (.int x0_0), .val (.ref w_EQUAL)] [(.int ((f3 x0_0 w_LESS w_EQUAL w_GREATER) + (1 : Int32))), (.int (1 : Int32))])) t → Steps p.tables e below (T17.setTop (mkF m 16 #[.val (.int x0_0), .val (.ref w_EQUAL)] [(.int x0_0), (.int (1 : Int32))])) t := fun t kt => by
        show Steps p.tables e below (T17.setTop (mkF m 16 #[.val (.int x0_0), .val (.ref w_EQUAL)] [(.int x0_0), (.int (1 : Int32))])) _
        refine st19 _ ?_
        show Steps p.tables e below (T19.setTop (mkF m 19 #[.val (.int x0_0), .val (.ref w_EQUAL)] [(.int (f3 x0_0 w_LESS w_EQUAL w_GREATER)), (.int (1 : Int32))])) _
        refine XS.iconst X19.here hx rfl (hb hby at_19) ?_
        show Steps p.tables e below (T19.setTop (mkF m 20 #[.val (.int x0_0), .val (.ref w_EQUAL)] [(.int (1 : Int32)), (.int (f3 x0_0 w_LESS w_EQUAL w_GREATER)), (.int (1 : Int32))])) _
        refine XS.iadd X19.here hx rfl (hb hby at_20) rfl ?_
        exact kt
      by_cases hc21_22 : (1 : Int32) = ((f3 x0_0 w_LESS w_EQUAL w_GREATER) + (1 : Int32))
      · obtain ⟨fs, hr, hrun, hended, hW, hsame⟩ := X19.leave (v := some (.int (1 : Int32))) (fun h => by rw [Bd.returns] at h; cases h)
        refine ⟨_, _, pre0 _ (sg2 _ (sg18 _ (sg20 _ (sg21 _ ?_)))), hrun, hended, _, _, rfl, ?_, ⟨_, rfl⟩, hW, hsame.mono (by decide) (by decide)⟩
        · show Steps p.tables e below (T19.setTop (mkF m 21 #[.val (.int x0_0), .val (.ref w_EQUAL)] [(.int ((f3 x0_0 w_LESS w_EQUAL w_GREATER) + (1 : Int32))), (.int (1 : Int32))])) _
          refine XS.icmpNo X19.here hx rfl (hb hby at_21) rfl (teq hc21_22).2 ?_
          show Steps p.tables e below (T19.setTop (mkF m 24 #[.val (.int x0_0), .val (.ref w_EQUAL)] [])) _
          refine XS.iconst X19.here hx rfl (hb hby at_24) ?_
          show Steps p.tables e below (T19.setTop (mkF m 25 #[.val (.int x0_0), .val (.ref w_EQUAL)] [(.int (1 : Int32))])) _
          refine XS.goto X19.here hx rfl (pc0 := 25) (pc' := 29) rfl (hb hby at_25) (by decide) (by decide) ?_
          show Steps p.tables e below (T19.setTop (mkF m 29 #[.val (.int x0_0), .val (.ref w_EQUAL)] [(.int (1 : Int32))])) _
          exact retN X19 hx (t := .boolean) Bd.returns (by simp) (hb hby at_29) hr
        · exact ⟨congrArg (fun z => some (Value.int z)) (show (1 : Int32) = f0 x0_0 w_LESS w_EQUAL w_GREATER from by unfold f0; rw [if_neg hs1_3, if_neg hs1_10, if_pos hc21_22]), N19, e19⟩
      · obtain ⟨fs, hr, hrun, hended, hW, hsame⟩ := X19.leave (v := some (.int (0 : Int32))) (fun h => by rw [Bd.returns] at h; cases h)
        refine ⟨_, _, pre0 _ (sg2 _ (sg18 _ (sg20 _ (sg21 _ ?_)))), hrun, hended, _, _, rfl, ?_, ⟨_, rfl⟩, hW, hsame.mono (by decide) (by decide)⟩
        · show Steps p.tables e below (T19.setTop (mkF m 21 #[.val (.int x0_0), .val (.ref w_EQUAL)] [(.int ((f3 x0_0 w_LESS w_EQUAL w_GREATER) + (1 : Int32))), (.int (1 : Int32))])) _
          refine XS.icmpYes X19.here hx rfl (pc0 := 21) (pc' := 28) rfl (hb hby at_21) rfl (feq hc21_22).2 (by decide) (by decide) ?_
          show Steps p.tables e below (T19.setTop (mkF m 28 #[.val (.int x0_0), .val (.ref w_EQUAL)] [])) _
          refine XS.iconst X19.here hx rfl (hb hby at_28) ?_
          show Steps p.tables e below (T19.setTop (mkF m 29 #[.val (.int x0_0), .val (.ref w_EQUAL)] [(.int (0 : Int32))])) _
          exact retN X19 hx (t := .boolean) Bd.returns (by simp) (hb hby at_29) hr
        · exact ⟨congrArg (fun z => some (Value.int z)) (show (0 : Int32) = f0 x0_0 w_LESS w_EQUAL w_GREATER from by unfold f0; rw [if_neg hs1_3, if_neg hs1_10, if_neg hc21_22]), N19, e19⟩
theorem own_f3n (x : Int32) (w_LESS w_EQUAL w_GREATER : Addr) (h : x < (0 : Int32)) : f3 x w_LESS w_EQUAL w_GREATER = -1 := by
  unfold f3
  rw [Int32.lt_iff_toInt_lt, show (0 : Int32).toInt = 0 from by decide] at h
  have a := x.le_toInt
  have e : x >>> ((31 : Int32) &&& 31) = -1 := Int32.toInt_inj.mp (by rw [own_shr, show (-1 : Int32).toInt = -1 from by decide]; omega)
  rw [e, own_or1]
theorem own_f3p (x : Int32) (w_LESS w_EQUAL w_GREATER : Addr) (h : (0 : Int32) < x) : f3 x w_LESS w_EQUAL w_GREATER = 1 := by
  unfold f3
  rw [Int32.lt_iff_toInt_lt, show (0 : Int32).toInt = 0 from by decide] at h
  have a := x.toInt_lt
  have e : x >>> ((31 : Int32) &&& 31) = 0 := Int32.toInt_inj.mp (by rw [own_shr, show (0 : Int32).toInt = 0 from by decide]; omega)
  rw [e, own_ush1 _ (by rw [own_ng]; omega)]
  decide
theorem own_f3z (x : Int32) (w_LESS w_EQUAL w_GREATER : Addr) (h1 : ¬ (x < (0 : Int32))) (h2 : ¬ ((0 : Int32) < x)) : f3 x w_LESS w_EQUAL w_GREATER = 0 := by
  unfold f3
  rw [Int32.lt_iff_toInt_lt, show (0 : Int32).toInt = 0 from by decide] at h1 h2
  have e : x >>> ((31 : Int32) &&& 31) = 0 := Int32.toInt_inj.mp (by rw [own_shr, show (0 : Int32).toInt = 0 from by decide]; omega)
  rw [e, own_ush0 _ (by rw [own_ng]; omega)]
  decide
theorem own_one (x : Int32) (w_LESS w_EQUAL w_GREATER : Addr) : f0 x w_LESS w_EQUAL w_GREATER = 1 := by
  unfold f0
  by_cases h1 : x < (0 : Int32)
  · rw [if_pos h1, own_f3n x w_LESS w_EQUAL w_GREATER h1, if_pos (by decide)]
  · by_cases h2 : (0 : Int32) < x
    · rw [if_neg h1, if_pos h2, own_f3p x w_LESS w_EQUAL w_GREATER h2, if_pos (by decide)]
    · rw [if_neg h1, if_neg h2, own_f3z x w_LESS w_EQUAL w_GREATER h1 h2, if_pos (by decide)]
set_option maxRecDepth 65536 in
set_option maxHeartbeats 40000000 in
theorem comes_1 {Post : Tables → Env → Array Value → State → Outcome → State → Prop} (hpost : ∀ tb e args s v u, (limb_1_1.after args s (.returned v) u = true ∧ limb_1_2.after args s (.returned v) u = true ∧ True) → FrameEnd s (.returned v) u (Jvm.fieldLocs frame_1_writes args s ++ Jvm.arrayLocs frame_1_arrays args s ++ Jvm.staticLocs frame_1_statics s) 0 0 → Post tb e args s (.returned v) u) :
    ArmFor flags0 classFile x code maxLocals ret World_1 tables_1 room_1 Calls_1 rest_1 Pre_1 Post := by
  intro l hfl _ _ p e ha hc hk s m args below hf hA hF happ hP
  obtain ⟨hcalls, hrest, hpre⟩ := hP
  obtain ⟨-, -, -, hnamed, -, -, -, hat⟩ := (Spec.applies_iff hf).mp happ
  obtain ⟨hg, hn⟩ := and_e (Cond.before_iff.mp (show (Jvm.Cond.and given_1 narrow_1).before args s = true from hpre))
  obtain ⟨g1, g2⟩ := and_e hg
  obtain ⟨w0, rfl⟩ : ∃ w0 : Value, args = #[w0] := by
    have hs : args.size = 1 := by simpa [Cond.value, given_1] using g1
    obtain ⟨L⟩ := args
    match L, hs with
    | [w0], _ => exact ⟨w0, rfl⟩
  have hw := fun d (hd : d ∈ tables_1) => atoms_spec (ws := Jvm.Cond.code x code maxLocals ret :: tables_1) hat d (List.mem_cons_of_mem _ hd)
  obtain ⟨i0, ei0⟩ := is_v g2
  obtain rfl : w0 = (.int i0) := Option.some.inj ei0
  obtain ⟨m1, m2⟩ := and_e hn
  obtain ⟨m3, m4⟩ := and_e m2
  obtain ⟨m5, m6⟩ := and_e m4
  obtain ⟨m7, m8⟩ := and_e m6
  obtain ⟨m9, m10⟩ := and_e m8
  obtain ⟨w_LESS, evw_LESS⟩ := exa_v m9
  obtain ⟨w_EQUAL, evw_EQUAL⟩ := exa_v m1
  obtain ⟨w_GREATER, evw_GREATER⟩ := exa_v m5
  have WW : World s s.heap w_LESS w_EQUAL w_GREATER := ⟨Sta.start evw_LESS (Or.inr ⟨(hw _ (List.mem_of_getElem? (i := 2) rfl)), (hw _ (List.mem_of_getElem? (i := 22) rfl))⟩), Sta.start evw_EQUAL (Or.inr ⟨(hw _ (List.mem_of_getElem? (i := 2) rfl)), (hw _ (List.mem_of_getElem? (i := 5) rfl))⟩), Sta.start evw_GREATER (Or.inr ⟨(hw _ (List.mem_of_getElem? (i := 2) rfl)), (hw _ (List.mem_of_getElem? (i := 20) rfl))⟩), Exa.start evw_LESS m9, Exa.start evw_EQUAL m1, Exa.start evw_GREATER m5, Fld.start ((fld_at evw_LESS).symm.trans (own_eqI m10)), Fld.start ((fld_at evw_EQUAL).symm.trans (own_eqI m3)), Fld.start ((fld_at evw_GREATER).symm.trans (own_eqI m7))⟩
  obtain ⟨n, o, h1, h2, h3, _, L, rfl, ⟨rfl, N, -⟩, hq⟩ := rm0 l s _ hw tables_1 i0 w_LESS w_EQUAL w_GREATER s.heap s.heap.size (Nat.le_refl _) WW p e ha hc hk s m _ below hf ((Spec.applies_iff_loose hf).mp happ).1 ⟨rfl, State.Warmed39.refl s, rfl⟩ trivial
  have hone : f0 i0 w_LESS w_EQUAL w_GREATER = 1 := own_one i0 w_LESS w_EQUAL w_GREATER
  rw [hone] at h3 hq
  refine ⟨n, _, h1, h2, h3, hpost _ _ _ _ _ _ ⟨Cond.after_iff.mpr rfl, Cond.after_iff.mpr (eq_i res_at (Term.int_eval (1)) rfl), trivial⟩ ⟨hq.1, hq.2.1, (hq.2.2.sift fun y hy => Or.inr (N y hy)).mono (by decide) (by decide)⟩⟩
theorem main_1_1 : Claimed_1_1 := comes_1 fun _ _ _ _ _ _ h hF => ⟨h.1, hF⟩
theorem main_1_2 : Claimed_1_2 := comes_1 fun _ _ _ _ _ _ h hF => ⟨h.2.1, hF⟩
end Jvm.Pilot.@@N@@
namespace Jvm.Pilot.@@N@@
open Jvm Jvm.ClassFile Sem Op Lib Jvm.Free Jvm.Stand Jvm.Pilot.@@N@@.Jvm.D
/-! MADE BY PROGRAM (witnessworld.py) out of the Statement's table words and the real class files: 10 classes; the members and pool entries that the words name. The judged class is class 1, her method 2. -/
namespace start1
open Jvm.ClassFile
def u (s : String) : CpInfo := .utf8 (stringToUtf16 s)
/-- a pool by its gaps: so many unusable entries, then the entry; so many at the end -/
def gap : Nat → List CpInfo → List CpInfo
  | 0, r => r
  | n + 1, r => .unusable :: gap n r
def poolList (es : List (Nat × CpInfo)) (last : Nat) : List CpInfo := es.foldr (fun e r => gap e.1 (e.2 :: r)) (gap last [])
def pool (es : List (Nat × CpInfo)) (last : Nat) : Array CpInfo := ⟨poolList es last⟩
def fileOf (pool : Array CpInfo) (this : Nat) (attrs : Array Attribute := #[]) (ms : Array MethodInfo := #[]) (fl : Nat := 33) (sup : Nat := 0) (ifs : Array Nat := #[]) (fds : Array FieldInfo := #[]) : ClassFile where
  minorVersion := 0
  majorVersion := 65
  constantPool := pool
  accessFlags := fl
  thisClass := this
  superClass := sup
  interfaces := ifs
  fields := fds
  methods := ms
  attributes := attrs
def plain (name : String) (sup : Option ClassId) : Class where
  name := name
  kind := .ordinary
  loader := none
  accessFlags := 33
  super := sup
  interfaces := #[]
  cf := none
  fields := #[]
  methods := #[]
  instanceTypes := #[]
  staticTypes := #[]
  resolved := #[]
  callSites := []
  init := .initialized
  statics := none
  mirror := none

def pool0 : Array CpInfo := pool [(5, u "<init>"), (0, u "()V"), (1, .class_ 10), (1, u "java/lang/Object")] 113

def k0m0 : Method := { name := "<init>", desc := "()V", sig := { parameters := [], returnType := none }, accessFlags := 1, code := none }
/-- java/lang/Object -/
def k0 : Class := { plain "java/lang/Object" none with
  accessFlags := 33
  interfaces := #[]
  cf := some (fileOf pool0 8 #[] #[{ accessFlags := 1, nameIndex := 5, descriptorIndex := 6, attributes := #[] }] 33 0 #[] #[])
  fields := #[]
  methods := #[k0m0]
  instanceTypes := #[]
  staticTypes := #[]
  resolved := Array.replicate 124 none
  statics := none }

def pool1 : Array CpInfo := pool [(2, .class_ 4), (1, u "java/lang/Object"), (0, u "<init>"), (0, u "()V"), (0, .methodref 8 9), (0, .class_ 10), (0, .nameAndType 11 12), (0, u "com/example/graticule/graticule/filter/ValueOrder"), (0, u "sign"), (0, u "(I)Lcom/example/graticule/graticule/filter/ValueOrder;"), (0, .methodref 8 14), (0, .nameAndType 15 16), (0, u "ordinal"), (0, u "()I"), (0, .methodref 18 19), (0, .class_ 20), (0, .nameAndType 21 22), (0, u "com/example/graticule/graticule/filter/ValueOrderSignPinLaw"), (0, u "signum"), (0, u "(I)I"), (2, u "law"), (0, u "(I)Z")] 3

def k1m0 : Method := { name := "<init>", desc := "()V", sig := { parameters := [], returnType := none }, accessFlags := 2, code := none }
def k1c1 : Code := { maxStack := 4, maxLocals := 1, code := method_2_code, exceptionTable := #[], attributes := #[] }
def k1m1 : Method := { name := "signum", desc := "(I)I", sig := { parameters := [.int], returnType := some .int }, accessFlags := 10, code := some k1c1 }
def k1c2 : Code := { maxStack := 3, maxLocals := 2, code := code, exceptionTable := #[], attributes := #[] }
def k1m2 : Method := { name := "law", desc := "(I)Z", sig := { parameters := [.int], returnType := some .boolean }, accessFlags := 9, code := some k1c2 }
/-- com/example/graticule/graticule/filter/ValueOrderSignPinLaw -/
def k1 : Class := { plain "com/example/graticule/graticule/filter/ValueOrderSignPinLaw" (some 0) with
  accessFlags := 49
  interfaces := #[]
  cf := some (fileOf pool1 18 #[] #[{ accessFlags := 2, nameIndex := 5, descriptorIndex := 6, attributes := #[] }, { accessFlags := 10, nameIndex := 21, descriptorIndex := 22, attributes := #[] }, { accessFlags := 9, nameIndex := 25, descriptorIndex := 26, attributes := #[] }] 49 2 #[] #[])
  fields := #[]
  methods := #[k1m0, k1m1, k1m2]
  instanceTypes := #[]
  staticTypes := #[]
  resolved := Array.replicate 30 none
  statics := none }

def pool2 : Array CpInfo := pool [(1, .class_ 2), (0, u "java/lang/constant/Constable"), (0, .class_ 4), (0, u "java/lang/Object")] 6

/-- java/lang/constant/Constable -/
def k2 : Class := { plain "java/lang/constant/Constable" (some 0) with
  accessFlags := 1537
  interfaces := #[]
  cf := some (fileOf pool2 1 #[] #[] 1537 3 #[] #[])
  fields := #[]
  methods := #[]
  instanceTypes := #[]
  staticTypes := #[]
  resolved := Array.replicate 11 none
  statics := none }

def pool3 : Array CpInfo := pool [(1, .class_ 2), (0, u "java/lang/Comparable"), (0, .class_ 4), (0, u "java/lang/Object")] 7

/-- java/lang/Comparable -/
def k3 : Class := { plain "java/lang/Comparable" (some 0) with
  accessFlags := 1537
  interfaces := #[]
  cf := some (fileOf pool3 1 #[] #[] 1537 3 #[] #[])
  fields := #[]
  methods := #[]
  instanceTypes := #[]
  staticTypes := #[]
  resolved := Array.replicate 12 none
  statics := none }

def pool4 : Array CpInfo := pool [(1, .class_ 2), (0, u "java/io/Serializable"), (0, .class_ 4), (0, u "java/lang/Object")] 2

/-- java/io/Serializable -/
def k4 : Class := { plain "java/io/Serializable" (some 0) with
  accessFlags := 1537
  interfaces := #[]
  cf := some (fileOf pool4 1 #[] #[] 1537 3 #[] #[])
  fields := #[]
  methods := #[]
  instanceTypes := #[]
  staticTypes := #[]
  resolved := Array.replicate 7 none
  statics := none }

def pool5 : Array CpInfo := pool [(2, .class_ 4), (1, u "java/lang/Enum"), (0, u "name"), (0, u "Ljava/lang/String;"), (0, .fieldref 2 8), (0, .nameAndType 9 10), (0, u "ordinal"), (0, u "I"), (1, .class_ 14), (1, u "java/lang/Object"), (4, u "hash"), (86, .class_ 108), (1, u "java/lang/Enum$EnumDesc"), (2, .class_ 112), (0, u "java/lang/constant/Constable"), (0, .class_ 114), (0, u "java/lang/Comparable"), (0, .class_ 116), (0, u "java/io/Serializable"), (9, u "()I")] 77

def k5c0 : Code := { maxStack := 1, maxLocals := 1, code := jdk_37_method_2_code, exceptionTable := #[], attributes := #[] }
def k5m0 : Method := { name := "ordinal", desc := "()I", sig := { parameters := [], returnType := some .int }, accessFlags := 17, code := some k5c0 }
/-- java/lang/Enum -/
def k5 : Class := { plain "java/lang/Enum" (some 0) with
  accessFlags := 1057
  interfaces := #[2, 3, 4]
  cf := some (fileOf pool5 2 #[.nestMembers #[106]] #[{ accessFlags := 17, nameIndex := 9, descriptorIndex := 126, attributes := #[] }] 1057 12 #[111, 113, 115] #[{ accessFlags := 18, nameIndex := 5, descriptorIndex := 6, attributes := #[] }, { accessFlags := 18, nameIndex := 9, descriptorIndex := 10, attributes := #[] }, { accessFlags := 2, nameIndex := 19, descriptorIndex := 10, attributes := #[] }])
  fields := #[{ name := "name", type := (.object "java/lang/String"), accessFlags := 18, slot := 0, constantValue := 0 }, { name := "ordinal", type := .int, accessFlags := 18, slot := 1, constantValue := 0 }, { name := "hash", type := .int, accessFlags := 2, slot := 2, constantValue := 0 }]
  methods := #[k5m0]
  instanceTypes := #[(.object "java/lang/String"), .int, .int]
  staticTypes := #[]
  resolved := Array.replicate 204 none
  statics := none }

def pool6 : Array CpInfo := pool [(1, .class_ 2), (0, u "com/example/graticule/graticule/filter/ValueOrder"), (0, .fieldref 1 4), (0, .nameAndType 5 6), (0, u "LESS"), (0, u "Lcom/example/graticule/graticule/filter/ValueOrder;"), (0, .fieldref 1 8), (0, .nameAndType 9 6), (0, u "EQUAL"), (0, .fieldref 1 11), (0, .nameAndType 12 6), (0, u "GREATER"), (2, u "INCOMPARABLE"), (2, u "$VALUES"), (0, u "[Lcom/example/graticule/graticule/filter/ValueOrder;"), (6, .class_ 28), (1, u "java/lang/Enum"), (20, u "sign"), (0, u "(I)Lcom/example/graticule/graticule/filter/ValueOrder;"), (113, u "EXACT_IN_DOUBLE"), (0, u "J")] 15

def k6c0 : Code := { maxStack := 1, maxLocals := 1, code := prog_10_method_14_code, exceptionTable := #[], attributes := #[] }
def k6m0 : Method := { name := "sign", desc := "(I)Lcom/example/graticule/graticule/filter/ValueOrder;", sig := { parameters := [.int], returnType := some (.object "com/example/graticule/graticule/filter/ValueOrder") }, accessFlags := 8, code := some k6c0 }
/-- com/example/graticule/graticule/filter/ValueOrder -/
def k6 : Class := { plain "com/example/graticule/graticule/filter/ValueOrder" (some 5) with
  accessFlags := 16432
  interfaces := #[]
  cf := some (fileOf pool6 1 #[] #[{ accessFlags := 8, nameIndex := 49, descriptorIndex := 50, attributes := #[] }] 16432 26 #[] #[{ accessFlags := 16409, nameIndex := 5, descriptorIndex := 6, attributes := #[] }, { accessFlags := 16409, nameIndex := 9, descriptorIndex := 6, attributes := #[] }, { accessFlags := 16409, nameIndex := 12, descriptorIndex := 6, attributes := #[] }, { accessFlags := 16409, nameIndex := 15, descriptorIndex := 6, attributes := #[] }, { accessFlags := 26, nameIndex := 164, descriptorIndex := 165, attributes := #[] }, { accessFlags := 4122, nameIndex := 18, descriptorIndex := 19, attributes := #[] }])
  fields := #[{ name := "LESS", type := (.object "com/example/graticule/graticule/filter/ValueOrder"), accessFlags := 16409, slot := 0, constantValue := 0 }, { name := "EQUAL", type := (.object "com/example/graticule/graticule/filter/ValueOrder"), accessFlags := 16409, slot := 1, constantValue := 0 }, { name := "GREATER", type := (.object "com/example/graticule/graticule/filter/ValueOrder"), accessFlags := 16409, slot := 2, constantValue := 0 }, { name := "INCOMPARABLE", type := (.object "com/example/graticule/graticule/filter/ValueOrder"), accessFlags := 16409, slot := 3, constantValue := 0 }, { name := "EXACT_IN_DOUBLE", type := .long, accessFlags := 26, slot := 4, constantValue := 0 }, { name := "$VALUES", type := (.array (.object "com/example/graticule/graticule/filter/ValueOrder")), accessFlags := 4122, slot := 5, constantValue := 0 }]
  methods := #[k6m0]
  instanceTypes := #[(.object "java/lang/String"), .int, .int]
  staticTypes := #[(.object "com/example/graticule/graticule/filter/ValueOrder"), (.object "com/example/graticule/graticule/filter/ValueOrder"), (.object "com/example/graticule/graticule/filter/ValueOrder"), (.object "com/example/graticule/graticule/filter/ValueOrder"), .long, (.array (.object "com/example/graticule/graticule/filter/ValueOrder"))]
  resolved := Array.replicate 181 none
  statics := some 0 }

def pool7 : Array CpInfo := pool [(1, u "java/lang/Cloneable"), (0, .class_ 1), (0, u "java/lang/Object"), (0, .class_ 3)] 3

/-- java/lang/Cloneable -/
def k7 : Class := { plain "java/lang/Cloneable" (some 0) with
  accessFlags := 1537
  interfaces := #[]
  cf := some (fileOf pool7 2 #[] #[] 1537 4 #[] #[])
  fields := #[]
  methods := #[]
  instanceTypes := #[]
  staticTypes := #[]
  resolved := Array.replicate 8 none
  statics := none }

/-- the primitive byte -/
def k8 : Class := { plain "byte" none with kind := .primitive 'B', accessFlags := 0x411 }
/-- [B -/
def k9 : Class := { plain "[B" (some 0) with kind := .array 8 .byte, interfaces := #[7, 4], accessFlags := 1041 }

def heap : Heap := #[{ cls := 6, slots := #[.ref 1, .ref 2, .ref 3, .null, .long 0, .null], vm := .statics 6 },
  { cls := 6, slots := #[.null, .int 0, .int 0], vm := .none },
  { cls := 6, slots := #[.null, .int 1, .int 0], vm := .none },
  { cls := 6, slots := #[.null, .int 2, .int 0], vm := .none }]
def classes : Array Class := #[k0, k1, k2, k3, k4, k5, k6, k7, k8, k9]
def interned : List (Array UInt16 × Addr) := []
def slotsUsed : Nat := 15
def theMethod : MethodId := ⟨1, 2⟩
def args0 : Array Value := #[.int 5]
def aboutOver (below : List Frame) : State where
  vm := { classes := classes, interned := interned.toArray }
  heap := heap
  slotsUsed := slotsUsed
  threads := #[{ frames := .invoking theMethod args0 :: below }]
def below0 : List Frame := [.native { method := ⟨0, 0⟩, args := #[] }]
def about1 : State := aboutOver below0
def p0 : Program := .bare "" "" ""
def e0 : Env := launch0.env 0 0 0
theorem w_frames : about1.frames = Frame.invoking theMethod args0 :: below0 := rfl
set_option maxRecDepth 65536 in
theorem w_args : argsFit about1.vm theMethod args0 = true := by decide +kernel
set_option maxRecDepth 65536 in
theorem w_heap : heapFits about1 = true := by decide +kernel
set_option maxRecDepth 65536 in
theorem w_runnable : about1.curStatus? = some .runnable := by decide +kernel
set_option maxRecDepth 65536 in
theorem w_alone : about1.alone = true := by decide +kernel
set_option maxRecDepth 65536 in
theorem w_named : about1.methodNamed? x = some theMethod := by decide +kernel
set_option maxRecDepth 65536 in
theorem w_hears : about1.hears theMethod below0 = true := by decide +kernel
set_option maxRecDepth 65536 in
theorem w_ripe : about1.ripe theMethod args0 below0 = true := by decide +kernel
theorem w_running : about1.status = .running := rfl
set_option maxRecDepth 65536 in
theorem w_room : about1.hasRoom e0.platform room_1 = true :=
  launch0.hasRoom_least _ room_1 (by decide +kernel) (by decide +kernel) (by decide +kernel) (by decide +kernel) (by decide +kernel) (by decide +kernel)
theorem allAtoms_all (ts : List Jvm.Cond) (a : Array Jvm.Value) (st : Jvm.State) : (allAtoms ts).before a st = ts.all (fun c => c.before a st) := by
  induction ts with
  | nil => rfl
  | cons c t ih =>
    show (Jvm.Cond.and c (allAtoms t)).before a st = _
    rw [Jvm.Cond.before_and, ih, List.all_cons]
def words1 : List Jvm.Cond := Jvm.Cond.code x code maxLocals ret :: tables_1
/-- a 'code' word, met by the world's own term for the bytes: nothing is compared byte by byte -/
theorem code_word {y : MethodName} {bytes : ByteArray} {mx : Nat} {rt : Option FieldType} {a : Array Value} {s : State} {m : MethodId} {meth : Method} {c : Code} (h1 : s.methodNamed? y = some m) (h2 : s.vm.method? m = some meth) (h3 : meth.code = some c) (h4 : c.code = bytes)
    (h5 : (c.maxLocals == mx && c.exceptionTable.isEmpty && decide (c.maxStack ≤ mostOperands) && decide (meth.sig.returnType = rt) && !meth.locks && decide (parseMethodDescriptor y.desc = some meth.sig)) = true) : (Jvm.Cond.code y bytes mx rt).before a s = true := by
  simp only [Bool.and_eq_true, beq_iff_eq, Bool.not_eq_true', decide_eq_true_eq] at h5
  obtain ⟨⟨⟨⟨⟨g1, g2⟩, g3⟩, g4⟩, g5⟩, g6⟩ := h5
  simp [Cond.before, Cond.holds, Cond.value, h1, h2, h3, h4, g1, g2, g3, g4, g5, g6]
def isCode : Jvm.Cond → Bool
  | .code _ _ _ _ => true
  | _ => false
theorem all_split {L : List Jvm.Cond} {P : Jvm.Cond → Bool} (h1 : L.all (fun c => isCode c || P c) = true) (h2 : ∀ c ∈ L.filter isCode, P c = true) : L.all P = true := by
  refine List.all_eq_true.mpr fun c hc => ?_
  have h := List.all_eq_true.mp h1 c hc
  rcases Bool.eq_false_or_eq_true (isCode c) with hi | hi
  · exact h2 c (List.mem_filter.mpr ⟨hc, hi⟩)
  · simpa [hi] using h
set_option maxRecDepth 65536 in
theorem w_c0 : (Jvm.Cond.code x code maxLocals ret).before args0 about1 = true := code_word (m := ⟨1, 2⟩) (meth := k1m2) (c := k1c2) (by decide +kernel) rfl rfl rfl (by decide +kernel)
set_option maxRecDepth 65536 in
theorem w_c1 : (Jvm.Cond.code ({ cls := "com/example/graticule/graticule/filter/ValueOrder", name := "sign", desc := "(I)Lcom/example/graticule/graticule/filter/ValueOrder;" } : Jvm.MethodName) prog_10_method_14_code (1 : Nat) (Option.some (Jvm.ClassFile.FieldType.object "com/example/graticule/graticule/filter/ValueOrder"))).before args0 about1 = true := code_word (m := ⟨6, 0⟩) (meth := k6m0) (c := k6c0) (by decide +kernel) rfl rfl rfl (by decide +kernel)
set_option maxRecDepth 65536 in
theorem w_c2 : (Jvm.Cond.code ({ cls := "java/lang/Enum", name := "ordinal", desc := "()I" } : Jvm.MethodName) jdk_37_method_2_code (1 : Nat) (Option.some Jvm.ClassFile.FieldType.int)).before args0 about1 = true := code_word (m := ⟨5, 0⟩) (meth := k5m0) (c := k5c0) (by decide +kernel) rfl rfl rfl (by decide +kernel)
set_option maxRecDepth 65536 in
theorem w_c3 : (Jvm.Cond.code ({ cls := "com/example/graticule/graticule/filter/ValueOrderSignPinLaw", name := "signum", desc := "(I)I" } : Jvm.MethodName) method_2_code (1 : Nat) (Option.some Jvm.ClassFile.FieldType.int)).before args0 about1 = true := code_word (m := ⟨1, 1⟩) (meth := k1m1) (c := k1c1) (by decide +kernel) rfl rfl rfl (by decide +kernel)
def codes1 : List Jvm.Cond := [Jvm.Cond.code x code maxLocals ret, Jvm.Cond.code ({ cls := "com/example/graticule/graticule/filter/ValueOrder", name := "sign", desc := "(I)Lcom/example/graticule/graticule/filter/ValueOrder;" } : Jvm.MethodName) prog_10_method_14_code (1 : Nat) (Option.some (Jvm.ClassFile.FieldType.object "com/example/graticule/graticule/filter/ValueOrder")), Jvm.Cond.code ({ cls := "java/lang/Enum", name := "ordinal", desc := "()I" } : Jvm.MethodName) jdk_37_method_2_code (1 : Nat) (Option.some Jvm.ClassFile.FieldType.int), Jvm.Cond.code ({ cls := "com/example/graticule/graticule/filter/ValueOrderSignPinLaw", name := "signum", desc := "(I)I" } : Jvm.MethodName) method_2_code (1 : Nat) (Option.some Jvm.ClassFile.FieldType.int)]
set_option maxRecDepth 65536 in
theorem codes_eq : words1.filter isCode = codes1 := rfl
theorem w_codes : ∀ c ∈ words1.filter isCode, c.before args0 about1 = true := by
  rw [codes_eq]
  intro c hc
  simp only [codes1, List.mem_cons, List.not_mem_nil, or_false] at hc
  rcases hc with rfl | rfl | rfl | rfl
  · exact w_c0
  · exact w_c1
  · exact w_c2
  · exact w_c3
set_option maxRecDepth 65536 in
theorem w_t1 : words1.all (fun c => isCode c || c.before args0 about1) = true := by decide +kernel
theorem w_tables : (allAtoms (Jvm.Cond.code x code maxLocals ret :: tables_1)).before args0 about1 = true := by
  rw [allAtoms_all]
  show words1.all (fun c => c.before args0 about1) = true
  refine all_split ?_ w_codes
  rw [w_t1]
set_option maxRecDepth 65536 in
theorem w_case : (Jvm.Cond.and given_1 narrow_1).before args0 about1 = true := by decide +kernel
theorem w_applies : (headSpec (Jvm.Cond.code x code maxLocals ret :: tables_1) room_1).applies x e0.platform about1 = true :=
  (Spec.applies_iff w_frames).mpr ⟨w_running, w_runnable, w_alone, w_named, w_hears, w_ripe, w_room, w_tables⟩
theorem atStart : AtStart classFile x code maxLocals ret World_1 tables_1 room_1 Calls_1 rest_1 Pre_1 launch0 p0 e0 about1 theMethod args0 below0 :=
  ⟨lists_1, trivial, launch0.admits_env _ _ _, launch0.least_env, fairChoices_fair.cas, fairChoices_fair.clock, w_frames, w_args, w_heap, w_applies, trivial, trivial, w_case⟩
end start1
theorem witness_1 : WitnessClaimed_1 := ⟨start1.p0, start1.e0, start1.about1, start1.theMethod, start1.args0, start1.below0, start1.atStart⟩
end Jvm.Pilot.@@N@@
