import JvmDerived
import JvmDerived.Pilot.@@N@@Statement
import JvmDerived.Pilot.@@N@@Code
set_option linter.unusedVariables false
set_option linter.unusedSimpArgs false
@@BLOCK:NumsL.lean.txt@@
@@BLOCK:Masks.lean.txt@@
namespace Jvm.RoadKit
open Sem ClassFile Op Lib Jvm.Stand Jvm.Free Jvm.LawKit
section New
variable {p : Program} {l : Launch} {e : Env} {R : Room} {s : State} {m : MethodId} {args : Array Value} {below : List Frame} {meth : Method} {c : Code} {T : State} {locs : List Loc} {cells slots : Nat}
theorem retI (X : Stand p l e R s m args below meth c T locs cells slots) (hx : p.tables.exec = Jvm.exec) {pc : Nat} {Ls : Array Slot} {z : Int32} {rest : List Value} (hret : meth.sig.returnType = some .int) (hd : decode c.code pc = .ok (.ireturn, 1)) {fs : List Frame}
    (hl : ∀ (f : JFrame) (acts : List Action), f.method = m → f.locked = none → f.entered = [] → (doReturn e (T.setTop f) acts (some (.int z))).1 = T.setFrames fs) : Steps p.tables e below (T.setTop (mkF m pc Ls (.int z :: rest))) (T.setFrames fs) := by
  have hm' : T.vm.method? m = some meth := X.method'
  have hn : narrow .int (.int z) = .int z := rfl
  show Steps p.tables e below (T.setTop { method := m, pc := pc, locals := Ls, stack := _ :: rest, locked := none }) _
  jvm_step X.here [X.here.top, hx, hd, hm', hret, hn]
  first | (intro acts; rw [hl _ acts rfl rfl rfl]) | rw [hl _ _ rfl rfl rfl]
  exact Steps.refl _
end New
end Jvm.RoadKit
namespace Jvm.Pilot.@@N@@
open Jvm Jvm.ClassFile Sem Op Lib Jvm.Free Jvm.Stand Jvm.LawKit Jvm.RoadKit Bundle Jvm.Pilot.@@N@@.Jvm.D
theorem own_lrem (x y : Int64) : x - (x / y) * y = x % y := Int64.toInt_inj.mp (by rw [Jvm.Kit.i64_rem, Int64.toInt_mod])
theorem lremM {p : Program} {l : Launch} {e : Env} {R : Room} {s : State} {m : MethodId} {args : Array Value} {below : List Frame} {meth : Method} {c : Code} {T : State} {locs : List Loc} {cells slots : Nat} {g : JFrame} {target : State} (X : Stand p l e R s m args below meth c T locs cells slots) (hx : p.tables.exec = Jvm.exec) (hg : g.method = m) {x y : Int64} {rest : List Value} (hd : decode c.code g.pc = .ok (.lrem, 1)) (hs : g.stack = .long y :: .long x :: rest) (hy : y ≠ 0)
    (hr : Steps p.tables e below (T.setTop { g with pc := g.pc + 1, stack := .long (x % y) :: rest }) target) : Steps p.tables e below (T.setTop g) target := by
  exact XS.lrem X.here hx hg hd hs hy (by rw [own_lrem]; exact hr)
theorem own_eqI {args : Array Value} {s : State} {t : Jvm.Term} {n : Int32} (h : (Jvm.Cond.eq t (.int n)).value args s none s [] = some true) : t.eval args s none [] s = some (.int n) := by
  obtain ⟨x, y, hx, hy, k1, k2⟩ := cmp_v (Or.inl h)
  obtain rfl : y = .int n := Option.some.inj (hy.symm.trans (Term.int_eval n))
  obtain ⟨z, rfl⟩ := k2
  have q : z = n := by simpa [Jvm.Cond.value, hx, hy] using h
  rw [hx, q]

theorem own_dead6 (i : Int32) (h : 0 ≤ i.toInt ∧ i.toInt ≤ 5) (h0 : ¬ i = (0 : Int32)) (h1 : ¬ i = (1 : Int32)) (h2 : ¬ i = (2 : Int32)) (h3 : ¬ i = (3 : Int32)) (h4 : ¬ i = (4 : Int32)) (h5 : ¬ i = (5 : Int32)) : False := by
  rw [← Int32.toInt_inj] at h0 h1 h2 h3 h4 h5
  rw [show (0 : Int32).toInt = 0 from rfl] at h0
  rw [show (1 : Int32).toInt = 1 from rfl] at h1
  rw [show (2 : Int32).toInt = 2 from rfl] at h2
  rw [show (3 : Int32).toInt = 3 from rfl] at h3
  rw [show (4 : Int32).toInt = 4 from rfl] at h4
  rw [show (5 : Int32).toInt = 5 from rfl] at h5
  omega
theorem own_neg (x : Int32) : x ||| (-2147483648 : Int32) < 0 := by
  rw [Int32.lt_iff_toInt_lt]
  have h : ((x ||| (-2147483648 : Int32)).toBitVec).msb = true := by
    rw [Int32.toBitVec_or, BitVec.msb_or, show (-2147483648 : Int32).toBitVec.msb = true from by decide, Bool.or_true]
  rw [BitVec.msb_eq_toInt] at h
  rw [show (0 : Int32).toInt = 0 from by decide]
  exact of_decide_eq_true h
theorem own_pos (x : Int32) : 0 < (x &&& (2147483647 : Int32)) ||| (1 : Int32) := by
  rw [Int32.lt_iff_toInt_lt, show (0 : Int32).toInt = 0 from by decide]
  have h : (((x &&& (2147483647 : Int32)) ||| (1 : Int32)).toBitVec).msb = false := by
    rw [Int32.toBitVec_or, Int32.toBitVec_and, BitVec.msb_or, BitVec.msb_and, show (2147483647 : Int32).toBitVec.msb = false from by decide, show (1 : Int32).toBitVec.msb = false from by decide, Bool.and_false, Bool.or_false]
  rw [BitVec.msb_eq_toInt] at h
  have h2 : ¬ (((x &&& (2147483647 : Int32)) ||| (1 : Int32)).toInt < 0) := of_decide_eq_false h
  have h3 : ((x &&& (2147483647 : Int32)) ||| (1 : Int32)).toInt ≠ 0 := by
    intro q
    have q2 : ((x &&& (2147483647 : Int32)) ||| (1 : Int32)) = 0 := Int32.toInt_inj.mp (q.trans (by decide))
    have q3 := congrArg Int32.toBitVec q2
    rw [Int32.toBitVec_or, show (0 : Int32).toBitVec = 0#32 from by decide, BitVec.or_eq_zero_iff] at q3
    exact absurd q3.2 (by decide)
  omega
theorem own_ne1 (x : Int32) : ¬ x ||| (-2147483648 : Int32) = 0 := by
  have h := own_neg x; rw [Int32.lt_iff_toInt_lt] at h; intro q; rw [q] at h; exact absurd h (by decide)
theorem own_ne2 (x : Int32) : ¬ 0 < x ||| (-2147483648 : Int32) := by
  have h := own_neg x; rw [Int32.lt_iff_toInt_lt] at *; omega
theorem own_po1 (x : Int32) : ¬ (x &&& (2147483647 : Int32)) ||| (1 : Int32) = 0 := by
  have h := own_pos x; rw [Int32.lt_iff_toInt_lt] at h; intro q; rw [q] at h; exact absurd h (by decide)
theorem own_po2 (x : Int32) : ¬ (x &&& (2147483647 : Int32)) ||| (1 : Int32) < 0 := by
  have h := own_pos x; rw [Int32.lt_iff_toInt_lt] at *; omega


def World (Z : State) (h : Heap) (w_EQUAL w_NOT_EQUAL w_LESS_THAN w_LESS_OR_EQUAL w_GREATER_THAN w_GREATER_OR_EQUAL : Addr) : Prop :=
  Sta Z h "com/example/unit_of_work/unitofwork/Condition$Operator" "EQUAL" "Lcom/example/unit_of_work/unitofwork/Condition$Operator;" (.ref w_EQUAL) ∧
  Sta Z h "com/example/unit_of_work/unitofwork/Condition$Operator" "NOT_EQUAL" "Lcom/example/unit_of_work/unitofwork/Condition$Operator;" (.ref w_NOT_EQUAL) ∧
  Sta Z h "com/example/unit_of_work/unitofwork/Condition$Operator" "LESS_THAN" "Lcom/example/unit_of_work/unitofwork/Condition$Operator;" (.ref w_LESS_THAN) ∧
  Sta Z h "com/example/unit_of_work/unitofwork/Condition$Operator" "LESS_OR_EQUAL" "Lcom/example/unit_of_work/unitofwork/Condition$Operator;" (.ref w_LESS_OR_EQUAL) ∧
  Sta Z h "com/example/unit_of_work/unitofwork/Condition$Operator" "GREATER_THAN" "Lcom/example/unit_of_work/unitofwork/Condition$Operator;" (.ref w_GREATER_THAN) ∧
  Sta Z h "com/example/unit_of_work/unitofwork/Condition$Operator" "GREATER_OR_EQUAL" "Lcom/example/unit_of_work/unitofwork/Condition$Operator;" (.ref w_GREATER_OR_EQUAL) ∧
  Exa Z h w_EQUAL "com/example/unit_of_work/unitofwork/Condition$Operator" ∧
  Exa Z h w_NOT_EQUAL "com/example/unit_of_work/unitofwork/Condition$Operator" ∧
  Exa Z h w_LESS_THAN "com/example/unit_of_work/unitofwork/Condition$Operator" ∧
  Exa Z h w_LESS_OR_EQUAL "com/example/unit_of_work/unitofwork/Condition$Operator" ∧
  Exa Z h w_GREATER_THAN "com/example/unit_of_work/unitofwork/Condition$Operator" ∧
  Exa Z h w_GREATER_OR_EQUAL "com/example/unit_of_work/unitofwork/Condition$Operator" ∧
  Fld Z h w_EQUAL "java/lang/Enum" "ordinal" "I" (.int (0 : Int32)) ∧
  Fld Z h w_NOT_EQUAL "java/lang/Enum" "ordinal" "I" (.int (1 : Int32)) ∧
  Fld Z h w_LESS_THAN "java/lang/Enum" "ordinal" "I" (.int (2 : Int32)) ∧
  Fld Z h w_LESS_OR_EQUAL "java/lang/Enum" "ordinal" "I" (.int (3 : Int32)) ∧
  Fld Z h w_GREATER_THAN "java/lang/Enum" "ordinal" "I" (.int (4 : Int32)) ∧
  Fld Z h w_GREATER_OR_EQUAL "java/lang/Enum" "ordinal" "I" (.int (5 : Int32))
theorem World.ext {Z : State} {h h' : Heap} {w_EQUAL w_NOT_EQUAL w_LESS_THAN w_LESS_OR_EQUAL w_GREATER_THAN w_GREATER_OR_EQUAL : Addr} (E : Ext h h') (W : World Z h w_EQUAL w_NOT_EQUAL w_LESS_THAN w_LESS_OR_EQUAL w_GREATER_THAN w_GREATER_OR_EQUAL) : World Z h' w_EQUAL w_NOT_EQUAL w_LESS_THAN w_LESS_OR_EQUAL w_GREATER_THAN w_GREATER_OR_EQUAL :=
  ⟨Sta.ext E W.1, Sta.ext E W.2.1, Sta.ext E W.2.2.1, Sta.ext E W.2.2.2.1, Sta.ext E W.2.2.2.2.1, Sta.ext E W.2.2.2.2.2.1, Exa.ext E W.2.2.2.2.2.2.1, Exa.ext E W.2.2.2.2.2.2.2.1, Exa.ext E W.2.2.2.2.2.2.2.2.1, Exa.ext E W.2.2.2.2.2.2.2.2.2.1, Exa.ext E W.2.2.2.2.2.2.2.2.2.2.1, Exa.ext E W.2.2.2.2.2.2.2.2.2.2.2.1, Fld.ext E W.2.2.2.2.2.2.2.2.2.2.2.2.1, Fld.ext E W.2.2.2.2.2.2.2.2.2.2.2.2.2.1, Fld.ext E W.2.2.2.2.2.2.2.2.2.2.2.2.2.2.1, Fld.ext E W.2.2.2.2.2.2.2.2.2.2.2.2.2.2.2.1, Fld.ext E W.2.2.2.2.2.2.2.2.2.2.2.2.2.2.2.2.1, Fld.ext E W.2.2.2.2.2.2.2.2.2.2.2.2.2.2.2.2.2⟩
theorem d1_0 : decode method_2_code 0 = .ok (.iload_n 0, 1) := by decide +kernel
theorem d1_1 : decode method_2_code 1 = .ok (.ifCond .ne 7, 3) := by decide +kernel
theorem d1_4 : decode method_2_code 4 = .ok (.getstatic 7, 3) := by decide +kernel
theorem d1_7 : decode method_2_code 7 = .ok (.areturn, 1) := by decide +kernel
theorem d1_8 : decode method_2_code 8 = .ok (.iload_n 0, 1) := by decide +kernel
theorem d1_9 : decode method_2_code 9 = .ok (.iconst 1, 1) := by decide +kernel
theorem d1_10 : decode method_2_code 10 = .ok (.if_icmp .ne 7, 3) := by decide +kernel
theorem d1_13 : decode method_2_code 13 = .ok (.getstatic 13, 3) := by decide +kernel
theorem d1_16 : decode method_2_code 16 = .ok (.areturn, 1) := by decide +kernel
theorem d1_17 : decode method_2_code 17 = .ok (.iload_n 0, 1) := by decide +kernel
theorem d1_18 : decode method_2_code 18 = .ok (.iconst 2, 1) := by decide +kernel
theorem d1_19 : decode method_2_code 19 = .ok (.if_icmp .ne 7, 3) := by decide +kernel
theorem d1_22 : decode method_2_code 22 = .ok (.getstatic 16, 3) := by decide +kernel
theorem d1_25 : decode method_2_code 25 = .ok (.areturn, 1) := by decide +kernel
theorem d1_26 : decode method_2_code 26 = .ok (.iload_n 0, 1) := by decide +kernel
theorem d1_27 : decode method_2_code 27 = .ok (.iconst 3, 1) := by decide +kernel
theorem d1_28 : decode method_2_code 28 = .ok (.if_icmp .ne 7, 3) := by decide +kernel
theorem d1_31 : decode method_2_code 31 = .ok (.getstatic 19, 3) := by decide +kernel
theorem d1_34 : decode method_2_code 34 = .ok (.areturn, 1) := by decide +kernel
theorem d1_35 : decode method_2_code 35 = .ok (.iload_n 0, 1) := by decide +kernel
theorem d1_36 : decode method_2_code 36 = .ok (.iconst 4, 1) := by decide +kernel
theorem d1_37 : decode method_2_code 37 = .ok (.if_icmp .ne 7, 3) := by decide +kernel
theorem d1_40 : decode method_2_code 40 = .ok (.getstatic 22, 3) := by decide +kernel
theorem d1_43 : decode method_2_code 43 = .ok (.areturn, 1) := by decide +kernel
theorem d1_44 : decode method_2_code 44 = .ok (.getstatic 25, 3) := by decide +kernel
theorem d1_47 : decode method_2_code 47 = .ok (.areturn, 1) := by decide +kernel
theorem pn_0 : plainName "com/example/unit_of_work/unitofwork/OperatorOrdersPinLaw" = true := by first | (simp [plainName, overriddenIn]; done) | decide +kernel
theorem ef_1 (m : MethodId) (x1_0 : Int32) : entryFrame m #[(.int x1_0)] 1 = mkF m 0 #[.val (.int x1_0)] [] := by first | (simp [entryFrame, mkF, argsToLocals, Value.category]; done) | rfl
def f1 (x1_0 : Int32) (w_EQUAL w_NOT_EQUAL w_LESS_THAN w_LESS_OR_EQUAL w_GREATER_THAN w_GREATER_OR_EQUAL : Addr) : Addr := if x1_0 = (0 : Int32) then w_EQUAL else if x1_0 = (1 : Int32) then w_NOT_EQUAL else if x1_0 = (2 : Int32) then w_LESS_THAN else if x1_0 = (3 : Int32) then w_LESS_OR_EQUAL else if x1_0 = (4 : Int32) then w_GREATER_THAN else w_GREATER_OR_EQUAL
def Q1 (Z : State) (x1_0 : Int32) (w_EQUAL w_NOT_EQUAL w_LESS_THAN w_LESS_OR_EQUAL w_GREATER_THAN w_GREATER_OR_EQUAL : Addr) (h0 : Heap) (n0 : Nat) (v : Option Value) (h : Heap) (L : List Loc) : Prop := v = some (.ref (f1 x1_0 w_EQUAL w_NOT_EQUAL w_LESS_THAN w_LESS_OR_EQUAL w_GREATER_THAN w_GREATER_OR_EQUAL)) ∧ Fr n0 L ∧ h = h0
set_option maxRecDepth 65536 in
set_option maxHeartbeats 40000000 in
theorem rm1 (l : Launch) (Z : State) (a0 : Array Value) (hw : ∀ d ∈ tables_1, d.before a0 Z = true) (ws : List Jvm.Cond) (x1_0 : Int32) (w_EQUAL w_NOT_EQUAL w_LESS_THAN w_LESS_OR_EQUAL w_GREATER_THAN w_GREATER_OR_EQUAL : Addr) (h0 : Heap) (n0 : Nat) (Z0 : n0 ≤ h0.size) (W : World Z h0 w_EQUAL w_NOT_EQUAL w_LESS_THAN w_LESS_OR_EQUAL w_GREATER_THAN w_GREATER_OR_EQUAL) :
    MetFree l (⟨"com/example/unit_of_work/unitofwork/OperatorOrdersPinLaw", "pick", "(I)Lcom/example/unit_of_work/unitofwork/Condition$Operator;"⟩ : MethodName) (head1 (Jvm.Cond.code (⟨"com/example/unit_of_work/unitofwork/OperatorOrdersPinLaw", "pick", "(I)Lcom/example/unit_of_work/unitofwork/Condition$Operator;"⟩ : MethodName) method_2_code 1 (some (.object "com/example/unit_of_work/unitofwork/Condition$Operator")) :: ws) ({ frames := 0, cells := 0, slots := 0, locals := 0 } : Room)) (fun a U => a = #[(.int x1_0)] ∧ Z.Warmed39 U.vm ∧ U.heap = h0) (fun _ _ _ _ _ => True) (fun _ U o U' => ∃ v L, o = .returned v ∧ Q1 Z x1_0 w_EQUAL w_NOT_EQUAL w_LESS_THAN w_LESS_OR_EQUAL w_GREATER_THAN w_GREATER_OR_EQUAL h0 n0 v U'.heap L ∧ FrameEnd U o U' L ({ frames := 0, cells := 0, slots := 0, locals := 0 } : Room).cells ({ frames := 0, cells := 0, slots := 0, locals := 0 } : Room).slots) := by
  refine MetFree.of_bodySF (plainFor_of_name pn_0) hisR ?_
  intro p e s m args below meth c s₁ Bd hml0 hP hK
  obtain ⟨rfl, hZ, hh⟩ := hP
  have hx := Bd.exec
  have hby := Bd.bytes
  have hml : c.maxLocals = 1 := hml0
  have hown : s.vm.findClass "com/example/unit_of_work/unitofwork/OperatorOrdersPinLaw" = some m.cls := findClass_of_methodNamed Bd.named
  have hnm := (name_of_methodNamed Bd.named Bd.method).1
  have X0 : Stand p l e ({ frames := 0, cells := 0, slots := 0, locals := 0 } : Room) s m #[(.int x1_0)] below meth c s₁ [] 0 0 := Stand.of_body Bd
  have e0 : s₁.heap = h0 := by rw [← hh, Bd.state]; rfl
  have N0 := Fr.nil n0
  have pre0 : ∀ t, Steps p.tables e below (s₁.setTop (mkF m 0 #[.val (.int x1_0)] [])) t → Steps p.tables e below (s₁.setTop (entryFrame m #[(.int x1_0)] 1)) t := fun t k => castTop (ef_1 m x1_0) k
  have sg1 : ∀ t, Steps p.tables e below (s₁.setTop (mkF m 1 #[.val (.int x1_0)] [(.int x1_0)])) t → Steps p.tables e below (s₁.setTop (mkF m 0 #[.val (.int x1_0)] [])) t := fun t kt => by
    show Steps p.tables e below (s₁.setTop (mkF m 0 #[.val (.int x1_0)] [])) _
    refine XS.iloadN X0.here hx rfl (hb hby d1_0) rfl ?_
    exact kt
  by_cases hc1_2 : x1_0 = (0 : Int32)
  · obtain ⟨T3, X3, e3, st3⟩ := getS2 X0 hx hZ hown (host := "") (Or.inl (hw _ (List.mem_of_getElem? (i := 5) rfl))) Via.refl e0 (W.1) (g := (mkF m 4 #[.val (.int x1_0)] [])) rfl (hb hby d1_4)
    obtain ⟨fs, hr, hrun, hended, hW, hsame⟩ := X3.leave (v := some (.ref w_EQUAL)) (fun h => by rw [Bd.returns] at h; cases h)
    refine ⟨_, _, pre0 _ (sg1 _ ?_), hrun, hended, _, _, rfl, ?_, ⟨_, rfl⟩, hW, hsame.mono (by decide) (by decide)⟩
    · show Steps p.tables e below (s₁.setTop (mkF m 1 #[.val (.int x1_0)] [(.int x1_0)])) _
      refine XS.ifNo X0.here hx rfl (hb hby d1_1) rfl ((if0 _ _).trans (teq hc1_2).2) ?_
      show Steps p.tables e below (s₁.setTop (mkF m 4 #[.val (.int x1_0)] [])) _
      refine st3 _ ?_
      show Steps p.tables e below (T3.setTop (mkF m 7 #[.val (.int x1_0)] [(.ref w_EQUAL)])) _
      exact retOut X3 hx Bd.returns rfl (Or.inr (Or.inr (Or.inr (Or.inr ⟨rfl, rfl, rfl⟩)))) (hb hby d1_7) hr
    · exact ⟨congrArg (fun z => some (Value.ref z)) (show w_EQUAL = f1 x1_0 w_EQUAL w_NOT_EQUAL w_LESS_THAN w_LESS_OR_EQUAL w_GREATER_THAN w_GREATER_OR_EQUAL from by unfold f1; rw [if_pos hc1_2]), N0, e3⟩
  · have sg4 : ∀ t, Steps p.tables e below (s₁.setTop (mkF m 10 #[.val (.int x1_0)] [(.int (1 : Int32)), (.int x1_0)])) t → Steps p.tables e below (s₁.setTop (mkF m 1 #[.val (.int x1_0)] [(.int x1_0)])) t := fun t kt => by
      show Steps p.tables e below (s₁.setTop (mkF m 1 #[.val (.int x1_0)] [(.int x1_0)])) _
      refine XS.ifYes X0.here hx rfl (pc0 := 1) (pc' := 8) rfl (hb hby d1_1) rfl ((if0 _ _).trans (feq hc1_2).2) (by decide) (by decide) ?_
      show Steps p.tables e below (s₁.setTop (mkF m 8 #[.val (.int x1_0)] [])) _
      refine XS.iloadN X0.here hx rfl (hb hby d1_8) rfl ?_
      show Steps p.tables e below (s₁.setTop (mkF m 9 #[.val (.int x1_0)] [(.int x1_0)])) _
      refine XS.iconst X0.here hx rfl (hb hby d1_9) ?_
      exact kt
    by_cases hc10_5 : x1_0 = (1 : Int32)
    · obtain ⟨T6, X6, e6, st6⟩ := getS2 X0 hx hZ hown (host := "") (Or.inl (hw _ (List.mem_of_getElem? (i := 29) rfl))) Via.refl e0 (W.2.1) (g := (mkF m 13 #[.val (.int x1_0)] [])) rfl (hb hby d1_13)
      obtain ⟨fs, hr, hrun, hended, hW, hsame⟩ := X6.leave (v := some (.ref w_NOT_EQUAL)) (fun h => by rw [Bd.returns] at h; cases h)
      refine ⟨_, _, pre0 _ (sg1 _ (sg4 _ ?_)), hrun, hended, _, _, rfl, ?_, ⟨_, rfl⟩, hW, hsame.mono (by decide) (by decide)⟩
      · show Steps p.tables e below (s₁.setTop (mkF m 10 #[.val (.int x1_0)] [(.int (1 : Int32)), (.int x1_0)])) _
        refine XS.icmpNo X0.here hx rfl (hb hby d1_10) rfl (teq hc10_5).2 ?_
        show Steps p.tables e below (s₁.setTop (mkF m 13 #[.val (.int x1_0)] [])) _
        refine st6 _ ?_
        show Steps p.tables e below (T6.setTop (mkF m 16 #[.val (.int x1_0)] [(.ref w_NOT_EQUAL)])) _
        exact retOut X6 hx Bd.returns rfl (Or.inr (Or.inr (Or.inr (Or.inr ⟨rfl, rfl, rfl⟩)))) (hb hby d1_16) hr
      · exact ⟨congrArg (fun z => some (Value.ref z)) (show w_NOT_EQUAL = f1 x1_0 w_EQUAL w_NOT_EQUAL w_LESS_THAN w_LESS_OR_EQUAL w_GREATER_THAN w_GREATER_OR_EQUAL from by unfold f1; rw [if_neg hc1_2, if_pos hc10_5]), N0, e6⟩
    · have sg7 : ∀ t, Steps p.tables e below (s₁.setTop (mkF m 19 #[.val (.int x1_0)] [(.int (2 : Int32)), (.int x1_0)])) t → Steps p.tables e below (s₁.setTop (mkF m 10 #[.val (.int x1_0)] [(.int (1 : Int32)), (.int x1_0)])) t := fun t kt => by
        show Steps p.tables e below (s₁.setTop (mkF m 10 #[.val (.int x1_0)] [(.int (1 : Int32)), (.int x1_0)])) _
        refine XS.icmpYes X0.here hx rfl (pc0 := 10) (pc' := 17) rfl (hb hby d1_10) rfl (feq hc10_5).2 (by decide) (by decide) ?_
        show Steps p.tables e below (s₁.setTop (mkF m 17 #[.val (.int x1_0)] [])) _
        refine XS.iloadN X0.here hx rfl (hb hby d1_17) rfl ?_
        show Steps p.tables e below (s₁.setTop (mkF m 18 #[.val (.int x1_0)] [(.int x1_0)])) _
        refine XS.iconst X0.here hx rfl (hb hby d1_18) ?_
        exact kt
      by_cases hc19_8 : x1_0 = (2 : Int32)
      · obtain ⟨T9, X9, e9, st9⟩ := getS2 X0 hx hZ hown (host := "") (Or.inl (hw _ (List.mem_of_getElem? (i := 32) rfl))) Via.refl e0 (W.2.2.1) (g := (mkF m 22 #[.val (.int x1_0)] [])) rfl (hb hby d1_22)
        obtain ⟨fs, hr, hrun, hended, hW, hsame⟩ := X9.leave (v := some (.ref w_LESS_THAN)) (fun h => by rw [Bd.returns] at h; cases h)
        refine ⟨_, _, pre0 _ (sg1 _ (sg4 _ (sg7 _ ?_))), hrun, hended, _, _, rfl, ?_, ⟨_, rfl⟩, hW, hsame.mono (by decide) (by decide)⟩
        · show Steps p.tables e below (s₁.setTop (mkF m 19 #[.val (.int x1_0)] [(.int (2 : Int32)), (.int x1_0)])) _
          refine XS.icmpNo X0.here hx rfl (hb hby d1_19) rfl (teq hc19_8).2 ?_
          show Steps p.tables e below (s₁.setTop (mkF m 22 #[.val (.int x1_0)] [])) _
          refine st9 _ ?_
          show Steps p.tables e below (T9.setTop (mkF m 25 #[.val (.int x1_0)] [(.ref w_LESS_THAN)])) _
          exact retOut X9 hx Bd.returns rfl (Or.inr (Or.inr (Or.inr (Or.inr ⟨rfl, rfl, rfl⟩)))) (hb hby d1_25) hr
        · exact ⟨congrArg (fun z => some (Value.ref z)) (show w_LESS_THAN = f1 x1_0 w_EQUAL w_NOT_EQUAL w_LESS_THAN w_LESS_OR_EQUAL w_GREATER_THAN w_GREATER_OR_EQUAL from by unfold f1; rw [if_neg hc1_2, if_neg hc10_5, if_pos hc19_8]), N0, e9⟩
      · have sg10 : ∀ t, Steps p.tables e below (s₁.setTop (mkF m 28 #[.val (.int x1_0)] [(.int (3 : Int32)), (.int x1_0)])) t → Steps p.tables e below (s₁.setTop (mkF m 19 #[.val (.int x1_0)] [(.int (2 : Int32)), (.int x1_0)])) t := fun t kt => by
          show Steps p.tables e below (s₁.setTop (mkF m 19 #[.val (.int x1_0)] [(.int (2 : Int32)), (.int x1_0)])) _
          refine XS.icmpYes X0.here hx rfl (pc0 := 19) (pc' := 26) rfl (hb hby d1_19) rfl (feq hc19_8).2 (by decide) (by decide) ?_
          show Steps p.tables e below (s₁.setTop (mkF m 26 #[.val (.int x1_0)] [])) _
          refine XS.iloadN X0.here hx rfl (hb hby d1_26) rfl ?_
          show Steps p.tables e below (s₁.setTop (mkF m 27 #[.val (.int x1_0)] [(.int x1_0)])) _
          refine XS.iconst X0.here hx rfl (hb hby d1_27) ?_
          exact kt
        by_cases hc28_11 : x1_0 = (3 : Int32)
        · obtain ⟨T12, X12, e12, st12⟩ := getS2 X0 hx hZ hown (host := "") (Or.inl (hw _ (List.mem_of_getElem? (i := 36) rfl))) Via.refl e0 (W.2.2.2.1) (g := (mkF m 31 #[.val (.int x1_0)] [])) rfl (hb hby d1_31)
          obtain ⟨fs, hr, hrun, hended, hW, hsame⟩ := X12.leave (v := some (.ref w_LESS_OR_EQUAL)) (fun h => by rw [Bd.returns] at h; cases h)
          refine ⟨_, _, pre0 _ (sg1 _ (sg4 _ (sg7 _ (sg10 _ ?_)))), hrun, hended, _, _, rfl, ?_, ⟨_, rfl⟩, hW, hsame.mono (by decide) (by decide)⟩
          · show Steps p.tables e below (s₁.setTop (mkF m 28 #[.val (.int x1_0)] [(.int (3 : Int32)), (.int x1_0)])) _
            refine XS.icmpNo X0.here hx rfl (hb hby d1_28) rfl (teq hc28_11).2 ?_
            show Steps p.tables e below (s₁.setTop (mkF m 31 #[.val (.int x1_0)] [])) _
            refine st12 _ ?_
            show Steps p.tables e below (T12.setTop (mkF m 34 #[.val (.int x1_0)] [(.ref w_LESS_OR_EQUAL)])) _
            exact retOut X12 hx Bd.returns rfl (Or.inr (Or.inr (Or.inr (Or.inr ⟨rfl, rfl, rfl⟩)))) (hb hby d1_34) hr
          · exact ⟨congrArg (fun z => some (Value.ref z)) (show w_LESS_OR_EQUAL = f1 x1_0 w_EQUAL w_NOT_EQUAL w_LESS_THAN w_LESS_OR_EQUAL w_GREATER_THAN w_GREATER_OR_EQUAL from by unfold f1; rw [if_neg hc1_2, if_neg hc10_5, if_neg hc19_8, if_pos hc28_11]), N0, e12⟩
        · have sg13 : ∀ t, Steps p.tables e below (s₁.setTop (mkF m 37 #[.val (.int x1_0)] [(.int (4 : Int32)), (.int x1_0)])) t → Steps p.tables e below (s₁.setTop (mkF m 28 #[.val (.int x1_0)] [(.int (3 : Int32)), (.int x1_0)])) t := fun t kt => by
            show Steps p.tables e below (s₁.setTop (mkF m 28 #[.val (.int x1_0)] [(.int (3 : Int32)), (.int x1_0)])) _
            refine XS.icmpYes X0.here hx rfl (pc0 := 28) (pc' := 35) rfl (hb hby d1_28) rfl (feq hc28_11).2 (by decide) (by decide) ?_
            show Steps p.tables e below (s₁.setTop (mkF m 35 #[.val (.int x1_0)] [])) _
            refine XS.iloadN X0.here hx rfl (hb hby d1_35) rfl ?_
            show Steps p.tables e below (s₁.setTop (mkF m 36 #[.val (.int x1_0)] [(.int x1_0)])) _
            refine XS.iconst X0.here hx rfl (hb hby d1_36) ?_
            exact kt
          by_cases hc37_14 : x1_0 = (4 : Int32)
          · obtain ⟨T15, X15, e15, st15⟩ := getS2 X0 hx hZ hown (host := "") (Or.inl (hw _ (List.mem_of_getElem? (i := 38) rfl))) Via.refl e0 (W.2.2.2.2.1) (g := (mkF m 40 #[.val (.int x1_0)] [])) rfl (hb hby d1_40)
            obtain ⟨fs, hr, hrun, hended, hW, hsame⟩ := X15.leave (v := some (.ref w_GREATER_THAN)) (fun h => by rw [Bd.returns] at h; cases h)
            refine ⟨_, _, pre0 _ (sg1 _ (sg4 _ (sg7 _ (sg10 _ (sg13 _ ?_))))), hrun, hended, _, _, rfl, ?_, ⟨_, rfl⟩, hW, hsame.mono (by decide) (by decide)⟩
            · show Steps p.tables e below (s₁.setTop (mkF m 37 #[.val (.int x1_0)] [(.int (4 : Int32)), (.int x1_0)])) _
              refine XS.icmpNo X0.here hx rfl (hb hby d1_37) rfl (teq hc37_14).2 ?_
              show Steps p.tables e below (s₁.setTop (mkF m 40 #[.val (.int x1_0)] [])) _
              refine st15 _ ?_
              show Steps p.tables e below (T15.setTop (mkF m 43 #[.val (.int x1_0)] [(.ref w_GREATER_THAN)])) _
              exact retOut X15 hx Bd.returns rfl (Or.inr (Or.inr (Or.inr (Or.inr ⟨rfl, rfl, rfl⟩)))) (hb hby d1_43) hr
            · exact ⟨congrArg (fun z => some (Value.ref z)) (show w_GREATER_THAN = f1 x1_0 w_EQUAL w_NOT_EQUAL w_LESS_THAN w_LESS_OR_EQUAL w_GREATER_THAN w_GREATER_OR_EQUAL from by unfold f1; rw [if_neg hc1_2, if_neg hc10_5, if_neg hc19_8, if_neg hc28_11, if_pos hc37_14]), N0, e15⟩
          · obtain ⟨T16, X16, e16, st16⟩ := getS2 X0 hx hZ hown (host := "") (Or.inl (hw _ (List.mem_of_getElem? (i := 34) rfl))) Via.refl e0 (W.2.2.2.2.2.1) (g := (mkF m 44 #[.val (.int x1_0)] [])) rfl (hb hby d1_44)
            obtain ⟨fs, hr, hrun, hended, hW, hsame⟩ := X16.leave (v := some (.ref w_GREATER_OR_EQUAL)) (fun h => by rw [Bd.returns] at h; cases h)
            refine ⟨_, _, pre0 _ (sg1 _ (sg4 _ (sg7 _ (sg10 _ (sg13 _ ?_))))), hrun, hended, _, _, rfl, ?_, ⟨_, rfl⟩, hW, hsame.mono (by decide) (by decide)⟩
            · show Steps p.tables e below (s₁.setTop (mkF m 37 #[.val (.int x1_0)] [(.int (4 : Int32)), (.int x1_0)])) _
              refine XS.icmpYes X0.here hx rfl (pc0 := 37) (pc' := 44) rfl (hb hby d1_37) rfl (feq hc37_14).2 (by decide) (by decide) ?_
              show Steps p.tables e below (s₁.setTop (mkF m 44 #[.val (.int x1_0)] [])) _
              refine st16 _ ?_
              show Steps p.tables e below (T16.setTop (mkF m 47 #[.val (.int x1_0)] [(.ref w_GREATER_OR_EQUAL)])) _
              exact retOut X16 hx Bd.returns rfl (Or.inr (Or.inr (Or.inr (Or.inr ⟨rfl, rfl, rfl⟩)))) (hb hby d1_47) hr
            · exact ⟨congrArg (fun z => some (Value.ref z)) (show w_GREATER_OR_EQUAL = f1 x1_0 w_EQUAL w_NOT_EQUAL w_LESS_THAN w_LESS_OR_EQUAL w_GREATER_THAN w_GREATER_OR_EQUAL from by unfold f1; rw [if_neg hc1_2, if_neg hc10_5, if_neg hc19_8, if_neg hc28_11, if_neg hc37_14]), N0, e16⟩
theorem d2_0 : decode prog_33_method_4_code 0 = .ok (.aload_n 0, 1) := by decide +kernel
theorem d2_1 : decode prog_33_method_4_code 1 = .ok (.getstatic 3, 3) := by decide +kernel
theorem d2_4 : decode prog_33_method_4_code 4 = .ok (.if_acmp .eq 14, 3) := by decide +kernel
theorem d2_7 : decode prog_33_method_4_code 7 = .ok (.aload_n 0, 1) := by decide +kernel
theorem d2_8 : decode prog_33_method_4_code 8 = .ok (.getstatic 7, 3) := by decide +kernel
theorem d2_11 : decode prog_33_method_4_code 11 = .ok (.if_acmp .eq 7, 3) := by decide +kernel
theorem d2_14 : decode prog_33_method_4_code 14 = .ok (.iconst 1, 1) := by decide +kernel
theorem d2_15 : decode prog_33_method_4_code 15 = .ok (.goto 4, 3) := by decide +kernel
theorem d2_18 : decode prog_33_method_4_code 18 = .ok (.iconst 0, 1) := by decide +kernel
theorem d2_19 : decode prog_33_method_4_code 19 = .ok (.ireturn, 1) := by decide +kernel
theorem pn_1 : plainName "com/example/unit_of_work/unitofwork/Condition$Operator" = true := by first | (simp [plainName, overriddenIn]; done) | decide +kernel
theorem ef_2 (m : MethodId) (x2_0 : Addr) : entryFrame m #[(.ref x2_0)] 1 = mkF m 0 #[.val (.ref x2_0)] [] := by first | (simp [entryFrame, mkF, argsToLocals, Value.category]; done) | rfl
def f2 (x2_0 : Addr) (w_EQUAL w_NOT_EQUAL w_LESS_THAN w_LESS_OR_EQUAL w_GREATER_THAN w_GREATER_OR_EQUAL : Addr) : Int32 := if x2_0 = w_EQUAL then (0 : Int32) else if x2_0 = w_NOT_EQUAL then (0 : Int32) else (1 : Int32)
def Q2 (Z : State) (x2_0 : Addr) (w_EQUAL w_NOT_EQUAL w_LESS_THAN w_LESS_OR_EQUAL w_GREATER_THAN w_GREATER_OR_EQUAL : Addr) (h0 : Heap) (n0 : Nat) (v : Option Value) (h : Heap) (L : List Loc) : Prop := v = some (.int (f2 x2_0 w_EQUAL w_NOT_EQUAL w_LESS_THAN w_LESS_OR_EQUAL w_GREATER_THAN w_GREATER_OR_EQUAL)) ∧ Fr n0 L ∧ h = h0
set_option maxRecDepth 65536 in
set_option maxHeartbeats 40000000 in
theorem rm2 (l : Launch) (Z : State) (a0 : Array Value) (hw : ∀ d ∈ tables_1, d.before a0 Z = true) (ws : List Jvm.Cond) (x2_0 : Addr) (w_EQUAL w_NOT_EQUAL w_LESS_THAN w_LESS_OR_EQUAL w_GREATER_THAN w_GREATER_OR_EQUAL : Addr) (h0 : Heap) (n0 : Nat) (Z0 : n0 ≤ h0.size) (W : World Z h0 w_EQUAL w_NOT_EQUAL w_LESS_THAN w_LESS_OR_EQUAL w_GREATER_THAN w_GREATER_OR_EQUAL) :
    MetFree l (⟨"com/example/unit_of_work/unitofwork/Condition$Operator", "orders", "()Z"⟩ : MethodName) (head1 (Jvm.Cond.code (⟨"com/example/unit_of_work/unitofwork/Condition$Operator", "orders", "()Z"⟩ : MethodName) prog_33_method_4_code 1 (some .boolean) :: ws) ({ frames := 0, cells := 0, slots := 0, locals := 0 } : Room)) (fun a U => a = #[(.ref x2_0)] ∧ Z.Warmed39 U.vm ∧ U.heap = h0) (fun _ _ _ _ _ => True) (fun _ U o U' => ∃ v L, o = .returned v ∧ Q2 Z x2_0 w_EQUAL w_NOT_EQUAL w_LESS_THAN w_LESS_OR_EQUAL w_GREATER_THAN w_GREATER_OR_EQUAL h0 n0 v U'.heap L ∧ FrameEnd U o U' L ({ frames := 0, cells := 0, slots := 0, locals := 0 } : Room).cells ({ frames := 0, cells := 0, slots := 0, locals := 0 } : Room).slots) := by
  refine MetFree.of_bodySF (plainFor_of_name pn_1) hisR ?_
  intro p e s m args below meth c s₁ Bd hml0 hP hK
  obtain ⟨rfl, hZ, hh⟩ := hP
  have hx := Bd.exec
  have hby := Bd.bytes
  have hml : c.maxLocals = 1 := hml0
  have hown : s.vm.findClass "com/example/unit_of_work/unitofwork/Condition$Operator" = some m.cls := findClass_of_methodNamed Bd.named
  have hnm := (name_of_methodNamed Bd.named Bd.method).1
  have X0 : Stand p l e ({ frames := 0, cells := 0, slots := 0, locals := 0 } : Room) s m #[(.ref x2_0)] below meth c s₁ [] 0 0 := Stand.of_body Bd
  have e0 : s₁.heap = h0 := by rw [← hh, Bd.state]; rfl
  have N0 := Fr.nil n0
  have pre0 : ∀ t, Steps p.tables e below (s₁.setTop (mkF m 0 #[.val (.ref x2_0)] [])) t → Steps p.tables e below (s₁.setTop (entryFrame m #[(.ref x2_0)] 1)) t := fun t k => castTop (ef_2 m x2_0) k
  obtain ⟨T1, X1, e1, st1⟩ := getS2 X0 hx hZ hown (host := "") (Or.inl (hw _ (List.mem_of_getElem? (i := 14) rfl))) Via.refl e0 (W.1) (g := (mkF m 1 #[.val (.ref x2_0)] [(.ref x2_0)])) rfl (hb hby d2_1)
  have sg2 : ∀ t, Steps p.tables e below (T1.setTop (mkF m 4 #[.val (.ref x2_0)] [(.ref w_EQUAL), (.ref x2_0)])) t → Steps p.tables e below (s₁.setTop (mkF m 0 #[.val (.ref x2_0)] [])) t := fun t kt => by
    show Steps p.tables e below (s₁.setTop (mkF m 0 #[.val (.ref x2_0)] [])) _
    refine XS.aloadN X0.here hx rfl (hb hby d2_0) rfl rfl ?_
    show Steps p.tables e below (s₁.setTop (mkF m 1 #[.val (.ref x2_0)] [(.ref x2_0)])) _
    refine st1 _ ?_
    exact kt
  by_cases hc4_3 : x2_0 = w_EQUAL
  · obtain ⟨fs, hr, hrun, hended, hW, hsame⟩ := X1.leave (v := some (.int (0 : Int32))) (fun h => by rw [Bd.returns] at h; cases h)
    refine ⟨_, _, pre0 _ (sg2 _ ?_), hrun, hended, _, _, rfl, ?_, ⟨_, rfl⟩, hW, hsame.mono (by decide) (by decide)⟩
    · show Steps p.tables e below (T1.setTop (mkF m 4 #[.val (.ref x2_0)] [(.ref w_EQUAL), (.ref x2_0)])) _
      refine Jvm.RoadKit.acmp (g := (mkF m 4 #[.val (.ref x2_0)] [(.ref w_EQUAL), (.ref x2_0)])) X1 hx rfl rfl rfl (pc0 := 4) (pc' := 18) (same := true) rfl (hb hby d2_4) rfl (decide_eq_true (congrArg Value.ref hc4_3)) (by decide) (by decide) ?_
      show Steps p.tables e below (T1.setTop (mkF m 18 #[.val (.ref x2_0)] [])) _
      refine XS.iconst X1.here hx rfl (hb hby d2_18) ?_
      show Steps p.tables e below (T1.setTop (mkF m 19 #[.val (.ref x2_0)] [(.int (0 : Int32))])) _
      exact retN X1 hx (t := .boolean) Bd.returns (by simp) (hb hby d2_19) hr
    · exact ⟨congrArg (fun z => some (Value.int z)) (show (0 : Int32) = f2 x2_0 w_EQUAL w_NOT_EQUAL w_LESS_THAN w_LESS_OR_EQUAL w_GREATER_THAN w_GREATER_OR_EQUAL from by unfold f2; rw [if_pos hc4_3]), N0, e1⟩
  · obtain ⟨T4, X4, e4, st4⟩ := getS2 X1 hx hZ hown (host := "") (Or.inl (hw _ (List.mem_of_getElem? (i := 31) rfl))) Via.refl e1 (W.2.1) (g := (mkF m 8 #[.val (.ref x2_0)] [(.ref x2_0)])) rfl (hb hby d2_8)
    have sg5 : ∀ t, Steps p.tables e below (T4.setTop (mkF m 11 #[.val (.ref x2_0)] [(.ref w_NOT_EQUAL), (.ref x2_0)])) t → Steps p.tables e below (T1.setTop (mkF m 4 #[.val (.ref x2_0)] [(.ref w_EQUAL), (.ref x2_0)])) t := fun t kt => by
      show Steps p.tables e below (T1.setTop (mkF m 4 #[.val (.ref x2_0)] [(.ref w_EQUAL), (.ref x2_0)])) _
      refine Jvm.RoadKit.acmp (g := (mkF m 4 #[.val (.ref x2_0)] [(.ref w_EQUAL), (.ref x2_0)])) X1 hx rfl rfl rfl (pc0 := 4) (pc' := 7) (same := false) rfl (hb hby d2_4) rfl (decide_eq_false fun q => hc4_3 (Value.ref.inj q)) (by decide) (by decide) ?_
      show Steps p.tables e below (T1.setTop (mkF m 7 #[.val (.ref x2_0)] [])) _
      refine XS.aloadN X1.here hx rfl (hb hby d2_7) rfl rfl ?_
      show Steps p.tables e below (T1.setTop (mkF m 8 #[.val (.ref x2_0)] [(.ref x2_0)])) _
      refine st4 _ ?_
      exact kt
    by_cases hc11_6 : x2_0 = w_NOT_EQUAL
    · obtain ⟨fs, hr, hrun, hended, hW, hsame⟩ := X4.leave (v := some (.int (0 : Int32))) (fun h => by rw [Bd.returns] at h; cases h)
      refine ⟨_, _, pre0 _ (sg2 _ (sg5 _ ?_)), hrun, hended, _, _, rfl, ?_, ⟨_, rfl⟩, hW, hsame.mono (by decide) (by decide)⟩
      · show Steps p.tables e below (T4.setTop (mkF m 11 #[.val (.ref x2_0)] [(.ref w_NOT_EQUAL), (.ref x2_0)])) _
        refine Jvm.RoadKit.acmp (g := (mkF m 11 #[.val (.ref x2_0)] [(.ref w_NOT_EQUAL), (.ref x2_0)])) X4 hx rfl rfl rfl (pc0 := 11) (pc' := 18) (same := true) rfl (hb hby d2_11) rfl (decide_eq_true (congrArg Value.ref hc11_6)) (by decide) (by decide) ?_
        show Steps p.tables e below (T4.setTop (mkF m 18 #[.val (.ref x2_0)] [])) _
        refine XS.iconst X4.here hx rfl (hb hby d2_18) ?_
        show Steps p.tables e below (T4.setTop (mkF m 19 #[.val (.ref x2_0)] [(.int (0 : Int32))])) _
        exact retN X4 hx (t := .boolean) Bd.returns (by simp) (hb hby d2_19) hr
      · exact ⟨congrArg (fun z => some (Value.int z)) (show (0 : Int32) = f2 x2_0 w_EQUAL w_NOT_EQUAL w_LESS_THAN w_LESS_OR_EQUAL w_GREATER_THAN w_GREATER_OR_EQUAL from by unfold f2; rw [if_neg hc4_3, if_pos hc11_6]), N0, e4⟩
    · obtain ⟨fs, hr, hrun, hended, hW, hsame⟩ := X4.leave (v := some (.int (1 : Int32))) (fun h => by rw [Bd.returns] at h; cases h)
      refine ⟨_, _, pre0 _ (sg2 _ (sg5 _ ?_)), hrun, hended, _, _, rfl, ?_, ⟨_, rfl⟩, hW, hsame.mono (by decide) (by decide)⟩
      · show Steps p.tables e below (T4.setTop (mkF m 11 #[.val (.ref x2_0)] [(.ref w_NOT_EQUAL), (.ref x2_0)])) _
        refine Jvm.RoadKit.acmp (g := (mkF m 11 #[.val (.ref x2_0)] [(.ref w_NOT_EQUAL), (.ref x2_0)])) X4 hx rfl rfl rfl (pc0 := 11) (pc' := 14) (same := false) rfl (hb hby d2_11) rfl (decide_eq_false fun q => hc11_6 (Value.ref.inj q)) (by decide) (by decide) ?_
        show Steps p.tables e below (T4.setTop (mkF m 14 #[.val (.ref x2_0)] [])) _
        refine XS.iconst X4.here hx rfl (hb hby d2_14) ?_
        show Steps p.tables e below (T4.setTop (mkF m 15 #[.val (.ref x2_0)] [(.int (1 : Int32))])) _
        refine XS.goto X4.here hx rfl (pc0 := 15) (pc' := 19) rfl (hb hby d2_15) (by decide) (by decide) ?_
        show Steps p.tables e below (T4.setTop (mkF m 19 #[.val (.ref x2_0)] [(.int (1 : Int32))])) _
        exact retN X4 hx (t := .boolean) Bd.returns (by simp) (hb hby d2_19) hr
      · exact ⟨congrArg (fun z => some (Value.int z)) (show (1 : Int32) = f2 x2_0 w_EQUAL w_NOT_EQUAL w_LESS_THAN w_LESS_OR_EQUAL w_GREATER_THAN w_GREATER_OR_EQUAL from by unfold f2; rw [if_neg hc4_3, if_neg hc11_6]), N0, e4⟩
theorem d4_0 : decode jdk_37_method_2_code 0 = .ok (.aload_n 0, 1) := by decide +kernel
theorem d4_1 : decode jdk_37_method_2_code 1 = .ok (.getfield 7, 3) := by decide +kernel
theorem d4_4 : decode jdk_37_method_2_code 4 = .ok (.ireturn, 1) := by decide +kernel
theorem pn_2 : plainName "java/lang/Enum" = true := by first | (simp [plainName, overriddenIn]; done) | decide +kernel
theorem ef_4 (m : MethodId) (x4_0 : Addr) : entryFrame m #[(.ref x4_0)] 1 = mkF m 0 #[.val (.ref x4_0)] [] := by first | (simp [entryFrame, mkF, argsToLocals, Value.category]; done) | rfl
def f4 (x4_0 : Addr) (w_EQUAL w_NOT_EQUAL w_LESS_THAN w_LESS_OR_EQUAL w_GREATER_THAN w_GREATER_OR_EQUAL : Addr) (oi : Int32) : Int32 := oi
def Q4 (Z : State) (x4_0 : Addr) (w_EQUAL w_NOT_EQUAL w_LESS_THAN w_LESS_OR_EQUAL w_GREATER_THAN w_GREATER_OR_EQUAL : Addr) (oi : Int32) (h0 : Heap) (n0 : Nat) (v : Option Value) (h : Heap) (L : List Loc) : Prop := v = some (.int (f4 x4_0 w_EQUAL w_NOT_EQUAL w_LESS_THAN w_LESS_OR_EQUAL w_GREATER_THAN w_GREATER_OR_EQUAL oi)) ∧ Fr n0 L ∧ h = h0
set_option maxRecDepth 65536 in
set_option maxHeartbeats 40000000 in
theorem rm4 (l : Launch) (Z : State) (a0 : Array Value) (hw : ∀ d ∈ tables_1, d.before a0 Z = true) (ws : List Jvm.Cond) (x4_0 : Addr) (w_EQUAL w_NOT_EQUAL w_LESS_THAN w_LESS_OR_EQUAL w_GREATER_THAN w_GREATER_OR_EQUAL : Addr) (oi : Int32) (h0 : Heap) (n0 : Nat) (Z0 : n0 ≤ h0.size) (W : World Z h0 w_EQUAL w_NOT_EQUAL w_LESS_THAN w_LESS_OR_EQUAL w_GREATER_THAN w_GREATER_OR_EQUAL) (Ford : Fld Z h0 x4_0 "java/lang/Enum" "ordinal" "I" (.int oi)) :
    MetFree l (⟨"java/lang/Enum", "ordinal", "()I"⟩ : MethodName) (head1 (Jvm.Cond.code (⟨"java/lang/Enum", "ordinal", "()I"⟩ : MethodName) jdk_37_method_2_code 1 (some .int) :: ws) ({ frames := 0, cells := 0, slots := 0, locals := 0 } : Room)) (fun a U => a = #[(.ref x4_0)] ∧ Z.Warmed39 U.vm ∧ U.heap = h0) (fun _ _ _ _ _ => True) (fun _ U o U' => ∃ v L, o = .returned v ∧ Q4 Z x4_0 w_EQUAL w_NOT_EQUAL w_LESS_THAN w_LESS_OR_EQUAL w_GREATER_THAN w_GREATER_OR_EQUAL oi h0 n0 v U'.heap L ∧ FrameEnd U o U' L ({ frames := 0, cells := 0, slots := 0, locals := 0 } : Room).cells ({ frames := 0, cells := 0, slots := 0, locals := 0 } : Room).slots) := by
  refine MetFree.of_bodySF (plainFor_of_name pn_2) hisR ?_
  intro p e s m args below meth c s₁ Bd hml0 hP hK
  obtain ⟨rfl, hZ, hh⟩ := hP
  have hx := Bd.exec
  have hby := Bd.bytes
  have hml : c.maxLocals = 1 := hml0
  have hown : s.vm.findClass "java/lang/Enum" = some m.cls := findClass_of_methodNamed Bd.named
  have hnm := (name_of_methodNamed Bd.named Bd.method).1
  have X0 : Stand p l e ({ frames := 0, cells := 0, slots := 0, locals := 0 } : Room) s m #[(.ref x4_0)] below meth c s₁ [] 0 0 := Stand.of_body Bd
  have e0 : s₁.heap = h0 := by rw [← hh, Bd.state]; rfl
  have N0 := Fr.nil n0
  have pre0 : ∀ t, Steps p.tables e below (s₁.setTop (mkF m 0 #[.val (.ref x4_0)] [])) t → Steps p.tables e below (s₁.setTop (entryFrame m #[(.ref x4_0)] 1)) t := fun t k => castTop (ef_4 m x4_0) k
  obtain ⟨T1, X1, e1, st1⟩ := getF X0 hx hZ hown (host := "") (Or.inl (hw _ (List.mem_of_getElem? (i := 27) rfl))) Via.refl e0 Ford (g := (mkF m 1 #[.val (.ref x4_0)] [(.ref x4_0)])) rfl rfl (hb hby d4_1)
  obtain ⟨fs, hr, hrun, hended, hW, hsame⟩ := X1.leave (v := some (.int oi)) (fun h => by rw [Bd.returns] at h; cases h)
  refine ⟨_, _, pre0 _ (?_), hrun, hended, _, _, rfl, ?_, ⟨_, rfl⟩, hW, hsame.mono (by decide) (by decide)⟩
  · show Steps p.tables e below (s₁.setTop (mkF m 0 #[.val (.ref x4_0)] [])) _
    refine XS.aloadN X0.here hx rfl (hb hby d4_0) rfl rfl ?_
    show Steps p.tables e below (s₁.setTop (mkF m 1 #[.val (.ref x4_0)] [(.ref x4_0)])) _
    refine st1 _ ?_
    show Steps p.tables e below (T1.setTop (mkF m 4 #[.val (.ref x4_0)] [(.int oi)])) _
    exact retI X1 hx Bd.returns (hb hby d4_4) hr
  · exact ⟨rfl, N0, e1⟩
theorem pd_0 : parseMethodDescriptor "()I" = some ⟨[], some .int⟩ := by decide +kernel
theorem d3_0 : decode prog_33_method_5_code 0 = .ok (.aload_n 0, 1) := by decide +kernel
theorem d3_1 : decode prog_33_method_5_code 1 = .ok (.invokevirtual 45, 3) := by decide +kernel
theorem d3_4 : decode prog_33_method_5_code 4 = .ok (.tableswitch 40 0 5 #[50, 62, 74, 86, 98, 110], 40) := by decide +kernel
theorem d3_54 : decode prog_33_method_5_code 54 = .ok (.iload_n 1, 1) := by decide +kernel
theorem d3_55 : decode prog_33_method_5_code 55 = .ok (.ifCond .ne 7, 3) := by decide +kernel
theorem d3_58 : decode prog_33_method_5_code 58 = .ok (.iconst 1, 1) := by decide +kernel
theorem d3_59 : decode prog_33_method_5_code 59 = .ok (.goto 64, 3) := by decide +kernel
theorem d3_62 : decode prog_33_method_5_code 62 = .ok (.iconst 0, 1) := by decide +kernel
theorem d3_63 : decode prog_33_method_5_code 63 = .ok (.goto 60, 3) := by decide +kernel
theorem d3_66 : decode prog_33_method_5_code 66 = .ok (.iload_n 1, 1) := by decide +kernel
theorem d3_67 : decode prog_33_method_5_code 67 = .ok (.ifCond .eq 7, 3) := by decide +kernel
theorem d3_70 : decode prog_33_method_5_code 70 = .ok (.iconst 1, 1) := by decide +kernel
theorem d3_71 : decode prog_33_method_5_code 71 = .ok (.goto 52, 3) := by decide +kernel
theorem d3_74 : decode prog_33_method_5_code 74 = .ok (.iconst 0, 1) := by decide +kernel
theorem d3_75 : decode prog_33_method_5_code 75 = .ok (.goto 48, 3) := by decide +kernel
theorem d3_78 : decode prog_33_method_5_code 78 = .ok (.iload_n 1, 1) := by decide +kernel
theorem d3_79 : decode prog_33_method_5_code 79 = .ok (.ifCond .ge 7, 3) := by decide +kernel
theorem d3_82 : decode prog_33_method_5_code 82 = .ok (.iconst 1, 1) := by decide +kernel
theorem d3_83 : decode prog_33_method_5_code 83 = .ok (.goto 40, 3) := by decide +kernel
theorem d3_86 : decode prog_33_method_5_code 86 = .ok (.iconst 0, 1) := by decide +kernel
theorem d3_87 : decode prog_33_method_5_code 87 = .ok (.goto 36, 3) := by decide +kernel
theorem d3_90 : decode prog_33_method_5_code 90 = .ok (.iload_n 1, 1) := by decide +kernel
theorem d3_91 : decode prog_33_method_5_code 91 = .ok (.ifCond .gt 7, 3) := by decide +kernel
theorem d3_94 : decode prog_33_method_5_code 94 = .ok (.iconst 1, 1) := by decide +kernel
theorem d3_95 : decode prog_33_method_5_code 95 = .ok (.goto 28, 3) := by decide +kernel
theorem d3_98 : decode prog_33_method_5_code 98 = .ok (.iconst 0, 1) := by decide +kernel
theorem d3_99 : decode prog_33_method_5_code 99 = .ok (.goto 24, 3) := by decide +kernel
theorem d3_102 : decode prog_33_method_5_code 102 = .ok (.iload_n 1, 1) := by decide +kernel
theorem d3_103 : decode prog_33_method_5_code 103 = .ok (.ifCond .le 7, 3) := by decide +kernel
theorem d3_106 : decode prog_33_method_5_code 106 = .ok (.iconst 1, 1) := by decide +kernel
theorem d3_107 : decode prog_33_method_5_code 107 = .ok (.goto 16, 3) := by decide +kernel
theorem d3_110 : decode prog_33_method_5_code 110 = .ok (.iconst 0, 1) := by decide +kernel
theorem d3_111 : decode prog_33_method_5_code 111 = .ok (.goto 12, 3) := by decide +kernel
theorem d3_114 : decode prog_33_method_5_code 114 = .ok (.iload_n 1, 1) := by decide +kernel
theorem d3_115 : decode prog_33_method_5_code 115 = .ok (.ifCond .lt 7, 3) := by decide +kernel
theorem d3_118 : decode prog_33_method_5_code 118 = .ok (.iconst 1, 1) := by decide +kernel
theorem d3_119 : decode prog_33_method_5_code 119 = .ok (.goto 4, 3) := by decide +kernel
theorem d3_122 : decode prog_33_method_5_code 122 = .ok (.iconst 0, 1) := by decide +kernel
theorem d3_123 : decode prog_33_method_5_code 123 = .ok (.ireturn, 1) := by decide +kernel
theorem ef_3 (m : MethodId) (x3_0 : Addr) (x3_1 : Int32) : entryFrame m #[(.ref x3_0), (.int x3_1)] 2 = mkF m 0 #[.val (.ref x3_0), .val (.int x3_1)] [] := by first | (simp [entryFrame, mkF, argsToLocals, Value.category]; done) | rfl
def f3 (x3_0 : Addr) (x3_1 : Int32) (w_EQUAL w_NOT_EQUAL w_LESS_THAN w_LESS_OR_EQUAL w_GREATER_THAN w_GREATER_OR_EQUAL : Addr) (oi : Int32) : Int32 := if oi = (0 : Int32) then (if x3_1 = (0 : Int32) then (1 : Int32) else (0 : Int32)) else if oi = (1 : Int32) then (if x3_1 = (0 : Int32) then (0 : Int32) else (1 : Int32)) else if oi = (2 : Int32) then (if x3_1 < (0 : Int32) then (1 : Int32) else (0 : Int32)) else if oi = (3 : Int32) then (if (0 : Int32) < x3_1 then (0 : Int32) else (1 : Int32)) else if oi = (4 : Int32) then (if (0 : Int32) < x3_1 then (1 : Int32) else (0 : Int32)) else if oi = (5 : Int32) then (if x3_1 < (0 : Int32) then (0 : Int32) else (1 : Int32)) else default
def Q3 (Z : State) (x3_0 : Addr) (x3_1 : Int32) (w_EQUAL w_NOT_EQUAL w_LESS_THAN w_LESS_OR_EQUAL w_GREATER_THAN w_GREATER_OR_EQUAL : Addr) (oi : Int32) (h0 : Heap) (n0 : Nat) (v : Option Value) (h : Heap) (L : List Loc) : Prop := v = some (.int (f3 x3_0 x3_1 w_EQUAL w_NOT_EQUAL w_LESS_THAN w_LESS_OR_EQUAL w_GREATER_THAN w_GREATER_OR_EQUAL oi)) ∧ Fr n0 L ∧ h = h0
set_option maxRecDepth 65536 in
set_option maxHeartbeats 40000000 in
theorem rm3 (l : Launch) (Z : State) (a0 : Array Value) (hw : ∀ d ∈ tables_1, d.before a0 Z = true) (ws : List Jvm.Cond) (x3_0 : Addr) (x3_1 : Int32) (w_EQUAL w_NOT_EQUAL w_LESS_THAN w_LESS_OR_EQUAL w_GREATER_THAN w_GREATER_OR_EQUAL : Addr) (oi : Int32) (h0 : Heap) (n0 : Nat) (Z0 : n0 ≤ h0.size) (W : World Z h0 w_EQUAL w_NOT_EQUAL w_LESS_THAN w_LESS_OR_EQUAL w_GREATER_THAN w_GREATER_OR_EQUAL) (Ford : Fld Z h0 x3_0 "java/lang/Enum" "ordinal" "I" (.int oi)) (Exa0 : Exa Z h0 x3_0 "com/example/unit_of_work/unitofwork/Condition$Operator") (hoi : 0 ≤ oi.toInt ∧ oi.toInt ≤ 5) :
    MetFree l (⟨"com/example/unit_of_work/unitofwork/Condition$Operator", "holds", "(I)Z"⟩ : MethodName) (head1 (Jvm.Cond.code (⟨"com/example/unit_of_work/unitofwork/Condition$Operator", "holds", "(I)Z"⟩ : MethodName) prog_33_method_5_code 2 (some .boolean) :: ws) ({ frames := 1, cells := 0, slots := 0, locals := 12 } : Room)) (fun a U => a = #[(.ref x3_0), (.int x3_1)] ∧ Z.Warmed39 U.vm ∧ U.heap = h0) (fun _ _ _ _ _ => True) (fun _ U o U' => ∃ v L, o = .returned v ∧ Q3 Z x3_0 x3_1 w_EQUAL w_NOT_EQUAL w_LESS_THAN w_LESS_OR_EQUAL w_GREATER_THAN w_GREATER_OR_EQUAL oi h0 n0 v U'.heap L ∧ FrameEnd U o U' L ({ frames := 1, cells := 0, slots := 0, locals := 12 } : Room).cells ({ frames := 1, cells := 0, slots := 0, locals := 12 } : Room).slots) := by
  refine MetFree.of_bodySF (plainFor_of_name pn_1) hisR ?_
  intro p e s m args below meth c s₁ Bd hml0 hP hK
  obtain ⟨rfl, hZ, hh⟩ := hP
  have hx := Bd.exec
  have hby := Bd.bytes
  have hml : c.maxLocals = 2 := hml0
  have hown : s.vm.findClass "com/example/unit_of_work/unitofwork/Condition$Operator" = some m.cls := findClass_of_methodNamed Bd.named
  have hnm := (name_of_methodNamed Bd.named Bd.method).1
  have X0 : Stand p l e ({ frames := 1, cells := 0, slots := 0, locals := 12 } : Room) s m #[(.ref x3_0), (.int x3_1)] below meth c s₁ [] 0 0 := Stand.of_body Bd
  have e0 : s₁.heap = h0 := by rw [← hh, Bd.state]; rfl
  have N0 := Fr.nil n0
  have pre0 : ∀ t, Steps p.tables e below (s₁.setTop (mkF m 0 #[.val (.ref x3_0), .val (.int x3_1)] [])) t → Steps p.tables e below (s₁.setTop (entryFrame m #[(.ref x3_0), (.int x3_1)] 2)) t := fun t k => castTop (ef_3 m x3_0 x3_1) k
  have sg2 : ∀ t, Steps p.tables e below (s₁.setTop (mkF m 1 #[.val (.ref x3_0), .val (.int x3_1)] [(.ref x3_0)])) t → Steps p.tables e below (s₁.setTop (mkF m 0 #[.val (.ref x3_0), .val (.int x3_1)] [])) t := fun t kt => by
    show Steps p.tables e below (s₁.setTop (mkF m 0 #[.val (.ref x3_0), .val (.int x3_1)] [])) _
    refine XS.aloadN X0.here hx rfl (hb hby d3_0) rfl rfl ?_
    exact kt
  obtain ⟨cq1, kq1, q1a, q1b, q1c⟩ := isOf hZ e0 Exa0
  obtain ⟨v1, _, ⟨T1, L1, k1, n1⟩, -, X1, ⟨Lc1, hQ1, l1, y1, z1⟩, st1⟩ := X0.virtualBackUp hx (owner := "java/lang/Enum") (x := (⟨"com/example/unit_of_work/unitofwork/Condition$Operator", "ordinal", "()I"⟩ : MethodName)) (y := (⟨"java/lang/Enum", "ordinal", "()I"⟩ : MethodName)) hown (mvT hZ (hw _ (List.mem_of_getElem? (i := 20) rfl))) (mvT hZ (hw _ (List.mem_of_getElem? (i := 21) rfl))) (mvT hZ (hw _ (List.mem_of_getElem? (i := 22) rfl))) (by decide) (mvT hZ (hw _ (List.mem_of_getElem? (i := 24) rfl))) (mvT hZ (hw _ (List.mem_of_getElem? (i := 23) rfl))) (backOf (W := 0) (rm4 l Z a0 hw [] x3_0 w_EQUAL w_NOT_EQUAL w_LESS_THAN w_LESS_OR_EQUAL w_GREATER_THAN w_GREATER_OR_EQUAL oi h0 n0 Z0 W Ford) hZ (hw _ (List.mem_of_getElem? (i := 26) rfl)) (hw _ (List.mem_of_getElem? (i := 25) rfl)) (by decide) (by decide)) q1a q1c (g := (mkF m 1 #[.val (.ref x3_0), .val (.int x3_1)] [(.ref x3_0)])) rfl (by rw [hml]; rfl) (Steps.refl _) (argsL := []) (rest := []) (lenOf pd_0 rfl) rfl (by show 2 * 0 + _ ≤ _; exact Nat.le_of_eq rfl) (hb hby d3_1) (fun _ _ => ⟨rfl, e0, (by decide : 0 + 0 ≤ _), (by decide : 0 + 0 ≤ _)⟩)
  dsimp only [Pt.U, Pt.locs, Pt.cells, Pt.slots] at X1 l1 y1 z1 st1 hQ1
  subst l1 y1 z1
  obtain ⟨hv1, N1q, e1⟩ := hQ1
  have N1 := Fr.app N0 N1q
  have hf1 : f4 x3_0 w_EQUAL w_NOT_EQUAL w_LESS_THAN w_LESS_OR_EQUAL w_GREATER_THAN w_GREATER_OR_EQUAL oi = oi := rfl
  rw [hf1] at hv1
  subst hv1
  have sg3 : ∀ t, Steps p.tables e below (T1.setTop (mkF m 4 #[.val (.ref x3_0), .val (.int x3_1)] [(.int oi)])) t → Steps p.tables e below (s₁.setTop (mkF m 1 #[.val (.ref x3_0), .val (.int x3_1)] [(.ref x3_0)])) t := fun t kt => by
    show Steps p.tables e below (s₁.setTop (mkF m 1 #[.val (.ref x3_0), .val (.int x3_1)] [(.ref x3_0)])) _
    refine st1.trans ?_
    exact kt
  by_cases hc4_4 : oi = (0 : Int32)
  · have sg5 : ∀ t, Steps p.tables e below (T1.setTop (mkF m 55 #[.val (.ref x3_0), .val (.int x3_1)] [(.int x3_1)])) t → Steps p.tables e below (T1.setTop (mkF m 4 #[.val (.ref x3_0), .val (.int x3_1)] [(.int oi)])) t := fun t kt => by
      show Steps p.tables e below (T1.setTop (mkF m 4 #[.val (.ref x3_0), .val (.int x3_1)] [(.int oi)])) _
      refine XS.tswIn X1.here hx rfl (pc0 := 4) (pc' := 54) rfl (hb hby d3_4) rfl (by rw [hc4_4]; decide) (by rw [hc4_4]; rfl) (by decide) (by decide) ?_
      show Steps p.tables e below (T1.setTop (mkF m 54 #[.val (.ref x3_0), .val (.int x3_1)] [])) _
      refine XS.iloadN X1.here hx rfl (hb hby d3_54) rfl ?_
      exact kt
    by_cases hc55_6 : x3_1 = (0 : Int32)
    · obtain ⟨fs, hr, hrun, hended, hW, hsame⟩ := X1.leave (v := some (.int (1 : Int32))) (fun h => by rw [Bd.returns] at h; cases h)
      refine ⟨_, _, pre0 _ (sg2 _ (sg3 _ (sg5 _ ?_))), hrun, hended, _, _, rfl, ?_, ⟨_, rfl⟩, hW, hsame.mono (by decide) (by decide)⟩
      · show Steps p.tables e below (T1.setTop (mkF m 55 #[.val (.ref x3_0), .val (.int x3_1)] [(.int x3_1)])) _
        refine XS.ifNo X1.here hx rfl (hb hby d3_55) rfl ((if0 _ _).trans (teq hc55_6).2) ?_
        show Steps p.tables e below (T1.setTop (mkF m 58 #[.val (.ref x3_0), .val (.int x3_1)] [])) _
        refine XS.iconst X1.here hx rfl (hb hby d3_58) ?_
        show Steps p.tables e below (T1.setTop (mkF m 59 #[.val (.ref x3_0), .val (.int x3_1)] [(.int (1 : Int32))])) _
        refine XS.goto X1.here hx rfl (pc0 := 59) (pc' := 123) rfl (hb hby d3_59) (by decide) (by decide) ?_
        show Steps p.tables e below (T1.setTop (mkF m 123 #[.val (.ref x3_0), .val (.int x3_1)] [(.int (1 : Int32))])) _
        exact retN X1 hx (t := .boolean) Bd.returns (by simp) (hb hby d3_123) hr
      · exact ⟨congrArg (fun z => some (Value.int z)) (show (1 : Int32) = f3 x3_0 x3_1 w_EQUAL w_NOT_EQUAL w_LESS_THAN w_LESS_OR_EQUAL w_GREATER_THAN w_GREATER_OR_EQUAL oi from by unfold f3; rw [if_pos hc4_4, if_pos hc55_6]), N1, e1⟩
    · obtain ⟨fs, hr, hrun, hended, hW, hsame⟩ := X1.leave (v := some (.int (0 : Int32))) (fun h => by rw [Bd.returns] at h; cases h)
      refine ⟨_, _, pre0 _ (sg2 _ (sg3 _ (sg5 _ ?_))), hrun, hended, _, _, rfl, ?_, ⟨_, rfl⟩, hW, hsame.mono (by decide) (by decide)⟩
      · show Steps p.tables e below (T1.setTop (mkF m 55 #[.val (.ref x3_0), .val (.int x3_1)] [(.int x3_1)])) _
        refine XS.ifYes X1.here hx rfl (pc0 := 55) (pc' := 62) rfl (hb hby d3_55) rfl ((if0 _ _).trans (feq hc55_6).2) (by decide) (by decide) ?_
        show Steps p.tables e below (T1.setTop (mkF m 62 #[.val (.ref x3_0), .val (.int x3_1)] [])) _
        refine XS.iconst X1.here hx rfl (hb hby d3_62) ?_
        show Steps p.tables e below (T1.setTop (mkF m 63 #[.val (.ref x3_0), .val (.int x3_1)] [(.int (0 : Int32))])) _
        refine XS.goto X1.here hx rfl (pc0 := 63) (pc' := 123) rfl (hb hby d3_63) (by decide) (by decide) ?_
        show Steps p.tables e below (T1.setTop (mkF m 123 #[.val (.ref x3_0), .val (.int x3_1)] [(.int (0 : Int32))])) _
        exact retN X1 hx (t := .boolean) Bd.returns (by simp) (hb hby d3_123) hr
      · exact ⟨congrArg (fun z => some (Value.int z)) (show (0 : Int32) = f3 x3_0 x3_1 w_EQUAL w_NOT_EQUAL w_LESS_THAN w_LESS_OR_EQUAL w_GREATER_THAN w_GREATER_OR_EQUAL oi from by unfold f3; rw [if_pos hc4_4, if_neg hc55_6]), N1, e1⟩
  · by_cases hc4_7 : oi = (1 : Int32)
    · have sg8 : ∀ t, Steps p.tables e below (T1.setTop (mkF m 67 #[.val (.ref x3_0), .val (.int x3_1)] [(.int x3_1)])) t → Steps p.tables e below (T1.setTop (mkF m 4 #[.val (.ref x3_0), .val (.int x3_1)] [(.int oi)])) t := fun t kt => by
        show Steps p.tables e below (T1.setTop (mkF m 4 #[.val (.ref x3_0), .val (.int x3_1)] [(.int oi)])) _
        refine XS.tswIn X1.here hx rfl (pc0 := 4) (pc' := 66) rfl (hb hby d3_4) rfl (by rw [hc4_7]; decide) (by rw [hc4_7]; rfl) (by decide) (by decide) ?_
        show Steps p.tables e below (T1.setTop (mkF m 66 #[.val (.ref x3_0), .val (.int x3_1)] [])) _
        refine XS.iloadN X1.here hx rfl (hb hby d3_66) rfl ?_
        exact kt
      by_cases hc67_9 : x3_1 = (0 : Int32)
      · obtain ⟨fs, hr, hrun, hended, hW, hsame⟩ := X1.leave (v := some (.int (0 : Int32))) (fun h => by rw [Bd.returns] at h; cases h)
        refine ⟨_, _, pre0 _ (sg2 _ (sg3 _ (sg8 _ ?_))), hrun, hended, _, _, rfl, ?_, ⟨_, rfl⟩, hW, hsame.mono (by decide) (by decide)⟩
        · show Steps p.tables e below (T1.setTop (mkF m 67 #[.val (.ref x3_0), .val (.int x3_1)] [(.int x3_1)])) _
          refine XS.ifYes X1.here hx rfl (pc0 := 67) (pc' := 74) rfl (hb hby d3_67) rfl ((if0 _ _).trans (teq hc67_9).1) (by decide) (by decide) ?_
          show Steps p.tables e below (T1.setTop (mkF m 74 #[.val (.ref x3_0), .val (.int x3_1)] [])) _
          refine XS.iconst X1.here hx rfl (hb hby d3_74) ?_
          show Steps p.tables e below (T1.setTop (mkF m 75 #[.val (.ref x3_0), .val (.int x3_1)] [(.int (0 : Int32))])) _
          refine XS.goto X1.here hx rfl (pc0 := 75) (pc' := 123) rfl (hb hby d3_75) (by decide) (by decide) ?_
          show Steps p.tables e below (T1.setTop (mkF m 123 #[.val (.ref x3_0), .val (.int x3_1)] [(.int (0 : Int32))])) _
          exact retN X1 hx (t := .boolean) Bd.returns (by simp) (hb hby d3_123) hr
        · exact ⟨congrArg (fun z => some (Value.int z)) (show (0 : Int32) = f3 x3_0 x3_1 w_EQUAL w_NOT_EQUAL w_LESS_THAN w_LESS_OR_EQUAL w_GREATER_THAN w_GREATER_OR_EQUAL oi from by unfold f3; rw [if_neg hc4_4, if_pos hc4_7, if_pos hc67_9]), N1, e1⟩
      · obtain ⟨fs, hr, hrun, hended, hW, hsame⟩ := X1.leave (v := some (.int (1 : Int32))) (fun h => by rw [Bd.returns] at h; cases h)
        refine ⟨_, _, pre0 _ (sg2 _ (sg3 _ (sg8 _ ?_))), hrun, hended, _, _, rfl, ?_, ⟨_, rfl⟩, hW, hsame.mono (by decide) (by decide)⟩
        · show Steps p.tables e below (T1.setTop (mkF m 67 #[.val (.ref x3_0), .val (.int x3_1)] [(.int x3_1)])) _
          refine XS.ifNo X1.here hx rfl (hb hby d3_67) rfl ((if0 _ _).trans (feq hc67_9).1) ?_
          show Steps p.tables e below (T1.setTop (mkF m 70 #[.val (.ref x3_0), .val (.int x3_1)] [])) _
          refine XS.iconst X1.here hx rfl (hb hby d3_70) ?_
          show Steps p.tables e below (T1.setTop (mkF m 71 #[.val (.ref x3_0), .val (.int x3_1)] [(.int (1 : Int32))])) _
          refine XS.goto X1.here hx rfl (pc0 := 71) (pc' := 123) rfl (hb hby d3_71) (by decide) (by decide) ?_
          show Steps p.tables e below (T1.setTop (mkF m 123 #[.val (.ref x3_0), .val (.int x3_1)] [(.int (1 : Int32))])) _
          exact retN X1 hx (t := .boolean) Bd.returns (by simp) (hb hby d3_123) hr
        · exact ⟨congrArg (fun z => some (Value.int z)) (show (1 : Int32) = f3 x3_0 x3_1 w_EQUAL w_NOT_EQUAL w_LESS_THAN w_LESS_OR_EQUAL w_GREATER_THAN w_GREATER_OR_EQUAL oi from by unfold f3; rw [if_neg hc4_4, if_pos hc4_7, if_neg hc67_9]), N1, e1⟩
    · by_cases hc4_10 : oi = (2 : Int32)
      · have sg11 : ∀ t, Steps p.tables e below (T1.setTop (mkF m 79 #[.val (.ref x3_0), .val (.int x3_1)] [(.int x3_1)])) t → Steps p.tables e below (T1.setTop (mkF m 4 #[.val (.ref x3_0), .val (.int x3_1)] [(.int oi)])) t := fun t kt => by
          show Steps p.tables e below (T1.setTop (mkF m 4 #[.val (.ref x3_0), .val (.int x3_1)] [(.int oi)])) _
          refine XS.tswIn X1.here hx rfl (pc0 := 4) (pc' := 78) rfl (hb hby d3_4) rfl (by rw [hc4_10]; decide) (by rw [hc4_10]; rfl) (by decide) (by decide) ?_
          show Steps p.tables e below (T1.setTop (mkF m 78 #[.val (.ref x3_0), .val (.int x3_1)] [])) _
          refine XS.iloadN X1.here hx rfl (hb hby d3_78) rfl ?_
          exact kt
        by_cases hc79_12 : x3_1 < (0 : Int32)
        · obtain ⟨fs, hr, hrun, hended, hW, hsame⟩ := X1.leave (v := some (.int (1 : Int32))) (fun h => by rw [Bd.returns] at h; cases h)
          refine ⟨_, _, pre0 _ (sg2 _ (sg3 _ (sg11 _ ?_))), hrun, hended, _, _, rfl, ?_, ⟨_, rfl⟩, hW, hsame.mono (by decide) (by decide)⟩
          · show Steps p.tables e below (T1.setTop (mkF m 79 #[.val (.ref x3_0), .val (.int x3_1)] [(.int x3_1)])) _
            refine XS.ifNo X1.here hx rfl (hb hby d3_79) rfl ((if0 _ _).trans (tlt hc79_12).2.1) ?_
            show Steps p.tables e below (T1.setTop (mkF m 82 #[.val (.ref x3_0), .val (.int x3_1)] [])) _
            refine XS.iconst X1.here hx rfl (hb hby d3_82) ?_
            show Steps p.tables e below (T1.setTop (mkF m 83 #[.val (.ref x3_0), .val (.int x3_1)] [(.int (1 : Int32))])) _
            refine XS.goto X1.here hx rfl (pc0 := 83) (pc' := 123) rfl (hb hby d3_83) (by decide) (by decide) ?_
            show Steps p.tables e below (T1.setTop (mkF m 123 #[.val (.ref x3_0), .val (.int x3_1)] [(.int (1 : Int32))])) _
            exact retN X1 hx (t := .boolean) Bd.returns (by simp) (hb hby d3_123) hr
          · exact ⟨congrArg (fun z => some (Value.int z)) (show (1 : Int32) = f3 x3_0 x3_1 w_EQUAL w_NOT_EQUAL w_LESS_THAN w_LESS_OR_EQUAL w_GREATER_THAN w_GREATER_OR_EQUAL oi from by unfold f3; rw [if_neg hc4_4, if_neg hc4_7, if_pos hc4_10, if_pos hc79_12]), N1, e1⟩
        · obtain ⟨fs, hr, hrun, hended, hW, hsame⟩ := X1.leave (v := some (.int (0 : Int32))) (fun h => by rw [Bd.returns] at h; cases h)
          refine ⟨_, _, pre0 _ (sg2 _ (sg3 _ (sg11 _ ?_))), hrun, hended, _, _, rfl, ?_, ⟨_, rfl⟩, hW, hsame.mono (by decide) (by decide)⟩
          · show Steps p.tables e below (T1.setTop (mkF m 79 #[.val (.ref x3_0), .val (.int x3_1)] [(.int x3_1)])) _
            refine XS.ifYes X1.here hx rfl (pc0 := 79) (pc' := 86) rfl (hb hby d3_79) rfl ((if0 _ _).trans (flt hc79_12).2.1) (by decide) (by decide) ?_
            show Steps p.tables e below (T1.setTop (mkF m 86 #[.val (.ref x3_0), .val (.int x3_1)] [])) _
            refine XS.iconst X1.here hx rfl (hb hby d3_86) ?_
            show Steps p.tables e below (T1.setTop (mkF m 87 #[.val (.ref x3_0), .val (.int x3_1)] [(.int (0 : Int32))])) _
            refine XS.goto X1.here hx rfl (pc0 := 87) (pc' := 123) rfl (hb hby d3_87) (by decide) (by decide) ?_
            show Steps p.tables e below (T1.setTop (mkF m 123 #[.val (.ref x3_0), .val (.int x3_1)] [(.int (0 : Int32))])) _
            exact retN X1 hx (t := .boolean) Bd.returns (by simp) (hb hby d3_123) hr
          · exact ⟨congrArg (fun z => some (Value.int z)) (show (0 : Int32) = f3 x3_0 x3_1 w_EQUAL w_NOT_EQUAL w_LESS_THAN w_LESS_OR_EQUAL w_GREATER_THAN w_GREATER_OR_EQUAL oi from by unfold f3; rw [if_neg hc4_4, if_neg hc4_7, if_pos hc4_10, if_neg hc79_12]), N1, e1⟩
      · by_cases hc4_13 : oi = (3 : Int32)
        · have sg14 : ∀ t, Steps p.tables e below (T1.setTop (mkF m 91 #[.val (.ref x3_0), .val (.int x3_1)] [(.int x3_1)])) t → Steps p.tables e below (T1.setTop (mkF m 4 #[.val (.ref x3_0), .val (.int x3_1)] [(.int oi)])) t := fun t kt => by
            show Steps p.tables e below (T1.setTop (mkF m 4 #[.val (.ref x3_0), .val (.int x3_1)] [(.int oi)])) _
            refine XS.tswIn X1.here hx rfl (pc0 := 4) (pc' := 90) rfl (hb hby d3_4) rfl (by rw [hc4_13]; decide) (by rw [hc4_13]; rfl) (by decide) (by decide) ?_
            show Steps p.tables e below (T1.setTop (mkF m 90 #[.val (.ref x3_0), .val (.int x3_1)] [])) _
            refine XS.iloadN X1.here hx rfl (hb hby d3_90) rfl ?_
            exact kt
          by_cases hc91_15 : (0 : Int32) < x3_1
          · obtain ⟨fs, hr, hrun, hended, hW, hsame⟩ := X1.leave (v := some (.int (0 : Int32))) (fun h => by rw [Bd.returns] at h; cases h)
            refine ⟨_, _, pre0 _ (sg2 _ (sg3 _ (sg14 _ ?_))), hrun, hended, _, _, rfl, ?_, ⟨_, rfl⟩, hW, hsame.mono (by decide) (by decide)⟩
            · show Steps p.tables e below (T1.setTop (mkF m 91 #[.val (.ref x3_0), .val (.int x3_1)] [(.int x3_1)])) _
              refine XS.ifYes X1.here hx rfl (pc0 := 91) (pc' := 98) rfl (hb hby d3_91) rfl ((if0 _ _).trans (tlt hc91_15).2.2.1) (by decide) (by decide) ?_
              show Steps p.tables e below (T1.setTop (mkF m 98 #[.val (.ref x3_0), .val (.int x3_1)] [])) _
              refine XS.iconst X1.here hx rfl (hb hby d3_98) ?_
              show Steps p.tables e below (T1.setTop (mkF m 99 #[.val (.ref x3_0), .val (.int x3_1)] [(.int (0 : Int32))])) _
              refine XS.goto X1.here hx rfl (pc0 := 99) (pc' := 123) rfl (hb hby d3_99) (by decide) (by decide) ?_
              show Steps p.tables e below (T1.setTop (mkF m 123 #[.val (.ref x3_0), .val (.int x3_1)] [(.int (0 : Int32))])) _
              exact retN X1 hx (t := .boolean) Bd.returns (by simp) (hb hby d3_123) hr
            · exact ⟨congrArg (fun z => some (Value.int z)) (show (0 : Int32) = f3 x3_0 x3_1 w_EQUAL w_NOT_EQUAL w_LESS_THAN w_LESS_OR_EQUAL w_GREATER_THAN w_GREATER_OR_EQUAL oi from by unfold f3; rw [if_neg hc4_4, if_neg hc4_7, if_neg hc4_10, if_pos hc4_13, if_pos hc91_15]), N1, e1⟩
          · obtain ⟨fs, hr, hrun, hended, hW, hsame⟩ := X1.leave (v := some (.int (1 : Int32))) (fun h => by rw [Bd.returns] at h; cases h)
            refine ⟨_, _, pre0 _ (sg2 _ (sg3 _ (sg14 _ ?_))), hrun, hended, _, _, rfl, ?_, ⟨_, rfl⟩, hW, hsame.mono (by decide) (by decide)⟩
            · show Steps p.tables e below (T1.setTop (mkF m 91 #[.val (.ref x3_0), .val (.int x3_1)] [(.int x3_1)])) _
              refine XS.ifNo X1.here hx rfl (hb hby d3_91) rfl ((if0 _ _).trans (flt hc91_15).2.2.1) ?_
              show Steps p.tables e below (T1.setTop (mkF m 94 #[.val (.ref x3_0), .val (.int x3_1)] [])) _
              refine XS.iconst X1.here hx rfl (hb hby d3_94) ?_
              show Steps p.tables e below (T1.setTop (mkF m 95 #[.val (.ref x3_0), .val (.int x3_1)] [(.int (1 : Int32))])) _
              refine XS.goto X1.here hx rfl (pc0 := 95) (pc' := 123) rfl (hb hby d3_95) (by decide) (by decide) ?_
              show Steps p.tables e below (T1.setTop (mkF m 123 #[.val (.ref x3_0), .val (.int x3_1)] [(.int (1 : Int32))])) _
              exact retN X1 hx (t := .boolean) Bd.returns (by simp) (hb hby d3_123) hr
            · exact ⟨congrArg (fun z => some (Value.int z)) (show (1 : Int32) = f3 x3_0 x3_1 w_EQUAL w_NOT_EQUAL w_LESS_THAN w_LESS_OR_EQUAL w_GREATER_THAN w_GREATER_OR_EQUAL oi from by unfold f3; rw [if_neg hc4_4, if_neg hc4_7, if_neg hc4_10, if_pos hc4_13, if_neg hc91_15]), N1, e1⟩
        · by_cases hc4_16 : oi = (4 : Int32)
          · have sg17 : ∀ t, Steps p.tables e below (T1.setTop (mkF m 103 #[.val (.ref x3_0), .val (.int x3_1)] [(.int x3_1)])) t → Steps p.tables e below (T1.setTop (mkF m 4 #[.val (.ref x3_0), .val (.int x3_1)] [(.int oi)])) t := fun t kt => by
              show Steps p.tables e below (T1.setTop (mkF m 4 #[.val (.ref x3_0), .val (.int x3_1)] [(.int oi)])) _
              refine XS.tswIn X1.here hx rfl (pc0 := 4) (pc' := 102) rfl (hb hby d3_4) rfl (by rw [hc4_16]; decide) (by rw [hc4_16]; rfl) (by decide) (by decide) ?_
              show Steps p.tables e below (T1.setTop (mkF m 102 #[.val (.ref x3_0), .val (.int x3_1)] [])) _
              refine XS.iloadN X1.here hx rfl (hb hby d3_102) rfl ?_
              exact kt
            by_cases hc103_18 : (0 : Int32) < x3_1
            · obtain ⟨fs, hr, hrun, hended, hW, hsame⟩ := X1.leave (v := some (.int (1 : Int32))) (fun h => by rw [Bd.returns] at h; cases h)
              refine ⟨_, _, pre0 _ (sg2 _ (sg3 _ (sg17 _ ?_))), hrun, hended, _, _, rfl, ?_, ⟨_, rfl⟩, hW, hsame.mono (by decide) (by decide)⟩
              · show Steps p.tables e below (T1.setTop (mkF m 103 #[.val (.ref x3_0), .val (.int x3_1)] [(.int x3_1)])) _
                refine XS.ifNo X1.here hx rfl (hb hby d3_103) rfl ((if0 _ _).trans (tlt hc103_18).2.2.2) ?_
                show Steps p.tables e below (T1.setTop (mkF m 106 #[.val (.ref x3_0), .val (.int x3_1)] [])) _
                refine XS.iconst X1.here hx rfl (hb hby d3_106) ?_
                show Steps p.tables e below (T1.setTop (mkF m 107 #[.val (.ref x3_0), .val (.int x3_1)] [(.int (1 : Int32))])) _
                refine XS.goto X1.here hx rfl (pc0 := 107) (pc' := 123) rfl (hb hby d3_107) (by decide) (by decide) ?_
                show Steps p.tables e below (T1.setTop (mkF m 123 #[.val (.ref x3_0), .val (.int x3_1)] [(.int (1 : Int32))])) _
                exact retN X1 hx (t := .boolean) Bd.returns (by simp) (hb hby d3_123) hr
              · exact ⟨congrArg (fun z => some (Value.int z)) (show (1 : Int32) = f3 x3_0 x3_1 w_EQUAL w_NOT_EQUAL w_LESS_THAN w_LESS_OR_EQUAL w_GREATER_THAN w_GREATER_OR_EQUAL oi from by unfold f3; rw [if_neg hc4_4, if_neg hc4_7, if_neg hc4_10, if_neg hc4_13, if_pos hc4_16, if_pos hc103_18]), N1, e1⟩
            · obtain ⟨fs, hr, hrun, hended, hW, hsame⟩ := X1.leave (v := some (.int (0 : Int32))) (fun h => by rw [Bd.returns] at h; cases h)
              refine ⟨_, _, pre0 _ (sg2 _ (sg3 _ (sg17 _ ?_))), hrun, hended, _, _, rfl, ?_, ⟨_, rfl⟩, hW, hsame.mono (by decide) (by decide)⟩
              · show Steps p.tables e below (T1.setTop (mkF m 103 #[.val (.ref x3_0), .val (.int x3_1)] [(.int x3_1)])) _
                refine XS.ifYes X1.here hx rfl (pc0 := 103) (pc' := 110) rfl (hb hby d3_103) rfl ((if0 _ _).trans (flt hc103_18).2.2.2) (by decide) (by decide) ?_
                show Steps p.tables e below (T1.setTop (mkF m 110 #[.val (.ref x3_0), .val (.int x3_1)] [])) _
                refine XS.iconst X1.here hx rfl (hb hby d3_110) ?_
                show Steps p.tables e below (T1.setTop (mkF m 111 #[.val (.ref x3_0), .val (.int x3_1)] [(.int (0 : Int32))])) _
                refine XS.goto X1.here hx rfl (pc0 := 111) (pc' := 123) rfl (hb hby d3_111) (by decide) (by decide) ?_
                show Steps p.tables e below (T1.setTop (mkF m 123 #[.val (.ref x3_0), .val (.int x3_1)] [(.int (0 : Int32))])) _
                exact retN X1 hx (t := .boolean) Bd.returns (by simp) (hb hby d3_123) hr
              · exact ⟨congrArg (fun z => some (Value.int z)) (show (0 : Int32) = f3 x3_0 x3_1 w_EQUAL w_NOT_EQUAL w_LESS_THAN w_LESS_OR_EQUAL w_GREATER_THAN w_GREATER_OR_EQUAL oi from by unfold f3; rw [if_neg hc4_4, if_neg hc4_7, if_neg hc4_10, if_neg hc4_13, if_pos hc4_16, if_neg hc103_18]), N1, e1⟩
          · by_cases hc4_19 : oi = (5 : Int32)
            · have sg20 : ∀ t, Steps p.tables e below (T1.setTop (mkF m 115 #[.val (.ref x3_0), .val (.int x3_1)] [(.int x3_1)])) t → Steps p.tables e below (T1.setTop (mkF m 4 #[.val (.ref x3_0), .val (.int x3_1)] [(.int oi)])) t := fun t kt => by
                show Steps p.tables e below (T1.setTop (mkF m 4 #[.val (.ref x3_0), .val (.int x3_1)] [(.int oi)])) _
                refine XS.tswIn X1.here hx rfl (pc0 := 4) (pc' := 114) rfl (hb hby d3_4) rfl (by rw [hc4_19]; decide) (by rw [hc4_19]; rfl) (by decide) (by decide) ?_
                show Steps p.tables e below (T1.setTop (mkF m 114 #[.val (.ref x3_0), .val (.int x3_1)] [])) _
                refine XS.iloadN X1.here hx rfl (hb hby d3_114) rfl ?_
                exact kt
              by_cases hc115_21 : x3_1 < (0 : Int32)
              · obtain ⟨fs, hr, hrun, hended, hW, hsame⟩ := X1.leave (v := some (.int (0 : Int32))) (fun h => by rw [Bd.returns] at h; cases h)
                refine ⟨_, _, pre0 _ (sg2 _ (sg3 _ (sg20 _ ?_))), hrun, hended, _, _, rfl, ?_, ⟨_, rfl⟩, hW, hsame.mono (by decide) (by decide)⟩
                · show Steps p.tables e below (T1.setTop (mkF m 115 #[.val (.ref x3_0), .val (.int x3_1)] [(.int x3_1)])) _
                  refine XS.ifYes X1.here hx rfl (pc0 := 115) (pc' := 122) rfl (hb hby d3_115) rfl ((if0 _ _).trans (tlt hc115_21).1) (by decide) (by decide) ?_
                  show Steps p.tables e below (T1.setTop (mkF m 122 #[.val (.ref x3_0), .val (.int x3_1)] [])) _
                  refine XS.iconst X1.here hx rfl (hb hby d3_122) ?_
                  show Steps p.tables e below (T1.setTop (mkF m 123 #[.val (.ref x3_0), .val (.int x3_1)] [(.int (0 : Int32))])) _
                  exact retN X1 hx (t := .boolean) Bd.returns (by simp) (hb hby d3_123) hr
                · exact ⟨congrArg (fun z => some (Value.int z)) (show (0 : Int32) = f3 x3_0 x3_1 w_EQUAL w_NOT_EQUAL w_LESS_THAN w_LESS_OR_EQUAL w_GREATER_THAN w_GREATER_OR_EQUAL oi from by unfold f3; rw [if_neg hc4_4, if_neg hc4_7, if_neg hc4_10, if_neg hc4_13, if_neg hc4_16, if_pos hc4_19, if_pos hc115_21]), N1, e1⟩
              · obtain ⟨fs, hr, hrun, hended, hW, hsame⟩ := X1.leave (v := some (.int (1 : Int32))) (fun h => by rw [Bd.returns] at h; cases h)
                refine ⟨_, _, pre0 _ (sg2 _ (sg3 _ (sg20 _ ?_))), hrun, hended, _, _, rfl, ?_, ⟨_, rfl⟩, hW, hsame.mono (by decide) (by decide)⟩
                · show Steps p.tables e below (T1.setTop (mkF m 115 #[.val (.ref x3_0), .val (.int x3_1)] [(.int x3_1)])) _
                  refine XS.ifNo X1.here hx rfl (hb hby d3_115) rfl ((if0 _ _).trans (flt hc115_21).1) ?_
                  show Steps p.tables e below (T1.setTop (mkF m 118 #[.val (.ref x3_0), .val (.int x3_1)] [])) _
                  refine XS.iconst X1.here hx rfl (hb hby d3_118) ?_
                  show Steps p.tables e below (T1.setTop (mkF m 119 #[.val (.ref x3_0), .val (.int x3_1)] [(.int (1 : Int32))])) _
                  refine XS.goto X1.here hx rfl (pc0 := 119) (pc' := 123) rfl (hb hby d3_119) (by decide) (by decide) ?_
                  show Steps p.tables e below (T1.setTop (mkF m 123 #[.val (.ref x3_0), .val (.int x3_1)] [(.int (1 : Int32))])) _
                  exact retN X1 hx (t := .boolean) Bd.returns (by simp) (hb hby d3_123) hr
                · exact ⟨congrArg (fun z => some (Value.int z)) (show (1 : Int32) = f3 x3_0 x3_1 w_EQUAL w_NOT_EQUAL w_LESS_THAN w_LESS_OR_EQUAL w_GREATER_THAN w_GREATER_OR_EQUAL oi from by unfold f3; rw [if_neg hc4_4, if_neg hc4_7, if_neg hc4_10, if_neg hc4_13, if_neg hc4_16, if_pos hc4_19, if_neg hc115_21]), N1, e1⟩
            · exact (own_dead6 oi hoi hc4_4 hc4_7 hc4_10 hc4_13 hc4_16 hc4_19).elim
theorem pd_1 : parseMethodDescriptor "(I)Lcom/example/unit_of_work/unitofwork/Condition$Operator;" = some ⟨[.int], some (.object "com/example/unit_of_work/unitofwork/Condition$Operator")⟩ := by decide +kernel
theorem pd_2 : parseMethodDescriptor "()Z" = some ⟨[], some .boolean⟩ := by decide +kernel
theorem pd_3 : parseMethodDescriptor "(I)Z" = some ⟨[.int], some .boolean⟩ := by decide +kernel
theorem ef_0 (m : MethodId) (x0_0 : Int32) (x0_1 : Int32) (x0_2 : Int32) : entryFrame m #[(.int x0_0), (.int x0_1), (.int x0_2)] maxLocals = mkF m 0 #[.val (.int x0_0), .val (.int x0_1), .val (.int x0_2), .unset, .unset, .unset, .unset, .unset, .unset, .unset] [] := by first | (simp [entryFrame, mkF, argsToLocals, Value.category, maxLocals]; done) | rfl
def f0 (x0_0 : Int32) (x0_1 : Int32) (x0_2 : Int32) (w_EQUAL w_NOT_EQUAL w_LESS_THAN w_LESS_OR_EQUAL w_GREATER_THAN w_GREATER_OR_EQUAL : Addr) : Int32 := if ((x0_0 &&& (2147483647 : Int32)) % (6 : Int32)) = (0 : Int32) then (1 : Int32) else if ((x0_0 &&& (2147483647 : Int32)) % (6 : Int32)) = (1 : Int32) then (1 : Int32) else if ((x0_0 &&& (2147483647 : Int32)) % (6 : Int32)) = (2 : Int32) then (1 : Int32) else if ((x0_0 &&& (2147483647 : Int32)) % (6 : Int32)) = (3 : Int32) then (1 : Int32) else if ((x0_0 &&& (2147483647 : Int32)) % (6 : Int32)) = (4 : Int32) then (1 : Int32) else if ((x0_0 &&& (2147483647 : Int32)) % (6 : Int32)) < (2 : Int32) then (0 : Int32) else (1 : Int32)
def Q0 (Z : State) (x0_0 : Int32) (x0_1 : Int32) (x0_2 : Int32) (w_EQUAL w_NOT_EQUAL w_LESS_THAN w_LESS_OR_EQUAL w_GREATER_THAN w_GREATER_OR_EQUAL : Addr) (h0 : Heap) (n0 : Nat) (v : Option Value) (h : Heap) (L : List Loc) : Prop := v = some (.int (f0 x0_0 x0_1 x0_2 w_EQUAL w_NOT_EQUAL w_LESS_THAN w_LESS_OR_EQUAL w_GREATER_THAN w_GREATER_OR_EQUAL)) ∧ Fr n0 L ∧ h = h0
set_option maxRecDepth 65536 in
set_option maxHeartbeats 40000000 in
theorem rm0 (l : Launch) (Z : State) (a0 : Array Value) (hw : ∀ d ∈ tables_1, d.before a0 Z = true) (ws : List Jvm.Cond) (x0_0 : Int32) (x0_1 : Int32) (x0_2 : Int32) (w_EQUAL w_NOT_EQUAL w_LESS_THAN w_LESS_OR_EQUAL w_GREATER_THAN w_GREATER_OR_EQUAL : Addr) (h0 : Heap) (n0 : Nat) (Z0 : n0 ≤ h0.size) (W : World Z h0 w_EQUAL w_NOT_EQUAL w_LESS_THAN w_LESS_OR_EQUAL w_GREATER_THAN w_GREATER_OR_EQUAL) :
    MetFree l x (head1 (Jvm.Cond.code x code maxLocals ret :: ws) room_1) (fun a U => a = #[(.int x0_0), (.int x0_1), (.int x0_2)] ∧ Z.Warmed39 U.vm ∧ U.heap = h0) (fun _ _ _ _ _ => True) (fun _ U o U' => ∃ v L, o = .returned v ∧ Q0 Z x0_0 x0_1 x0_2 w_EQUAL w_NOT_EQUAL w_LESS_THAN w_LESS_OR_EQUAL w_GREATER_THAN w_GREATER_OR_EQUAL h0 n0 v U'.heap L ∧ FrameEnd U o U' L room_1.cells room_1.slots) := by
  refine MetFree.of_bodySF (plainFor_of_name pn_0) hisR ?_
  intro p e s m args below meth c s₁ Bd hml0 hP hK
  obtain ⟨rfl, hZ, hh⟩ := hP
  have hx := Bd.exec
  have hby := Bd.bytes
  have hml : c.maxLocals = 10 := hml0
  have hown : s.vm.findClass "com/example/unit_of_work/unitofwork/OperatorOrdersPinLaw" = some m.cls := findClass_of_methodNamed Bd.named
  have hnm := (name_of_methodNamed Bd.named Bd.method).1
  have X0 : Stand p l e room_1 s m #[(.int x0_0), (.int x0_1), (.int x0_2)] below meth c s₁ [] 0 0 := Stand.of_body Bd
  have e0 : s₁.heap = h0 := by rw [← hh, Bd.state]; rfl
  have N0 := Fr.nil n0
  have pre0 : ∀ t, Steps p.tables e below (s₁.setTop (mkF m 0 #[.val (.int x0_0), .val (.int x0_1), .val (.int x0_2), .unset, .unset, .unset, .unset, .unset, .unset, .unset] [])) t → Steps p.tables e below (s₁.setTop (entryFrame m #[(.int x0_0), (.int x0_1), (.int x0_2)] maxLocals)) t := fun t k => castTop (ef_0 m x0_0 x0_1 x0_2) k
  have sg2 : ∀ t, Steps p.tables e below (s₁.setTop (mkF m 9 #[.val (.int x0_0), .val (.int x0_1), .val (.int x0_2), .val (.int ((x0_0 &&& (2147483647 : Int32)) % (6 : Int32))), .unset, .unset, .unset, .unset, .unset, .unset] [(.int ((x0_0 &&& (2147483647 : Int32)) % (6 : Int32)))])) t → Steps p.tables e below (s₁.setTop (mkF m 0 #[.val (.int x0_0), .val (.int x0_1), .val (.int x0_2), .unset, .unset, .unset, .unset, .unset, .unset, .unset] [])) t := fun t kt => by
    show Steps p.tables e below (s₁.setTop (mkF m 0 #[.val (.int x0_0), .val (.int x0_1), .val (.int x0_2), .unset, .unset, .unset, .unset, .unset, .unset, .unset] [])) _
    refine XS.iloadN X0.here hx rfl (hb hby at_0) rfl ?_
    show Steps p.tables e below (s₁.setTop (mkF m 1 #[.val (.int x0_0), .val (.int x0_1), .val (.int x0_2), .unset, .unset, .unset, .unset, .unset, .unset, .unset] [(.int x0_0)])) _
    refine X0.ldcInt hx hown (mvT hZ (hw _ (List.mem_of_getElem? (i := 0) rfl))) (g := (mkF m 1 #[.val (.int x0_0), .val (.int x0_1), .val (.int x0_2), .unset, .unset, .unset, .unset, .unset, .unset, .unset] [(.int x0_0)])) rfl (hb hby at_1) _ ?_
    show Steps p.tables e below (s₁.setTop (mkF m 3 #[.val (.int x0_0), .val (.int x0_1), .val (.int x0_2), .unset, .unset, .unset, .unset, .unset, .unset, .unset] [(.int (2147483647 : Int32)), (.int x0_0)])) _
    refine XS.iand X0.here hx rfl (hb hby at_3) rfl ?_
    show Steps p.tables e below (s₁.setTop (mkF m 4 #[.val (.int x0_0), .val (.int x0_1), .val (.int x0_2), .unset, .unset, .unset, .unset, .unset, .unset, .unset] [(.int (x0_0 &&& (2147483647 : Int32)))])) _
    refine XS.bipush X0.here hx rfl (hb hby at_4) ?_
    show Steps p.tables e below (s₁.setTop (mkF m 6 #[.val (.int x0_0), .val (.int x0_1), .val (.int x0_2), .unset, .unset, .unset, .unset, .unset, .unset, .unset] [(.int (6 : Int32)), (.int (x0_0 &&& (2147483647 : Int32)))])) _
    refine iremM X0 hx rfl (hb hby at_6) rfl (by decide : ¬ ((6 : Int32) = (0 : Int32))) ?_
    show Steps p.tables e below (s₁.setTop (mkF m 7 #[.val (.int x0_0), .val (.int x0_1), .val (.int x0_2), .unset, .unset, .unset, .unset, .unset, .unset, .unset] [(.int ((x0_0 &&& (2147483647 : Int32)) % (6 : Int32)))])) _
    refine XS.istoreN X0.here hx rfl (hb hby at_7) rfl (l' := #[.val (.int x0_0), .val (.int x0_1), .val (.int x0_2), .val (.int ((x0_0 &&& (2147483647 : Int32)) % (6 : Int32))), .unset, .unset, .unset, .unset, .unset, .unset]) rfl ?_
    show Steps p.tables e below (s₁.setTop (mkF m 8 #[.val (.int x0_0), .val (.int x0_1), .val (.int x0_2), .val (.int ((x0_0 &&& (2147483647 : Int32)) % (6 : Int32))), .unset, .unset, .unset, .unset, .unset, .unset] [])) _
    refine XS.iloadN X0.here hx rfl (hb hby at_8) rfl ?_
    exact kt
  obtain ⟨v1, _, ⟨T1, L1, k1, n1⟩, -, X1, ⟨Lc1, hQ1, l1, y1, z1⟩, st1⟩ := Jvm.LawKit.callS X0 hx (y := (⟨"com/example/unit_of_work/unitofwork/OperatorOrdersPinLaw", "pick", "(I)Lcom/example/unit_of_work/unitofwork/Condition$Operator;"⟩ : MethodName)) hown (mvT hZ (hw _ (List.mem_of_getElem? (i := 1) rfl))) (mvT hZ (hw _ (List.mem_of_getElem? (i := 2) rfl))) (mvT hZ (hw _ (List.mem_of_getElem? (i := 3) rfl))) (mvT hZ (hw _ (List.mem_of_getElem? (i := 4) rfl))) (by decide) (backOf (W := 0) (rm1 l Z a0 hw [] ((x0_0 &&& (2147483647 : Int32)) % (6 : Int32)) w_EQUAL w_NOT_EQUAL w_LESS_THAN w_LESS_OR_EQUAL w_GREATER_THAN w_GREATER_OR_EQUAL h0 n0 Z0 W) hZ (hw _ (List.mem_of_getElem? (i := 4) rfl)) (hw _ (List.mem_of_getElem? (i := 3) rfl)) (by decide) (by decide)) (g := (mkF m 9 #[.val (.int x0_0), .val (.int x0_1), .val (.int x0_2), .val (.int ((x0_0 &&& (2147483647 : Int32)) % (6 : Int32))), .unset, .unset, .unset, .unset, .unset, .unset] [(.int ((x0_0 &&& (2147483647 : Int32)) % (6 : Int32)))])) rfl (by rw [hml]; rfl) (argsL := [(.int ((x0_0 &&& (2147483647 : Int32)) % (6 : Int32)))]) (rest := []) (lenOf pd_1 rfl) rfl (by show 2 * 0 + _ ≤ _; exact Nat.le_of_eq rfl) (hb hby at_9) (fun _ _ => ⟨rfl, e0, (by decide : 0 + 0 ≤ _), (by decide : 0 + 0 ≤ _)⟩)
  dsimp only [Pt.U, Pt.locs, Pt.cells, Pt.slots] at X1 l1 y1 z1 st1 hQ1
  subst l1 y1 z1
  obtain ⟨hv1, N1q, e1⟩ := hQ1
  have N1 := Fr.app N0 N1q
  by_cases hs9_3 : ((x0_0 &&& (2147483647 : Int32)) % (6 : Int32)) = (0 : Int32)
  · have hf1 : f1 ((x0_0 &&& (2147483647 : Int32)) % (6 : Int32)) w_EQUAL w_NOT_EQUAL w_LESS_THAN w_LESS_OR_EQUAL w_GREATER_THAN w_GREATER_OR_EQUAL = w_EQUAL := by unfold f1; rw [if_pos hs9_3]
    rw [hf1] at hv1
    subst hv1
    have sg5 : ∀ t, Steps p.tables e below (T1.setTop (mkF m 30 #[.val (.int x0_0), .val (.int x0_1), .val (.int x0_2), .val (.int ((x0_0 &&& (2147483647 : Int32)) % (6 : Int32))), .val (.ref w_EQUAL), .val (.int (x0_1 ||| (-2147483648 : Int32))), .val (.int ((x0_2 &&& (2147483647 : Int32)) ||| (1 : Int32))), .unset, .unset, .unset] [(.ref w_EQUAL)])) t → Steps p.tables e below (s₁.setTop (mkF m 9 #[.val (.int x0_0), .val (.int x0_1), .val (.int x0_2), .val (.int ((x0_0 &&& (2147483647 : Int32)) % (6 : Int32))), .unset, .unset, .unset, .unset, .unset, .unset] [(.int ((x0_0 &&& (2147483647 : Int32)) % (6 : Int32)))])) t := fun t kt => by
      show Steps p.tables e below (s₁.setTop (mkF m 9 #[.val (.int x0_0), .val (.int x0_1), .val (.int x0_2), .val (.int ((x0_0 &&& (2147483647 : Int32)) % (6 : Int32))), .unset, .unset, .unset, .unset, .unset, .unset] [(.int ((x0_0 &&& (2147483647 : Int32)) % (6 : Int32)))])) _
      refine st1 _ ?_
      show Steps p.tables e below (T1.setTop (mkF m 12 #[.val (.int x0_0), .val (.int x0_1), .val (.int x0_2), .val (.int ((x0_0 &&& (2147483647 : Int32)) % (6 : Int32))), .unset, .unset, .unset, .unset, .unset, .unset] [(.ref w_EQUAL)])) _
      refine XS.astore X1.here hx rfl (hb hby at_12) rfl rfl (l' := #[.val (.int x0_0), .val (.int x0_1), .val (.int x0_2), .val (.int ((x0_0 &&& (2147483647 : Int32)) % (6 : Int32))), .val (.ref w_EQUAL), .unset, .unset, .unset, .unset, .unset]) rfl ?_
      show Steps p.tables e below (T1.setTop (mkF m 14 #[.val (.int x0_0), .val (.int x0_1), .val (.int x0_2), .val (.int ((x0_0 &&& (2147483647 : Int32)) % (6 : Int32))), .val (.ref w_EQUAL), .unset, .unset, .unset, .unset, .unset] [])) _
      refine XS.iloadN X1.here hx rfl (hb hby at_14) rfl ?_
      show Steps p.tables e below (T1.setTop (mkF m 15 #[.val (.int x0_0), .val (.int x0_1), .val (.int x0_2), .val (.int ((x0_0 &&& (2147483647 : Int32)) % (6 : Int32))), .val (.ref w_EQUAL), .unset, .unset, .unset, .unset, .unset] [(.int x0_1)])) _
      refine X1.ldcInt hx hown (mvT hZ (hw _ (List.mem_of_getElem? (i := 8) rfl))) (g := (mkF m 15 #[.val (.int x0_0), .val (.int x0_1), .val (.int x0_2), .val (.int ((x0_0 &&& (2147483647 : Int32)) % (6 : Int32))), .val (.ref w_EQUAL), .unset, .unset, .unset, .unset, .unset] [(.int x0_1)])) rfl (hb hby at_15) _ ?_
      show Steps p.tables e below (T1.setTop (mkF m 17 #[.val (.int x0_0), .val (.int x0_1), .val (.int x0_2), .val (.int ((x0_0 &&& (2147483647 : Int32)) % (6 : Int32))), .val (.ref w_EQUAL), .unset, .unset, .unset, .unset, .unset] [(.int (-2147483648 : Int32)), (.int x0_1)])) _
      refine XS.ior X1.here hx rfl (hb hby at_17) rfl ?_
      show Steps p.tables e below (T1.setTop (mkF m 18 #[.val (.int x0_0), .val (.int x0_1), .val (.int x0_2), .val (.int ((x0_0 &&& (2147483647 : Int32)) % (6 : Int32))), .val (.ref w_EQUAL), .unset, .unset, .unset, .unset, .unset] [(.int (x0_1 ||| (-2147483648 : Int32)))])) _
      refine XS.istore X1.here hx rfl (hb hby at_18) rfl (l' := #[.val (.int x0_0), .val (.int x0_1), .val (.int x0_2), .val (.int ((x0_0 &&& (2147483647 : Int32)) % (6 : Int32))), .val (.ref w_EQUAL), .val (.int (x0_1 ||| (-2147483648 : Int32))), .unset, .unset, .unset, .unset]) rfl ?_
      show Steps p.tables e below (T1.setTop (mkF m 20 #[.val (.int x0_0), .val (.int x0_1), .val (.int x0_2), .val (.int ((x0_0 &&& (2147483647 : Int32)) % (6 : Int32))), .val (.ref w_EQUAL), .val (.int (x0_1 ||| (-2147483648 : Int32))), .unset, .unset, .unset, .unset] [])) _
      refine XS.iloadN X1.here hx rfl (hb hby at_20) rfl ?_
      show Steps p.tables e below (T1.setTop (mkF m 21 #[.val (.int x0_0), .val (.int x0_1), .val (.int x0_2), .val (.int ((x0_0 &&& (2147483647 : Int32)) % (6 : Int32))), .val (.ref w_EQUAL), .val (.int (x0_1 ||| (-2147483648 : Int32))), .unset, .unset, .unset, .unset] [(.int x0_2)])) _
      refine X1.ldcInt hx hown (mvT hZ (hw _ (List.mem_of_getElem? (i := 0) rfl))) (g := (mkF m 21 #[.val (.int x0_0), .val (.int x0_1), .val (.int x0_2), .val (.int ((x0_0 &&& (2147483647 : Int32)) % (6 : Int32))), .val (.ref w_EQUAL), .val (.int (x0_1 ||| (-2147483648 : Int32))), .unset, .unset, .unset, .unset] [(.int x0_2)])) rfl (hb hby at_21) _ ?_
      show Steps p.tables e below (T1.setTop (mkF m 23 #[.val (.int x0_0), .val (.int x0_1), .val (.int x0_2), .val (.int ((x0_0 &&& (2147483647 : Int32)) % (6 : Int32))), .val (.ref w_EQUAL), .val (.int (x0_1 ||| (-2147483648 : Int32))), .unset, .unset, .unset, .unset] [(.int (2147483647 : Int32)), (.int x0_2)])) _
      refine XS.iand X1.here hx rfl (hb hby at_23) rfl ?_
      show Steps p.tables e below (T1.setTop (mkF m 24 #[.val (.int x0_0), .val (.int x0_1), .val (.int x0_2), .val (.int ((x0_0 &&& (2147483647 : Int32)) % (6 : Int32))), .val (.ref w_EQUAL), .val (.int (x0_1 ||| (-2147483648 : Int32))), .unset, .unset, .unset, .unset] [(.int (x0_2 &&& (2147483647 : Int32)))])) _
      refine XS.iconst X1.here hx rfl (hb hby at_24) ?_
      show Steps p.tables e below (T1.setTop (mkF m 25 #[.val (.int x0_0), .val (.int x0_1), .val (.int x0_2), .val (.int ((x0_0 &&& (2147483647 : Int32)) % (6 : Int32))), .val (.ref w_EQUAL), .val (.int (x0_1 ||| (-2147483648 : Int32))), .unset, .unset, .unset, .unset] [(.int (1 : Int32)), (.int (x0_2 &&& (2147483647 : Int32)))])) _
      refine XS.ior X1.here hx rfl (hb hby at_25) rfl ?_
      show Steps p.tables e below (T1.setTop (mkF m 26 #[.val (.int x0_0), .val (.int x0_1), .val (.int x0_2), .val (.int ((x0_0 &&& (2147483647 : Int32)) % (6 : Int32))), .val (.ref w_EQUAL), .val (.int (x0_1 ||| (-2147483648 : Int32))), .unset, .unset, .unset, .unset] [(.int ((x0_2 &&& (2147483647 : Int32)) ||| (1 : Int32)))])) _
      refine XS.istore X1.here hx rfl (hb hby at_26) rfl (l' := #[.val (.int x0_0), .val (.int x0_1), .val (.int x0_2), .val (.int ((x0_0 &&& (2147483647 : Int32)) % (6 : Int32))), .val (.ref w_EQUAL), .val (.int (x0_1 ||| (-2147483648 : Int32))), .val (.int ((x0_2 &&& (2147483647 : Int32)) ||| (1 : Int32))), .unset, .unset, .unset]) rfl ?_
      show Steps p.tables e below (T1.setTop (mkF m 28 #[.val (.int x0_0), .val (.int x0_1), .val (.int x0_2), .val (.int ((x0_0 &&& (2147483647 : Int32)) % (6 : Int32))), .val (.ref w_EQUAL), .val (.int (x0_1 ||| (-2147483648 : Int32))), .val (.int ((x0_2 &&& (2147483647 : Int32)) ||| (1 : Int32))), .unset, .unset, .unset] [])) _
      refine XS.aload X1.here hx rfl (hb hby at_28) rfl rfl ?_
      exact kt
    obtain ⟨cq4, kq4, q4a, q4b, q4c⟩ := isOf hZ e1 (W.2.2.2.2.2.2.1)
    obtain ⟨v4, _, ⟨T4, L4, k4, n4⟩, -, X4, ⟨Lc4, hQ4, l4, y4, z4⟩, st4⟩ := X1.virtualBack hx (y := (⟨"com/example/unit_of_work/unitofwork/Condition$Operator", "orders", "()Z"⟩ : MethodName)) (z := (⟨"com/example/unit_of_work/unitofwork/Condition$Operator", "orders", "()Z"⟩ : MethodName)) hown (mvT hZ (hw _ (List.mem_of_getElem? (i := 9) rfl))) (mvT hZ (hw _ (List.mem_of_getElem? (i := 10) rfl))) (notFace_of_selects (args := #[]) (mvT hZ (hw _ (List.mem_of_getElem? (i := 12) rfl)))) (mvT hZ (hw _ (List.mem_of_getElem? (i := 12) rfl))) (mvT hZ (hw _ (List.mem_of_getElem? (i := 11) rfl))) (by decide) (backOf (W := 0) (rm2 l Z a0 hw [] w_EQUAL w_EQUAL w_NOT_EQUAL w_LESS_THAN w_LESS_OR_EQUAL w_GREATER_THAN w_GREATER_OR_EQUAL h0 n0 Z0 W) hZ (hw _ (List.mem_of_getElem? (i := 13) rfl)) (hw _ (List.mem_of_getElem? (i := 6) rfl)) (by decide) (by decide)) q4a q4c (g := (mkF m 30 #[.val (.int x0_0), .val (.int x0_1), .val (.int x0_2), .val (.int ((x0_0 &&& (2147483647 : Int32)) % (6 : Int32))), .val (.ref w_EQUAL), .val (.int (x0_1 ||| (-2147483648 : Int32))), .val (.int ((x0_2 &&& (2147483647 : Int32)) ||| (1 : Int32))), .unset, .unset, .unset] [(.ref w_EQUAL)])) rfl (by rw [hml]; rfl) (Steps.refl _) (argsL := []) (rest := []) (lenOf pd_2 rfl) rfl (by show 2 * 0 + _ ≤ _; exact Nat.le_of_eq rfl) (hb hby at_30) (fun _ _ => ⟨rfl, e1, (by decide : 0 + 0 ≤ _), (by decide : 0 + 0 ≤ _)⟩)
    dsimp only [Pt.U, Pt.locs, Pt.cells, Pt.slots] at X4 l4 y4 z4 st4 hQ4
    subst l4 y4 z4
    obtain ⟨hv4, N4q, e4⟩ := hQ4
    have N4 := Fr.app N1 N4q
    have hf4 : f2 w_EQUAL w_EQUAL w_NOT_EQUAL w_LESS_THAN w_LESS_OR_EQUAL w_GREATER_THAN w_GREATER_OR_EQUAL = (0 : Int32) := by unfold f2; rw [if_pos (rfl : w_EQUAL = w_EQUAL)]
    rw [hf4] at hv4
    subst hv4
    have sg7 : ∀ t, Steps p.tables e below (T4.setTop (mkF m 39 #[.val (.int x0_0), .val (.int x0_1), .val (.int x0_2), .val (.int ((x0_0 &&& (2147483647 : Int32)) % (6 : Int32))), .val (.ref w_EQUAL), .val (.int (x0_1 ||| (-2147483648 : Int32))), .val (.int ((x0_2 &&& (2147483647 : Int32)) ||| (1 : Int32))), .val (.int (0 : Int32)), .unset, .unset] [(.int (x0_1 ||| (-2147483648 : Int32))), (.ref w_EQUAL)])) t → Steps p.tables e below (T1.setTop (mkF m 30 #[.val (.int x0_0), .val (.int x0_1), .val (.int x0_2), .val (.int ((x0_0 &&& (2147483647 : Int32)) % (6 : Int32))), .val (.ref w_EQUAL), .val (.int (x0_1 ||| (-2147483648 : Int32))), .val (.int ((x0_2 &&& (2147483647 : Int32)) ||| (1 : Int32))), .unset, .unset, .unset] [(.ref w_EQUAL)])) t := fun t kt => by
      show Steps p.tables e below (T1.setTop (mkF m 30 #[.val (.int x0_0), .val (.int x0_1), .val (.int x0_2), .val (.int ((x0_0 &&& (2147483647 : Int32)) % (6 : Int32))), .val (.ref w_EQUAL), .val (.int (x0_1 ||| (-2147483648 : Int32))), .val (.int ((x0_2 &&& (2147483647 : Int32)) ||| (1 : Int32))), .unset, .unset, .unset] [(.ref w_EQUAL)])) _
      refine st4.trans ?_
      show Steps p.tables e below (T4.setTop (mkF m 33 #[.val (.int x0_0), .val (.int x0_1), .val (.int x0_2), .val (.int ((x0_0 &&& (2147483647 : Int32)) % (6 : Int32))), .val (.ref w_EQUAL), .val (.int (x0_1 ||| (-2147483648 : Int32))), .val (.int ((x0_2 &&& (2147483647 : Int32)) ||| (1 : Int32))), .unset, .unset, .unset] [(.int (0 : Int32))])) _
      refine XS.istore X4.here hx rfl (hb hby at_33) rfl (l' := #[.val (.int x0_0), .val (.int x0_1), .val (.int x0_2), .val (.int ((x0_0 &&& (2147483647 : Int32)) % (6 : Int32))), .val (.ref w_EQUAL), .val (.int (x0_1 ||| (-2147483648 : Int32))), .val (.int ((x0_2 &&& (2147483647 : Int32)) ||| (1 : Int32))), .val (.int (0 : Int32)), .unset, .unset]) rfl ?_
      show Steps p.tables e below (T4.setTop (mkF m 35 #[.val (.int x0_0), .val (.int x0_1), .val (.int x0_2), .val (.int ((x0_0 &&& (2147483647 : Int32)) % (6 : Int32))), .val (.ref w_EQUAL), .val (.int (x0_1 ||| (-2147483648 : Int32))), .val (.int ((x0_2 &&& (2147483647 : Int32)) ||| (1 : Int32))), .val (.int (0 : Int32)), .unset, .unset] [])) _
      refine XS.aload X4.here hx rfl (hb hby at_35) rfl rfl ?_
      show Steps p.tables e below (T4.setTop (mkF m 37 #[.val (.int x0_0), .val (.int x0_1), .val (.int x0_2), .val (.int ((x0_0 &&& (2147483647 : Int32)) % (6 : Int32))), .val (.ref w_EQUAL), .val (.int (x0_1 ||| (-2147483648 : Int32))), .val (.int ((x0_2 &&& (2147483647 : Int32)) ||| (1 : Int32))), .val (.int (0 : Int32)), .unset, .unset] [(.ref w_EQUAL)])) _
      refine XS.iload X4.here hx rfl (hb hby at_37) rfl ?_
      exact kt
    obtain ⟨cq6, kq6, q6a, q6b, q6c⟩ := isOf hZ e4 (W.2.2.2.2.2.2.1)
    obtain ⟨v6, _, ⟨T6, L6, k6, n6⟩, -, X6, ⟨Lc6, hQ6, l6, y6, z6⟩, st6⟩ := X4.virtualBack hx (y := (⟨"com/example/unit_of_work/unitofwork/Condition$Operator", "holds", "(I)Z"⟩ : MethodName)) (z := (⟨"com/example/unit_of_work/unitofwork/Condition$Operator", "holds", "(I)Z"⟩ : MethodName)) hown (mvT hZ (hw _ (List.mem_of_getElem? (i := 15) rfl))) (mvT hZ (hw _ (List.mem_of_getElem? (i := 16) rfl))) (notFace_of_selects (args := #[]) (mvT hZ (hw _ (List.mem_of_getElem? (i := 18) rfl)))) (mvT hZ (hw _ (List.mem_of_getElem? (i := 18) rfl))) (mvT hZ (hw _ (List.mem_of_getElem? (i := 17) rfl))) (by decide) (backOf (W := 0) (rm3 l Z a0 hw [] w_EQUAL (x0_1 ||| (-2147483648 : Int32)) w_EQUAL w_NOT_EQUAL w_LESS_THAN w_LESS_OR_EQUAL w_GREATER_THAN w_GREATER_OR_EQUAL (0 : Int32) h0 n0 Z0 W (W.2.2.2.2.2.2.2.2.2.2.2.2.1) (W.2.2.2.2.2.2.1) (by decide)) hZ (hw _ (List.mem_of_getElem? (i := 19) rfl)) (hw _ (List.mem_of_getElem? (i := 6) rfl)) (by decide) (by decide)) q6a q6c (g := (mkF m 39 #[.val (.int x0_0), .val (.int x0_1), .val (.int x0_2), .val (.int ((x0_0 &&& (2147483647 : Int32)) % (6 : Int32))), .val (.ref w_EQUAL), .val (.int (x0_1 ||| (-2147483648 : Int32))), .val (.int ((x0_2 &&& (2147483647 : Int32)) ||| (1 : Int32))), .val (.int (0 : Int32)), .unset, .unset] [(.int (x0_1 ||| (-2147483648 : Int32))), (.ref w_EQUAL)])) rfl (by rw [hml]; rfl) (Steps.refl _) (argsL := [(.int (x0_1 ||| (-2147483648 : Int32)))]) (rest := []) (lenOf pd_3 rfl) rfl (by show 2 * 0 + _ ≤ _; exact Nat.le_of_eq rfl) (hb hby at_39) (fun _ _ => ⟨rfl, e4, (by decide : 0 + 0 ≤ _), (by decide : 0 + 0 ≤ _)⟩)
    dsimp only [Pt.U, Pt.locs, Pt.cells, Pt.slots] at X6 l6 y6 z6 st6 hQ6
    subst l6 y6 z6
    obtain ⟨hv6, N6q, e6⟩ := hQ6
    have N6 := Fr.app N4 N6q
    have hf6 : f3 w_EQUAL (x0_1 ||| (-2147483648 : Int32)) w_EQUAL w_NOT_EQUAL w_LESS_THAN w_LESS_OR_EQUAL w_GREATER_THAN w_GREATER_OR_EQUAL (0 : Int32) = (0 : Int32) := by unfold f3; rw [if_pos (by decide : ((0 : Int32) = (0 : Int32))), if_neg (own_ne1 x0_1)]
    rw [hf6] at hv6
    subst hv6
    have sg9 : ∀ t, Steps p.tables e below (T6.setTop (mkF m 46 #[.val (.int x0_0), .val (.int x0_1), .val (.int x0_2), .val (.int ((x0_0 &&& (2147483647 : Int32)) % (6 : Int32))), .val (.ref w_EQUAL), .val (.int (x0_1 ||| (-2147483648 : Int32))), .val (.int ((x0_2 &&& (2147483647 : Int32)) ||| (1 : Int32))), .val (.int (0 : Int32)), .unset, .unset] [(.int ((x0_2 &&& (2147483647 : Int32)) ||| (1 : Int32))), (.ref w_EQUAL), (.int (0 : Int32))])) t → Steps p.tables e below (T4.setTop (mkF m 39 #[.val (.int x0_0), .val (.int x0_1), .val (.int x0_2), .val (.int ((x0_0 &&& (2147483647 : Int32)) % (6 : Int32))), .val (.ref w_EQUAL), .val (.int (x0_1 ||| (-2147483648 : Int32))), .val (.int ((x0_2 &&& (2147483647 : Int32)) ||| (1 : Int32))), .val (.int (0 : Int32)), .unset, .unset] [(.int (x0_1 ||| (-2147483648 : Int32))), (.ref w_EQUAL)])) t := fun t kt => by
      show Steps p.tables e below (T4.setTop (mkF m 39 #[.val (.int x0_0), .val (.int x0_1), .val (.int x0_2), .val (.int ((x0_0 &&& (2147483647 : Int32)) % (6 : Int32))), .val (.ref w_EQUAL), .val (.int (x0_1 ||| (-2147483648 : Int32))), .val (.int ((x0_2 &&& (2147483647 : Int32)) ||| (1 : Int32))), .val (.int (0 : Int32)), .unset, .unset] [(.int (x0_1 ||| (-2147483648 : Int32))), (.ref w_EQUAL)])) _
      refine st6.trans ?_
      show Steps p.tables e below (T6.setTop (mkF m 42 #[.val (.int x0_0), .val (.int x0_1), .val (.int x0_2), .val (.int ((x0_0 &&& (2147483647 : Int32)) % (6 : Int32))), .val (.ref w_EQUAL), .val (.int (x0_1 ||| (-2147483648 : Int32))), .val (.int ((x0_2 &&& (2147483647 : Int32)) ||| (1 : Int32))), .val (.int (0 : Int32)), .unset, .unset] [(.int (0 : Int32))])) _
      refine XS.aload X6.here hx rfl (hb hby at_42) rfl rfl ?_
      show Steps p.tables e below (T6.setTop (mkF m 44 #[.val (.int x0_0), .val (.int x0_1), .val (.int x0_2), .val (.int ((x0_0 &&& (2147483647 : Int32)) % (6 : Int32))), .val (.ref w_EQUAL), .val (.int (x0_1 ||| (-2147483648 : Int32))), .val (.int ((x0_2 &&& (2147483647 : Int32)) ||| (1 : Int32))), .val (.int (0 : Int32)), .unset, .unset] [(.ref w_EQUAL), (.int (0 : Int32))])) _
      refine XS.iload X6.here hx rfl (hb hby at_44) rfl ?_
      exact kt
    obtain ⟨cq8, kq8, q8a, q8b, q8c⟩ := isOf hZ e6 (W.2.2.2.2.2.2.1)
    obtain ⟨v8, _, ⟨T8, L8, k8, n8⟩, -, X8, ⟨Lc8, hQ8, l8, y8, z8⟩, st8⟩ := X6.virtualBack hx (y := (⟨"com/example/unit_of_work/unitofwork/Condition$Operator", "holds", "(I)Z"⟩ : MethodName)) (z := (⟨"com/example/unit_of_work/unitofwork/Condition$Operator", "holds", "(I)Z"⟩ : MethodName)) hown (mvT hZ (hw _ (List.mem_of_getElem? (i := 15) rfl))) (mvT hZ (hw _ (List.mem_of_getElem? (i := 16) rfl))) (notFace_of_selects (args := #[]) (mvT hZ (hw _ (List.mem_of_getElem? (i := 18) rfl)))) (mvT hZ (hw _ (List.mem_of_getElem? (i := 18) rfl))) (mvT hZ (hw _ (List.mem_of_getElem? (i := 17) rfl))) (by decide) (backOf (W := 1) (rm3 l Z a0 hw [] w_EQUAL ((x0_2 &&& (2147483647 : Int32)) ||| (1 : Int32)) w_EQUAL w_NOT_EQUAL w_LESS_THAN w_LESS_OR_EQUAL w_GREATER_THAN w_GREATER_OR_EQUAL (0 : Int32) h0 n0 Z0 W (W.2.2.2.2.2.2.2.2.2.2.2.2.1) (W.2.2.2.2.2.2.1) (by decide)) hZ (hw _ (List.mem_of_getElem? (i := 19) rfl)) (hw _ (List.mem_of_getElem? (i := 6) rfl)) (by decide) (by decide)) q8a q8c (g := (mkF m 46 #[.val (.int x0_0), .val (.int x0_1), .val (.int x0_2), .val (.int ((x0_0 &&& (2147483647 : Int32)) % (6 : Int32))), .val (.ref w_EQUAL), .val (.int (x0_1 ||| (-2147483648 : Int32))), .val (.int ((x0_2 &&& (2147483647 : Int32)) ||| (1 : Int32))), .val (.int (0 : Int32)), .unset, .unset] [(.int ((x0_2 &&& (2147483647 : Int32)) ||| (1 : Int32))), (.ref w_EQUAL), (.int (0 : Int32))])) rfl (by rw [hml]; rfl) (Steps.refl _) (argsL := [(.int ((x0_2 &&& (2147483647 : Int32)) ||| (1 : Int32)))]) (rest := [(.int (0 : Int32))]) (lenOf pd_3 rfl) rfl (by show 2 * 0 + _ ≤ _; exact Nat.le_of_eq rfl) (hb hby at_46) (fun _ _ => ⟨rfl, e6, (by decide : 0 + 0 ≤ _), (by decide : 0 + 0 ≤ _)⟩)
    dsimp only [Pt.U, Pt.locs, Pt.cells, Pt.slots] at X8 l8 y8 z8 st8 hQ8
    subst l8 y8 z8
    obtain ⟨hv8, N8q, e8⟩ := hQ8
    have N8 := Fr.app N6 N8q
    have hf8 : f3 w_EQUAL ((x0_2 &&& (2147483647 : Int32)) ||| (1 : Int32)) w_EQUAL w_NOT_EQUAL w_LESS_THAN w_LESS_OR_EQUAL w_GREATER_THAN w_GREATER_OR_EQUAL (0 : Int32) = (0 : Int32) := by unfold f3; rw [if_pos (by decide : ((0 : Int32) = (0 : Int32))), if_neg (own_po1 x0_2)]
    rw [hf8] at hv8
    subst hv8
    obtain ⟨fs, hr, hrun, hended, hW, hsame⟩ := X8.leave (v := some (.int (1 : Int32))) (fun h => by rw [Bd.returns] at h; cases h)
    refine ⟨_, _, pre0 _ (sg2 _ (sg5 _ (sg7 _ (sg9 _ ?_)))), hrun, hended, _, _, rfl, ?_, ⟨_, rfl⟩, hW, hsame.mono (by decide) (by decide)⟩
    · show Steps p.tables e below (T6.setTop (mkF m 46 #[.val (.int x0_0), .val (.int x0_1), .val (.int x0_2), .val (.int ((x0_0 &&& (2147483647 : Int32)) % (6 : Int32))), .val (.ref w_EQUAL), .val (.int (x0_1 ||| (-2147483648 : Int32))), .val (.int ((x0_2 &&& (2147483647 : Int32)) ||| (1 : Int32))), .val (.int (0 : Int32)), .unset, .unset] [(.int ((x0_2 &&& (2147483647 : Int32)) ||| (1 : Int32))), (.ref w_EQUAL), (.int (0 : Int32))])) _
      refine st8.trans ?_
      show Steps p.tables e below (T8.setTop (mkF m 49 #[.val (.int x0_0), .val (.int x0_1), .val (.int x0_2), .val (.int ((x0_0 &&& (2147483647 : Int32)) % (6 : Int32))), .val (.ref w_EQUAL), .val (.int (x0_1 ||| (-2147483648 : Int32))), .val (.int ((x0_2 &&& (2147483647 : Int32)) ||| (1 : Int32))), .val (.int (0 : Int32)), .unset, .unset] [(.int (0 : Int32)), (.int (0 : Int32))])) _
      refine XS.icmpYes X8.here hx rfl (pc0 := 49) (pc' := 56) rfl (hb hby at_49) rfl (teq (by decide : ((0 : Int32) = (0 : Int32)))).1 (by decide) (by decide) ?_
      show Steps p.tables e below (T8.setTop (mkF m 56 #[.val (.int x0_0), .val (.int x0_1), .val (.int x0_2), .val (.int ((x0_0 &&& (2147483647 : Int32)) % (6 : Int32))), .val (.ref w_EQUAL), .val (.int (x0_1 ||| (-2147483648 : Int32))), .val (.int ((x0_2 &&& (2147483647 : Int32)) ||| (1 : Int32))), .val (.int (0 : Int32)), .unset, .unset] [])) _
      refine XS.iconst X8.here hx rfl (hb hby at_56) ?_
      show Steps p.tables e below (T8.setTop (mkF m 57 #[.val (.int x0_0), .val (.int x0_1), .val (.int x0_2), .val (.int ((x0_0 &&& (2147483647 : Int32)) % (6 : Int32))), .val (.ref w_EQUAL), .val (.int (x0_1 ||| (-2147483648 : Int32))), .val (.int ((x0_2 &&& (2147483647 : Int32)) ||| (1 : Int32))), .val (.int (0 : Int32)), .unset, .unset] [(.int (0 : Int32))])) _
      refine XS.istore X8.here hx rfl (hb hby at_57) rfl (l' := #[.val (.int x0_0), .val (.int x0_1), .val (.int x0_2), .val (.int ((x0_0 &&& (2147483647 : Int32)) % (6 : Int32))), .val (.ref w_EQUAL), .val (.int (x0_1 ||| (-2147483648 : Int32))), .val (.int ((x0_2 &&& (2147483647 : Int32)) ||| (1 : Int32))), .val (.int (0 : Int32)), .val (.int (0 : Int32)), .unset]) rfl ?_
      show Steps p.tables e below (T8.setTop (mkF m 59 #[.val (.int x0_0), .val (.int x0_1), .val (.int x0_2), .val (.int ((x0_0 &&& (2147483647 : Int32)) % (6 : Int32))), .val (.ref w_EQUAL), .val (.int (x0_1 ||| (-2147483648 : Int32))), .val (.int ((x0_2 &&& (2147483647 : Int32)) ||| (1 : Int32))), .val (.int (0 : Int32)), .val (.int (0 : Int32)), .unset] [])) _
      refine XS.iloadN X8.here hx rfl (hb hby at_59) rfl ?_
      show Steps p.tables e below (T8.setTop (mkF m 60 #[.val (.int x0_0), .val (.int x0_1), .val (.int x0_2), .val (.int ((x0_0 &&& (2147483647 : Int32)) % (6 : Int32))), .val (.ref w_EQUAL), .val (.int (x0_1 ||| (-2147483648 : Int32))), .val (.int ((x0_2 &&& (2147483647 : Int32)) ||| (1 : Int32))), .val (.int (0 : Int32)), .val (.int (0 : Int32)), .unset] [(.int ((x0_0 &&& (2147483647 : Int32)) % (6 : Int32)))])) _
      refine XS.iconst X8.here hx rfl (hb hby at_60) ?_
      show Steps p.tables e below (T8.setTop (mkF m 61 #[.val (.int x0_0), .val (.int x0_1), .val (.int x0_2), .val (.int ((x0_0 &&& (2147483647 : Int32)) % (6 : Int32))), .val (.ref w_EQUAL), .val (.int (x0_1 ||| (-2147483648 : Int32))), .val (.int ((x0_2 &&& (2147483647 : Int32)) ||| (1 : Int32))), .val (.int (0 : Int32)), .val (.int (0 : Int32)), .unset] [(.int (2 : Int32)), (.int ((x0_0 &&& (2147483647 : Int32)) % (6 : Int32)))])) _
      refine XS.icmpYes X8.here hx rfl (pc0 := 61) (pc' := 68) rfl (hb hby at_61) rfl (tlt (by rw [hs9_3]; decide : (((x0_0 &&& (2147483647 : Int32)) % (6 : Int32)) < (2 : Int32)))).1 (by decide) (by decide) ?_
      show Steps p.tables e below (T8.setTop (mkF m 68 #[.val (.int x0_0), .val (.int x0_1), .val (.int x0_2), .val (.int ((x0_0 &&& (2147483647 : Int32)) % (6 : Int32))), .val (.ref w_EQUAL), .val (.int (x0_1 ||| (-2147483648 : Int32))), .val (.int ((x0_2 &&& (2147483647 : Int32)) ||| (1 : Int32))), .val (.int (0 : Int32)), .val (.int (0 : Int32)), .unset] [])) _
      refine XS.iconst X8.here hx rfl (hb hby at_68) ?_
      show Steps p.tables e below (T8.setTop (mkF m 69 #[.val (.int x0_0), .val (.int x0_1), .val (.int x0_2), .val (.int ((x0_0 &&& (2147483647 : Int32)) % (6 : Int32))), .val (.ref w_EQUAL), .val (.int (x0_1 ||| (-2147483648 : Int32))), .val (.int ((x0_2 &&& (2147483647 : Int32)) ||| (1 : Int32))), .val (.int (0 : Int32)), .val (.int (0 : Int32)), .unset] [(.int (0 : Int32))])) _
      refine XS.istore X8.here hx rfl (hb hby at_69) rfl (l' := #[.val (.int x0_0), .val (.int x0_1), .val (.int x0_2), .val (.int ((x0_0 &&& (2147483647 : Int32)) % (6 : Int32))), .val (.ref w_EQUAL), .val (.int (x0_1 ||| (-2147483648 : Int32))), .val (.int ((x0_2 &&& (2147483647 : Int32)) ||| (1 : Int32))), .val (.int (0 : Int32)), .val (.int (0 : Int32)), .val (.int (0 : Int32))]) rfl ?_
      show Steps p.tables e below (T8.setTop (mkF m 71 #[.val (.int x0_0), .val (.int x0_1), .val (.int x0_2), .val (.int ((x0_0 &&& (2147483647 : Int32)) % (6 : Int32))), .val (.ref w_EQUAL), .val (.int (x0_1 ||| (-2147483648 : Int32))), .val (.int ((x0_2 &&& (2147483647 : Int32)) ||| (1 : Int32))), .val (.int (0 : Int32)), .val (.int (0 : Int32)), .val (.int (0 : Int32))] [])) _
      refine XS.iload X8.here hx rfl (hb hby at_71) rfl ?_
      show Steps p.tables e below (T8.setTop (mkF m 73 #[.val (.int x0_0), .val (.int x0_1), .val (.int x0_2), .val (.int ((x0_0 &&& (2147483647 : Int32)) % (6 : Int32))), .val (.ref w_EQUAL), .val (.int (x0_1 ||| (-2147483648 : Int32))), .val (.int ((x0_2 &&& (2147483647 : Int32)) ||| (1 : Int32))), .val (.int (0 : Int32)), .val (.int (0 : Int32)), .val (.int (0 : Int32))] [(.int (0 : Int32))])) _
      refine XS.iload X8.here hx rfl (hb hby at_73) rfl ?_
      show Steps p.tables e below (T8.setTop (mkF m 75 #[.val (.int x0_0), .val (.int x0_1), .val (.int x0_2), .val (.int ((x0_0 &&& (2147483647 : Int32)) % (6 : Int32))), .val (.ref w_EQUAL), .val (.int (x0_1 ||| (-2147483648 : Int32))), .val (.int ((x0_2 &&& (2147483647 : Int32)) ||| (1 : Int32))), .val (.int (0 : Int32)), .val (.int (0 : Int32)), .val (.int (0 : Int32))] [(.int (0 : Int32)), (.int (0 : Int32))])) _
      refine XS.icmpNo X8.here hx rfl (hb hby at_75) rfl (teq (by decide : ((0 : Int32) = (0 : Int32)))).2 ?_
      show Steps p.tables e below (T8.setTop (mkF m 78 #[.val (.int x0_0), .val (.int x0_1), .val (.int x0_2), .val (.int ((x0_0 &&& (2147483647 : Int32)) % (6 : Int32))), .val (.ref w_EQUAL), .val (.int (x0_1 ||| (-2147483648 : Int32))), .val (.int ((x0_2 &&& (2147483647 : Int32)) ||| (1 : Int32))), .val (.int (0 : Int32)), .val (.int (0 : Int32)), .val (.int (0 : Int32))] [])) _
      refine XS.iload X8.here hx rfl (hb hby at_78) rfl ?_
      show Steps p.tables e below (T8.setTop (mkF m 80 #[.val (.int x0_0), .val (.int x0_1), .val (.int x0_2), .val (.int ((x0_0 &&& (2147483647 : Int32)) % (6 : Int32))), .val (.ref w_EQUAL), .val (.int (x0_1 ||| (-2147483648 : Int32))), .val (.int ((x0_2 &&& (2147483647 : Int32)) ||| (1 : Int32))), .val (.int (0 : Int32)), .val (.int (0 : Int32)), .val (.int (0 : Int32))] [(.int (0 : Int32))])) _
      refine XS.iload X8.here hx rfl (hb hby at_80) rfl ?_
      show Steps p.tables e below (T8.setTop (mkF m 82 #[.val (.int x0_0), .val (.int x0_1), .val (.int x0_2), .val (.int ((x0_0 &&& (2147483647 : Int32)) % (6 : Int32))), .val (.ref w_EQUAL), .val (.int (x0_1 ||| (-2147483648 : Int32))), .val (.int ((x0_2 &&& (2147483647 : Int32)) ||| (1 : Int32))), .val (.int (0 : Int32)), .val (.int (0 : Int32)), .val (.int (0 : Int32))] [(.int (0 : Int32)), (.int (0 : Int32))])) _
      refine XS.icmpNo X8.here hx rfl (hb hby at_82) rfl (teq (by decide : ((0 : Int32) = (0 : Int32)))).2 ?_
      show Steps p.tables e below (T8.setTop (mkF m 85 #[.val (.int x0_0), .val (.int x0_1), .val (.int x0_2), .val (.int ((x0_0 &&& (2147483647 : Int32)) % (6 : Int32))), .val (.ref w_EQUAL), .val (.int (x0_1 ||| (-2147483648 : Int32))), .val (.int ((x0_2 &&& (2147483647 : Int32)) ||| (1 : Int32))), .val (.int (0 : Int32)), .val (.int (0 : Int32)), .val (.int (0 : Int32))] [])) _
      refine XS.iconst X8.here hx rfl (hb hby at_85) ?_
      show Steps p.tables e below (T8.setTop (mkF m 86 #[.val (.int x0_0), .val (.int x0_1), .val (.int x0_2), .val (.int ((x0_0 &&& (2147483647 : Int32)) % (6 : Int32))), .val (.ref w_EQUAL), .val (.int (x0_1 ||| (-2147483648 : Int32))), .val (.int ((x0_2 &&& (2147483647 : Int32)) ||| (1 : Int32))), .val (.int (0 : Int32)), .val (.int (0 : Int32)), .val (.int (0 : Int32))] [(.int (1 : Int32))])) _
      refine XS.goto X8.here hx rfl (pc0 := 86) (pc' := 90) rfl (hb hby at_86) (by decide) (by decide) ?_
      show Steps p.tables e below (T8.setTop (mkF m 90 #[.val (.int x0_0), .val (.int x0_1), .val (.int x0_2), .val (.int ((x0_0 &&& (2147483647 : Int32)) % (6 : Int32))), .val (.ref w_EQUAL), .val (.int (x0_1 ||| (-2147483648 : Int32))), .val (.int ((x0_2 &&& (2147483647 : Int32)) ||| (1 : Int32))), .val (.int (0 : Int32)), .val (.int (0 : Int32)), .val (.int (0 : Int32))] [(.int (1 : Int32))])) _
      exact retN X8 hx (t := .boolean) Bd.returns (by simp) (hb hby at_90) hr
    · exact ⟨congrArg (fun z => some (Value.int z)) (show (1 : Int32) = f0 x0_0 x0_1 x0_2 w_EQUAL w_NOT_EQUAL w_LESS_THAN w_LESS_OR_EQUAL w_GREATER_THAN w_GREATER_OR_EQUAL from by unfold f0; rw [if_pos hs9_3]), N8, e8⟩
  · by_cases hs9_10 : ((x0_0 &&& (2147483647 : Int32)) % (6 : Int32)) = (1 : Int32)
    · have hf1 : f1 ((x0_0 &&& (2147483647 : Int32)) % (6 : Int32)) w_EQUAL w_NOT_EQUAL w_LESS_THAN w_LESS_OR_EQUAL w_GREATER_THAN w_GREATER_OR_EQUAL = w_NOT_EQUAL := by unfold f1; rw [if_neg hs9_3, if_pos hs9_10]
      rw [hf1] at hv1
      subst hv1
      have sg12 : ∀ t, Steps p.tables e below (T1.setTop (mkF m 30 #[.val (.int x0_0), .val (.int x0_1), .val (.int x0_2), .val (.int ((x0_0 &&& (2147483647 : Int32)) % (6 : Int32))), .val (.ref w_NOT_EQUAL), .val (.int (x0_1 ||| (-2147483648 : Int32))), .val (.int ((x0_2 &&& (2147483647 : Int32)) ||| (1 : Int32))), .unset, .unset, .unset] [(.ref w_NOT_EQUAL)])) t → Steps p.tables e below (s₁.setTop (mkF m 9 #[.val (.int x0_0), .val (.int x0_1), .val (.int x0_2), .val (.int ((x0_0 &&& (2147483647 : Int32)) % (6 : Int32))), .unset, .unset, .unset, .unset, .unset, .unset] [(.int ((x0_0 &&& (2147483647 : Int32)) % (6 : Int32)))])) t := fun t kt => by
        show Steps p.tables e below (s₁.setTop (mkF m 9 #[.val (.int x0_0), .val (.int x0_1), .val (.int x0_2), .val (.int ((x0_0 &&& (2147483647 : Int32)) % (6 : Int32))), .unset, .unset, .unset, .unset, .unset, .unset] [(.int ((x0_0 &&& (2147483647 : Int32)) % (6 : Int32)))])) _
        refine st1 _ ?_
        show Steps p.tables e below (T1.setTop (mkF m 12 #[.val (.int x0_0), .val (.int x0_1), .val (.int x0_2), .val (.int ((x0_0 &&& (2147483647 : Int32)) % (6 : Int32))), .unset, .unset, .unset, .unset, .unset, .unset] [(.ref w_NOT_EQUAL)])) _
        refine XS.astore X1.here hx rfl (hb hby at_12) rfl rfl (l' := #[.val (.int x0_0), .val (.int x0_1), .val (.int x0_2), .val (.int ((x0_0 &&& (2147483647 : Int32)) % (6 : Int32))), .val (.ref w_NOT_EQUAL), .unset, .unset, .unset, .unset, .unset]) rfl ?_
        show Steps p.tables e below (T1.setTop (mkF m 14 #[.val (.int x0_0), .val (.int x0_1), .val (.int x0_2), .val (.int ((x0_0 &&& (2147483647 : Int32)) % (6 : Int32))), .val (.ref w_NOT_EQUAL), .unset, .unset, .unset, .unset, .unset] [])) _
        refine XS.iloadN X1.here hx rfl (hb hby at_14) rfl ?_
        show Steps p.tables e below (T1.setTop (mkF m 15 #[.val (.int x0_0), .val (.int x0_1), .val (.int x0_2), .val (.int ((x0_0 &&& (2147483647 : Int32)) % (6 : Int32))), .val (.ref w_NOT_EQUAL), .unset, .unset, .unset, .unset, .unset] [(.int x0_1)])) _
        refine X1.ldcInt hx hown (mvT hZ (hw _ (List.mem_of_getElem? (i := 8) rfl))) (g := (mkF m 15 #[.val (.int x0_0), .val (.int x0_1), .val (.int x0_2), .val (.int ((x0_0 &&& (2147483647 : Int32)) % (6 : Int32))), .val (.ref w_NOT_EQUAL), .unset, .unset, .unset, .unset, .unset] [(.int x0_1)])) rfl (hb hby at_15) _ ?_
        show Steps p.tables e below (T1.setTop (mkF m 17 #[.val (.int x0_0), .val (.int x0_1), .val (.int x0_2), .val (.int ((x0_0 &&& (2147483647 : Int32)) % (6 : Int32))), .val (.ref w_NOT_EQUAL), .unset, .unset, .unset, .unset, .unset] [(.int (-2147483648 : Int32)), (.int x0_1)])) _
        refine XS.ior X1.here hx rfl (hb hby at_17) rfl ?_
        show Steps p.tables e below (T1.setTop (mkF m 18 #[.val (.int x0_0), .val (.int x0_1), .val (.int x0_2), .val (.int ((x0_0 &&& (2147483647 : Int32)) % (6 : Int32))), .val (.ref w_NOT_EQUAL), .unset, .unset, .unset, .unset, .unset] [(.int (x0_1 ||| (-2147483648 : Int32)))])) _
        refine XS.istore X1.here hx rfl (hb hby at_18) rfl (l' := #[.val (.int x0_0), .val (.int x0_1), .val (.int x0_2), .val (.int ((x0_0 &&& (2147483647 : Int32)) % (6 : Int32))), .val (.ref w_NOT_EQUAL), .val (.int (x0_1 ||| (-2147483648 : Int32))), .unset, .unset, .unset, .unset]) rfl ?_
        show Steps p.tables e below (T1.setTop (mkF m 20 #[.val (.int x0_0), .val (.int x0_1), .val (.int x0_2), .val (.int ((x0_0 &&& (2147483647 : Int32)) % (6 : Int32))), .val (.ref w_NOT_EQUAL), .val (.int (x0_1 ||| (-2147483648 : Int32))), .unset, .unset, .unset, .unset] [])) _
        refine XS.iloadN X1.here hx rfl (hb hby at_20) rfl ?_
        show Steps p.tables e below (T1.setTop (mkF m 21 #[.val (.int x0_0), .val (.int x0_1), .val (.int x0_2), .val (.int ((x0_0 &&& (2147483647 : Int32)) % (6 : Int32))), .val (.ref w_NOT_EQUAL), .val (.int (x0_1 ||| (-2147483648 : Int32))), .unset, .unset, .unset, .unset] [(.int x0_2)])) _
        refine X1.ldcInt hx hown (mvT hZ (hw _ (List.mem_of_getElem? (i := 0) rfl))) (g := (mkF m 21 #[.val (.int x0_0), .val (.int x0_1), .val (.int x0_2), .val (.int ((x0_0 &&& (2147483647 : Int32)) % (6 : Int32))), .val (.ref w_NOT_EQUAL), .val (.int (x0_1 ||| (-2147483648 : Int32))), .unset, .unset, .unset, .unset] [(.int x0_2)])) rfl (hb hby at_21) _ ?_
        show Steps p.tables e below (T1.setTop (mkF m 23 #[.val (.int x0_0), .val (.int x0_1), .val (.int x0_2), .val (.int ((x0_0 &&& (2147483647 : Int32)) % (6 : Int32))), .val (.ref w_NOT_EQUAL), .val (.int (x0_1 ||| (-2147483648 : Int32))), .unset, .unset, .unset, .unset] [(.int (2147483647 : Int32)), (.int x0_2)])) _
        refine XS.iand X1.here hx rfl (hb hby at_23) rfl ?_
        show Steps p.tables e below (T1.setTop (mkF m 24 #[.val (.int x0_0), .val (.int x0_1), .val (.int x0_2), .val (.int ((x0_0 &&& (2147483647 : Int32)) % (6 : Int32))), .val (.ref w_NOT_EQUAL), .val (.int (x0_1 ||| (-2147483648 : Int32))), .unset, .unset, .unset, .unset] [(.int (x0_2 &&& (2147483647 : Int32)))])) _
        refine XS.iconst X1.here hx rfl (hb hby at_24) ?_
        show Steps p.tables e below (T1.setTop (mkF m 25 #[.val (.int x0_0), .val (.int x0_1), .val (.int x0_2), .val (.int ((x0_0 &&& (2147483647 : Int32)) % (6 : Int32))), .val (.ref w_NOT_EQUAL), .val (.int (x0_1 ||| (-2147483648 : Int32))), .unset, .unset, .unset, .unset] [(.int (1 : Int32)), (.int (x0_2 &&& (2147483647 : Int32)))])) _
        refine XS.ior X1.here hx rfl (hb hby at_25) rfl ?_
        show Steps p.tables e below (T1.setTop (mkF m 26 #[.val (.int x0_0), .val (.int x0_1), .val (.int x0_2), .val (.int ((x0_0 &&& (2147483647 : Int32)) % (6 : Int32))), .val (.ref w_NOT_EQUAL), .val (.int (x0_1 ||| (-2147483648 : Int32))), .unset, .unset, .unset, .unset] [(.int ((x0_2 &&& (2147483647 : Int32)) ||| (1 : Int32)))])) _
        refine XS.istore X1.here hx rfl (hb hby at_26) rfl (l' := #[.val (.int x0_0), .val (.int x0_1), .val (.int x0_2), .val (.int ((x0_0 &&& (2147483647 : Int32)) % (6 : Int32))), .val (.ref w_NOT_EQUAL), .val (.int (x0_1 ||| (-2147483648 : Int32))), .val (.int ((x0_2 &&& (2147483647 : Int32)) ||| (1 : Int32))), .unset, .unset, .unset]) rfl ?_
        show Steps p.tables e below (T1.setTop (mkF m 28 #[.val (.int x0_0), .val (.int x0_1), .val (.int x0_2), .val (.int ((x0_0 &&& (2147483647 : Int32)) % (6 : Int32))), .val (.ref w_NOT_EQUAL), .val (.int (x0_1 ||| (-2147483648 : Int32))), .val (.int ((x0_2 &&& (2147483647 : Int32)) ||| (1 : Int32))), .unset, .unset, .unset] [])) _
        refine XS.aload X1.here hx rfl (hb hby at_28) rfl rfl ?_
        exact kt
      obtain ⟨cq11, kq11, q11a, q11b, q11c⟩ := isOf hZ e1 (W.2.2.2.2.2.2.2.1)
      obtain ⟨v11, _, ⟨T11, L11, k11, n11⟩, -, X11, ⟨Lc11, hQ11, l11, y11, z11⟩, st11⟩ := X1.virtualBack hx (y := (⟨"com/example/unit_of_work/unitofwork/Condition$Operator", "orders", "()Z"⟩ : MethodName)) (z := (⟨"com/example/unit_of_work/unitofwork/Condition$Operator", "orders", "()Z"⟩ : MethodName)) hown (mvT hZ (hw _ (List.mem_of_getElem? (i := 9) rfl))) (mvT hZ (hw _ (List.mem_of_getElem? (i := 10) rfl))) (notFace_of_selects (args := #[]) (mvT hZ (hw _ (List.mem_of_getElem? (i := 12) rfl)))) (mvT hZ (hw _ (List.mem_of_getElem? (i := 12) rfl))) (mvT hZ (hw _ (List.mem_of_getElem? (i := 11) rfl))) (by decide) (backOf (W := 0) (rm2 l Z a0 hw [] w_NOT_EQUAL w_EQUAL w_NOT_EQUAL w_LESS_THAN w_LESS_OR_EQUAL w_GREATER_THAN w_GREATER_OR_EQUAL h0 n0 Z0 W) hZ (hw _ (List.mem_of_getElem? (i := 13) rfl)) (hw _ (List.mem_of_getElem? (i := 6) rfl)) (by decide) (by decide)) q11a q11c (g := (mkF m 30 #[.val (.int x0_0), .val (.int x0_1), .val (.int x0_2), .val (.int ((x0_0 &&& (2147483647 : Int32)) % (6 : Int32))), .val (.ref w_NOT_EQUAL), .val (.int (x0_1 ||| (-2147483648 : Int32))), .val (.int ((x0_2 &&& (2147483647 : Int32)) ||| (1 : Int32))), .unset, .unset, .unset] [(.ref w_NOT_EQUAL)])) rfl (by rw [hml]; rfl) (Steps.refl _) (argsL := []) (rest := []) (lenOf pd_2 rfl) rfl (by show 2 * 0 + _ ≤ _; exact Nat.le_of_eq rfl) (hb hby at_30) (fun _ _ => ⟨rfl, e1, (by decide : 0 + 0 ≤ _), (by decide : 0 + 0 ≤ _)⟩)
      dsimp only [Pt.U, Pt.locs, Pt.cells, Pt.slots] at X11 l11 y11 z11 st11 hQ11
      subst l11 y11 z11
      obtain ⟨hv11, N11q, e11⟩ := hQ11
      have N11 := Fr.app N1 N11q
      have hf11 : f2 w_NOT_EQUAL w_EQUAL w_NOT_EQUAL w_LESS_THAN w_LESS_OR_EQUAL w_GREATER_THAN w_GREATER_OR_EQUAL = (0 : Int32) := by unfold f2; rw [if_neg (Fld.ne (W.2.2.2.2.2.2.2.2.2.2.2.2.2.1) (W.2.2.2.2.2.2.2.2.2.2.2.2.1) (by decide) : ¬ (w_NOT_EQUAL = w_EQUAL)), if_pos (rfl : w_NOT_EQUAL = w_NOT_EQUAL)]
      rw [hf11] at hv11
      subst hv11
      have sg14 : ∀ t, Steps p.tables e below (T11.setTop (mkF m 39 #[.val (.int x0_0), .val (.int x0_1), .val (.int x0_2), .val (.int ((x0_0 &&& (2147483647 : Int32)) % (6 : Int32))), .val (.ref w_NOT_EQUAL), .val (.int (x0_1 ||| (-2147483648 : Int32))), .val (.int ((x0_2 &&& (2147483647 : Int32)) ||| (1 : Int32))), .val (.int (0 : Int32)), .unset, .unset] [(.int (x0_1 ||| (-2147483648 : Int32))), (.ref w_NOT_EQUAL)])) t → Steps p.tables e below (T1.setTop (mkF m 30 #[.val (.int x0_0), .val (.int x0_1), .val (.int x0_2), .val (.int ((x0_0 &&& (2147483647 : Int32)) % (6 : Int32))), .val (.ref w_NOT_EQUAL), .val (.int (x0_1 ||| (-2147483648 : Int32))), .val (.int ((x0_2 &&& (2147483647 : Int32)) ||| (1 : Int32))), .unset, .unset, .unset] [(.ref w_NOT_EQUAL)])) t := fun t kt => by
        show Steps p.tables e below (T1.setTop (mkF m 30 #[.val (.int x0_0), .val (.int x0_1), .val (.int x0_2), .val (.int ((x0_0 &&& (2147483647 : Int32)) % (6 : Int32))), .val (.ref w_NOT_EQUAL), .val (.int (x0_1 ||| (-2147483648 : Int32))), .val (.int ((x0_2 &&& (2147483647 : Int32)) ||| (1 : Int32))), .unset, .unset, .unset] [(.ref w_NOT_EQUAL)])) _
        refine st11.trans ?_
        show Steps p.tables e below (T11.setTop (mkF m 33 #[.val (.int x0_0), .val (.int x0_1), .val (.int x0_2), .val (.int ((x0_0 &&& (2147483647 : Int32)) % (6 : Int32))), .val (.ref w_NOT_EQUAL), .val (.int (x0_1 ||| (-2147483648 : Int32))), .val (.int ((x0_2 &&& (2147483647 : Int32)) ||| (1 : Int32))), .unset, .unset, .unset] [(.int (0 : Int32))])) _
        refine XS.istore X11.here hx rfl (hb hby at_33) rfl (l' := #[.val (.int x0_0), .val (.int x0_1), .val (.int x0_2), .val (.int ((x0_0 &&& (2147483647 : Int32)) % (6 : Int32))), .val (.ref w_NOT_EQUAL), .val (.int (x0_1 ||| (-2147483648 : Int32))), .val (.int ((x0_2 &&& (2147483647 : Int32)) ||| (1 : Int32))), .val (.int (0 : Int32)), .unset, .unset]) rfl ?_
        show Steps p.tables e below (T11.setTop (mkF m 35 #[.val (.int x0_0), .val (.int x0_1), .val (.int x0_2), .val (.int ((x0_0 &&& (2147483647 : Int32)) % (6 : Int32))), .val (.ref w_NOT_EQUAL), .val (.int (x0_1 ||| (-2147483648 : Int32))), .val (.int ((x0_2 &&& (2147483647 : Int32)) ||| (1 : Int32))), .val (.int (0 : Int32)), .unset, .unset] [])) _
        refine XS.aload X11.here hx rfl (hb hby at_35) rfl rfl ?_
        show Steps p.tables e below (T11.setTop (mkF m 37 #[.val (.int x0_0), .val (.int x0_1), .val (.int x0_2), .val (.int ((x0_0 &&& (2147483647 : Int32)) % (6 : Int32))), .val (.ref w_NOT_EQUAL), .val (.int (x0_1 ||| (-2147483648 : Int32))), .val (.int ((x0_2 &&& (2147483647 : Int32)) ||| (1 : Int32))), .val (.int (0 : Int32)), .unset, .unset] [(.ref w_NOT_EQUAL)])) _
        refine XS.iload X11.here hx rfl (hb hby at_37) rfl ?_
        exact kt
      obtain ⟨cq13, kq13, q13a, q13b, q13c⟩ := isOf hZ e11 (W.2.2.2.2.2.2.2.1)
      obtain ⟨v13, _, ⟨T13, L13, k13, n13⟩, -, X13, ⟨Lc13, hQ13, l13, y13, z13⟩, st13⟩ := X11.virtualBack hx (y := (⟨"com/example/unit_of_work/unitofwork/Condition$Operator", "holds", "(I)Z"⟩ : MethodName)) (z := (⟨"com/example/unit_of_work/unitofwork/Condition$Operator", "holds", "(I)Z"⟩ : MethodName)) hown (mvT hZ (hw _ (List.mem_of_getElem? (i := 15) rfl))) (mvT hZ (hw _ (List.mem_of_getElem? (i := 16) rfl))) (notFace_of_selects (args := #[]) (mvT hZ (hw _ (List.mem_of_getElem? (i := 18) rfl)))) (mvT hZ (hw _ (List.mem_of_getElem? (i := 18) rfl))) (mvT hZ (hw _ (List.mem_of_getElem? (i := 17) rfl))) (by decide) (backOf (W := 0) (rm3 l Z a0 hw [] w_NOT_EQUAL (x0_1 ||| (-2147483648 : Int32)) w_EQUAL w_NOT_EQUAL w_LESS_THAN w_LESS_OR_EQUAL w_GREATER_THAN w_GREATER_OR_EQUAL (1 : Int32) h0 n0 Z0 W (W.2.2.2.2.2.2.2.2.2.2.2.2.2.1) (W.2.2.2.2.2.2.2.1) (by decide)) hZ (hw _ (List.mem_of_getElem? (i := 19) rfl)) (hw _ (List.mem_of_getElem? (i := 6) rfl)) (by decide) (by decide)) q13a q13c (g := (mkF m 39 #[.val (.int x0_0), .val (.int x0_1), .val (.int x0_2), .val (.int ((x0_0 &&& (2147483647 : Int32)) % (6 : Int32))), .val (.ref w_NOT_EQUAL), .val (.int (x0_1 ||| (-2147483648 : Int32))), .val (.int ((x0_2 &&& (2147483647 : Int32)) ||| (1 : Int32))), .val (.int (0 : Int32)), .unset, .unset] [(.int (x0_1 ||| (-2147483648 : Int32))), (.ref w_NOT_EQUAL)])) rfl (by rw [hml]; rfl) (Steps.refl _) (argsL := [(.int (x0_1 ||| (-2147483648 : Int32)))]) (rest := []) (lenOf pd_3 rfl) rfl (by show 2 * 0 + _ ≤ _; exact Nat.le_of_eq rfl) (hb hby at_39) (fun _ _ => ⟨rfl, e11, (by decide : 0 + 0 ≤ _), (by decide : 0 + 0 ≤ _)⟩)
      dsimp only [Pt.U, Pt.locs, Pt.cells, Pt.slots] at X13 l13 y13 z13 st13 hQ13
      subst l13 y13 z13
      obtain ⟨hv13, N13q, e13⟩ := hQ13
      have N13 := Fr.app N11 N13q
      have hf13 : f3 w_NOT_EQUAL (x0_1 ||| (-2147483648 : Int32)) w_EQUAL w_NOT_EQUAL w_LESS_THAN w_LESS_OR_EQUAL w_GREATER_THAN w_GREATER_OR_EQUAL (1 : Int32) = (1 : Int32) := by unfold f3; rw [if_neg (by decide : ¬ ((1 : Int32) = (0 : Int32))), if_pos (by decide : ((1 : Int32) = (1 : Int32))), if_neg (own_ne1 x0_1)]
      rw [hf13] at hv13
      subst hv13
      have sg16 : ∀ t, Steps p.tables e below (T13.setTop (mkF m 46 #[.val (.int x0_0), .val (.int x0_1), .val (.int x0_2), .val (.int ((x0_0 &&& (2147483647 : Int32)) % (6 : Int32))), .val (.ref w_NOT_EQUAL), .val (.int (x0_1 ||| (-2147483648 : Int32))), .val (.int ((x0_2 &&& (2147483647 : Int32)) ||| (1 : Int32))), .val (.int (0 : Int32)), .unset, .unset] [(.int ((x0_2 &&& (2147483647 : Int32)) ||| (1 : Int32))), (.ref w_NOT_EQUAL), (.int (1 : Int32))])) t → Steps p.tables e below (T11.setTop (mkF m 39 #[.val (.int x0_0), .val (.int x0_1), .val (.int x0_2), .val (.int ((x0_0 &&& (2147483647 : Int32)) % (6 : Int32))), .val (.ref w_NOT_EQUAL), .val (.int (x0_1 ||| (-2147483648 : Int32))), .val (.int ((x0_2 &&& (2147483647 : Int32)) ||| (1 : Int32))), .val (.int (0 : Int32)), .unset, .unset] [(.int (x0_1 ||| (-2147483648 : Int32))), (.ref w_NOT_EQUAL)])) t := fun t kt => by
        show Steps p.tables e below (T11.setTop (mkF m 39 #[.val (.int x0_0), .val (.int x0_1), .val (.int x0_2), .val (.int ((x0_0 &&& (2147483647 : Int32)) % (6 : Int32))), .val (.ref w_NOT_EQUAL), .val (.int (x0_1 ||| (-2147483648 : Int32))), .val (.int ((x0_2 &&& (2147483647 : Int32)) ||| (1 : Int32))), .val (.int (0 : Int32)), .unset, .unset] [(.int (x0_1 ||| (-2147483648 : Int32))), (.ref w_NOT_EQUAL)])) _
        refine st13.trans ?_
        show Steps p.tables e below (T13.setTop (mkF m 42 #[.val (.int x0_0), .val (.int x0_1), .val (.int x0_2), .val (.int ((x0_0 &&& (2147483647 : Int32)) % (6 : Int32))), .val (.ref w_NOT_EQUAL), .val (.int (x0_1 ||| (-2147483648 : Int32))), .val (.int ((x0_2 &&& (2147483647 : Int32)) ||| (1 : Int32))), .val (.int (0 : Int32)), .unset, .unset] [(.int (1 : Int32))])) _
        refine XS.aload X13.here hx rfl (hb hby at_42) rfl rfl ?_
        show Steps p.tables e below (T13.setTop (mkF m 44 #[.val (.int x0_0), .val (.int x0_1), .val (.int x0_2), .val (.int ((x0_0 &&& (2147483647 : Int32)) % (6 : Int32))), .val (.ref w_NOT_EQUAL), .val (.int (x0_1 ||| (-2147483648 : Int32))), .val (.int ((x0_2 &&& (2147483647 : Int32)) ||| (1 : Int32))), .val (.int (0 : Int32)), .unset, .unset] [(.ref w_NOT_EQUAL), (.int (1 : Int32))])) _
        refine XS.iload X13.here hx rfl (hb hby at_44) rfl ?_
        exact kt
      obtain ⟨cq15, kq15, q15a, q15b, q15c⟩ := isOf hZ e13 (W.2.2.2.2.2.2.2.1)
      obtain ⟨v15, _, ⟨T15, L15, k15, n15⟩, -, X15, ⟨Lc15, hQ15, l15, y15, z15⟩, st15⟩ := X13.virtualBack hx (y := (⟨"com/example/unit_of_work/unitofwork/Condition$Operator", "holds", "(I)Z"⟩ : MethodName)) (z := (⟨"com/example/unit_of_work/unitofwork/Condition$Operator", "holds", "(I)Z"⟩ : MethodName)) hown (mvT hZ (hw _ (List.mem_of_getElem? (i := 15) rfl))) (mvT hZ (hw _ (List.mem_of_getElem? (i := 16) rfl))) (notFace_of_selects (args := #[]) (mvT hZ (hw _ (List.mem_of_getElem? (i := 18) rfl)))) (mvT hZ (hw _ (List.mem_of_getElem? (i := 18) rfl))) (mvT hZ (hw _ (List.mem_of_getElem? (i := 17) rfl))) (by decide) (backOf (W := 1) (rm3 l Z a0 hw [] w_NOT_EQUAL ((x0_2 &&& (2147483647 : Int32)) ||| (1 : Int32)) w_EQUAL w_NOT_EQUAL w_LESS_THAN w_LESS_OR_EQUAL w_GREATER_THAN w_GREATER_OR_EQUAL (1 : Int32) h0 n0 Z0 W (W.2.2.2.2.2.2.2.2.2.2.2.2.2.1) (W.2.2.2.2.2.2.2.1) (by decide)) hZ (hw _ (List.mem_of_getElem? (i := 19) rfl)) (hw _ (List.mem_of_getElem? (i := 6) rfl)) (by decide) (by decide)) q15a q15c (g := (mkF m 46 #[.val (.int x0_0), .val (.int x0_1), .val (.int x0_2), .val (.int ((x0_0 &&& (2147483647 : Int32)) % (6 : Int32))), .val (.ref w_NOT_EQUAL), .val (.int (x0_1 ||| (-2147483648 : Int32))), .val (.int ((x0_2 &&& (2147483647 : Int32)) ||| (1 : Int32))), .val (.int (0 : Int32)), .unset, .unset] [(.int ((x0_2 &&& (2147483647 : Int32)) ||| (1 : Int32))), (.ref w_NOT_EQUAL), (.int (1 : Int32))])) rfl (by rw [hml]; rfl) (Steps.refl _) (argsL := [(.int ((x0_2 &&& (2147483647 : Int32)) ||| (1 : Int32)))]) (rest := [(.int (1 : Int32))]) (lenOf pd_3 rfl) rfl (by show 2 * 0 + _ ≤ _; exact Nat.le_of_eq rfl) (hb hby at_46) (fun _ _ => ⟨rfl, e13, (by decide : 0 + 0 ≤ _), (by decide : 0 + 0 ≤ _)⟩)
      dsimp only [Pt.U, Pt.locs, Pt.cells, Pt.slots] at X15 l15 y15 z15 st15 hQ15
      subst l15 y15 z15
      obtain ⟨hv15, N15q, e15⟩ := hQ15
      have N15 := Fr.app N13 N15q
      have hf15 : f3 w_NOT_EQUAL ((x0_2 &&& (2147483647 : Int32)) ||| (1 : Int32)) w_EQUAL w_NOT_EQUAL w_LESS_THAN w_LESS_OR_EQUAL w_GREATER_THAN w_GREATER_OR_EQUAL (1 : Int32) = (1 : Int32) := by unfold f3; rw [if_neg (by decide : ¬ ((1 : Int32) = (0 : Int32))), if_pos (by decide : ((1 : Int32) = (1 : Int32))), if_neg (own_po1 x0_2)]
      rw [hf15] at hv15
      subst hv15
      obtain ⟨fs, hr, hrun, hended, hW, hsame⟩ := X15.leave (v := some (.int (1 : Int32))) (fun h => by rw [Bd.returns] at h; cases h)
      refine ⟨_, _, pre0 _ (sg2 _ (sg12 _ (sg14 _ (sg16 _ ?_)))), hrun, hended, _, _, rfl, ?_, ⟨_, rfl⟩, hW, hsame.mono (by decide) (by decide)⟩
      · show Steps p.tables e below (T13.setTop (mkF m 46 #[.val (.int x0_0), .val (.int x0_1), .val (.int x0_2), .val (.int ((x0_0 &&& (2147483647 : Int32)) % (6 : Int32))), .val (.ref w_NOT_EQUAL), .val (.int (x0_1 ||| (-2147483648 : Int32))), .val (.int ((x0_2 &&& (2147483647 : Int32)) ||| (1 : Int32))), .val (.int (0 : Int32)), .unset, .unset] [(.int ((x0_2 &&& (2147483647 : Int32)) ||| (1 : Int32))), (.ref w_NOT_EQUAL), (.int (1 : Int32))])) _
        refine st15.trans ?_
        show Steps p.tables e below (T15.setTop (mkF m 49 #[.val (.int x0_0), .val (.int x0_1), .val (.int x0_2), .val (.int ((x0_0 &&& (2147483647 : Int32)) % (6 : Int32))), .val (.ref w_NOT_EQUAL), .val (.int (x0_1 ||| (-2147483648 : Int32))), .val (.int ((x0_2 &&& (2147483647 : Int32)) ||| (1 : Int32))), .val (.int (0 : Int32)), .unset, .unset] [(.int (1 : Int32)), (.int (1 : Int32))])) _
        refine XS.icmpYes X15.here hx rfl (pc0 := 49) (pc' := 56) rfl (hb hby at_49) rfl (teq (by decide : ((1 : Int32) = (1 : Int32)))).1 (by decide) (by decide) ?_
        show Steps p.tables e below (T15.setTop (mkF m 56 #[.val (.int x0_0), .val (.int x0_1), .val (.int x0_2), .val (.int ((x0_0 &&& (2147483647 : Int32)) % (6 : Int32))), .val (.ref w_NOT_EQUAL), .val (.int (x0_1 ||| (-2147483648 : Int32))), .val (.int ((x0_2 &&& (2147483647 : Int32)) ||| (1 : Int32))), .val (.int (0 : Int32)), .unset, .unset] [])) _
        refine XS.iconst X15.here hx rfl (hb hby at_56) ?_
        show Steps p.tables e below (T15.setTop (mkF m 57 #[.val (.int x0_0), .val (.int x0_1), .val (.int x0_2), .val (.int ((x0_0 &&& (2147483647 : Int32)) % (6 : Int32))), .val (.ref w_NOT_EQUAL), .val (.int (x0_1 ||| (-2147483648 : Int32))), .val (.int ((x0_2 &&& (2147483647 : Int32)) ||| (1 : Int32))), .val (.int (0 : Int32)), .unset, .unset] [(.int (0 : Int32))])) _
        refine XS.istore X15.here hx rfl (hb hby at_57) rfl (l' := #[.val (.int x0_0), .val (.int x0_1), .val (.int x0_2), .val (.int ((x0_0 &&& (2147483647 : Int32)) % (6 : Int32))), .val (.ref w_NOT_EQUAL), .val (.int (x0_1 ||| (-2147483648 : Int32))), .val (.int ((x0_2 &&& (2147483647 : Int32)) ||| (1 : Int32))), .val (.int (0 : Int32)), .val (.int (0 : Int32)), .unset]) rfl ?_
        show Steps p.tables e below (T15.setTop (mkF m 59 #[.val (.int x0_0), .val (.int x0_1), .val (.int x0_2), .val (.int ((x0_0 &&& (2147483647 : Int32)) % (6 : Int32))), .val (.ref w_NOT_EQUAL), .val (.int (x0_1 ||| (-2147483648 : Int32))), .val (.int ((x0_2 &&& (2147483647 : Int32)) ||| (1 : Int32))), .val (.int (0 : Int32)), .val (.int (0 : Int32)), .unset] [])) _
        refine XS.iloadN X15.here hx rfl (hb hby at_59) rfl ?_
        show Steps p.tables e below (T15.setTop (mkF m 60 #[.val (.int x0_0), .val (.int x0_1), .val (.int x0_2), .val (.int ((x0_0 &&& (2147483647 : Int32)) % (6 : Int32))), .val (.ref w_NOT_EQUAL), .val (.int (x0_1 ||| (-2147483648 : Int32))), .val (.int ((x0_2 &&& (2147483647 : Int32)) ||| (1 : Int32))), .val (.int (0 : Int32)), .val (.int (0 : Int32)), .unset] [(.int ((x0_0 &&& (2147483647 : Int32)) % (6 : Int32)))])) _
        refine XS.iconst X15.here hx rfl (hb hby at_60) ?_
        show Steps p.tables e below (T15.setTop (mkF m 61 #[.val (.int x0_0), .val (.int x0_1), .val (.int x0_2), .val (.int ((x0_0 &&& (2147483647 : Int32)) % (6 : Int32))), .val (.ref w_NOT_EQUAL), .val (.int (x0_1 ||| (-2147483648 : Int32))), .val (.int ((x0_2 &&& (2147483647 : Int32)) ||| (1 : Int32))), .val (.int (0 : Int32)), .val (.int (0 : Int32)), .unset] [(.int (2 : Int32)), (.int ((x0_0 &&& (2147483647 : Int32)) % (6 : Int32)))])) _
        refine XS.icmpYes X15.here hx rfl (pc0 := 61) (pc' := 68) rfl (hb hby at_61) rfl (tlt (by rw [hs9_10]; decide : (((x0_0 &&& (2147483647 : Int32)) % (6 : Int32)) < (2 : Int32)))).1 (by decide) (by decide) ?_
        show Steps p.tables e below (T15.setTop (mkF m 68 #[.val (.int x0_0), .val (.int x0_1), .val (.int x0_2), .val (.int ((x0_0 &&& (2147483647 : Int32)) % (6 : Int32))), .val (.ref w_NOT_EQUAL), .val (.int (x0_1 ||| (-2147483648 : Int32))), .val (.int ((x0_2 &&& (2147483647 : Int32)) ||| (1 : Int32))), .val (.int (0 : Int32)), .val (.int (0 : Int32)), .unset] [])) _
        refine XS.iconst X15.here hx rfl (hb hby at_68) ?_
        show Steps p.tables e below (T15.setTop (mkF m 69 #[.val (.int x0_0), .val (.int x0_1), .val (.int x0_2), .val (.int ((x0_0 &&& (2147483647 : Int32)) % (6 : Int32))), .val (.ref w_NOT_EQUAL), .val (.int (x0_1 ||| (-2147483648 : Int32))), .val (.int ((x0_2 &&& (2147483647 : Int32)) ||| (1 : Int32))), .val (.int (0 : Int32)), .val (.int (0 : Int32)), .unset] [(.int (0 : Int32))])) _
        refine XS.istore X15.here hx rfl (hb hby at_69) rfl (l' := #[.val (.int x0_0), .val (.int x0_1), .val (.int x0_2), .val (.int ((x0_0 &&& (2147483647 : Int32)) % (6 : Int32))), .val (.ref w_NOT_EQUAL), .val (.int (x0_1 ||| (-2147483648 : Int32))), .val (.int ((x0_2 &&& (2147483647 : Int32)) ||| (1 : Int32))), .val (.int (0 : Int32)), .val (.int (0 : Int32)), .val (.int (0 : Int32))]) rfl ?_
        show Steps p.tables e below (T15.setTop (mkF m 71 #[.val (.int x0_0), .val (.int x0_1), .val (.int x0_2), .val (.int ((x0_0 &&& (2147483647 : Int32)) % (6 : Int32))), .val (.ref w_NOT_EQUAL), .val (.int (x0_1 ||| (-2147483648 : Int32))), .val (.int ((x0_2 &&& (2147483647 : Int32)) ||| (1 : Int32))), .val (.int (0 : Int32)), .val (.int (0 : Int32)), .val (.int (0 : Int32))] [])) _
        refine XS.iload X15.here hx rfl (hb hby at_71) rfl ?_
        show Steps p.tables e below (T15.setTop (mkF m 73 #[.val (.int x0_0), .val (.int x0_1), .val (.int x0_2), .val (.int ((x0_0 &&& (2147483647 : Int32)) % (6 : Int32))), .val (.ref w_NOT_EQUAL), .val (.int (x0_1 ||| (-2147483648 : Int32))), .val (.int ((x0_2 &&& (2147483647 : Int32)) ||| (1 : Int32))), .val (.int (0 : Int32)), .val (.int (0 : Int32)), .val (.int (0 : Int32))] [(.int (0 : Int32))])) _
        refine XS.iload X15.here hx rfl (hb hby at_73) rfl ?_
        show Steps p.tables e below (T15.setTop (mkF m 75 #[.val (.int x0_0), .val (.int x0_1), .val (.int x0_2), .val (.int ((x0_0 &&& (2147483647 : Int32)) % (6 : Int32))), .val (.ref w_NOT_EQUAL), .val (.int (x0_1 ||| (-2147483648 : Int32))), .val (.int ((x0_2 &&& (2147483647 : Int32)) ||| (1 : Int32))), .val (.int (0 : Int32)), .val (.int (0 : Int32)), .val (.int (0 : Int32))] [(.int (0 : Int32)), (.int (0 : Int32))])) _
        refine XS.icmpNo X15.here hx rfl (hb hby at_75) rfl (teq (by decide : ((0 : Int32) = (0 : Int32)))).2 ?_
        show Steps p.tables e below (T15.setTop (mkF m 78 #[.val (.int x0_0), .val (.int x0_1), .val (.int x0_2), .val (.int ((x0_0 &&& (2147483647 : Int32)) % (6 : Int32))), .val (.ref w_NOT_EQUAL), .val (.int (x0_1 ||| (-2147483648 : Int32))), .val (.int ((x0_2 &&& (2147483647 : Int32)) ||| (1 : Int32))), .val (.int (0 : Int32)), .val (.int (0 : Int32)), .val (.int (0 : Int32))] [])) _
        refine XS.iload X15.here hx rfl (hb hby at_78) rfl ?_
        show Steps p.tables e below (T15.setTop (mkF m 80 #[.val (.int x0_0), .val (.int x0_1), .val (.int x0_2), .val (.int ((x0_0 &&& (2147483647 : Int32)) % (6 : Int32))), .val (.ref w_NOT_EQUAL), .val (.int (x0_1 ||| (-2147483648 : Int32))), .val (.int ((x0_2 &&& (2147483647 : Int32)) ||| (1 : Int32))), .val (.int (0 : Int32)), .val (.int (0 : Int32)), .val (.int (0 : Int32))] [(.int (0 : Int32))])) _
        refine XS.iload X15.here hx rfl (hb hby at_80) rfl ?_
        show Steps p.tables e below (T15.setTop (mkF m 82 #[.val (.int x0_0), .val (.int x0_1), .val (.int x0_2), .val (.int ((x0_0 &&& (2147483647 : Int32)) % (6 : Int32))), .val (.ref w_NOT_EQUAL), .val (.int (x0_1 ||| (-2147483648 : Int32))), .val (.int ((x0_2 &&& (2147483647 : Int32)) ||| (1 : Int32))), .val (.int (0 : Int32)), .val (.int (0 : Int32)), .val (.int (0 : Int32))] [(.int (0 : Int32)), (.int (0 : Int32))])) _
        refine XS.icmpNo X15.here hx rfl (hb hby at_82) rfl (teq (by decide : ((0 : Int32) = (0 : Int32)))).2 ?_
        show Steps p.tables e below (T15.setTop (mkF m 85 #[.val (.int x0_0), .val (.int x0_1), .val (.int x0_2), .val (.int ((x0_0 &&& (2147483647 : Int32)) % (6 : Int32))), .val (.ref w_NOT_EQUAL), .val (.int (x0_1 ||| (-2147483648 : Int32))), .val (.int ((x0_2 &&& (2147483647 : Int32)) ||| (1 : Int32))), .val (.int (0 : Int32)), .val (.int (0 : Int32)), .val (.int (0 : Int32))] [])) _
        refine XS.iconst X15.here hx rfl (hb hby at_85) ?_
        show Steps p.tables e below (T15.setTop (mkF m 86 #[.val (.int x0_0), .val (.int x0_1), .val (.int x0_2), .val (.int ((x0_0 &&& (2147483647 : Int32)) % (6 : Int32))), .val (.ref w_NOT_EQUAL), .val (.int (x0_1 ||| (-2147483648 : Int32))), .val (.int ((x0_2 &&& (2147483647 : Int32)) ||| (1 : Int32))), .val (.int (0 : Int32)), .val (.int (0 : Int32)), .val (.int (0 : Int32))] [(.int (1 : Int32))])) _
        refine XS.goto X15.here hx rfl (pc0 := 86) (pc' := 90) rfl (hb hby at_86) (by decide) (by decide) ?_
        show Steps p.tables e below (T15.setTop (mkF m 90 #[.val (.int x0_0), .val (.int x0_1), .val (.int x0_2), .val (.int ((x0_0 &&& (2147483647 : Int32)) % (6 : Int32))), .val (.ref w_NOT_EQUAL), .val (.int (x0_1 ||| (-2147483648 : Int32))), .val (.int ((x0_2 &&& (2147483647 : Int32)) ||| (1 : Int32))), .val (.int (0 : Int32)), .val (.int (0 : Int32)), .val (.int (0 : Int32))] [(.int (1 : Int32))])) _
        exact retN X15 hx (t := .boolean) Bd.returns (by simp) (hb hby at_90) hr
      · exact ⟨congrArg (fun z => some (Value.int z)) (show (1 : Int32) = f0 x0_0 x0_1 x0_2 w_EQUAL w_NOT_EQUAL w_LESS_THAN w_LESS_OR_EQUAL w_GREATER_THAN w_GREATER_OR_EQUAL from by unfold f0; rw [if_neg hs9_3, if_pos hs9_10]), N15, e15⟩
    · by_cases hs9_17 : ((x0_0 &&& (2147483647 : Int32)) % (6 : Int32)) = (2 : Int32)
      · have hf1 : f1 ((x0_0 &&& (2147483647 : Int32)) % (6 : Int32)) w_EQUAL w_NOT_EQUAL w_LESS_THAN w_LESS_OR_EQUAL w_GREATER_THAN w_GREATER_OR_EQUAL = w_LESS_THAN := by unfold f1; rw [if_neg hs9_3, if_neg hs9_10, if_pos hs9_17]
        rw [hf1] at hv1
        subst hv1
        have sg19 : ∀ t, Steps p.tables e below (T1.setTop (mkF m 30 #[.val (.int x0_0), .val (.int x0_1), .val (.int x0_2), .val (.int ((x0_0 &&& (2147483647 : Int32)) % (6 : Int32))), .val (.ref w_LESS_THAN), .val (.int (x0_1 ||| (-2147483648 : Int32))), .val (.int ((x0_2 &&& (2147483647 : Int32)) ||| (1 : Int32))), .unset, .unset, .unset] [(.ref w_LESS_THAN)])) t → Steps p.tables e below (s₁.setTop (mkF m 9 #[.val (.int x0_0), .val (.int x0_1), .val (.int x0_2), .val (.int ((x0_0 &&& (2147483647 : Int32)) % (6 : Int32))), .unset, .unset, .unset, .unset, .unset, .unset] [(.int ((x0_0 &&& (2147483647 : Int32)) % (6 : Int32)))])) t := fun t kt => by
          show Steps p.tables e below (s₁.setTop (mkF m 9 #[.val (.int x0_0), .val (.int x0_1), .val (.int x0_2), .val (.int ((x0_0 &&& (2147483647 : Int32)) % (6 : Int32))), .unset, .unset, .unset, .unset, .unset, .unset] [(.int ((x0_0 &&& (2147483647 : Int32)) % (6 : Int32)))])) _
          refine st1 _ ?_
          show Steps p.tables e below (T1.setTop (mkF m 12 #[.val (.int x0_0), .val (.int x0_1), .val (.int x0_2), .val (.int ((x0_0 &&& (2147483647 : Int32)) % (6 : Int32))), .unset, .unset, .unset, .unset, .unset, .unset] [(.ref w_LESS_THAN)])) _
          refine XS.astore X1.here hx rfl (hb hby at_12) rfl rfl (l' := #[.val (.int x0_0), .val (.int x0_1), .val (.int x0_2), .val (.int ((x0_0 &&& (2147483647 : Int32)) % (6 : Int32))), .val (.ref w_LESS_THAN), .unset, .unset, .unset, .unset, .unset]) rfl ?_
          show Steps p.tables e below (T1.setTop (mkF m 14 #[.val (.int x0_0), .val (.int x0_1), .val (.int x0_2), .val (.int ((x0_0 &&& (2147483647 : Int32)) % (6 : Int32))), .val (.ref w_LESS_THAN), .unset, .unset, .unset, .unset, .unset] [])) _
          refine XS.iloadN X1.here hx rfl (hb hby at_14) rfl ?_
          show Steps p.tables e below (T1.setTop (mkF m 15 #[.val (.int x0_0), .val (.int x0_1), .val (.int x0_2), .val (.int ((x0_0 &&& (2147483647 : Int32)) % (6 : Int32))), .val (.ref w_LESS_THAN), .unset, .unset, .unset, .unset, .unset] [(.int x0_1)])) _
          refine X1.ldcInt hx hown (mvT hZ (hw _ (List.mem_of_getElem? (i := 8) rfl))) (g := (mkF m 15 #[.val (.int x0_0), .val (.int x0_1), .val (.int x0_2), .val (.int ((x0_0 &&& (2147483647 : Int32)) % (6 : Int32))), .val (.ref w_LESS_THAN), .unset, .unset, .unset, .unset, .unset] [(.int x0_1)])) rfl (hb hby at_15) _ ?_
          show Steps p.tables e below (T1.setTop (mkF m 17 #[.val (.int x0_0), .val (.int x0_1), .val (.int x0_2), .val (.int ((x0_0 &&& (2147483647 : Int32)) % (6 : Int32))), .val (.ref w_LESS_THAN), .unset, .unset, .unset, .unset, .unset] [(.int (-2147483648 : Int32)), (.int x0_1)])) _
          refine XS.ior X1.here hx rfl (hb hby at_17) rfl ?_
          show Steps p.tables e below (T1.setTop (mkF m 18 #[.val (.int x0_0), .val (.int x0_1), .val (.int x0_2), .val (.int ((x0_0 &&& (2147483647 : Int32)) % (6 : Int32))), .val (.ref w_LESS_THAN), .unset, .unset, .unset, .unset, .unset] [(.int (x0_1 ||| (-2147483648 : Int32)))])) _
          refine XS.istore X1.here hx rfl (hb hby at_18) rfl (l' := #[.val (.int x0_0), .val (.int x0_1), .val (.int x0_2), .val (.int ((x0_0 &&& (2147483647 : Int32)) % (6 : Int32))), .val (.ref w_LESS_THAN), .val (.int (x0_1 ||| (-2147483648 : Int32))), .unset, .unset, .unset, .unset]) rfl ?_
          show Steps p.tables e below (T1.setTop (mkF m 20 #[.val (.int x0_0), .val (.int x0_1), .val (.int x0_2), .val (.int ((x0_0 &&& (2147483647 : Int32)) % (6 : Int32))), .val (.ref w_LESS_THAN), .val (.int (x0_1 ||| (-2147483648 : Int32))), .unset, .unset, .unset, .unset] [])) _
          refine XS.iloadN X1.here hx rfl (hb hby at_20) rfl ?_
          show Steps p.tables e below (T1.setTop (mkF m 21 #[.val (.int x0_0), .val (.int x0_1), .val (.int x0_2), .val (.int ((x0_0 &&& (2147483647 : Int32)) % (6 : Int32))), .val (.ref w_LESS_THAN), .val (.int (x0_1 ||| (-2147483648 : Int32))), .unset, .unset, .unset, .unset] [(.int x0_2)])) _
          refine X1.ldcInt hx hown (mvT hZ (hw _ (List.mem_of_getElem? (i := 0) rfl))) (g := (mkF m 21 #[.val (.int x0_0), .val (.int x0_1), .val (.int x0_2), .val (.int ((x0_0 &&& (2147483647 : Int32)) % (6 : Int32))), .val (.ref w_LESS_THAN), .val (.int (x0_1 ||| (-2147483648 : Int32))), .unset, .unset, .unset, .unset] [(.int x0_2)])) rfl (hb hby at_21) _ ?_
          show Steps p.tables e below (T1.setTop (mkF m 23 #[.val (.int x0_0), .val (.int x0_1), .val (.int x0_2), .val (.int ((x0_0 &&& (2147483647 : Int32)) % (6 : Int32))), .val (.ref w_LESS_THAN), .val (.int (x0_1 ||| (-2147483648 : Int32))), .unset, .unset, .unset, .unset] [(.int (2147483647 : Int32)), (.int x0_2)])) _
          refine XS.iand X1.here hx rfl (hb hby at_23) rfl ?_
          show Steps p.tables e below (T1.setTop (mkF m 24 #[.val (.int x0_0), .val (.int x0_1), .val (.int x0_2), .val (.int ((x0_0 &&& (2147483647 : Int32)) % (6 : Int32))), .val (.ref w_LESS_THAN), .val (.int (x0_1 ||| (-2147483648 : Int32))), .unset, .unset, .unset, .unset] [(.int (x0_2 &&& (2147483647 : Int32)))])) _
          refine XS.iconst X1.here hx rfl (hb hby at_24) ?_
          show Steps p.tables e below (T1.setTop (mkF m 25 #[.val (.int x0_0), .val (.int x0_1), .val (.int x0_2), .val (.int ((x0_0 &&& (2147483647 : Int32)) % (6 : Int32))), .val (.ref w_LESS_THAN), .val (.int (x0_1 ||| (-2147483648 : Int32))), .unset, .unset, .unset, .unset] [(.int (1 : Int32)), (.int (x0_2 &&& (2147483647 : Int32)))])) _
          refine XS.ior X1.here hx rfl (hb hby at_25) rfl ?_
          show Steps p.tables e below (T1.setTop (mkF m 26 #[.val (.int x0_0), .val (.int x0_1), .val (.int x0_2), .val (.int ((x0_0 &&& (2147483647 : Int32)) % (6 : Int32))), .val (.ref w_LESS_THAN), .val (.int (x0_1 ||| (-2147483648 : Int32))), .unset, .unset, .unset, .unset] [(.int ((x0_2 &&& (2147483647 : Int32)) ||| (1 : Int32)))])) _
          refine XS.istore X1.here hx rfl (hb hby at_26) rfl (l' := #[.val (.int x0_0), .val (.int x0_1), .val (.int x0_2), .val (.int ((x0_0 &&& (2147483647 : Int32)) % (6 : Int32))), .val (.ref w_LESS_THAN), .val (.int (x0_1 ||| (-2147483648 : Int32))), .val (.int ((x0_2 &&& (2147483647 : Int32)) ||| (1 : Int32))), .unset, .unset, .unset]) rfl ?_
          show Steps p.tables e below (T1.setTop (mkF m 28 #[.val (.int x0_0), .val (.int x0_1), .val (.int x0_2), .val (.int ((x0_0 &&& (2147483647 : Int32)) % (6 : Int32))), .val (.ref w_LESS_THAN), .val (.int (x0_1 ||| (-2147483648 : Int32))), .val (.int ((x0_2 &&& (2147483647 : Int32)) ||| (1 : Int32))), .unset, .unset, .unset] [])) _
          refine XS.aload X1.here hx rfl (hb hby at_28) rfl rfl ?_
          exact kt
        obtain ⟨cq18, kq18, q18a, q18b, q18c⟩ := isOf hZ e1 (W.2.2.2.2.2.2.2.2.1)
        obtain ⟨v18, _, ⟨T18, L18, k18, n18⟩, -, X18, ⟨Lc18, hQ18, l18, y18, z18⟩, st18⟩ := X1.virtualBack hx (y := (⟨"com/example/unit_of_work/unitofwork/Condition$Operator", "orders", "()Z"⟩ : MethodName)) (z := (⟨"com/example/unit_of_work/unitofwork/Condition$Operator", "orders", "()Z"⟩ : MethodName)) hown (mvT hZ (hw _ (List.mem_of_getElem? (i := 9) rfl))) (mvT hZ (hw _ (List.mem_of_getElem? (i := 10) rfl))) (notFace_of_selects (args := #[]) (mvT hZ (hw _ (List.mem_of_getElem? (i := 12) rfl)))) (mvT hZ (hw _ (List.mem_of_getElem? (i := 12) rfl))) (mvT hZ (hw _ (List.mem_of_getElem? (i := 11) rfl))) (by decide) (backOf (W := 0) (rm2 l Z a0 hw [] w_LESS_THAN w_EQUAL w_NOT_EQUAL w_LESS_THAN w_LESS_OR_EQUAL w_GREATER_THAN w_GREATER_OR_EQUAL h0 n0 Z0 W) hZ (hw _ (List.mem_of_getElem? (i := 13) rfl)) (hw _ (List.mem_of_getElem? (i := 6) rfl)) (by decide) (by decide)) q18a q18c (g := (mkF m 30 #[.val (.int x0_0), .val (.int x0_1), .val (.int x0_2), .val (.int ((x0_0 &&& (2147483647 : Int32)) % (6 : Int32))), .val (.ref w_LESS_THAN), .val (.int (x0_1 ||| (-2147483648 : Int32))), .val (.int ((x0_2 &&& (2147483647 : Int32)) ||| (1 : Int32))), .unset, .unset, .unset] [(.ref w_LESS_THAN)])) rfl (by rw [hml]; rfl) (Steps.refl _) (argsL := []) (rest := []) (lenOf pd_2 rfl) rfl (by show 2 * 0 + _ ≤ _; exact Nat.le_of_eq rfl) (hb hby at_30) (fun _ _ => ⟨rfl, e1, (by decide : 0 + 0 ≤ _), (by decide : 0 + 0 ≤ _)⟩)
        dsimp only [Pt.U, Pt.locs, Pt.cells, Pt.slots] at X18 l18 y18 z18 st18 hQ18
        subst l18 y18 z18
        obtain ⟨hv18, N18q, e18⟩ := hQ18
        have N18 := Fr.app N1 N18q
        have hf18 : f2 w_LESS_THAN w_EQUAL w_NOT_EQUAL w_LESS_THAN w_LESS_OR_EQUAL w_GREATER_THAN w_GREATER_OR_EQUAL = (1 : Int32) := by unfold f2; rw [if_neg (Fld.ne (W.2.2.2.2.2.2.2.2.2.2.2.2.2.2.1) (W.2.2.2.2.2.2.2.2.2.2.2.2.1) (by decide) : ¬ (w_LESS_THAN = w_EQUAL)), if_neg (Fld.ne (W.2.2.2.2.2.2.2.2.2.2.2.2.2.2.1) (W.2.2.2.2.2.2.2.2.2.2.2.2.2.1) (by decide) : ¬ (w_LESS_THAN = w_NOT_EQUAL))]
        rw [hf18] at hv18
        subst hv18
        have sg21 : ∀ t, Steps p.tables e below (T18.setTop (mkF m 39 #[.val (.int x0_0), .val (.int x0_1), .val (.int x0_2), .val (.int ((x0_0 &&& (2147483647 : Int32)) % (6 : Int32))), .val (.ref w_LESS_THAN), .val (.int (x0_1 ||| (-2147483648 : Int32))), .val (.int ((x0_2 &&& (2147483647 : Int32)) ||| (1 : Int32))), .val (.int (1 : Int32)), .unset, .unset] [(.int (x0_1 ||| (-2147483648 : Int32))), (.ref w_LESS_THAN)])) t → Steps p.tables e below (T1.setTop (mkF m 30 #[.val (.int x0_0), .val (.int x0_1), .val (.int x0_2), .val (.int ((x0_0 &&& (2147483647 : Int32)) % (6 : Int32))), .val (.ref w_LESS_THAN), .val (.int (x0_1 ||| (-2147483648 : Int32))), .val (.int ((x0_2 &&& (2147483647 : Int32)) ||| (1 : Int32))), .unset, .unset, .unset] [(.ref w_LESS_THAN)])) t := fun t kt => by
          show Steps p.tables e below (T1.setTop (mkF m 30 #[.val (.int x0_0), .val (.int x0_1), .val (.int x0_2), .val (.int ((x0_0 &&& (2147483647 : Int32)) % (6 : Int32))), .val (.ref w_LESS_THAN), .val (.int (x0_1 ||| (-2147483648 : Int32))), .val (.int ((x0_2 &&& (2147483647 : Int32)) ||| (1 : Int32))), .unset, .unset, .unset] [(.ref w_LESS_THAN)])) _
          refine st18.trans ?_
          show Steps p.tables e below (T18.setTop (mkF m 33 #[.val (.int x0_0), .val (.int x0_1), .val (.int x0_2), .val (.int ((x0_0 &&& (2147483647 : Int32)) % (6 : Int32))), .val (.ref w_LESS_THAN), .val (.int (x0_1 ||| (-2147483648 : Int32))), .val (.int ((x0_2 &&& (2147483647 : Int32)) ||| (1 : Int32))), .unset, .unset, .unset] [(.int (1 : Int32))])) _
          refine XS.istore X18.here hx rfl (hb hby at_33) rfl (l' := #[.val (.int x0_0), .val (.int x0_1), .val (.int x0_2), .val (.int ((x0_0 &&& (2147483647 : Int32)) % (6 : Int32))), .val (.ref w_LESS_THAN), .val (.int (x0_1 ||| (-2147483648 : Int32))), .val (.int ((x0_2 &&& (2147483647 : Int32)) ||| (1 : Int32))), .val (.int (1 : Int32)), .unset, .unset]) rfl ?_
          show Steps p.tables e below (T18.setTop (mkF m 35 #[.val (.int x0_0), .val (.int x0_1), .val (.int x0_2), .val (.int ((x0_0 &&& (2147483647 : Int32)) % (6 : Int32))), .val (.ref w_LESS_THAN), .val (.int (x0_1 ||| (-2147483648 : Int32))), .val (.int ((x0_2 &&& (2147483647 : Int32)) ||| (1 : Int32))), .val (.int (1 : Int32)), .unset, .unset] [])) _
          refine XS.aload X18.here hx rfl (hb hby at_35) rfl rfl ?_
          show Steps p.tables e below (T18.setTop (mkF m 37 #[.val (.int x0_0), .val (.int x0_1), .val (.int x0_2), .val (.int ((x0_0 &&& (2147483647 : Int32)) % (6 : Int32))), .val (.ref w_LESS_THAN), .val (.int (x0_1 ||| (-2147483648 : Int32))), .val (.int ((x0_2 &&& (2147483647 : Int32)) ||| (1 : Int32))), .val (.int (1 : Int32)), .unset, .unset] [(.ref w_LESS_THAN)])) _
          refine XS.iload X18.here hx rfl (hb hby at_37) rfl ?_
          exact kt
        obtain ⟨cq20, kq20, q20a, q20b, q20c⟩ := isOf hZ e18 (W.2.2.2.2.2.2.2.2.1)
        obtain ⟨v20, _, ⟨T20, L20, k20, n20⟩, -, X20, ⟨Lc20, hQ20, l20, y20, z20⟩, st20⟩ := X18.virtualBack hx (y := (⟨"com/example/unit_of_work/unitofwork/Condition$Operator", "holds", "(I)Z"⟩ : MethodName)) (z := (⟨"com/example/unit_of_work/unitofwork/Condition$Operator", "holds", "(I)Z"⟩ : MethodName)) hown (mvT hZ (hw _ (List.mem_of_getElem? (i := 15) rfl))) (mvT hZ (hw _ (List.mem_of_getElem? (i := 16) rfl))) (notFace_of_selects (args := #[]) (mvT hZ (hw _ (List.mem_of_getElem? (i := 18) rfl)))) (mvT hZ (hw _ (List.mem_of_getElem? (i := 18) rfl))) (mvT hZ (hw _ (List.mem_of_getElem? (i := 17) rfl))) (by decide) (backOf (W := 0) (rm3 l Z a0 hw [] w_LESS_THAN (x0_1 ||| (-2147483648 : Int32)) w_EQUAL w_NOT_EQUAL w_LESS_THAN w_LESS_OR_EQUAL w_GREATER_THAN w_GREATER_OR_EQUAL (2 : Int32) h0 n0 Z0 W (W.2.2.2.2.2.2.2.2.2.2.2.2.2.2.1) (W.2.2.2.2.2.2.2.2.1) (by decide)) hZ (hw _ (List.mem_of_getElem? (i := 19) rfl)) (hw _ (List.mem_of_getElem? (i := 6) rfl)) (by decide) (by decide)) q20a q20c (g := (mkF m 39 #[.val (.int x0_0), .val (.int x0_1), .val (.int x0_2), .val (.int ((x0_0 &&& (2147483647 : Int32)) % (6 : Int32))), .val (.ref w_LESS_THAN), .val (.int (x0_1 ||| (-2147483648 : Int32))), .val (.int ((x0_2 &&& (2147483647 : Int32)) ||| (1 : Int32))), .val (.int (1 : Int32)), .unset, .unset] [(.int (x0_1 ||| (-2147483648 : Int32))), (.ref w_LESS_THAN)])) rfl (by rw [hml]; rfl) (Steps.refl _) (argsL := [(.int (x0_1 ||| (-2147483648 : Int32)))]) (rest := []) (lenOf pd_3 rfl) rfl (by show 2 * 0 + _ ≤ _; exact Nat.le_of_eq rfl) (hb hby at_39) (fun _ _ => ⟨rfl, e18, (by decide : 0 + 0 ≤ _), (by decide : 0 + 0 ≤ _)⟩)
        dsimp only [Pt.U, Pt.locs, Pt.cells, Pt.slots] at X20 l20 y20 z20 st20 hQ20
        subst l20 y20 z20
        obtain ⟨hv20, N20q, e20⟩ := hQ20
        have N20 := Fr.app N18 N20q
        have hf20 : f3 w_LESS_THAN (x0_1 ||| (-2147483648 : Int32)) w_EQUAL w_NOT_EQUAL w_LESS_THAN w_LESS_OR_EQUAL w_GREATER_THAN w_GREATER_OR_EQUAL (2 : Int32) = (1 : Int32) := by unfold f3; rw [if_neg (by decide : ¬ ((2 : Int32) = (0 : Int32))), if_neg (by decide : ¬ ((2 : Int32) = (1 : Int32))), if_pos (by decide : ((2 : Int32) = (2 : Int32))), if_pos (own_neg x0_1)]
        rw [hf20] at hv20
        subst hv20
        have sg23 : ∀ t, Steps p.tables e below (T20.setTop (mkF m 46 #[.val (.int x0_0), .val (.int x0_1), .val (.int x0_2), .val (.int ((x0_0 &&& (2147483647 : Int32)) % (6 : Int32))), .val (.ref w_LESS_THAN), .val (.int (x0_1 ||| (-2147483648 : Int32))), .val (.int ((x0_2 &&& (2147483647 : Int32)) ||| (1 : Int32))), .val (.int (1 : Int32)), .unset, .unset] [(.int ((x0_2 &&& (2147483647 : Int32)) ||| (1 : Int32))), (.ref w_LESS_THAN), (.int (1 : Int32))])) t → Steps p.tables e below (T18.setTop (mkF m 39 #[.val (.int x0_0), .val (.int x0_1), .val (.int x0_2), .val (.int ((x0_0 &&& (2147483647 : Int32)) % (6 : Int32))), .val (.ref w_LESS_THAN), .val (.int (x0_1 ||| (-2147483648 : Int32))), .val (.int ((x0_2 &&& (2147483647 : Int32)) ||| (1 : Int32))), .val (.int (1 : Int32)), .unset, .unset] [(.int (x0_1 ||| (-2147483648 : Int32))), (.ref w_LESS_THAN)])) t := fun t kt => by
          show Steps p.tables e below (T18.setTop (mkF m 39 #[.val (.int x0_0), .val (.int x0_1), .val (.int x0_2), .val (.int ((x0_0 &&& (2147483647 : Int32)) % (6 : Int32))), .val (.ref w_LESS_THAN), .val (.int (x0_1 ||| (-2147483648 : Int32))), .val (.int ((x0_2 &&& (2147483647 : Int32)) ||| (1 : Int32))), .val (.int (1 : Int32)), .unset, .unset] [(.int (x0_1 ||| (-2147483648 : Int32))), (.ref w_LESS_THAN)])) _
          refine st20.trans ?_
          show Steps p.tables e below (T20.setTop (mkF m 42 #[.val (.int x0_0), .val (.int x0_1), .val (.int x0_2), .val (.int ((x0_0 &&& (2147483647 : Int32)) % (6 : Int32))), .val (.ref w_LESS_THAN), .val (.int (x0_1 ||| (-2147483648 : Int32))), .val (.int ((x0_2 &&& (2147483647 : Int32)) ||| (1 : Int32))), .val (.int (1 : Int32)), .unset, .unset] [(.int (1 : Int32))])) _
          refine XS.aload X20.here hx rfl (hb hby at_42) rfl rfl ?_
          show Steps p.tables e below (T20.setTop (mkF m 44 #[.val (.int x0_0), .val (.int x0_1), .val (.int x0_2), .val (.int ((x0_0 &&& (2147483647 : Int32)) % (6 : Int32))), .val (.ref w_LESS_THAN), .val (.int (x0_1 ||| (-2147483648 : Int32))), .val (.int ((x0_2 &&& (2147483647 : Int32)) ||| (1 : Int32))), .val (.int (1 : Int32)), .unset, .unset] [(.ref w_LESS_THAN), (.int (1 : Int32))])) _
          refine XS.iload X20.here hx rfl (hb hby at_44) rfl ?_
          exact kt
        obtain ⟨cq22, kq22, q22a, q22b, q22c⟩ := isOf hZ e20 (W.2.2.2.2.2.2.2.2.1)
        obtain ⟨v22, _, ⟨T22, L22, k22, n22⟩, -, X22, ⟨Lc22, hQ22, l22, y22, z22⟩, st22⟩ := X20.virtualBack hx (y := (⟨"com/example/unit_of_work/unitofwork/Condition$Operator", "holds", "(I)Z"⟩ : MethodName)) (z := (⟨"com/example/unit_of_work/unitofwork/Condition$Operator", "holds", "(I)Z"⟩ : MethodName)) hown (mvT hZ (hw _ (List.mem_of_getElem? (i := 15) rfl))) (mvT hZ (hw _ (List.mem_of_getElem? (i := 16) rfl))) (notFace_of_selects (args := #[]) (mvT hZ (hw _ (List.mem_of_getElem? (i := 18) rfl)))) (mvT hZ (hw _ (List.mem_of_getElem? (i := 18) rfl))) (mvT hZ (hw _ (List.mem_of_getElem? (i := 17) rfl))) (by decide) (backOf (W := 1) (rm3 l Z a0 hw [] w_LESS_THAN ((x0_2 &&& (2147483647 : Int32)) ||| (1 : Int32)) w_EQUAL w_NOT_EQUAL w_LESS_THAN w_LESS_OR_EQUAL w_GREATER_THAN w_GREATER_OR_EQUAL (2 : Int32) h0 n0 Z0 W (W.2.2.2.2.2.2.2.2.2.2.2.2.2.2.1) (W.2.2.2.2.2.2.2.2.1) (by decide)) hZ (hw _ (List.mem_of_getElem? (i := 19) rfl)) (hw _ (List.mem_of_getElem? (i := 6) rfl)) (by decide) (by decide)) q22a q22c (g := (mkF m 46 #[.val (.int x0_0), .val (.int x0_1), .val (.int x0_2), .val (.int ((x0_0 &&& (2147483647 : Int32)) % (6 : Int32))), .val (.ref w_LESS_THAN), .val (.int (x0_1 ||| (-2147483648 : Int32))), .val (.int ((x0_2 &&& (2147483647 : Int32)) ||| (1 : Int32))), .val (.int (1 : Int32)), .unset, .unset] [(.int ((x0_2 &&& (2147483647 : Int32)) ||| (1 : Int32))), (.ref w_LESS_THAN), (.int (1 : Int32))])) rfl (by rw [hml]; rfl) (Steps.refl _) (argsL := [(.int ((x0_2 &&& (2147483647 : Int32)) ||| (1 : Int32)))]) (rest := [(.int (1 : Int32))]) (lenOf pd_3 rfl) rfl (by show 2 * 0 + _ ≤ _; exact Nat.le_of_eq rfl) (hb hby at_46) (fun _ _ => ⟨rfl, e20, (by decide : 0 + 0 ≤ _), (by decide : 0 + 0 ≤ _)⟩)
        dsimp only [Pt.U, Pt.locs, Pt.cells, Pt.slots] at X22 l22 y22 z22 st22 hQ22
        subst l22 y22 z22
        obtain ⟨hv22, N22q, e22⟩ := hQ22
        have N22 := Fr.app N20 N22q
        have hf22 : f3 w_LESS_THAN ((x0_2 &&& (2147483647 : Int32)) ||| (1 : Int32)) w_EQUAL w_NOT_EQUAL w_LESS_THAN w_LESS_OR_EQUAL w_GREATER_THAN w_GREATER_OR_EQUAL (2 : Int32) = (0 : Int32) := by unfold f3; rw [if_neg (by decide : ¬ ((2 : Int32) = (0 : Int32))), if_neg (by decide : ¬ ((2 : Int32) = (1 : Int32))), if_pos (by decide : ((2 : Int32) = (2 : Int32))), if_neg (own_po2 x0_2)]
        rw [hf22] at hv22
        subst hv22
        obtain ⟨fs, hr, hrun, hended, hW, hsame⟩ := X22.leave (v := some (.int (1 : Int32))) (fun h => by rw [Bd.returns] at h; cases h)
        refine ⟨_, _, pre0 _ (sg2 _ (sg19 _ (sg21 _ (sg23 _ ?_)))), hrun, hended, _, _, rfl, ?_, ⟨_, rfl⟩, hW, hsame.mono (by decide) (by decide)⟩
        · show Steps p.tables e below (T20.setTop (mkF m 46 #[.val (.int x0_0), .val (.int x0_1), .val (.int x0_2), .val (.int ((x0_0 &&& (2147483647 : Int32)) % (6 : Int32))), .val (.ref w_LESS_THAN), .val (.int (x0_1 ||| (-2147483648 : Int32))), .val (.int ((x0_2 &&& (2147483647 : Int32)) ||| (1 : Int32))), .val (.int (1 : Int32)), .unset, .unset] [(.int ((x0_2 &&& (2147483647 : Int32)) ||| (1 : Int32))), (.ref w_LESS_THAN), (.int (1 : Int32))])) _
          refine st22.trans ?_
          show Steps p.tables e below (T22.setTop (mkF m 49 #[.val (.int x0_0), .val (.int x0_1), .val (.int x0_2), .val (.int ((x0_0 &&& (2147483647 : Int32)) % (6 : Int32))), .val (.ref w_LESS_THAN), .val (.int (x0_1 ||| (-2147483648 : Int32))), .val (.int ((x0_2 &&& (2147483647 : Int32)) ||| (1 : Int32))), .val (.int (1 : Int32)), .unset, .unset] [(.int (0 : Int32)), (.int (1 : Int32))])) _
          refine XS.icmpNo X22.here hx rfl (hb hby at_49) rfl (feq (by decide : ¬ ((1 : Int32) = (0 : Int32)))).1 ?_
          show Steps p.tables e below (T22.setTop (mkF m 52 #[.val (.int x0_0), .val (.int x0_1), .val (.int x0_2), .val (.int ((x0_0 &&& (2147483647 : Int32)) % (6 : Int32))), .val (.ref w_LESS_THAN), .val (.int (x0_1 ||| (-2147483648 : Int32))), .val (.int ((x0_2 &&& (2147483647 : Int32)) ||| (1 : Int32))), .val (.int (1 : Int32)), .unset, .unset] [])) _
          refine XS.iconst X22.here hx rfl (hb hby at_52) ?_
          show Steps p.tables e below (T22.setTop (mkF m 53 #[.val (.int x0_0), .val (.int x0_1), .val (.int x0_2), .val (.int ((x0_0 &&& (2147483647 : Int32)) % (6 : Int32))), .val (.ref w_LESS_THAN), .val (.int (x0_1 ||| (-2147483648 : Int32))), .val (.int ((x0_2 &&& (2147483647 : Int32)) ||| (1 : Int32))), .val (.int (1 : Int32)), .unset, .unset] [(.int (1 : Int32))])) _
          refine XS.goto X22.here hx rfl (pc0 := 53) (pc' := 57) rfl (hb hby at_53) (by decide) (by decide) ?_
          show Steps p.tables e below (T22.setTop (mkF m 57 #[.val (.int x0_0), .val (.int x0_1), .val (.int x0_2), .val (.int ((x0_0 &&& (2147483647 : Int32)) % (6 : Int32))), .val (.ref w_LESS_THAN), .val (.int (x0_1 ||| (-2147483648 : Int32))), .val (.int ((x0_2 &&& (2147483647 : Int32)) ||| (1 : Int32))), .val (.int (1 : Int32)), .unset, .unset] [(.int (1 : Int32))])) _
          refine XS.istore X22.here hx rfl (hb hby at_57) rfl (l' := #[.val (.int x0_0), .val (.int x0_1), .val (.int x0_2), .val (.int ((x0_0 &&& (2147483647 : Int32)) % (6 : Int32))), .val (.ref w_LESS_THAN), .val (.int (x0_1 ||| (-2147483648 : Int32))), .val (.int ((x0_2 &&& (2147483647 : Int32)) ||| (1 : Int32))), .val (.int (1 : Int32)), .val (.int (1 : Int32)), .unset]) rfl ?_
          show Steps p.tables e below (T22.setTop (mkF m 59 #[.val (.int x0_0), .val (.int x0_1), .val (.int x0_2), .val (.int ((x0_0 &&& (2147483647 : Int32)) % (6 : Int32))), .val (.ref w_LESS_THAN), .val (.int (x0_1 ||| (-2147483648 : Int32))), .val (.int ((x0_2 &&& (2147483647 : Int32)) ||| (1 : Int32))), .val (.int (1 : Int32)), .val (.int (1 : Int32)), .unset] [])) _
          refine XS.iloadN X22.here hx rfl (hb hby at_59) rfl ?_
          show Steps p.tables e below (T22.setTop (mkF m 60 #[.val (.int x0_0), .val (.int x0_1), .val (.int x0_2), .val (.int ((x0_0 &&& (2147483647 : Int32)) % (6 : Int32))), .val (.ref w_LESS_THAN), .val (.int (x0_1 ||| (-2147483648 : Int32))), .val (.int ((x0_2 &&& (2147483647 : Int32)) ||| (1 : Int32))), .val (.int (1 : Int32)), .val (.int (1 : Int32)), .unset] [(.int ((x0_0 &&& (2147483647 : Int32)) % (6 : Int32)))])) _
          refine XS.iconst X22.here hx rfl (hb hby at_60) ?_
          show Steps p.tables e below (T22.setTop (mkF m 61 #[.val (.int x0_0), .val (.int x0_1), .val (.int x0_2), .val (.int ((x0_0 &&& (2147483647 : Int32)) % (6 : Int32))), .val (.ref w_LESS_THAN), .val (.int (x0_1 ||| (-2147483648 : Int32))), .val (.int ((x0_2 &&& (2147483647 : Int32)) ||| (1 : Int32))), .val (.int (1 : Int32)), .val (.int (1 : Int32)), .unset] [(.int (2 : Int32)), (.int ((x0_0 &&& (2147483647 : Int32)) % (6 : Int32)))])) _
          refine XS.icmpNo X22.here hx rfl (hb hby at_61) rfl (flt (by rw [hs9_17]; decide : ¬ (((x0_0 &&& (2147483647 : Int32)) % (6 : Int32)) < (2 : Int32)))).1 ?_
          show Steps p.tables e below (T22.setTop (mkF m 64 #[.val (.int x0_0), .val (.int x0_1), .val (.int x0_2), .val (.int ((x0_0 &&& (2147483647 : Int32)) % (6 : Int32))), .val (.ref w_LESS_THAN), .val (.int (x0_1 ||| (-2147483648 : Int32))), .val (.int ((x0_2 &&& (2147483647 : Int32)) ||| (1 : Int32))), .val (.int (1 : Int32)), .val (.int (1 : Int32)), .unset] [])) _
          refine XS.iconst X22.here hx rfl (hb hby at_64) ?_
          show Steps p.tables e below (T22.setTop (mkF m 65 #[.val (.int x0_0), .val (.int x0_1), .val (.int x0_2), .val (.int ((x0_0 &&& (2147483647 : Int32)) % (6 : Int32))), .val (.ref w_LESS_THAN), .val (.int (x0_1 ||| (-2147483648 : Int32))), .val (.int ((x0_2 &&& (2147483647 : Int32)) ||| (1 : Int32))), .val (.int (1 : Int32)), .val (.int (1 : Int32)), .unset] [(.int (1 : Int32))])) _
          refine XS.goto X22.here hx rfl (pc0 := 65) (pc' := 69) rfl (hb hby at_65) (by decide) (by decide) ?_
          show Steps p.tables e below (T22.setTop (mkF m 69 #[.val (.int x0_0), .val (.int x0_1), .val (.int x0_2), .val (.int ((x0_0 &&& (2147483647 : Int32)) % (6 : Int32))), .val (.ref w_LESS_THAN), .val (.int (x0_1 ||| (-2147483648 : Int32))), .val (.int ((x0_2 &&& (2147483647 : Int32)) ||| (1 : Int32))), .val (.int (1 : Int32)), .val (.int (1 : Int32)), .unset] [(.int (1 : Int32))])) _
          refine XS.istore X22.here hx rfl (hb hby at_69) rfl (l' := #[.val (.int x0_0), .val (.int x0_1), .val (.int x0_2), .val (.int ((x0_0 &&& (2147483647 : Int32)) % (6 : Int32))), .val (.ref w_LESS_THAN), .val (.int (x0_1 ||| (-2147483648 : Int32))), .val (.int ((x0_2 &&& (2147483647 : Int32)) ||| (1 : Int32))), .val (.int (1 : Int32)), .val (.int (1 : Int32)), .val (.int (1 : Int32))]) rfl ?_
          show Steps p.tables e below (T22.setTop (mkF m 71 #[.val (.int x0_0), .val (.int x0_1), .val (.int x0_2), .val (.int ((x0_0 &&& (2147483647 : Int32)) % (6 : Int32))), .val (.ref w_LESS_THAN), .val (.int (x0_1 ||| (-2147483648 : Int32))), .val (.int ((x0_2 &&& (2147483647 : Int32)) ||| (1 : Int32))), .val (.int (1 : Int32)), .val (.int (1 : Int32)), .val (.int (1 : Int32))] [])) _
          refine XS.iload X22.here hx rfl (hb hby at_71) rfl ?_
          show Steps p.tables e below (T22.setTop (mkF m 73 #[.val (.int x0_0), .val (.int x0_1), .val (.int x0_2), .val (.int ((x0_0 &&& (2147483647 : Int32)) % (6 : Int32))), .val (.ref w_LESS_THAN), .val (.int (x0_1 ||| (-2147483648 : Int32))), .val (.int ((x0_2 &&& (2147483647 : Int32)) ||| (1 : Int32))), .val (.int (1 : Int32)), .val (.int (1 : Int32)), .val (.int (1 : Int32))] [(.int (1 : Int32))])) _
          refine XS.iload X22.here hx rfl (hb hby at_73) rfl ?_
          show Steps p.tables e below (T22.setTop (mkF m 75 #[.val (.int x0_0), .val (.int x0_1), .val (.int x0_2), .val (.int ((x0_0 &&& (2147483647 : Int32)) % (6 : Int32))), .val (.ref w_LESS_THAN), .val (.int (x0_1 ||| (-2147483648 : Int32))), .val (.int ((x0_2 &&& (2147483647 : Int32)) ||| (1 : Int32))), .val (.int (1 : Int32)), .val (.int (1 : Int32)), .val (.int (1 : Int32))] [(.int (1 : Int32)), (.int (1 : Int32))])) _
          refine XS.icmpNo X22.here hx rfl (hb hby at_75) rfl (teq (by decide : ((1 : Int32) = (1 : Int32)))).2 ?_
          show Steps p.tables e below (T22.setTop (mkF m 78 #[.val (.int x0_0), .val (.int x0_1), .val (.int x0_2), .val (.int ((x0_0 &&& (2147483647 : Int32)) % (6 : Int32))), .val (.ref w_LESS_THAN), .val (.int (x0_1 ||| (-2147483648 : Int32))), .val (.int ((x0_2 &&& (2147483647 : Int32)) ||| (1 : Int32))), .val (.int (1 : Int32)), .val (.int (1 : Int32)), .val (.int (1 : Int32))] [])) _
          refine XS.iload X22.here hx rfl (hb hby at_78) rfl ?_
          show Steps p.tables e below (T22.setTop (mkF m 80 #[.val (.int x0_0), .val (.int x0_1), .val (.int x0_2), .val (.int ((x0_0 &&& (2147483647 : Int32)) % (6 : Int32))), .val (.ref w_LESS_THAN), .val (.int (x0_1 ||| (-2147483648 : Int32))), .val (.int ((x0_2 &&& (2147483647 : Int32)) ||| (1 : Int32))), .val (.int (1 : Int32)), .val (.int (1 : Int32)), .val (.int (1 : Int32))] [(.int (1 : Int32))])) _
          refine XS.iload X22.here hx rfl (hb hby at_80) rfl ?_
          show Steps p.tables e below (T22.setTop (mkF m 82 #[.val (.int x0_0), .val (.int x0_1), .val (.int x0_2), .val (.int ((x0_0 &&& (2147483647 : Int32)) % (6 : Int32))), .val (.ref w_LESS_THAN), .val (.int (x0_1 ||| (-2147483648 : Int32))), .val (.int ((x0_2 &&& (2147483647 : Int32)) ||| (1 : Int32))), .val (.int (1 : Int32)), .val (.int (1 : Int32)), .val (.int (1 : Int32))] [(.int (1 : Int32)), (.int (1 : Int32))])) _
          refine XS.icmpNo X22.here hx rfl (hb hby at_82) rfl (teq (by decide : ((1 : Int32) = (1 : Int32)))).2 ?_
          show Steps p.tables e below (T22.setTop (mkF m 85 #[.val (.int x0_0), .val (.int x0_1), .val (.int x0_2), .val (.int ((x0_0 &&& (2147483647 : Int32)) % (6 : Int32))), .val (.ref w_LESS_THAN), .val (.int (x0_1 ||| (-2147483648 : Int32))), .val (.int ((x0_2 &&& (2147483647 : Int32)) ||| (1 : Int32))), .val (.int (1 : Int32)), .val (.int (1 : Int32)), .val (.int (1 : Int32))] [])) _
          refine XS.iconst X22.here hx rfl (hb hby at_85) ?_
          show Steps p.tables e below (T22.setTop (mkF m 86 #[.val (.int x0_0), .val (.int x0_1), .val (.int x0_2), .val (.int ((x0_0 &&& (2147483647 : Int32)) % (6 : Int32))), .val (.ref w_LESS_THAN), .val (.int (x0_1 ||| (-2147483648 : Int32))), .val (.int ((x0_2 &&& (2147483647 : Int32)) ||| (1 : Int32))), .val (.int (1 : Int32)), .val (.int (1 : Int32)), .val (.int (1 : Int32))] [(.int (1 : Int32))])) _
          refine XS.goto X22.here hx rfl (pc0 := 86) (pc' := 90) rfl (hb hby at_86) (by decide) (by decide) ?_
          show Steps p.tables e below (T22.setTop (mkF m 90 #[.val (.int x0_0), .val (.int x0_1), .val (.int x0_2), .val (.int ((x0_0 &&& (2147483647 : Int32)) % (6 : Int32))), .val (.ref w_LESS_THAN), .val (.int (x0_1 ||| (-2147483648 : Int32))), .val (.int ((x0_2 &&& (2147483647 : Int32)) ||| (1 : Int32))), .val (.int (1 : Int32)), .val (.int (1 : Int32)), .val (.int (1 : Int32))] [(.int (1 : Int32))])) _
          exact retN X22 hx (t := .boolean) Bd.returns (by simp) (hb hby at_90) hr
        · exact ⟨congrArg (fun z => some (Value.int z)) (show (1 : Int32) = f0 x0_0 x0_1 x0_2 w_EQUAL w_NOT_EQUAL w_LESS_THAN w_LESS_OR_EQUAL w_GREATER_THAN w_GREATER_OR_EQUAL from by unfold f0; rw [if_neg hs9_3, if_neg hs9_10, if_pos hs9_17]), N22, e22⟩
      · by_cases hs9_24 : ((x0_0 &&& (2147483647 : Int32)) % (6 : Int32)) = (3 : Int32)
        · have hf1 : f1 ((x0_0 &&& (2147483647 : Int32)) % (6 : Int32)) w_EQUAL w_NOT_EQUAL w_LESS_THAN w_LESS_OR_EQUAL w_GREATER_THAN w_GREATER_OR_EQUAL = w_LESS_OR_EQUAL := by unfold f1; rw [if_neg hs9_3, if_neg hs9_10, if_neg hs9_17, if_pos hs9_24]
          rw [hf1] at hv1
          subst hv1
          have sg26 : ∀ t, Steps p.tables e below (T1.setTop (mkF m 30 #[.val (.int x0_0), .val (.int x0_1), .val (.int x0_2), .val (.int ((x0_0 &&& (2147483647 : Int32)) % (6 : Int32))), .val (.ref w_LESS_OR_EQUAL), .val (.int (x0_1 ||| (-2147483648 : Int32))), .val (.int ((x0_2 &&& (2147483647 : Int32)) ||| (1 : Int32))), .unset, .unset, .unset] [(.ref w_LESS_OR_EQUAL)])) t → Steps p.tables e below (s₁.setTop (mkF m 9 #[.val (.int x0_0), .val (.int x0_1), .val (.int x0_2), .val (.int ((x0_0 &&& (2147483647 : Int32)) % (6 : Int32))), .unset, .unset, .unset, .unset, .unset, .unset] [(.int ((x0_0 &&& (2147483647 : Int32)) % (6 : Int32)))])) t := fun t kt => by
            show Steps p.tables e below (s₁.setTop (mkF m 9 #[.val (.int x0_0), .val (.int x0_1), .val (.int x0_2), .val (.int ((x0_0 &&& (2147483647 : Int32)) % (6 : Int32))), .unset, .unset, .unset, .unset, .unset, .unset] [(.int ((x0_0 &&& (2147483647 : Int32)) % (6 : Int32)))])) _
            refine st1 _ ?_
            show Steps p.tables e below (T1.setTop (mkF m 12 #[.val (.int x0_0), .val (.int x0_1), .val (.int x0_2), .val (.int ((x0_0 &&& (2147483647 : Int32)) % (6 : Int32))), .unset, .unset, .unset, .unset, .unset, .unset] [(.ref w_LESS_OR_EQUAL)])) _
            refine XS.astore X1.here hx rfl (hb hby at_12) rfl rfl (l' := #[.val (.int x0_0), .val (.int x0_1), .val (.int x0_2), .val (.int ((x0_0 &&& (2147483647 : Int32)) % (6 : Int32))), .val (.ref w_LESS_OR_EQUAL), .unset, .unset, .unset, .unset, .unset]) rfl ?_
            show Steps p.tables e below (T1.setTop (mkF m 14 #[.val (.int x0_0), .val (.int x0_1), .val (.int x0_2), .val (.int ((x0_0 &&& (2147483647 : Int32)) % (6 : Int32))), .val (.ref w_LESS_OR_EQUAL), .unset, .unset, .unset, .unset, .unset] [])) _
            refine XS.iloadN X1.here hx rfl (hb hby at_14) rfl ?_
            show Steps p.tables e below (T1.setTop (mkF m 15 #[.val (.int x0_0), .val (.int x0_1), .val (.int x0_2), .val (.int ((x0_0 &&& (2147483647 : Int32)) % (6 : Int32))), .val (.ref w_LESS_OR_EQUAL), .unset, .unset, .unset, .unset, .unset] [(.int x0_1)])) _
            refine X1.ldcInt hx hown (mvT hZ (hw _ (List.mem_of_getElem? (i := 8) rfl))) (g := (mkF m 15 #[.val (.int x0_0), .val (.int x0_1), .val (.int x0_2), .val (.int ((x0_0 &&& (2147483647 : Int32)) % (6 : Int32))), .val (.ref w_LESS_OR_EQUAL), .unset, .unset, .unset, .unset, .unset] [(.int x0_1)])) rfl (hb hby at_15) _ ?_
            show Steps p.tables e below (T1.setTop (mkF m 17 #[.val (.int x0_0), .val (.int x0_1), .val (.int x0_2), .val (.int ((x0_0 &&& (2147483647 : Int32)) % (6 : Int32))), .val (.ref w_LESS_OR_EQUAL), .unset, .unset, .unset, .unset, .unset] [(.int (-2147483648 : Int32)), (.int x0_1)])) _
            refine XS.ior X1.here hx rfl (hb hby at_17) rfl ?_
            show Steps p.tables e below (T1.setTop (mkF m 18 #[.val (.int x0_0), .val (.int x0_1), .val (.int x0_2), .val (.int ((x0_0 &&& (2147483647 : Int32)) % (6 : Int32))), .val (.ref w_LESS_OR_EQUAL), .unset, .unset, .unset, .unset, .unset] [(.int (x0_1 ||| (-2147483648 : Int32)))])) _
            refine XS.istore X1.here hx rfl (hb hby at_18) rfl (l' := #[.val (.int x0_0), .val (.int x0_1), .val (.int x0_2), .val (.int ((x0_0 &&& (2147483647 : Int32)) % (6 : Int32))), .val (.ref w_LESS_OR_EQUAL), .val (.int (x0_1 ||| (-2147483648 : Int32))), .unset, .unset, .unset, .unset]) rfl ?_
            show Steps p.tables e below (T1.setTop (mkF m 20 #[.val (.int x0_0), .val (.int x0_1), .val (.int x0_2), .val (.int ((x0_0 &&& (2147483647 : Int32)) % (6 : Int32))), .val (.ref w_LESS_OR_EQUAL), .val (.int (x0_1 ||| (-2147483648 : Int32))), .unset, .unset, .unset, .unset] [])) _
            refine XS.iloadN X1.here hx rfl (hb hby at_20) rfl ?_
            show Steps p.tables e below (T1.setTop (mkF m 21 #[.val (.int x0_0), .val (.int x0_1), .val (.int x0_2), .val (.int ((x0_0 &&& (2147483647 : Int32)) % (6 : Int32))), .val (.ref w_LESS_OR_EQUAL), .val (.int (x0_1 ||| (-2147483648 : Int32))), .unset, .unset, .unset, .unset] [(.int x0_2)])) _
            refine X1.ldcInt hx hown (mvT hZ (hw _ (List.mem_of_getElem? (i := 0) rfl))) (g := (mkF m 21 #[.val (.int x0_0), .val (.int x0_1), .val (.int x0_2), .val (.int ((x0_0 &&& (2147483647 : Int32)) % (6 : Int32))), .val (.ref w_LESS_OR_EQUAL), .val (.int (x0_1 ||| (-2147483648 : Int32))), .unset, .unset, .unset, .unset] [(.int x0_2)])) rfl (hb hby at_21) _ ?_
            show Steps p.tables e below (T1.setTop (mkF m 23 #[.val (.int x0_0), .val (.int x0_1), .val (.int x0_2), .val (.int ((x0_0 &&& (2147483647 : Int32)) % (6 : Int32))), .val (.ref w_LESS_OR_EQUAL), .val (.int (x0_1 ||| (-2147483648 : Int32))), .unset, .unset, .unset, .unset] [(.int (2147483647 : Int32)), (.int x0_2)])) _
            refine XS.iand X1.here hx rfl (hb hby at_23) rfl ?_
            show Steps p.tables e below (T1.setTop (mkF m 24 #[.val (.int x0_0), .val (.int x0_1), .val (.int x0_2), .val (.int ((x0_0 &&& (2147483647 : Int32)) % (6 : Int32))), .val (.ref w_LESS_OR_EQUAL), .val (.int (x0_1 ||| (-2147483648 : Int32))), .unset, .unset, .unset, .unset] [(.int (x0_2 &&& (2147483647 : Int32)))])) _
            refine XS.iconst X1.here hx rfl (hb hby at_24) ?_
            show Steps p.tables e below (T1.setTop (mkF m 25 #[.val (.int x0_0), .val (.int x0_1), .val (.int x0_2), .val (.int ((x0_0 &&& (2147483647 : Int32)) % (6 : Int32))), .val (.ref w_LESS_OR_EQUAL), .val (.int (x0_1 ||| (-2147483648 : Int32))), .unset, .unset, .unset, .unset] [(.int (1 : Int32)), (.int (x0_2 &&& (2147483647 : Int32)))])) _
            refine XS.ior X1.here hx rfl (hb hby at_25) rfl ?_
            show Steps p.tables e below (T1.setTop (mkF m 26 #[.val (.int x0_0), .val (.int x0_1), .val (.int x0_2), .val (.int ((x0_0 &&& (2147483647 : Int32)) % (6 : Int32))), .val (.ref w_LESS_OR_EQUAL), .val (.int (x0_1 ||| (-2147483648 : Int32))), .unset, .unset, .unset, .unset] [(.int ((x0_2 &&& (2147483647 : Int32)) ||| (1 : Int32)))])) _
            refine XS.istore X1.here hx rfl (hb hby at_26) rfl (l' := #[.val (.int x0_0), .val (.int x0_1), .val (.int x0_2), .val (.int ((x0_0 &&& (2147483647 : Int32)) % (6 : Int32))), .val (.ref w_LESS_OR_EQUAL), .val (.int (x0_1 ||| (-2147483648 : Int32))), .val (.int ((x0_2 &&& (2147483647 : Int32)) ||| (1 : Int32))), .unset, .unset, .unset]) rfl ?_
            show Steps p.tables e below (T1.setTop (mkF m 28 #[.val (.int x0_0), .val (.int x0_1), .val (.int x0_2), .val (.int ((x0_0 &&& (2147483647 : Int32)) % (6 : Int32))), .val (.ref w_LESS_OR_EQUAL), .val (.int (x0_1 ||| (-2147483648 : Int32))), .val (.int ((x0_2 &&& (2147483647 : Int32)) ||| (1 : Int32))), .unset, .unset, .unset] [])) _
            refine XS.aload X1.here hx rfl (hb hby at_28) rfl rfl ?_
            exact kt
          obtain ⟨cq25, kq25, q25a, q25b, q25c⟩ := isOf hZ e1 (W.2.2.2.2.2.2.2.2.2.1)
          obtain ⟨v25, _, ⟨T25, L25, k25, n25⟩, -, X25, ⟨Lc25, hQ25, l25, y25, z25⟩, st25⟩ := X1.virtualBack hx (y := (⟨"com/example/unit_of_work/unitofwork/Condition$Operator", "orders", "()Z"⟩ : MethodName)) (z := (⟨"com/example/unit_of_work/unitofwork/Condition$Operator", "orders", "()Z"⟩ : MethodName)) hown (mvT hZ (hw _ (List.mem_of_getElem? (i := 9) rfl))) (mvT hZ (hw _ (List.mem_of_getElem? (i := 10) rfl))) (notFace_of_selects (args := #[]) (mvT hZ (hw _ (List.mem_of_getElem? (i := 12) rfl)))) (mvT hZ (hw _ (List.mem_of_getElem? (i := 12) rfl))) (mvT hZ (hw _ (List.mem_of_getElem? (i := 11) rfl))) (by decide) (backOf (W := 0) (rm2 l Z a0 hw [] w_LESS_OR_EQUAL w_EQUAL w_NOT_EQUAL w_LESS_THAN w_LESS_OR_EQUAL w_GREATER_THAN w_GREATER_OR_EQUAL h0 n0 Z0 W) hZ (hw _ (List.mem_of_getElem? (i := 13) rfl)) (hw _ (List.mem_of_getElem? (i := 6) rfl)) (by decide) (by decide)) q25a q25c (g := (mkF m 30 #[.val (.int x0_0), .val (.int x0_1), .val (.int x0_2), .val (.int ((x0_0 &&& (2147483647 : Int32)) % (6 : Int32))), .val (.ref w_LESS_OR_EQUAL), .val (.int (x0_1 ||| (-2147483648 : Int32))), .val (.int ((x0_2 &&& (2147483647 : Int32)) ||| (1 : Int32))), .unset, .unset, .unset] [(.ref w_LESS_OR_EQUAL)])) rfl (by rw [hml]; rfl) (Steps.refl _) (argsL := []) (rest := []) (lenOf pd_2 rfl) rfl (by show 2 * 0 + _ ≤ _; exact Nat.le_of_eq rfl) (hb hby at_30) (fun _ _ => ⟨rfl, e1, (by decide : 0 + 0 ≤ _), (by decide : 0 + 0 ≤ _)⟩)
          dsimp only [Pt.U, Pt.locs, Pt.cells, Pt.slots] at X25 l25 y25 z25 st25 hQ25
          subst l25 y25 z25
          obtain ⟨hv25, N25q, e25⟩ := hQ25
          have N25 := Fr.app N1 N25q
          have hf25 : f2 w_LESS_OR_EQUAL w_EQUAL w_NOT_EQUAL w_LESS_THAN w_LESS_OR_EQUAL w_GREATER_THAN w_GREATER_OR_EQUAL = (1 : Int32) := by unfold f2; rw [if_neg (Fld.ne (W.2.2.2.2.2.2.2.2.2.2.2.2.2.2.2.1) (W.2.2.2.2.2.2.2.2.2.2.2.2.1) (by decide) : ¬ (w_LESS_OR_EQUAL = w_EQUAL)), if_neg (Fld.ne (W.2.2.2.2.2.2.2.2.2.2.2.2.2.2.2.1) (W.2.2.2.2.2.2.2.2.2.2.2.2.2.1) (by decide) : ¬ (w_LESS_OR_EQUAL = w_NOT_EQUAL))]
          rw [hf25] at hv25
          subst hv25
          have sg28 : ∀ t, Steps p.tables e below (T25.setTop (mkF m 39 #[.val (.int x0_0), .val (.int x0_1), .val (.int x0_2), .val (.int ((x0_0 &&& (2147483647 : Int32)) % (6 : Int32))), .val (.ref w_LESS_OR_EQUAL), .val (.int (x0_1 ||| (-2147483648 : Int32))), .val (.int ((x0_2 &&& (2147483647 : Int32)) ||| (1 : Int32))), .val (.int (1 : Int32)), .unset, .unset] [(.int (x0_1 ||| (-2147483648 : Int32))), (.ref w_LESS_OR_EQUAL)])) t → Steps p.tables e below (T1.setTop (mkF m 30 #[.val (.int x0_0), .val (.int x0_1), .val (.int x0_2), .val (.int ((x0_0 &&& (2147483647 : Int32)) % (6 : Int32))), .val (.ref w_LESS_OR_EQUAL), .val (.int (x0_1 ||| (-2147483648 : Int32))), .val (.int ((x0_2 &&& (2147483647 : Int32)) ||| (1 : Int32))), .unset, .unset, .unset] [(.ref w_LESS_OR_EQUAL)])) t := fun t kt => by
            show Steps p.tables e below (T1.setTop (mkF m 30 #[.val (.int x0_0), .val (.int x0_1), .val (.int x0_2), .val (.int ((x0_0 &&& (2147483647 : Int32)) % (6 : Int32))), .val (.ref w_LESS_OR_EQUAL), .val (.int (x0_1 ||| (-2147483648 : Int32))), .val (.int ((x0_2 &&& (2147483647 : Int32)) ||| (1 : Int32))), .unset, .unset, .unset] [(.ref w_LESS_OR_EQUAL)])) _
            refine st25.trans ?_
            show Steps p.tables e below (T25.setTop (mkF m 33 #[.val (.int x0_0), .val (.int x0_1), .val (.int x0_2), .val (.int ((x0_0 &&& (2147483647 : Int32)) % (6 : Int32))), .val (.ref w_LESS_OR_EQUAL), .val (.int (x0_1 ||| (-2147483648 : Int32))), .val (.int ((x0_2 &&& (2147483647 : Int32)) ||| (1 : Int32))), .unset, .unset, .unset] [(.int (1 : Int32))])) _
            refine XS.istore X25.here hx rfl (hb hby at_33) rfl (l' := #[.val (.int x0_0), .val (.int x0_1), .val (.int x0_2), .val (.int ((x0_0 &&& (2147483647 : Int32)) % (6 : Int32))), .val (.ref w_LESS_OR_EQUAL), .val (.int (x0_1 ||| (-2147483648 : Int32))), .val (.int ((x0_2 &&& (2147483647 : Int32)) ||| (1 : Int32))), .val (.int (1 : Int32)), .unset, .unset]) rfl ?_
            show Steps p.tables e below (T25.setTop (mkF m 35 #[.val (.int x0_0), .val (.int x0_1), .val (.int x0_2), .val (.int ((x0_0 &&& (2147483647 : Int32)) % (6 : Int32))), .val (.ref w_LESS_OR_EQUAL), .val (.int (x0_1 ||| (-2147483648 : Int32))), .val (.int ((x0_2 &&& (2147483647 : Int32)) ||| (1 : Int32))), .val (.int (1 : Int32)), .unset, .unset] [])) _
            refine XS.aload X25.here hx rfl (hb hby at_35) rfl rfl ?_
            show Steps p.tables e below (T25.setTop (mkF m 37 #[.val (.int x0_0), .val (.int x0_1), .val (.int x0_2), .val (.int ((x0_0 &&& (2147483647 : Int32)) % (6 : Int32))), .val (.ref w_LESS_OR_EQUAL), .val (.int (x0_1 ||| (-2147483648 : Int32))), .val (.int ((x0_2 &&& (2147483647 : Int32)) ||| (1 : Int32))), .val (.int (1 : Int32)), .unset, .unset] [(.ref w_LESS_OR_EQUAL)])) _
            refine XS.iload X25.here hx rfl (hb hby at_37) rfl ?_
            exact kt
          obtain ⟨cq27, kq27, q27a, q27b, q27c⟩ := isOf hZ e25 (W.2.2.2.2.2.2.2.2.2.1)
          obtain ⟨v27, _, ⟨T27, L27, k27, n27⟩, -, X27, ⟨Lc27, hQ27, l27, y27, z27⟩, st27⟩ := X25.virtualBack hx (y := (⟨"com/example/unit_of_work/unitofwork/Condition$Operator", "holds", "(I)Z"⟩ : MethodName)) (z := (⟨"com/example/unit_of_work/unitofwork/Condition$Operator", "holds", "(I)Z"⟩ : MethodName)) hown (mvT hZ (hw _ (List.mem_of_getElem? (i := 15) rfl))) (mvT hZ (hw _ (List.mem_of_getElem? (i := 16) rfl))) (notFace_of_selects (args := #[]) (mvT hZ (hw _ (List.mem_of_getElem? (i := 18) rfl)))) (mvT hZ (hw _ (List.mem_of_getElem? (i := 18) rfl))) (mvT hZ (hw _ (List.mem_of_getElem? (i := 17) rfl))) (by decide) (backOf (W := 0) (rm3 l Z a0 hw [] w_LESS_OR_EQUAL (x0_1 ||| (-2147483648 : Int32)) w_EQUAL w_NOT_EQUAL w_LESS_THAN w_LESS_OR_EQUAL w_GREATER_THAN w_GREATER_OR_EQUAL (3 : Int32) h0 n0 Z0 W (W.2.2.2.2.2.2.2.2.2.2.2.2.2.2.2.1) (W.2.2.2.2.2.2.2.2.2.1) (by decide)) hZ (hw _ (List.mem_of_getElem? (i := 19) rfl)) (hw _ (List.mem_of_getElem? (i := 6) rfl)) (by decide) (by decide)) q27a q27c (g := (mkF m 39 #[.val (.int x0_0), .val (.int x0_1), .val (.int x0_2), .val (.int ((x0_0 &&& (2147483647 : Int32)) % (6 : Int32))), .val (.ref w_LESS_OR_EQUAL), .val (.int (x0_1 ||| (-2147483648 : Int32))), .val (.int ((x0_2 &&& (2147483647 : Int32)) ||| (1 : Int32))), .val (.int (1 : Int32)), .unset, .unset] [(.int (x0_1 ||| (-2147483648 : Int32))), (.ref w_LESS_OR_EQUAL)])) rfl (by rw [hml]; rfl) (Steps.refl _) (argsL := [(.int (x0_1 ||| (-2147483648 : Int32)))]) (rest := []) (lenOf pd_3 rfl) rfl (by show 2 * 0 + _ ≤ _; exact Nat.le_of_eq rfl) (hb hby at_39) (fun _ _ => ⟨rfl, e25, (by decide : 0 + 0 ≤ _), (by decide : 0 + 0 ≤ _)⟩)
          dsimp only [Pt.U, Pt.locs, Pt.cells, Pt.slots] at X27 l27 y27 z27 st27 hQ27
          subst l27 y27 z27
          obtain ⟨hv27, N27q, e27⟩ := hQ27
          have N27 := Fr.app N25 N27q
          have hf27 : f3 w_LESS_OR_EQUAL (x0_1 ||| (-2147483648 : Int32)) w_EQUAL w_NOT_EQUAL w_LESS_THAN w_LESS_OR_EQUAL w_GREATER_THAN w_GREATER_OR_EQUAL (3 : Int32) = (1 : Int32) := by unfold f3; rw [if_neg (by decide : ¬ ((3 : Int32) = (0 : Int32))), if_neg (by decide : ¬ ((3 : Int32) = (1 : Int32))), if_neg (by decide : ¬ ((3 : Int32) = (2 : Int32))), if_pos (by decide : ((3 : Int32) = (3 : Int32))), if_neg (own_ne2 x0_1)]
          rw [hf27] at hv27
          subst hv27
          have sg30 : ∀ t, Steps p.tables e below (T27.setTop (mkF m 46 #[.val (.int x0_0), .val (.int x0_1), .val (.int x0_2), .val (.int ((x0_0 &&& (2147483647 : Int32)) % (6 : Int32))), .val (.ref w_LESS_OR_EQUAL), .val (.int (x0_1 ||| (-2147483648 : Int32))), .val (.int ((x0_2 &&& (2147483647 : Int32)) ||| (1 : Int32))), .val (.int (1 : Int32)), .unset, .unset] [(.int ((x0_2 &&& (2147483647 : Int32)) ||| (1 : Int32))), (.ref w_LESS_OR_EQUAL), (.int (1 : Int32))])) t → Steps p.tables e below (T25.setTop (mkF m 39 #[.val (.int x0_0), .val (.int x0_1), .val (.int x0_2), .val (.int ((x0_0 &&& (2147483647 : Int32)) % (6 : Int32))), .val (.ref w_LESS_OR_EQUAL), .val (.int (x0_1 ||| (-2147483648 : Int32))), .val (.int ((x0_2 &&& (2147483647 : Int32)) ||| (1 : Int32))), .val (.int (1 : Int32)), .unset, .unset] [(.int (x0_1 ||| (-2147483648 : Int32))), (.ref w_LESS_OR_EQUAL)])) t := fun t kt => by
            show Steps p.tables e below (T25.setTop (mkF m 39 #[.val (.int x0_0), .val (.int x0_1), .val (.int x0_2), .val (.int ((x0_0 &&& (2147483647 : Int32)) % (6 : Int32))), .val (.ref w_LESS_OR_EQUAL), .val (.int (x0_1 ||| (-2147483648 : Int32))), .val (.int ((x0_2 &&& (2147483647 : Int32)) ||| (1 : Int32))), .val (.int (1 : Int32)), .unset, .unset] [(.int (x0_1 ||| (-2147483648 : Int32))), (.ref w_LESS_OR_EQUAL)])) _
            refine st27.trans ?_
            show Steps p.tables e below (T27.setTop (mkF m 42 #[.val (.int x0_0), .val (.int x0_1), .val (.int x0_2), .val (.int ((x0_0 &&& (2147483647 : Int32)) % (6 : Int32))), .val (.ref w_LESS_OR_EQUAL), .val (.int (x0_1 ||| (-2147483648 : Int32))), .val (.int ((x0_2 &&& (2147483647 : Int32)) ||| (1 : Int32))), .val (.int (1 : Int32)), .unset, .unset] [(.int (1 : Int32))])) _
            refine XS.aload X27.here hx rfl (hb hby at_42) rfl rfl ?_
            show Steps p.tables e below (T27.setTop (mkF m 44 #[.val (.int x0_0), .val (.int x0_1), .val (.int x0_2), .val (.int ((x0_0 &&& (2147483647 : Int32)) % (6 : Int32))), .val (.ref w_LESS_OR_EQUAL), .val (.int (x0_1 ||| (-2147483648 : Int32))), .val (.int ((x0_2 &&& (2147483647 : Int32)) ||| (1 : Int32))), .val (.int (1 : Int32)), .unset, .unset] [(.ref w_LESS_OR_EQUAL), (.int (1 : Int32))])) _
            refine XS.iload X27.here hx rfl (hb hby at_44) rfl ?_
            exact kt
          obtain ⟨cq29, kq29, q29a, q29b, q29c⟩ := isOf hZ e27 (W.2.2.2.2.2.2.2.2.2.1)
          obtain ⟨v29, _, ⟨T29, L29, k29, n29⟩, -, X29, ⟨Lc29, hQ29, l29, y29, z29⟩, st29⟩ := X27.virtualBack hx (y := (⟨"com/example/unit_of_work/unitofwork/Condition$Operator", "holds", "(I)Z"⟩ : MethodName)) (z := (⟨"com/example/unit_of_work/unitofwork/Condition$Operator", "holds", "(I)Z"⟩ : MethodName)) hown (mvT hZ (hw _ (List.mem_of_getElem? (i := 15) rfl))) (mvT hZ (hw _ (List.mem_of_getElem? (i := 16) rfl))) (notFace_of_selects (args := #[]) (mvT hZ (hw _ (List.mem_of_getElem? (i := 18) rfl)))) (mvT hZ (hw _ (List.mem_of_getElem? (i := 18) rfl))) (mvT hZ (hw _ (List.mem_of_getElem? (i := 17) rfl))) (by decide) (backOf (W := 1) (rm3 l Z a0 hw [] w_LESS_OR_EQUAL ((x0_2 &&& (2147483647 : Int32)) ||| (1 : Int32)) w_EQUAL w_NOT_EQUAL w_LESS_THAN w_LESS_OR_EQUAL w_GREATER_THAN w_GREATER_OR_EQUAL (3 : Int32) h0 n0 Z0 W (W.2.2.2.2.2.2.2.2.2.2.2.2.2.2.2.1) (W.2.2.2.2.2.2.2.2.2.1) (by decide)) hZ (hw _ (List.mem_of_getElem? (i := 19) rfl)) (hw _ (List.mem_of_getElem? (i := 6) rfl)) (by decide) (by decide)) q29a q29c (g := (mkF m 46 #[.val (.int x0_0), .val (.int x0_1), .val (.int x0_2), .val (.int ((x0_0 &&& (2147483647 : Int32)) % (6 : Int32))), .val (.ref w_LESS_OR_EQUAL), .val (.int (x0_1 ||| (-2147483648 : Int32))), .val (.int ((x0_2 &&& (2147483647 : Int32)) ||| (1 : Int32))), .val (.int (1 : Int32)), .unset, .unset] [(.int ((x0_2 &&& (2147483647 : Int32)) ||| (1 : Int32))), (.ref w_LESS_OR_EQUAL), (.int (1 : Int32))])) rfl (by rw [hml]; rfl) (Steps.refl _) (argsL := [(.int ((x0_2 &&& (2147483647 : Int32)) ||| (1 : Int32)))]) (rest := [(.int (1 : Int32))]) (lenOf pd_3 rfl) rfl (by show 2 * 0 + _ ≤ _; exact Nat.le_of_eq rfl) (hb hby at_46) (fun _ _ => ⟨rfl, e27, (by decide : 0 + 0 ≤ _), (by decide : 0 + 0 ≤ _)⟩)
          dsimp only [Pt.U, Pt.locs, Pt.cells, Pt.slots] at X29 l29 y29 z29 st29 hQ29
          subst l29 y29 z29
          obtain ⟨hv29, N29q, e29⟩ := hQ29
          have N29 := Fr.app N27 N29q
          have hf29 : f3 w_LESS_OR_EQUAL ((x0_2 &&& (2147483647 : Int32)) ||| (1 : Int32)) w_EQUAL w_NOT_EQUAL w_LESS_THAN w_LESS_OR_EQUAL w_GREATER_THAN w_GREATER_OR_EQUAL (3 : Int32) = (0 : Int32) := by unfold f3; rw [if_neg (by decide : ¬ ((3 : Int32) = (0 : Int32))), if_neg (by decide : ¬ ((3 : Int32) = (1 : Int32))), if_neg (by decide : ¬ ((3 : Int32) = (2 : Int32))), if_pos (by decide : ((3 : Int32) = (3 : Int32))), if_pos (own_pos x0_2)]
          rw [hf29] at hv29
          subst hv29
          obtain ⟨fs, hr, hrun, hended, hW, hsame⟩ := X29.leave (v := some (.int (1 : Int32))) (fun h => by rw [Bd.returns] at h; cases h)
          refine ⟨_, _, pre0 _ (sg2 _ (sg26 _ (sg28 _ (sg30 _ ?_)))), hrun, hended, _, _, rfl, ?_, ⟨_, rfl⟩, hW, hsame.mono (by decide) (by decide)⟩
          · show Steps p.tables e below (T27.setTop (mkF m 46 #[.val (.int x0_0), .val (.int x0_1), .val (.int x0_2), .val (.int ((x0_0 &&& (2147483647 : Int32)) % (6 : Int32))), .val (.ref w_LESS_OR_EQUAL), .val (.int (x0_1 ||| (-2147483648 : Int32))), .val (.int ((x0_2 &&& (2147483647 : Int32)) ||| (1 : Int32))), .val (.int (1 : Int32)), .unset, .unset] [(.int ((x0_2 &&& (2147483647 : Int32)) ||| (1 : Int32))), (.ref w_LESS_OR_EQUAL), (.int (1 : Int32))])) _
            refine st29.trans ?_
            show Steps p.tables e below (T29.setTop (mkF m 49 #[.val (.int x0_0), .val (.int x0_1), .val (.int x0_2), .val (.int ((x0_0 &&& (2147483647 : Int32)) % (6 : Int32))), .val (.ref w_LESS_OR_EQUAL), .val (.int (x0_1 ||| (-2147483648 : Int32))), .val (.int ((x0_2 &&& (2147483647 : Int32)) ||| (1 : Int32))), .val (.int (1 : Int32)), .unset, .unset] [(.int (0 : Int32)), (.int (1 : Int32))])) _
            refine XS.icmpNo X29.here hx rfl (hb hby at_49) rfl (feq (by decide : ¬ ((1 : Int32) = (0 : Int32)))).1 ?_
            show Steps p.tables e below (T29.setTop (mkF m 52 #[.val (.int x0_0), .val (.int x0_1), .val (.int x0_2), .val (.int ((x0_0 &&& (2147483647 : Int32)) % (6 : Int32))), .val (.ref w_LESS_OR_EQUAL), .val (.int (x0_1 ||| (-2147483648 : Int32))), .val (.int ((x0_2 &&& (2147483647 : Int32)) ||| (1 : Int32))), .val (.int (1 : Int32)), .unset, .unset] [])) _
            refine XS.iconst X29.here hx rfl (hb hby at_52) ?_
            show Steps p.tables e below (T29.setTop (mkF m 53 #[.val (.int x0_0), .val (.int x0_1), .val (.int x0_2), .val (.int ((x0_0 &&& (2147483647 : Int32)) % (6 : Int32))), .val (.ref w_LESS_OR_EQUAL), .val (.int (x0_1 ||| (-2147483648 : Int32))), .val (.int ((x0_2 &&& (2147483647 : Int32)) ||| (1 : Int32))), .val (.int (1 : Int32)), .unset, .unset] [(.int (1 : Int32))])) _
            refine XS.goto X29.here hx rfl (pc0 := 53) (pc' := 57) rfl (hb hby at_53) (by decide) (by decide) ?_
            show Steps p.tables e below (T29.setTop (mkF m 57 #[.val (.int x0_0), .val (.int x0_1), .val (.int x0_2), .val (.int ((x0_0 &&& (2147483647 : Int32)) % (6 : Int32))), .val (.ref w_LESS_OR_EQUAL), .val (.int (x0_1 ||| (-2147483648 : Int32))), .val (.int ((x0_2 &&& (2147483647 : Int32)) ||| (1 : Int32))), .val (.int (1 : Int32)), .unset, .unset] [(.int (1 : Int32))])) _
            refine XS.istore X29.here hx rfl (hb hby at_57) rfl (l' := #[.val (.int x0_0), .val (.int x0_1), .val (.int x0_2), .val (.int ((x0_0 &&& (2147483647 : Int32)) % (6 : Int32))), .val (.ref w_LESS_OR_EQUAL), .val (.int (x0_1 ||| (-2147483648 : Int32))), .val (.int ((x0_2 &&& (2147483647 : Int32)) ||| (1 : Int32))), .val (.int (1 : Int32)), .val (.int (1 : Int32)), .unset]) rfl ?_
            show Steps p.tables e below (T29.setTop (mkF m 59 #[.val (.int x0_0), .val (.int x0_1), .val (.int x0_2), .val (.int ((x0_0 &&& (2147483647 : Int32)) % (6 : Int32))), .val (.ref w_LESS_OR_EQUAL), .val (.int (x0_1 ||| (-2147483648 : Int32))), .val (.int ((x0_2 &&& (2147483647 : Int32)) ||| (1 : Int32))), .val (.int (1 : Int32)), .val (.int (1 : Int32)), .unset] [])) _
            refine XS.iloadN X29.here hx rfl (hb hby at_59) rfl ?_
            show Steps p.tables e below (T29.setTop (mkF m 60 #[.val (.int x0_0), .val (.int x0_1), .val (.int x0_2), .val (.int ((x0_0 &&& (2147483647 : Int32)) % (6 : Int32))), .val (.ref w_LESS_OR_EQUAL), .val (.int (x0_1 ||| (-2147483648 : Int32))), .val (.int ((x0_2 &&& (2147483647 : Int32)) ||| (1 : Int32))), .val (.int (1 : Int32)), .val (.int (1 : Int32)), .unset] [(.int ((x0_0 &&& (2147483647 : Int32)) % (6 : Int32)))])) _
            refine XS.iconst X29.here hx rfl (hb hby at_60) ?_
            show Steps p.tables e below (T29.setTop (mkF m 61 #[.val (.int x0_0), .val (.int x0_1), .val (.int x0_2), .val (.int ((x0_0 &&& (2147483647 : Int32)) % (6 : Int32))), .val (.ref w_LESS_OR_EQUAL), .val (.int (x0_1 ||| (-2147483648 : Int32))), .val (.int ((x0_2 &&& (2147483647 : Int32)) ||| (1 : Int32))), .val (.int (1 : Int32)), .val (.int (1 : Int32)), .unset] [(.int (2 : Int32)), (.int ((x0_0 &&& (2147483647 : Int32)) % (6 : Int32)))])) _
            refine XS.icmpNo X29.here hx rfl (hb hby at_61) rfl (flt (by rw [hs9_24]; decide : ¬ (((x0_0 &&& (2147483647 : Int32)) % (6 : Int32)) < (2 : Int32)))).1 ?_
            show Steps p.tables e below (T29.setTop (mkF m 64 #[.val (.int x0_0), .val (.int x0_1), .val (.int x0_2), .val (.int ((x0_0 &&& (2147483647 : Int32)) % (6 : Int32))), .val (.ref w_LESS_OR_EQUAL), .val (.int (x0_1 ||| (-2147483648 : Int32))), .val (.int ((x0_2 &&& (2147483647 : Int32)) ||| (1 : Int32))), .val (.int (1 : Int32)), .val (.int (1 : Int32)), .unset] [])) _
            refine XS.iconst X29.here hx rfl (hb hby at_64) ?_
            show Steps p.tables e below (T29.setTop (mkF m 65 #[.val (.int x0_0), .val (.int x0_1), .val (.int x0_2), .val (.int ((x0_0 &&& (2147483647 : Int32)) % (6 : Int32))), .val (.ref w_LESS_OR_EQUAL), .val (.int (x0_1 ||| (-2147483648 : Int32))), .val (.int ((x0_2 &&& (2147483647 : Int32)) ||| (1 : Int32))), .val (.int (1 : Int32)), .val (.int (1 : Int32)), .unset] [(.int (1 : Int32))])) _
            refine XS.goto X29.here hx rfl (pc0 := 65) (pc' := 69) rfl (hb hby at_65) (by decide) (by decide) ?_
            show Steps p.tables e below (T29.setTop (mkF m 69 #[.val (.int x0_0), .val (.int x0_1), .val (.int x0_2), .val (.int ((x0_0 &&& (2147483647 : Int32)) % (6 : Int32))), .val (.ref w_LESS_OR_EQUAL), .val (.int (x0_1 ||| (-2147483648 : Int32))), .val (.int ((x0_2 &&& (2147483647 : Int32)) ||| (1 : Int32))), .val (.int (1 : Int32)), .val (.int (1 : Int32)), .unset] [(.int (1 : Int32))])) _
            refine XS.istore X29.here hx rfl (hb hby at_69) rfl (l' := #[.val (.int x0_0), .val (.int x0_1), .val (.int x0_2), .val (.int ((x0_0 &&& (2147483647 : Int32)) % (6 : Int32))), .val (.ref w_LESS_OR_EQUAL), .val (.int (x0_1 ||| (-2147483648 : Int32))), .val (.int ((x0_2 &&& (2147483647 : Int32)) ||| (1 : Int32))), .val (.int (1 : Int32)), .val (.int (1 : Int32)), .val (.int (1 : Int32))]) rfl ?_
            show Steps p.tables e below (T29.setTop (mkF m 71 #[.val (.int x0_0), .val (.int x0_1), .val (.int x0_2), .val (.int ((x0_0 &&& (2147483647 : Int32)) % (6 : Int32))), .val (.ref w_LESS_OR_EQUAL), .val (.int (x0_1 ||| (-2147483648 : Int32))), .val (.int ((x0_2 &&& (2147483647 : Int32)) ||| (1 : Int32))), .val (.int (1 : Int32)), .val (.int (1 : Int32)), .val (.int (1 : Int32))] [])) _
            refine XS.iload X29.here hx rfl (hb hby at_71) rfl ?_
            show Steps p.tables e below (T29.setTop (mkF m 73 #[.val (.int x0_0), .val (.int x0_1), .val (.int x0_2), .val (.int ((x0_0 &&& (2147483647 : Int32)) % (6 : Int32))), .val (.ref w_LESS_OR_EQUAL), .val (.int (x0_1 ||| (-2147483648 : Int32))), .val (.int ((x0_2 &&& (2147483647 : Int32)) ||| (1 : Int32))), .val (.int (1 : Int32)), .val (.int (1 : Int32)), .val (.int (1 : Int32))] [(.int (1 : Int32))])) _
            refine XS.iload X29.here hx rfl (hb hby at_73) rfl ?_
            show Steps p.tables e below (T29.setTop (mkF m 75 #[.val (.int x0_0), .val (.int x0_1), .val (.int x0_2), .val (.int ((x0_0 &&& (2147483647 : Int32)) % (6 : Int32))), .val (.ref w_LESS_OR_EQUAL), .val (.int (x0_1 ||| (-2147483648 : Int32))), .val (.int ((x0_2 &&& (2147483647 : Int32)) ||| (1 : Int32))), .val (.int (1 : Int32)), .val (.int (1 : Int32)), .val (.int (1 : Int32))] [(.int (1 : Int32)), (.int (1 : Int32))])) _
            refine XS.icmpNo X29.here hx rfl (hb hby at_75) rfl (teq (by decide : ((1 : Int32) = (1 : Int32)))).2 ?_
            show Steps p.tables e below (T29.setTop (mkF m 78 #[.val (.int x0_0), .val (.int x0_1), .val (.int x0_2), .val (.int ((x0_0 &&& (2147483647 : Int32)) % (6 : Int32))), .val (.ref w_LESS_OR_EQUAL), .val (.int (x0_1 ||| (-2147483648 : Int32))), .val (.int ((x0_2 &&& (2147483647 : Int32)) ||| (1 : Int32))), .val (.int (1 : Int32)), .val (.int (1 : Int32)), .val (.int (1 : Int32))] [])) _
            refine XS.iload X29.here hx rfl (hb hby at_78) rfl ?_
            show Steps p.tables e below (T29.setTop (mkF m 80 #[.val (.int x0_0), .val (.int x0_1), .val (.int x0_2), .val (.int ((x0_0 &&& (2147483647 : Int32)) % (6 : Int32))), .val (.ref w_LESS_OR_EQUAL), .val (.int (x0_1 ||| (-2147483648 : Int32))), .val (.int ((x0_2 &&& (2147483647 : Int32)) ||| (1 : Int32))), .val (.int (1 : Int32)), .val (.int (1 : Int32)), .val (.int (1 : Int32))] [(.int (1 : Int32))])) _
            refine XS.iload X29.here hx rfl (hb hby at_80) rfl ?_
            show Steps p.tables e below (T29.setTop (mkF m 82 #[.val (.int x0_0), .val (.int x0_1), .val (.int x0_2), .val (.int ((x0_0 &&& (2147483647 : Int32)) % (6 : Int32))), .val (.ref w_LESS_OR_EQUAL), .val (.int (x0_1 ||| (-2147483648 : Int32))), .val (.int ((x0_2 &&& (2147483647 : Int32)) ||| (1 : Int32))), .val (.int (1 : Int32)), .val (.int (1 : Int32)), .val (.int (1 : Int32))] [(.int (1 : Int32)), (.int (1 : Int32))])) _
            refine XS.icmpNo X29.here hx rfl (hb hby at_82) rfl (teq (by decide : ((1 : Int32) = (1 : Int32)))).2 ?_
            show Steps p.tables e below (T29.setTop (mkF m 85 #[.val (.int x0_0), .val (.int x0_1), .val (.int x0_2), .val (.int ((x0_0 &&& (2147483647 : Int32)) % (6 : Int32))), .val (.ref w_LESS_OR_EQUAL), .val (.int (x0_1 ||| (-2147483648 : Int32))), .val (.int ((x0_2 &&& (2147483647 : Int32)) ||| (1 : Int32))), .val (.int (1 : Int32)), .val (.int (1 : Int32)), .val (.int (1 : Int32))] [])) _
            refine XS.iconst X29.here hx rfl (hb hby at_85) ?_
            show Steps p.tables e below (T29.setTop (mkF m 86 #[.val (.int x0_0), .val (.int x0_1), .val (.int x0_2), .val (.int ((x0_0 &&& (2147483647 : Int32)) % (6 : Int32))), .val (.ref w_LESS_OR_EQUAL), .val (.int (x0_1 ||| (-2147483648 : Int32))), .val (.int ((x0_2 &&& (2147483647 : Int32)) ||| (1 : Int32))), .val (.int (1 : Int32)), .val (.int (1 : Int32)), .val (.int (1 : Int32))] [(.int (1 : Int32))])) _
            refine XS.goto X29.here hx rfl (pc0 := 86) (pc' := 90) rfl (hb hby at_86) (by decide) (by decide) ?_
            show Steps p.tables e below (T29.setTop (mkF m 90 #[.val (.int x0_0), .val (.int x0_1), .val (.int x0_2), .val (.int ((x0_0 &&& (2147483647 : Int32)) % (6 : Int32))), .val (.ref w_LESS_OR_EQUAL), .val (.int (x0_1 ||| (-2147483648 : Int32))), .val (.int ((x0_2 &&& (2147483647 : Int32)) ||| (1 : Int32))), .val (.int (1 : Int32)), .val (.int (1 : Int32)), .val (.int (1 : Int32))] [(.int (1 : Int32))])) _
            exact retN X29 hx (t := .boolean) Bd.returns (by simp) (hb hby at_90) hr
          · exact ⟨congrArg (fun z => some (Value.int z)) (show (1 : Int32) = f0 x0_0 x0_1 x0_2 w_EQUAL w_NOT_EQUAL w_LESS_THAN w_LESS_OR_EQUAL w_GREATER_THAN w_GREATER_OR_EQUAL from by unfold f0; rw [if_neg hs9_3, if_neg hs9_10, if_neg hs9_17, if_pos hs9_24]), N29, e29⟩
        · by_cases hs9_31 : ((x0_0 &&& (2147483647 : Int32)) % (6 : Int32)) = (4 : Int32)
          · have hf1 : f1 ((x0_0 &&& (2147483647 : Int32)) % (6 : Int32)) w_EQUAL w_NOT_EQUAL w_LESS_THAN w_LESS_OR_EQUAL w_GREATER_THAN w_GREATER_OR_EQUAL = w_GREATER_THAN := by unfold f1; rw [if_neg hs9_3, if_neg hs9_10, if_neg hs9_17, if_neg hs9_24, if_pos hs9_31]
            rw [hf1] at hv1
            subst hv1
            have sg33 : ∀ t, Steps p.tables e below (T1.setTop (mkF m 30 #[.val (.int x0_0), .val (.int x0_1), .val (.int x0_2), .val (.int ((x0_0 &&& (2147483647 : Int32)) % (6 : Int32))), .val (.ref w_GREATER_THAN), .val (.int (x0_1 ||| (-2147483648 : Int32))), .val (.int ((x0_2 &&& (2147483647 : Int32)) ||| (1 : Int32))), .unset, .unset, .unset] [(.ref w_GREATER_THAN)])) t → Steps p.tables e below (s₁.setTop (mkF m 9 #[.val (.int x0_0), .val (.int x0_1), .val (.int x0_2), .val (.int ((x0_0 &&& (2147483647 : Int32)) % (6 : Int32))), .unset, .unset, .unset, .unset, .unset, .unset] [(.int ((x0_0 &&& (2147483647 : Int32)) % (6 : Int32)))])) t := fun t kt => by
              show Steps p.tables e below (s₁.setTop (mkF m 9 #[.val (.int x0_0), .val (.int x0_1), .val (.int x0_2), .val (.int ((x0_0 &&& (2147483647 : Int32)) % (6 : Int32))), .unset, .unset, .unset, .unset, .unset, .unset] [(.int ((x0_0 &&& (2147483647 : Int32)) % (6 : Int32)))])) _
              refine st1 _ ?_
              show Steps p.tables e below (T1.setTop (mkF m 12 #[.val (.int x0_0), .val (.int x0_1), .val (.int x0_2), .val (.int ((x0_0 &&& (2147483647 : Int32)) % (6 : Int32))), .unset, .unset, .unset, .unset, .unset, .unset] [(.ref w_GREATER_THAN)])) _
              refine XS.astore X1.here hx rfl (hb hby at_12) rfl rfl (l' := #[.val (.int x0_0), .val (.int x0_1), .val (.int x0_2), .val (.int ((x0_0 &&& (2147483647 : Int32)) % (6 : Int32))), .val (.ref w_GREATER_THAN), .unset, .unset, .unset, .unset, .unset]) rfl ?_
              show Steps p.tables e below (T1.setTop (mkF m 14 #[.val (.int x0_0), .val (.int x0_1), .val (.int x0_2), .val (.int ((x0_0 &&& (2147483647 : Int32)) % (6 : Int32))), .val (.ref w_GREATER_THAN), .unset, .unset, .unset, .unset, .unset] [])) _
              refine XS.iloadN X1.here hx rfl (hb hby at_14) rfl ?_
              show Steps p.tables e below (T1.setTop (mkF m 15 #[.val (.int x0_0), .val (.int x0_1), .val (.int x0_2), .val (.int ((x0_0 &&& (2147483647 : Int32)) % (6 : Int32))), .val (.ref w_GREATER_THAN), .unset, .unset, .unset, .unset, .unset] [(.int x0_1)])) _
              refine X1.ldcInt hx hown (mvT hZ (hw _ (List.mem_of_getElem? (i := 8) rfl))) (g := (mkF m 15 #[.val (.int x0_0), .val (.int x0_1), .val (.int x0_2), .val (.int ((x0_0 &&& (2147483647 : Int32)) % (6 : Int32))), .val (.ref w_GREATER_THAN), .unset, .unset, .unset, .unset, .unset] [(.int x0_1)])) rfl (hb hby at_15) _ ?_
              show Steps p.tables e below (T1.setTop (mkF m 17 #[.val (.int x0_0), .val (.int x0_1), .val (.int x0_2), .val (.int ((x0_0 &&& (2147483647 : Int32)) % (6 : Int32))), .val (.ref w_GREATER_THAN), .unset, .unset, .unset, .unset, .unset] [(.int (-2147483648 : Int32)), (.int x0_1)])) _
              refine XS.ior X1.here hx rfl (hb hby at_17) rfl ?_
              show Steps p.tables e below (T1.setTop (mkF m 18 #[.val (.int x0_0), .val (.int x0_1), .val (.int x0_2), .val (.int ((x0_0 &&& (2147483647 : Int32)) % (6 : Int32))), .val (.ref w_GREATER_THAN), .unset, .unset, .unset, .unset, .unset] [(.int (x0_1 ||| (-2147483648 : Int32)))])) _
              refine XS.istore X1.here hx rfl (hb hby at_18) rfl (l' := #[.val (.int x0_0), .val (.int x0_1), .val (.int x0_2), .val (.int ((x0_0 &&& (2147483647 : Int32)) % (6 : Int32))), .val (.ref w_GREATER_THAN), .val (.int (x0_1 ||| (-2147483648 : Int32))), .unset, .unset, .unset, .unset]) rfl ?_
              show Steps p.tables e below (T1.setTop (mkF m 20 #[.val (.int x0_0), .val (.int x0_1), .val (.int x0_2), .val (.int ((x0_0 &&& (2147483647 : Int32)) % (6 : Int32))), .val (.ref w_GREATER_THAN), .val (.int (x0_1 ||| (-2147483648 : Int32))), .unset, .unset, .unset, .unset] [])) _
              refine XS.iloadN X1.here hx rfl (hb hby at_20) rfl ?_
              show Steps p.tables e below (T1.setTop (mkF m 21 #[.val (.int x0_0), .val (.int x0_1), .val (.int x0_2), .val (.int ((x0_0 &&& (2147483647 : Int32)) % (6 : Int32))), .val (.ref w_GREATER_THAN), .val (.int (x0_1 ||| (-2147483648 : Int32))), .unset, .unset, .unset, .unset] [(.int x0_2)])) _
              refine X1.ldcInt hx hown (mvT hZ (hw _ (List.mem_of_getElem? (i := 0) rfl))) (g := (mkF m 21 #[.val (.int x0_0), .val (.int x0_1), .val (.int x0_2), .val (.int ((x0_0 &&& (2147483647 : Int32)) % (6 : Int32))), .val (.ref w_GREATER_THAN), .val (.int (x0_1 ||| (-2147483648 : Int32))), .unset, .unset, .unset, .unset] [(.int x0_2)])) rfl (hb hby at_21) _ ?_
              show Steps p.tables e below (T1.setTop (mkF m 23 #[.val (.int x0_0), .val (.int x0_1), .val (.int x0_2), .val (.int ((x0_0 &&& (2147483647 : Int32)) % (6 : Int32))), .val (.ref w_GREATER_THAN), .val (.int (x0_1 ||| (-2147483648 : Int32))), .unset, .unset, .unset, .unset] [(.int (2147483647 : Int32)), (.int x0_2)])) _
              refine XS.iand X1.here hx rfl (hb hby at_23) rfl ?_
              show Steps p.tables e below (T1.setTop (mkF m 24 #[.val (.int x0_0), .val (.int x0_1), .val (.int x0_2), .val (.int ((x0_0 &&& (2147483647 : Int32)) % (6 : Int32))), .val (.ref w_GREATER_THAN), .val (.int (x0_1 ||| (-2147483648 : Int32))), .unset, .unset, .unset, .unset] [(.int (x0_2 &&& (2147483647 : Int32)))])) _
              refine XS.iconst X1.here hx rfl (hb hby at_24) ?_
              show Steps p.tables e below (T1.setTop (mkF m 25 #[.val (.int x0_0), .val (.int x0_1), .val (.int x0_2), .val (.int ((x0_0 &&& (2147483647 : Int32)) % (6 : Int32))), .val (.ref w_GREATER_THAN), .val (.int (x0_1 ||| (-2147483648 : Int32))), .unset, .unset, .unset, .unset] [(.int (1 : Int32)), (.int (x0_2 &&& (2147483647 : Int32)))])) _
              refine XS.ior X1.here hx rfl (hb hby at_25) rfl ?_
              show Steps p.tables e below (T1.setTop (mkF m 26 #[.val (.int x0_0), .val (.int x0_1), .val (.int x0_2), .val (.int ((x0_0 &&& (2147483647 : Int32)) % (6 : Int32))), .val (.ref w_GREATER_THAN), .val (.int (x0_1 ||| (-2147483648 : Int32))), .unset, .unset, .unset, .unset] [(.int ((x0_2 &&& (2147483647 : Int32)) ||| (1 : Int32)))])) _
              refine XS.istore X1.here hx rfl (hb hby at_26) rfl (l' := #[.val (.int x0_0), .val (.int x0_1), .val (.int x0_2), .val (.int ((x0_0 &&& (2147483647 : Int32)) % (6 : Int32))), .val (.ref w_GREATER_THAN), .val (.int (x0_1 ||| (-2147483648 : Int32))), .val (.int ((x0_2 &&& (2147483647 : Int32)) ||| (1 : Int32))), .unset, .unset, .unset]) rfl ?_
              show Steps p.tables e below (T1.setTop (mkF m 28 #[.val (.int x0_0), .val (.int x0_1), .val (.int x0_2), .val (.int ((x0_0 &&& (2147483647 : Int32)) % (6 : Int32))), .val (.ref w_GREATER_THAN), .val (.int (x0_1 ||| (-2147483648 : Int32))), .val (.int ((x0_2 &&& (2147483647 : Int32)) ||| (1 : Int32))), .unset, .unset, .unset] [])) _
              refine XS.aload X1.here hx rfl (hb hby at_28) rfl rfl ?_
              exact kt
            obtain ⟨cq32, kq32, q32a, q32b, q32c⟩ := isOf hZ e1 (W.2.2.2.2.2.2.2.2.2.2.1)
            obtain ⟨v32, _, ⟨T32, L32, k32, n32⟩, -, X32, ⟨Lc32, hQ32, l32, y32, z32⟩, st32⟩ := X1.virtualBack hx (y := (⟨"com/example/unit_of_work/unitofwork/Condition$Operator", "orders", "()Z"⟩ : MethodName)) (z := (⟨"com/example/unit_of_work/unitofwork/Condition$Operator", "orders", "()Z"⟩ : MethodName)) hown (mvT hZ (hw _ (List.mem_of_getElem? (i := 9) rfl))) (mvT hZ (hw _ (List.mem_of_getElem? (i := 10) rfl))) (notFace_of_selects (args := #[]) (mvT hZ (hw _ (List.mem_of_getElem? (i := 12) rfl)))) (mvT hZ (hw _ (List.mem_of_getElem? (i := 12) rfl))) (mvT hZ (hw _ (List.mem_of_getElem? (i := 11) rfl))) (by decide) (backOf (W := 0) (rm2 l Z a0 hw [] w_GREATER_THAN w_EQUAL w_NOT_EQUAL w_LESS_THAN w_LESS_OR_EQUAL w_GREATER_THAN w_GREATER_OR_EQUAL h0 n0 Z0 W) hZ (hw _ (List.mem_of_getElem? (i := 13) rfl)) (hw _ (List.mem_of_getElem? (i := 6) rfl)) (by decide) (by decide)) q32a q32c (g := (mkF m 30 #[.val (.int x0_0), .val (.int x0_1), .val (.int x0_2), .val (.int ((x0_0 &&& (2147483647 : Int32)) % (6 : Int32))), .val (.ref w_GREATER_THAN), .val (.int (x0_1 ||| (-2147483648 : Int32))), .val (.int ((x0_2 &&& (2147483647 : Int32)) ||| (1 : Int32))), .unset, .unset, .unset] [(.ref w_GREATER_THAN)])) rfl (by rw [hml]; rfl) (Steps.refl _) (argsL := []) (rest := []) (lenOf pd_2 rfl) rfl (by show 2 * 0 + _ ≤ _; exact Nat.le_of_eq rfl) (hb hby at_30) (fun _ _ => ⟨rfl, e1, (by decide : 0 + 0 ≤ _), (by decide : 0 + 0 ≤ _)⟩)
            dsimp only [Pt.U, Pt.locs, Pt.cells, Pt.slots] at X32 l32 y32 z32 st32 hQ32
            subst l32 y32 z32
            obtain ⟨hv32, N32q, e32⟩ := hQ32
            have N32 := Fr.app N1 N32q
            have hf32 : f2 w_GREATER_THAN w_EQUAL w_NOT_EQUAL w_LESS_THAN w_LESS_OR_EQUAL w_GREATER_THAN w_GREATER_OR_EQUAL = (1 : Int32) := by unfold f2; rw [if_neg (Fld.ne (W.2.2.2.2.2.2.2.2.2.2.2.2.2.2.2.2.1) (W.2.2.2.2.2.2.2.2.2.2.2.2.1) (by decide) : ¬ (w_GREATER_THAN = w_EQUAL)), if_neg (Fld.ne (W.2.2.2.2.2.2.2.2.2.2.2.2.2.2.2.2.1) (W.2.2.2.2.2.2.2.2.2.2.2.2.2.1) (by decide) : ¬ (w_GREATER_THAN = w_NOT_EQUAL))]
            rw [hf32] at hv32
            subst hv32
            have sg35 : ∀ t, Steps p.tables e below (T32.setTop (mkF m 39 #[.val (.int x0_0), .val (.int x0_1), .val (.int x0_2), .val (.int ((x0_0 &&& (2147483647 : Int32)) % (6 : Int32))), .val (.ref w_GREATER_THAN), .val (.int (x0_1 ||| (-2147483648 : Int32))), .val (.int ((x0_2 &&& (2147483647 : Int32)) ||| (1 : Int32))), .val (.int (1 : Int32)), .unset, .unset] [(.int (x0_1 ||| (-2147483648 : Int32))), (.ref w_GREATER_THAN)])) t → Steps p.tables e below (T1.setTop (mkF m 30 #[.val (.int x0_0), .val (.int x0_1), .val (.int x0_2), .val (.int ((x0_0 &&& (2147483647 : Int32)) % (6 : Int32))), .val (.ref w_GREATER_THAN), .val (.int (x0_1 ||| (-2147483648 : Int32))), .val (.int ((x0_2 &&& (2147483647 : Int32)) ||| (1 : Int32))), .unset, .unset, .unset] [(.ref w_GREATER_THAN)])) t := fun t kt => by
              show Steps p.tables e below (T1.setTop (mkF m 30 #[.val (.int x0_0), .val (.int x0_1), .val (.int x0_2), .val (.int ((x0_0 &&& (2147483647 : Int32)) % (6 : Int32))), .val (.ref w_GREATER_THAN), .val (.int (x0_1 ||| (-2147483648 : Int32))), .val (.int ((x0_2 &&& (2147483647 : Int32)) ||| (1 : Int32))), .unset, .unset, .unset] [(.ref w_GREATER_THAN)])) _
              refine st32.trans ?_
              show Steps p.tables e below (T32.setTop (mkF m 33 #[.val (.int x0_0), .val (.int x0_1), .val (.int x0_2), .val (.int ((x0_0 &&& (2147483647 : Int32)) % (6 : Int32))), .val (.ref w_GREATER_THAN), .val (.int (x0_1 ||| (-2147483648 : Int32))), .val (.int ((x0_2 &&& (2147483647 : Int32)) ||| (1 : Int32))), .unset, .unset, .unset] [(.int (1 : Int32))])) _
              refine XS.istore X32.here hx rfl (hb hby at_33) rfl (l' := #[.val (.int x0_0), .val (.int x0_1), .val (.int x0_2), .val (.int ((x0_0 &&& (2147483647 : Int32)) % (6 : Int32))), .val (.ref w_GREATER_THAN), .val (.int (x0_1 ||| (-2147483648 : Int32))), .val (.int ((x0_2 &&& (2147483647 : Int32)) ||| (1 : Int32))), .val (.int (1 : Int32)), .unset, .unset]) rfl ?_
              show Steps p.tables e below (T32.setTop (mkF m 35 #[.val (.int x0_0), .val (.int x0_1), .val (.int x0_2), .val (.int ((x0_0 &&& (2147483647 : Int32)) % (6 : Int32))), .val (.ref w_GREATER_THAN), .val (.int (x0_1 ||| (-2147483648 : Int32))), .val (.int ((x0_2 &&& (2147483647 : Int32)) ||| (1 : Int32))), .val (.int (1 : Int32)), .unset, .unset] [])) _
              refine XS.aload X32.here hx rfl (hb hby at_35) rfl rfl ?_
              show Steps p.tables e below (T32.setTop (mkF m 37 #[.val (.int x0_0), .val (.int x0_1), .val (.int x0_2), .val (.int ((x0_0 &&& (2147483647 : Int32)) % (6 : Int32))), .val (.ref w_GREATER_THAN), .val (.int (x0_1 ||| (-2147483648 : Int32))), .val (.int ((x0_2 &&& (2147483647 : Int32)) ||| (1 : Int32))), .val (.int (1 : Int32)), .unset, .unset] [(.ref w_GREATER_THAN)])) _
              refine XS.iload X32.here hx rfl (hb hby at_37) rfl ?_
              exact kt
            obtain ⟨cq34, kq34, q34a, q34b, q34c⟩ := isOf hZ e32 (W.2.2.2.2.2.2.2.2.2.2.1)
            obtain ⟨v34, _, ⟨T34, L34, k34, n34⟩, -, X34, ⟨Lc34, hQ34, l34, y34, z34⟩, st34⟩ := X32.virtualBack hx (y := (⟨"com/example/unit_of_work/unitofwork/Condition$Operator", "holds", "(I)Z"⟩ : MethodName)) (z := (⟨"com/example/unit_of_work/unitofwork/Condition$Operator", "holds", "(I)Z"⟩ : MethodName)) hown (mvT hZ (hw _ (List.mem_of_getElem? (i := 15) rfl))) (mvT hZ (hw _ (List.mem_of_getElem? (i := 16) rfl))) (notFace_of_selects (args := #[]) (mvT hZ (hw _ (List.mem_of_getElem? (i := 18) rfl)))) (mvT hZ (hw _ (List.mem_of_getElem? (i := 18) rfl))) (mvT hZ (hw _ (List.mem_of_getElem? (i := 17) rfl))) (by decide) (backOf (W := 0) (rm3 l Z a0 hw [] w_GREATER_THAN (x0_1 ||| (-2147483648 : Int32)) w_EQUAL w_NOT_EQUAL w_LESS_THAN w_LESS_OR_EQUAL w_GREATER_THAN w_GREATER_OR_EQUAL (4 : Int32) h0 n0 Z0 W (W.2.2.2.2.2.2.2.2.2.2.2.2.2.2.2.2.1) (W.2.2.2.2.2.2.2.2.2.2.1) (by decide)) hZ (hw _ (List.mem_of_getElem? (i := 19) rfl)) (hw _ (List.mem_of_getElem? (i := 6) rfl)) (by decide) (by decide)) q34a q34c (g := (mkF m 39 #[.val (.int x0_0), .val (.int x0_1), .val (.int x0_2), .val (.int ((x0_0 &&& (2147483647 : Int32)) % (6 : Int32))), .val (.ref w_GREATER_THAN), .val (.int (x0_1 ||| (-2147483648 : Int32))), .val (.int ((x0_2 &&& (2147483647 : Int32)) ||| (1 : Int32))), .val (.int (1 : Int32)), .unset, .unset] [(.int (x0_1 ||| (-2147483648 : Int32))), (.ref w_GREATER_THAN)])) rfl (by rw [hml]; rfl) (Steps.refl _) (argsL := [(.int (x0_1 ||| (-2147483648 : Int32)))]) (rest := []) (lenOf pd_3 rfl) rfl (by show 2 * 0 + _ ≤ _; exact Nat.le_of_eq rfl) (hb hby at_39) (fun _ _ => ⟨rfl, e32, (by decide : 0 + 0 ≤ _), (by decide : 0 + 0 ≤ _)⟩)
            dsimp only [Pt.U, Pt.locs, Pt.cells, Pt.slots] at X34 l34 y34 z34 st34 hQ34
            subst l34 y34 z34
            obtain ⟨hv34, N34q, e34⟩ := hQ34
            have N34 := Fr.app N32 N34q
            have hf34 : f3 w_GREATER_THAN (x0_1 ||| (-2147483648 : Int32)) w_EQUAL w_NOT_EQUAL w_LESS_THAN w_LESS_OR_EQUAL w_GREATER_THAN w_GREATER_OR_EQUAL (4 : Int32) = (0 : Int32) := by unfold f3; rw [if_neg (by decide : ¬ ((4 : Int32) = (0 : Int32))), if_neg (by decide : ¬ ((4 : Int32) = (1 : Int32))), if_neg (by decide : ¬ ((4 : Int32) = (2 : Int32))), if_neg (by decide : ¬ ((4 : Int32) = (3 : Int32))), if_pos (by decide : ((4 : Int32) = (4 : Int32))), if_neg (own_ne2 x0_1)]
            rw [hf34] at hv34
            subst hv34
            have sg37 : ∀ t, Steps p.tables e below (T34.setTop (mkF m 46 #[.val (.int x0_0), .val (.int x0_1), .val (.int x0_2), .val (.int ((x0_0 &&& (2147483647 : Int32)) % (6 : Int32))), .val (.ref w_GREATER_THAN), .val (.int (x0_1 ||| (-2147483648 : Int32))), .val (.int ((x0_2 &&& (2147483647 : Int32)) ||| (1 : Int32))), .val (.int (1 : Int32)), .unset, .unset] [(.int ((x0_2 &&& (2147483647 : Int32)) ||| (1 : Int32))), (.ref w_GREATER_THAN), (.int (0 : Int32))])) t → Steps p.tables e below (T32.setTop (mkF m 39 #[.val (.int x0_0), .val (.int x0_1), .val (.int x0_2), .val (.int ((x0_0 &&& (2147483647 : Int32)) % (6 : Int32))), .val (.ref w_GREATER_THAN), .val (.int (x0_1 ||| (-2147483648 : Int32))), .val (.int ((x0_2 &&& (2147483647 : Int32)) ||| (1 : Int32))), .val (.int (1 : Int32)), .unset, .unset] [(.int (x0_1 ||| (-2147483648 : Int32))), (.ref w_GREATER_THAN)])) t := fun t kt => by
              show Steps p.tables e below (T32.setTop (mkF m 39 #[.val (.int x0_0), .val (.int x0_1), .val (.int x0_2), .val (.int ((x0_0 &&& (2147483647 : Int32)) % (6 : Int32))), .val (.ref w_GREATER_THAN), .val (.int (x0_1 ||| (-2147483648 : Int32))), .val (.int ((x0_2 &&& (2147483647 : Int32)) ||| (1 : Int32))), .val (.int (1 : Int32)), .unset, .unset] [(.int (x0_1 ||| (-2147483648 : Int32))), (.ref w_GREATER_THAN)])) _
              refine st34.trans ?_
              show Steps p.tables e below (T34.setTop (mkF m 42 #[.val (.int x0_0), .val (.int x0_1), .val (.int x0_2), .val (.int ((x0_0 &&& (2147483647 : Int32)) % (6 : Int32))), .val (.ref w_GREATER_THAN), .val (.int (x0_1 ||| (-2147483648 : Int32))), .val (.int ((x0_2 &&& (2147483647 : Int32)) ||| (1 : Int32))), .val (.int (1 : Int32)), .unset, .unset] [(.int (0 : Int32))])) _
              refine XS.aload X34.here hx rfl (hb hby at_42) rfl rfl ?_
              show Steps p.tables e below (T34.setTop (mkF m 44 #[.val (.int x0_0), .val (.int x0_1), .val (.int x0_2), .val (.int ((x0_0 &&& (2147483647 : Int32)) % (6 : Int32))), .val (.ref w_GREATER_THAN), .val (.int (x0_1 ||| (-2147483648 : Int32))), .val (.int ((x0_2 &&& (2147483647 : Int32)) ||| (1 : Int32))), .val (.int (1 : Int32)), .unset, .unset] [(.ref w_GREATER_THAN), (.int (0 : Int32))])) _
              refine XS.iload X34.here hx rfl (hb hby at_44) rfl ?_
              exact kt
            obtain ⟨cq36, kq36, q36a, q36b, q36c⟩ := isOf hZ e34 (W.2.2.2.2.2.2.2.2.2.2.1)
            obtain ⟨v36, _, ⟨T36, L36, k36, n36⟩, -, X36, ⟨Lc36, hQ36, l36, y36, z36⟩, st36⟩ := X34.virtualBack hx (y := (⟨"com/example/unit_of_work/unitofwork/Condition$Operator", "holds", "(I)Z"⟩ : MethodName)) (z := (⟨"com/example/unit_of_work/unitofwork/Condition$Operator", "holds", "(I)Z"⟩ : MethodName)) hown (mvT hZ (hw _ (List.mem_of_getElem? (i := 15) rfl))) (mvT hZ (hw _ (List.mem_of_getElem? (i := 16) rfl))) (notFace_of_selects (args := #[]) (mvT hZ (hw _ (List.mem_of_getElem? (i := 18) rfl)))) (mvT hZ (hw _ (List.mem_of_getElem? (i := 18) rfl))) (mvT hZ (hw _ (List.mem_of_getElem? (i := 17) rfl))) (by decide) (backOf (W := 1) (rm3 l Z a0 hw [] w_GREATER_THAN ((x0_2 &&& (2147483647 : Int32)) ||| (1 : Int32)) w_EQUAL w_NOT_EQUAL w_LESS_THAN w_LESS_OR_EQUAL w_GREATER_THAN w_GREATER_OR_EQUAL (4 : Int32) h0 n0 Z0 W (W.2.2.2.2.2.2.2.2.2.2.2.2.2.2.2.2.1) (W.2.2.2.2.2.2.2.2.2.2.1) (by decide)) hZ (hw _ (List.mem_of_getElem? (i := 19) rfl)) (hw _ (List.mem_of_getElem? (i := 6) rfl)) (by decide) (by decide)) q36a q36c (g := (mkF m 46 #[.val (.int x0_0), .val (.int x0_1), .val (.int x0_2), .val (.int ((x0_0 &&& (2147483647 : Int32)) % (6 : Int32))), .val (.ref w_GREATER_THAN), .val (.int (x0_1 ||| (-2147483648 : Int32))), .val (.int ((x0_2 &&& (2147483647 : Int32)) ||| (1 : Int32))), .val (.int (1 : Int32)), .unset, .unset] [(.int ((x0_2 &&& (2147483647 : Int32)) ||| (1 : Int32))), (.ref w_GREATER_THAN), (.int (0 : Int32))])) rfl (by rw [hml]; rfl) (Steps.refl _) (argsL := [(.int ((x0_2 &&& (2147483647 : Int32)) ||| (1 : Int32)))]) (rest := [(.int (0 : Int32))]) (lenOf pd_3 rfl) rfl (by show 2 * 0 + _ ≤ _; exact Nat.le_of_eq rfl) (hb hby at_46) (fun _ _ => ⟨rfl, e34, (by decide : 0 + 0 ≤ _), (by decide : 0 + 0 ≤ _)⟩)
            dsimp only [Pt.U, Pt.locs, Pt.cells, Pt.slots] at X36 l36 y36 z36 st36 hQ36
            subst l36 y36 z36
            obtain ⟨hv36, N36q, e36⟩ := hQ36
            have N36 := Fr.app N34 N36q
            have hf36 : f3 w_GREATER_THAN ((x0_2 &&& (2147483647 : Int32)) ||| (1 : Int32)) w_EQUAL w_NOT_EQUAL w_LESS_THAN w_LESS_OR_EQUAL w_GREATER_THAN w_GREATER_OR_EQUAL (4 : Int32) = (1 : Int32) := by unfold f3; rw [if_neg (by decide : ¬ ((4 : Int32) = (0 : Int32))), if_neg (by decide : ¬ ((4 : Int32) = (1 : Int32))), if_neg (by decide : ¬ ((4 : Int32) = (2 : Int32))), if_neg (by decide : ¬ ((4 : Int32) = (3 : Int32))), if_pos (by decide : ((4 : Int32) = (4 : Int32))), if_pos (own_pos x0_2)]
            rw [hf36] at hv36
            subst hv36
            obtain ⟨fs, hr, hrun, hended, hW, hsame⟩ := X36.leave (v := some (.int (1 : Int32))) (fun h => by rw [Bd.returns] at h; cases h)
            refine ⟨_, _, pre0 _ (sg2 _ (sg33 _ (sg35 _ (sg37 _ ?_)))), hrun, hended, _, _, rfl, ?_, ⟨_, rfl⟩, hW, hsame.mono (by decide) (by decide)⟩
            · show Steps p.tables e below (T34.setTop (mkF m 46 #[.val (.int x0_0), .val (.int x0_1), .val (.int x0_2), .val (.int ((x0_0 &&& (2147483647 : Int32)) % (6 : Int32))), .val (.ref w_GREATER_THAN), .val (.int (x0_1 ||| (-2147483648 : Int32))), .val (.int ((x0_2 &&& (2147483647 : Int32)) ||| (1 : Int32))), .val (.int (1 : Int32)), .unset, .unset] [(.int ((x0_2 &&& (2147483647 : Int32)) ||| (1 : Int32))), (.ref w_GREATER_THAN), (.int (0 : Int32))])) _
              refine st36.trans ?_
              show Steps p.tables e below (T36.setTop (mkF m 49 #[.val (.int x0_0), .val (.int x0_1), .val (.int x0_2), .val (.int ((x0_0 &&& (2147483647 : Int32)) % (6 : Int32))), .val (.ref w_GREATER_THAN), .val (.int (x0_1 ||| (-2147483648 : Int32))), .val (.int ((x0_2 &&& (2147483647 : Int32)) ||| (1 : Int32))), .val (.int (1 : Int32)), .unset, .unset] [(.int (1 : Int32)), (.int (0 : Int32))])) _
              refine XS.icmpNo X36.here hx rfl (hb hby at_49) rfl (feq (by decide : ¬ ((0 : Int32) = (1 : Int32)))).1 ?_
              show Steps p.tables e below (T36.setTop (mkF m 52 #[.val (.int x0_0), .val (.int x0_1), .val (.int x0_2), .val (.int ((x0_0 &&& (2147483647 : Int32)) % (6 : Int32))), .val (.ref w_GREATER_THAN), .val (.int (x0_1 ||| (-2147483648 : Int32))), .val (.int ((x0_2 &&& (2147483647 : Int32)) ||| (1 : Int32))), .val (.int (1 : Int32)), .unset, .unset] [])) _
              refine XS.iconst X36.here hx rfl (hb hby at_52) ?_
              show Steps p.tables e below (T36.setTop (mkF m 53 #[.val (.int x0_0), .val (.int x0_1), .val (.int x0_2), .val (.int ((x0_0 &&& (2147483647 : Int32)) % (6 : Int32))), .val (.ref w_GREATER_THAN), .val (.int (x0_1 ||| (-2147483648 : Int32))), .val (.int ((x0_2 &&& (2147483647 : Int32)) ||| (1 : Int32))), .val (.int (1 : Int32)), .unset, .unset] [(.int (1 : Int32))])) _
              refine XS.goto X36.here hx rfl (pc0 := 53) (pc' := 57) rfl (hb hby at_53) (by decide) (by decide) ?_
              show Steps p.tables e below (T36.setTop (mkF m 57 #[.val (.int x0_0), .val (.int x0_1), .val (.int x0_2), .val (.int ((x0_0 &&& (2147483647 : Int32)) % (6 : Int32))), .val (.ref w_GREATER_THAN), .val (.int (x0_1 ||| (-2147483648 : Int32))), .val (.int ((x0_2 &&& (2147483647 : Int32)) ||| (1 : Int32))), .val (.int (1 : Int32)), .unset, .unset] [(.int (1 : Int32))])) _
              refine XS.istore X36.here hx rfl (hb hby at_57) rfl (l' := #[.val (.int x0_0), .val (.int x0_1), .val (.int x0_2), .val (.int ((x0_0 &&& (2147483647 : Int32)) % (6 : Int32))), .val (.ref w_GREATER_THAN), .val (.int (x0_1 ||| (-2147483648 : Int32))), .val (.int ((x0_2 &&& (2147483647 : Int32)) ||| (1 : Int32))), .val (.int (1 : Int32)), .val (.int (1 : Int32)), .unset]) rfl ?_
              show Steps p.tables e below (T36.setTop (mkF m 59 #[.val (.int x0_0), .val (.int x0_1), .val (.int x0_2), .val (.int ((x0_0 &&& (2147483647 : Int32)) % (6 : Int32))), .val (.ref w_GREATER_THAN), .val (.int (x0_1 ||| (-2147483648 : Int32))), .val (.int ((x0_2 &&& (2147483647 : Int32)) ||| (1 : Int32))), .val (.int (1 : Int32)), .val (.int (1 : Int32)), .unset] [])) _
              refine XS.iloadN X36.here hx rfl (hb hby at_59) rfl ?_
              show Steps p.tables e below (T36.setTop (mkF m 60 #[.val (.int x0_0), .val (.int x0_1), .val (.int x0_2), .val (.int ((x0_0 &&& (2147483647 : Int32)) % (6 : Int32))), .val (.ref w_GREATER_THAN), .val (.int (x0_1 ||| (-2147483648 : Int32))), .val (.int ((x0_2 &&& (2147483647 : Int32)) ||| (1 : Int32))), .val (.int (1 : Int32)), .val (.int (1 : Int32)), .unset] [(.int ((x0_0 &&& (2147483647 : Int32)) % (6 : Int32)))])) _
              refine XS.iconst X36.here hx rfl (hb hby at_60) ?_
              show Steps p.tables e below (T36.setTop (mkF m 61 #[.val (.int x0_0), .val (.int x0_1), .val (.int x0_2), .val (.int ((x0_0 &&& (2147483647 : Int32)) % (6 : Int32))), .val (.ref w_GREATER_THAN), .val (.int (x0_1 ||| (-2147483648 : Int32))), .val (.int ((x0_2 &&& (2147483647 : Int32)) ||| (1 : Int32))), .val (.int (1 : Int32)), .val (.int (1 : Int32)), .unset] [(.int (2 : Int32)), (.int ((x0_0 &&& (2147483647 : Int32)) % (6 : Int32)))])) _
              refine XS.icmpNo X36.here hx rfl (hb hby at_61) rfl (flt (by rw [hs9_31]; decide : ¬ (((x0_0 &&& (2147483647 : Int32)) % (6 : Int32)) < (2 : Int32)))).1 ?_
              show Steps p.tables e below (T36.setTop (mkF m 64 #[.val (.int x0_0), .val (.int x0_1), .val (.int x0_2), .val (.int ((x0_0 &&& (2147483647 : Int32)) % (6 : Int32))), .val (.ref w_GREATER_THAN), .val (.int (x0_1 ||| (-2147483648 : Int32))), .val (.int ((x0_2 &&& (2147483647 : Int32)) ||| (1 : Int32))), .val (.int (1 : Int32)), .val (.int (1 : Int32)), .unset] [])) _
              refine XS.iconst X36.here hx rfl (hb hby at_64) ?_
              show Steps p.tables e below (T36.setTop (mkF m 65 #[.val (.int x0_0), .val (.int x0_1), .val (.int x0_2), .val (.int ((x0_0 &&& (2147483647 : Int32)) % (6 : Int32))), .val (.ref w_GREATER_THAN), .val (.int (x0_1 ||| (-2147483648 : Int32))), .val (.int ((x0_2 &&& (2147483647 : Int32)) ||| (1 : Int32))), .val (.int (1 : Int32)), .val (.int (1 : Int32)), .unset] [(.int (1 : Int32))])) _
              refine XS.goto X36.here hx rfl (pc0 := 65) (pc' := 69) rfl (hb hby at_65) (by decide) (by decide) ?_
              show Steps p.tables e below (T36.setTop (mkF m 69 #[.val (.int x0_0), .val (.int x0_1), .val (.int x0_2), .val (.int ((x0_0 &&& (2147483647 : Int32)) % (6 : Int32))), .val (.ref w_GREATER_THAN), .val (.int (x0_1 ||| (-2147483648 : Int32))), .val (.int ((x0_2 &&& (2147483647 : Int32)) ||| (1 : Int32))), .val (.int (1 : Int32)), .val (.int (1 : Int32)), .unset] [(.int (1 : Int32))])) _
              refine XS.istore X36.here hx rfl (hb hby at_69) rfl (l' := #[.val (.int x0_0), .val (.int x0_1), .val (.int x0_2), .val (.int ((x0_0 &&& (2147483647 : Int32)) % (6 : Int32))), .val (.ref w_GREATER_THAN), .val (.int (x0_1 ||| (-2147483648 : Int32))), .val (.int ((x0_2 &&& (2147483647 : Int32)) ||| (1 : Int32))), .val (.int (1 : Int32)), .val (.int (1 : Int32)), .val (.int (1 : Int32))]) rfl ?_
              show Steps p.tables e below (T36.setTop (mkF m 71 #[.val (.int x0_0), .val (.int x0_1), .val (.int x0_2), .val (.int ((x0_0 &&& (2147483647 : Int32)) % (6 : Int32))), .val (.ref w_GREATER_THAN), .val (.int (x0_1 ||| (-2147483648 : Int32))), .val (.int ((x0_2 &&& (2147483647 : Int32)) ||| (1 : Int32))), .val (.int (1 : Int32)), .val (.int (1 : Int32)), .val (.int (1 : Int32))] [])) _
              refine XS.iload X36.here hx rfl (hb hby at_71) rfl ?_
              show Steps p.tables e below (T36.setTop (mkF m 73 #[.val (.int x0_0), .val (.int x0_1), .val (.int x0_2), .val (.int ((x0_0 &&& (2147483647 : Int32)) % (6 : Int32))), .val (.ref w_GREATER_THAN), .val (.int (x0_1 ||| (-2147483648 : Int32))), .val (.int ((x0_2 &&& (2147483647 : Int32)) ||| (1 : Int32))), .val (.int (1 : Int32)), .val (.int (1 : Int32)), .val (.int (1 : Int32))] [(.int (1 : Int32))])) _
              refine XS.iload X36.here hx rfl (hb hby at_73) rfl ?_
              show Steps p.tables e below (T36.setTop (mkF m 75 #[.val (.int x0_0), .val (.int x0_1), .val (.int x0_2), .val (.int ((x0_0 &&& (2147483647 : Int32)) % (6 : Int32))), .val (.ref w_GREATER_THAN), .val (.int (x0_1 ||| (-2147483648 : Int32))), .val (.int ((x0_2 &&& (2147483647 : Int32)) ||| (1 : Int32))), .val (.int (1 : Int32)), .val (.int (1 : Int32)), .val (.int (1 : Int32))] [(.int (1 : Int32)), (.int (1 : Int32))])) _
              refine XS.icmpNo X36.here hx rfl (hb hby at_75) rfl (teq (by decide : ((1 : Int32) = (1 : Int32)))).2 ?_
              show Steps p.tables e below (T36.setTop (mkF m 78 #[.val (.int x0_0), .val (.int x0_1), .val (.int x0_2), .val (.int ((x0_0 &&& (2147483647 : Int32)) % (6 : Int32))), .val (.ref w_GREATER_THAN), .val (.int (x0_1 ||| (-2147483648 : Int32))), .val (.int ((x0_2 &&& (2147483647 : Int32)) ||| (1 : Int32))), .val (.int (1 : Int32)), .val (.int (1 : Int32)), .val (.int (1 : Int32))] [])) _
              refine XS.iload X36.here hx rfl (hb hby at_78) rfl ?_
              show Steps p.tables e below (T36.setTop (mkF m 80 #[.val (.int x0_0), .val (.int x0_1), .val (.int x0_2), .val (.int ((x0_0 &&& (2147483647 : Int32)) % (6 : Int32))), .val (.ref w_GREATER_THAN), .val (.int (x0_1 ||| (-2147483648 : Int32))), .val (.int ((x0_2 &&& (2147483647 : Int32)) ||| (1 : Int32))), .val (.int (1 : Int32)), .val (.int (1 : Int32)), .val (.int (1 : Int32))] [(.int (1 : Int32))])) _
              refine XS.iload X36.here hx rfl (hb hby at_80) rfl ?_
              show Steps p.tables e below (T36.setTop (mkF m 82 #[.val (.int x0_0), .val (.int x0_1), .val (.int x0_2), .val (.int ((x0_0 &&& (2147483647 : Int32)) % (6 : Int32))), .val (.ref w_GREATER_THAN), .val (.int (x0_1 ||| (-2147483648 : Int32))), .val (.int ((x0_2 &&& (2147483647 : Int32)) ||| (1 : Int32))), .val (.int (1 : Int32)), .val (.int (1 : Int32)), .val (.int (1 : Int32))] [(.int (1 : Int32)), (.int (1 : Int32))])) _
              refine XS.icmpNo X36.here hx rfl (hb hby at_82) rfl (teq (by decide : ((1 : Int32) = (1 : Int32)))).2 ?_
              show Steps p.tables e below (T36.setTop (mkF m 85 #[.val (.int x0_0), .val (.int x0_1), .val (.int x0_2), .val (.int ((x0_0 &&& (2147483647 : Int32)) % (6 : Int32))), .val (.ref w_GREATER_THAN), .val (.int (x0_1 ||| (-2147483648 : Int32))), .val (.int ((x0_2 &&& (2147483647 : Int32)) ||| (1 : Int32))), .val (.int (1 : Int32)), .val (.int (1 : Int32)), .val (.int (1 : Int32))] [])) _
              refine XS.iconst X36.here hx rfl (hb hby at_85) ?_
              show Steps p.tables e below (T36.setTop (mkF m 86 #[.val (.int x0_0), .val (.int x0_1), .val (.int x0_2), .val (.int ((x0_0 &&& (2147483647 : Int32)) % (6 : Int32))), .val (.ref w_GREATER_THAN), .val (.int (x0_1 ||| (-2147483648 : Int32))), .val (.int ((x0_2 &&& (2147483647 : Int32)) ||| (1 : Int32))), .val (.int (1 : Int32)), .val (.int (1 : Int32)), .val (.int (1 : Int32))] [(.int (1 : Int32))])) _
              refine XS.goto X36.here hx rfl (pc0 := 86) (pc' := 90) rfl (hb hby at_86) (by decide) (by decide) ?_
              show Steps p.tables e below (T36.setTop (mkF m 90 #[.val (.int x0_0), .val (.int x0_1), .val (.int x0_2), .val (.int ((x0_0 &&& (2147483647 : Int32)) % (6 : Int32))), .val (.ref w_GREATER_THAN), .val (.int (x0_1 ||| (-2147483648 : Int32))), .val (.int ((x0_2 &&& (2147483647 : Int32)) ||| (1 : Int32))), .val (.int (1 : Int32)), .val (.int (1 : Int32)), .val (.int (1 : Int32))] [(.int (1 : Int32))])) _
              exact retN X36 hx (t := .boolean) Bd.returns (by simp) (hb hby at_90) hr
            · exact ⟨congrArg (fun z => some (Value.int z)) (show (1 : Int32) = f0 x0_0 x0_1 x0_2 w_EQUAL w_NOT_EQUAL w_LESS_THAN w_LESS_OR_EQUAL w_GREATER_THAN w_GREATER_OR_EQUAL from by unfold f0; rw [if_neg hs9_3, if_neg hs9_10, if_neg hs9_17, if_neg hs9_24, if_pos hs9_31]), N36, e36⟩
          · have hf1 : f1 ((x0_0 &&& (2147483647 : Int32)) % (6 : Int32)) w_EQUAL w_NOT_EQUAL w_LESS_THAN w_LESS_OR_EQUAL w_GREATER_THAN w_GREATER_OR_EQUAL = w_GREATER_OR_EQUAL := by unfold f1; rw [if_neg hs9_3, if_neg hs9_10, if_neg hs9_17, if_neg hs9_24, if_neg hs9_31]
            rw [hf1] at hv1
            subst hv1
            have sg39 : ∀ t, Steps p.tables e below (T1.setTop (mkF m 30 #[.val (.int x0_0), .val (.int x0_1), .val (.int x0_2), .val (.int ((x0_0 &&& (2147483647 : Int32)) % (6 : Int32))), .val (.ref w_GREATER_OR_EQUAL), .val (.int (x0_1 ||| (-2147483648 : Int32))), .val (.int ((x0_2 &&& (2147483647 : Int32)) ||| (1 : Int32))), .unset, .unset, .unset] [(.ref w_GREATER_OR_EQUAL)])) t → Steps p.tables e below (s₁.setTop (mkF m 9 #[.val (.int x0_0), .val (.int x0_1), .val (.int x0_2), .val (.int ((x0_0 &&& (2147483647 : Int32)) % (6 : Int32))), .unset, .unset, .unset, .unset, .unset, .unset] [(.int ((x0_0 &&& (2147483647 : Int32)) % (6 : Int32)))])) t := fun t kt => by
              show Steps p.tables e below (s₁.setTop (mkF m 9 #[.val (.int x0_0), .val (.int x0_1), .val (.int x0_2), .val (.int ((x0_0 &&& (2147483647 : Int32)) % (6 : Int32))), .unset, .unset, .unset, .unset, .unset, .unset] [(.int ((x0_0 &&& (2147483647 : Int32)) % (6 : Int32)))])) _
              refine st1 _ ?_
              show Steps p.tables e below (T1.setTop (mkF m 12 #[.val (.int x0_0), .val (.int x0_1), .val (.int x0_2), .val (.int ((x0_0 &&& (2147483647 : Int32)) % (6 : Int32))), .unset, .unset, .unset, .unset, .unset, .unset] [(.ref w_GREATER_OR_EQUAL)])) _
              refine XS.astore X1.here hx rfl (hb hby at_12) rfl rfl (l' := #[.val (.int x0_0), .val (.int x0_1), .val (.int x0_2), .val (.int ((x0_0 &&& (2147483647 : Int32)) % (6 : Int32))), .val (.ref w_GREATER_OR_EQUAL), .unset, .unset, .unset, .unset, .unset]) rfl ?_
              show Steps p.tables e below (T1.setTop (mkF m 14 #[.val (.int x0_0), .val (.int x0_1), .val (.int x0_2), .val (.int ((x0_0 &&& (2147483647 : Int32)) % (6 : Int32))), .val (.ref w_GREATER_OR_EQUAL), .unset, .unset, .unset, .unset, .unset] [])) _
              refine XS.iloadN X1.here hx rfl (hb hby at_14) rfl ?_
              show Steps p.tables e below (T1.setTop (mkF m 15 #[.val (.int x0_0), .val (.int x0_1), .val (.int x0_2), .val (.int ((x0_0 &&& (2147483647 : Int32)) % (6 : Int32))), .val (.ref w_GREATER_OR_EQUAL), .unset, .unset, .unset, .unset, .unset] [(.int x0_1)])) _
              refine X1.ldcInt hx hown (mvT hZ (hw _ (List.mem_of_getElem? (i := 8) rfl))) (g := (mkF m 15 #[.val (.int x0_0), .val (.int x0_1), .val (.int x0_2), .val (.int ((x0_0 &&& (2147483647 : Int32)) % (6 : Int32))), .val (.ref w_GREATER_OR_EQUAL), .unset, .unset, .unset, .unset, .unset] [(.int x0_1)])) rfl (hb hby at_15) _ ?_
              show Steps p.tables e below (T1.setTop (mkF m 17 #[.val (.int x0_0), .val (.int x0_1), .val (.int x0_2), .val (.int ((x0_0 &&& (2147483647 : Int32)) % (6 : Int32))), .val (.ref w_GREATER_OR_EQUAL), .unset, .unset, .unset, .unset, .unset] [(.int (-2147483648 : Int32)), (.int x0_1)])) _
              refine XS.ior X1.here hx rfl (hb hby at_17) rfl ?_
              show Steps p.tables e below (T1.setTop (mkF m 18 #[.val (.int x0_0), .val (.int x0_1), .val (.int x0_2), .val (.int ((x0_0 &&& (2147483647 : Int32)) % (6 : Int32))), .val (.ref w_GREATER_OR_EQUAL), .unset, .unset, .unset, .unset, .unset] [(.int (x0_1 ||| (-2147483648 : Int32)))])) _
              refine XS.istore X1.here hx rfl (hb hby at_18) rfl (l' := #[.val (.int x0_0), .val (.int x0_1), .val (.int x0_2), .val (.int ((x0_0 &&& (2147483647 : Int32)) % (6 : Int32))), .val (.ref w_GREATER_OR_EQUAL), .val (.int (x0_1 ||| (-2147483648 : Int32))), .unset, .unset, .unset, .unset]) rfl ?_
              show Steps p.tables e below (T1.setTop (mkF m 20 #[.val (.int x0_0), .val (.int x0_1), .val (.int x0_2), .val (.int ((x0_0 &&& (2147483647 : Int32)) % (6 : Int32))), .val (.ref w_GREATER_OR_EQUAL), .val (.int (x0_1 ||| (-2147483648 : Int32))), .unset, .unset, .unset, .unset] [])) _
              refine XS.iloadN X1.here hx rfl (hb hby at_20) rfl ?_
              show Steps p.tables e below (T1.setTop (mkF m 21 #[.val (.int x0_0), .val (.int x0_1), .val (.int x0_2), .val (.int ((x0_0 &&& (2147483647 : Int32)) % (6 : Int32))), .val (.ref w_GREATER_OR_EQUAL), .val (.int (x0_1 ||| (-2147483648 : Int32))), .unset, .unset, .unset, .unset] [(.int x0_2)])) _
              refine X1.ldcInt hx hown (mvT hZ (hw _ (List.mem_of_getElem? (i := 0) rfl))) (g := (mkF m 21 #[.val (.int x0_0), .val (.int x0_1), .val (.int x0_2), .val (.int ((x0_0 &&& (2147483647 : Int32)) % (6 : Int32))), .val (.ref w_GREATER_OR_EQUAL), .val (.int (x0_1 ||| (-2147483648 : Int32))), .unset, .unset, .unset, .unset] [(.int x0_2)])) rfl (hb hby at_21) _ ?_
              show Steps p.tables e below (T1.setTop (mkF m 23 #[.val (.int x0_0), .val (.int x0_1), .val (.int x0_2), .val (.int ((x0_0 &&& (2147483647 : Int32)) % (6 : Int32))), .val (.ref w_GREATER_OR_EQUAL), .val (.int (x0_1 ||| (-2147483648 : Int32))), .unset, .unset, .unset, .unset] [(.int (2147483647 : Int32)), (.int x0_2)])) _
              refine XS.iand X1.here hx rfl (hb hby at_23) rfl ?_
              show Steps p.tables e below (T1.setTop (mkF m 24 #[.val (.int x0_0), .val (.int x0_1), .val (.int x0_2), .val (.int ((x0_0 &&& (2147483647 : Int32)) % (6 : Int32))), .val (.ref w_GREATER_OR_EQUAL), .val (.int (x0_1 ||| (-2147483648 : Int32))), .unset, .unset, .unset, .unset] [(.int (x0_2 &&& (2147483647 : Int32)))])) _
              refine XS.iconst X1.here hx rfl (hb hby at_24) ?_
              show Steps p.tables e below (T1.setTop (mkF m 25 #[.val (.int x0_0), .val (.int x0_1), .val (.int x0_2), .val (.int ((x0_0 &&& (2147483647 : Int32)) % (6 : Int32))), .val (.ref w_GREATER_OR_EQUAL), .val (.int (x0_1 ||| (-2147483648 : Int32))), .unset, .unset, .unset, .unset] [(.int (1 : Int32)), (.int (x0_2 &&& (2147483647 : Int32)))])) _
              refine XS.ior X1.here hx rfl (hb hby at_25) rfl ?_
              show Steps p.tables e below (T1.setTop (mkF m 26 #[.val (.int x0_0), .val (.int x0_1), .val (.int x0_2), .val (.int ((x0_0 &&& (2147483647 : Int32)) % (6 : Int32))), .val (.ref w_GREATER_OR_EQUAL), .val (.int (x0_1 ||| (-2147483648 : Int32))), .unset, .unset, .unset, .unset] [(.int ((x0_2 &&& (2147483647 : Int32)) ||| (1 : Int32)))])) _
              refine XS.istore X1.here hx rfl (hb hby at_26) rfl (l' := #[.val (.int x0_0), .val (.int x0_1), .val (.int x0_2), .val (.int ((x0_0 &&& (2147483647 : Int32)) % (6 : Int32))), .val (.ref w_GREATER_OR_EQUAL), .val (.int (x0_1 ||| (-2147483648 : Int32))), .val (.int ((x0_2 &&& (2147483647 : Int32)) ||| (1 : Int32))), .unset, .unset, .unset]) rfl ?_
              show Steps p.tables e below (T1.setTop (mkF m 28 #[.val (.int x0_0), .val (.int x0_1), .val (.int x0_2), .val (.int ((x0_0 &&& (2147483647 : Int32)) % (6 : Int32))), .val (.ref w_GREATER_OR_EQUAL), .val (.int (x0_1 ||| (-2147483648 : Int32))), .val (.int ((x0_2 &&& (2147483647 : Int32)) ||| (1 : Int32))), .unset, .unset, .unset] [])) _
              refine XS.aload X1.here hx rfl (hb hby at_28) rfl rfl ?_
              exact kt
            obtain ⟨cq38, kq38, q38a, q38b, q38c⟩ := isOf hZ e1 (W.2.2.2.2.2.2.2.2.2.2.2.1)
            obtain ⟨v38, _, ⟨T38, L38, k38, n38⟩, -, X38, ⟨Lc38, hQ38, l38, y38, z38⟩, st38⟩ := X1.virtualBack hx (y := (⟨"com/example/unit_of_work/unitofwork/Condition$Operator", "orders", "()Z"⟩ : MethodName)) (z := (⟨"com/example/unit_of_work/unitofwork/Condition$Operator", "orders", "()Z"⟩ : MethodName)) hown (mvT hZ (hw _ (List.mem_of_getElem? (i := 9) rfl))) (mvT hZ (hw _ (List.mem_of_getElem? (i := 10) rfl))) (notFace_of_selects (args := #[]) (mvT hZ (hw _ (List.mem_of_getElem? (i := 12) rfl)))) (mvT hZ (hw _ (List.mem_of_getElem? (i := 12) rfl))) (mvT hZ (hw _ (List.mem_of_getElem? (i := 11) rfl))) (by decide) (backOf (W := 0) (rm2 l Z a0 hw [] w_GREATER_OR_EQUAL w_EQUAL w_NOT_EQUAL w_LESS_THAN w_LESS_OR_EQUAL w_GREATER_THAN w_GREATER_OR_EQUAL h0 n0 Z0 W) hZ (hw _ (List.mem_of_getElem? (i := 13) rfl)) (hw _ (List.mem_of_getElem? (i := 6) rfl)) (by decide) (by decide)) q38a q38c (g := (mkF m 30 #[.val (.int x0_0), .val (.int x0_1), .val (.int x0_2), .val (.int ((x0_0 &&& (2147483647 : Int32)) % (6 : Int32))), .val (.ref w_GREATER_OR_EQUAL), .val (.int (x0_1 ||| (-2147483648 : Int32))), .val (.int ((x0_2 &&& (2147483647 : Int32)) ||| (1 : Int32))), .unset, .unset, .unset] [(.ref w_GREATER_OR_EQUAL)])) rfl (by rw [hml]; rfl) (Steps.refl _) (argsL := []) (rest := []) (lenOf pd_2 rfl) rfl (by show 2 * 0 + _ ≤ _; exact Nat.le_of_eq rfl) (hb hby at_30) (fun _ _ => ⟨rfl, e1, (by decide : 0 + 0 ≤ _), (by decide : 0 + 0 ≤ _)⟩)
            dsimp only [Pt.U, Pt.locs, Pt.cells, Pt.slots] at X38 l38 y38 z38 st38 hQ38
            subst l38 y38 z38
            obtain ⟨hv38, N38q, e38⟩ := hQ38
            have N38 := Fr.app N1 N38q
            have hf38 : f2 w_GREATER_OR_EQUAL w_EQUAL w_NOT_EQUAL w_LESS_THAN w_LESS_OR_EQUAL w_GREATER_THAN w_GREATER_OR_EQUAL = (1 : Int32) := by unfold f2; rw [if_neg (Fld.ne (W.2.2.2.2.2.2.2.2.2.2.2.2.2.2.2.2.2) (W.2.2.2.2.2.2.2.2.2.2.2.2.1) (by decide) : ¬ (w_GREATER_OR_EQUAL = w_EQUAL)), if_neg (Fld.ne (W.2.2.2.2.2.2.2.2.2.2.2.2.2.2.2.2.2) (W.2.2.2.2.2.2.2.2.2.2.2.2.2.1) (by decide) : ¬ (w_GREATER_OR_EQUAL = w_NOT_EQUAL))]
            rw [hf38] at hv38
            subst hv38
            have sg41 : ∀ t, Steps p.tables e below (T38.setTop (mkF m 39 #[.val (.int x0_0), .val (.int x0_1), .val (.int x0_2), .val (.int ((x0_0 &&& (2147483647 : Int32)) % (6 : Int32))), .val (.ref w_GREATER_OR_EQUAL), .val (.int (x0_1 ||| (-2147483648 : Int32))), .val (.int ((x0_2 &&& (2147483647 : Int32)) ||| (1 : Int32))), .val (.int (1 : Int32)), .unset, .unset] [(.int (x0_1 ||| (-2147483648 : Int32))), (.ref w_GREATER_OR_EQUAL)])) t → Steps p.tables e below (T1.setTop (mkF m 30 #[.val (.int x0_0), .val (.int x0_1), .val (.int x0_2), .val (.int ((x0_0 &&& (2147483647 : Int32)) % (6 : Int32))), .val (.ref w_GREATER_OR_EQUAL), .val (.int (x0_1 ||| (-2147483648 : Int32))), .val (.int ((x0_2 &&& (2147483647 : Int32)) ||| (1 : Int32))), .unset, .unset, .unset] [(.ref w_GREATER_OR_EQUAL)])) t := fun t kt => by
              show Steps p.tables e below (T1.setTop (mkF m 30 #[.val (.int x0_0), .val (.int x0_1), .val (.int x0_2), .val (.int ((x0_0 &&& (2147483647 : Int32)) % (6 : Int32))), .val (.ref w_GREATER_OR_EQUAL), .val (.int (x0_1 ||| (-2147483648 : Int32))), .val (.int ((x0_2 &&& (2147483647 : Int32)) ||| (1 : Int32))), .unset, .unset, .unset] [(.ref w_GREATER_OR_EQUAL)])) _
              refine st38.trans ?_
              show Steps p.tables e below (T38.setTop (mkF m 33 #[.val (.int x0_0), .val (.int x0_1), .val (.int x0_2), .val (.int ((x0_0 &&& (2147483647 : Int32)) % (6 : Int32))), .val (.ref w_GREATER_OR_EQUAL), .val (.int (x0_1 ||| (-2147483648 : Int32))), .val (.int ((x0_2 &&& (2147483647 : Int32)) ||| (1 : Int32))), .unset, .unset, .unset] [(.int (1 : Int32))])) _
              refine XS.istore X38.here hx rfl (hb hby at_33) rfl (l' := #[.val (.int x0_0), .val (.int x0_1), .val (.int x0_2), .val (.int ((x0_0 &&& (2147483647 : Int32)) % (6 : Int32))), .val (.ref w_GREATER_OR_EQUAL), .val (.int (x0_1 ||| (-2147483648 : Int32))), .val (.int ((x0_2 &&& (2147483647 : Int32)) ||| (1 : Int32))), .val (.int (1 : Int32)), .unset, .unset]) rfl ?_
              show Steps p.tables e below (T38.setTop (mkF m 35 #[.val (.int x0_0), .val (.int x0_1), .val (.int x0_2), .val (.int ((x0_0 &&& (2147483647 : Int32)) % (6 : Int32))), .val (.ref w_GREATER_OR_EQUAL), .val (.int (x0_1 ||| (-2147483648 : Int32))), .val (.int ((x0_2 &&& (2147483647 : Int32)) ||| (1 : Int32))), .val (.int (1 : Int32)), .unset, .unset] [])) _
              refine XS.aload X38.here hx rfl (hb hby at_35) rfl rfl ?_
              show Steps p.tables e below (T38.setTop (mkF m 37 #[.val (.int x0_0), .val (.int x0_1), .val (.int x0_2), .val (.int ((x0_0 &&& (2147483647 : Int32)) % (6 : Int32))), .val (.ref w_GREATER_OR_EQUAL), .val (.int (x0_1 ||| (-2147483648 : Int32))), .val (.int ((x0_2 &&& (2147483647 : Int32)) ||| (1 : Int32))), .val (.int (1 : Int32)), .unset, .unset] [(.ref w_GREATER_OR_EQUAL)])) _
              refine XS.iload X38.here hx rfl (hb hby at_37) rfl ?_
              exact kt
            obtain ⟨cq40, kq40, q40a, q40b, q40c⟩ := isOf hZ e38 (W.2.2.2.2.2.2.2.2.2.2.2.1)
            obtain ⟨v40, _, ⟨T40, L40, k40, n40⟩, -, X40, ⟨Lc40, hQ40, l40, y40, z40⟩, st40⟩ := X38.virtualBack hx (y := (⟨"com/example/unit_of_work/unitofwork/Condition$Operator", "holds", "(I)Z"⟩ : MethodName)) (z := (⟨"com/example/unit_of_work/unitofwork/Condition$Operator", "holds", "(I)Z"⟩ : MethodName)) hown (mvT hZ (hw _ (List.mem_of_getElem? (i := 15) rfl))) (mvT hZ (hw _ (List.mem_of_getElem? (i := 16) rfl))) (notFace_of_selects (args := #[]) (mvT hZ (hw _ (List.mem_of_getElem? (i := 18) rfl)))) (mvT hZ (hw _ (List.mem_of_getElem? (i := 18) rfl))) (mvT hZ (hw _ (List.mem_of_getElem? (i := 17) rfl))) (by decide) (backOf (W := 0) (rm3 l Z a0 hw [] w_GREATER_OR_EQUAL (x0_1 ||| (-2147483648 : Int32)) w_EQUAL w_NOT_EQUAL w_LESS_THAN w_LESS_OR_EQUAL w_GREATER_THAN w_GREATER_OR_EQUAL (5 : Int32) h0 n0 Z0 W (W.2.2.2.2.2.2.2.2.2.2.2.2.2.2.2.2.2) (W.2.2.2.2.2.2.2.2.2.2.2.1) (by decide)) hZ (hw _ (List.mem_of_getElem? (i := 19) rfl)) (hw _ (List.mem_of_getElem? (i := 6) rfl)) (by decide) (by decide)) q40a q40c (g := (mkF m 39 #[.val (.int x0_0), .val (.int x0_1), .val (.int x0_2), .val (.int ((x0_0 &&& (2147483647 : Int32)) % (6 : Int32))), .val (.ref w_GREATER_OR_EQUAL), .val (.int (x0_1 ||| (-2147483648 : Int32))), .val (.int ((x0_2 &&& (2147483647 : Int32)) ||| (1 : Int32))), .val (.int (1 : Int32)), .unset, .unset] [(.int (x0_1 ||| (-2147483648 : Int32))), (.ref w_GREATER_OR_EQUAL)])) rfl (by rw [hml]; rfl) (Steps.refl _) (argsL := [(.int (x0_1 ||| (-2147483648 : Int32)))]) (rest := []) (lenOf pd_3 rfl) rfl (by show 2 * 0 + _ ≤ _; exact Nat.le_of_eq rfl) (hb hby at_39) (fun _ _ => ⟨rfl, e38, (by decide : 0 + 0 ≤ _), (by decide : 0 + 0 ≤ _)⟩)
            dsimp only [Pt.U, Pt.locs, Pt.cells, Pt.slots] at X40 l40 y40 z40 st40 hQ40
            subst l40 y40 z40
            obtain ⟨hv40, N40q, e40⟩ := hQ40
            have N40 := Fr.app N38 N40q
            have hf40 : f3 w_GREATER_OR_EQUAL (x0_1 ||| (-2147483648 : Int32)) w_EQUAL w_NOT_EQUAL w_LESS_THAN w_LESS_OR_EQUAL w_GREATER_THAN w_GREATER_OR_EQUAL (5 : Int32) = (0 : Int32) := by unfold f3; rw [if_neg (by decide : ¬ ((5 : Int32) = (0 : Int32))), if_neg (by decide : ¬ ((5 : Int32) = (1 : Int32))), if_neg (by decide : ¬ ((5 : Int32) = (2 : Int32))), if_neg (by decide : ¬ ((5 : Int32) = (3 : Int32))), if_neg (by decide : ¬ ((5 : Int32) = (4 : Int32))), if_pos (by decide : ((5 : Int32) = (5 : Int32))), if_pos (own_neg x0_1)]
            rw [hf40] at hv40
            subst hv40
            have sg43 : ∀ t, Steps p.tables e below (T40.setTop (mkF m 46 #[.val (.int x0_0), .val (.int x0_1), .val (.int x0_2), .val (.int ((x0_0 &&& (2147483647 : Int32)) % (6 : Int32))), .val (.ref w_GREATER_OR_EQUAL), .val (.int (x0_1 ||| (-2147483648 : Int32))), .val (.int ((x0_2 &&& (2147483647 : Int32)) ||| (1 : Int32))), .val (.int (1 : Int32)), .unset, .unset] [(.int ((x0_2 &&& (2147483647 : Int32)) ||| (1 : Int32))), (.ref w_GREATER_OR_EQUAL), (.int (0 : Int32))])) t → Steps p.tables e below (T38.setTop (mkF m 39 #[.val (.int x0_0), .val (.int x0_1), .val (.int x0_2), .val (.int ((x0_0 &&& (2147483647 : Int32)) % (6 : Int32))), .val (.ref w_GREATER_OR_EQUAL), .val (.int (x0_1 ||| (-2147483648 : Int32))), .val (.int ((x0_2 &&& (2147483647 : Int32)) ||| (1 : Int32))), .val (.int (1 : Int32)), .unset, .unset] [(.int (x0_1 ||| (-2147483648 : Int32))), (.ref w_GREATER_OR_EQUAL)])) t := fun t kt => by
              show Steps p.tables e below (T38.setTop (mkF m 39 #[.val (.int x0_0), .val (.int x0_1), .val (.int x0_2), .val (.int ((x0_0 &&& (2147483647 : Int32)) % (6 : Int32))), .val (.ref w_GREATER_OR_EQUAL), .val (.int (x0_1 ||| (-2147483648 : Int32))), .val (.int ((x0_2 &&& (2147483647 : Int32)) ||| (1 : Int32))), .val (.int (1 : Int32)), .unset, .unset] [(.int (x0_1 ||| (-2147483648 : Int32))), (.ref w_GREATER_OR_EQUAL)])) _
              refine st40.trans ?_
              show Steps p.tables e below (T40.setTop (mkF m 42 #[.val (.int x0_0), .val (.int x0_1), .val (.int x0_2), .val (.int ((x0_0 &&& (2147483647 : Int32)) % (6 : Int32))), .val (.ref w_GREATER_OR_EQUAL), .val (.int (x0_1 ||| (-2147483648 : Int32))), .val (.int ((x0_2 &&& (2147483647 : Int32)) ||| (1 : Int32))), .val (.int (1 : Int32)), .unset, .unset] [(.int (0 : Int32))])) _
              refine XS.aload X40.here hx rfl (hb hby at_42) rfl rfl ?_
              show Steps p.tables e below (T40.setTop (mkF m 44 #[.val (.int x0_0), .val (.int x0_1), .val (.int x0_2), .val (.int ((x0_0 &&& (2147483647 : Int32)) % (6 : Int32))), .val (.ref w_GREATER_OR_EQUAL), .val (.int (x0_1 ||| (-2147483648 : Int32))), .val (.int ((x0_2 &&& (2147483647 : Int32)) ||| (1 : Int32))), .val (.int (1 : Int32)), .unset, .unset] [(.ref w_GREATER_OR_EQUAL), (.int (0 : Int32))])) _
              refine XS.iload X40.here hx rfl (hb hby at_44) rfl ?_
              exact kt
            obtain ⟨cq42, kq42, q42a, q42b, q42c⟩ := isOf hZ e40 (W.2.2.2.2.2.2.2.2.2.2.2.1)
            obtain ⟨v42, _, ⟨T42, L42, k42, n42⟩, -, X42, ⟨Lc42, hQ42, l42, y42, z42⟩, st42⟩ := X40.virtualBack hx (y := (⟨"com/example/unit_of_work/unitofwork/Condition$Operator", "holds", "(I)Z"⟩ : MethodName)) (z := (⟨"com/example/unit_of_work/unitofwork/Condition$Operator", "holds", "(I)Z"⟩ : MethodName)) hown (mvT hZ (hw _ (List.mem_of_getElem? (i := 15) rfl))) (mvT hZ (hw _ (List.mem_of_getElem? (i := 16) rfl))) (notFace_of_selects (args := #[]) (mvT hZ (hw _ (List.mem_of_getElem? (i := 18) rfl)))) (mvT hZ (hw _ (List.mem_of_getElem? (i := 18) rfl))) (mvT hZ (hw _ (List.mem_of_getElem? (i := 17) rfl))) (by decide) (backOf (W := 1) (rm3 l Z a0 hw [] w_GREATER_OR_EQUAL ((x0_2 &&& (2147483647 : Int32)) ||| (1 : Int32)) w_EQUAL w_NOT_EQUAL w_LESS_THAN w_LESS_OR_EQUAL w_GREATER_THAN w_GREATER_OR_EQUAL (5 : Int32) h0 n0 Z0 W (W.2.2.2.2.2.2.2.2.2.2.2.2.2.2.2.2.2) (W.2.2.2.2.2.2.2.2.2.2.2.1) (by decide)) hZ (hw _ (List.mem_of_getElem? (i := 19) rfl)) (hw _ (List.mem_of_getElem? (i := 6) rfl)) (by decide) (by decide)) q42a q42c (g := (mkF m 46 #[.val (.int x0_0), .val (.int x0_1), .val (.int x0_2), .val (.int ((x0_0 &&& (2147483647 : Int32)) % (6 : Int32))), .val (.ref w_GREATER_OR_EQUAL), .val (.int (x0_1 ||| (-2147483648 : Int32))), .val (.int ((x0_2 &&& (2147483647 : Int32)) ||| (1 : Int32))), .val (.int (1 : Int32)), .unset, .unset] [(.int ((x0_2 &&& (2147483647 : Int32)) ||| (1 : Int32))), (.ref w_GREATER_OR_EQUAL), (.int (0 : Int32))])) rfl (by rw [hml]; rfl) (Steps.refl _) (argsL := [(.int ((x0_2 &&& (2147483647 : Int32)) ||| (1 : Int32)))]) (rest := [(.int (0 : Int32))]) (lenOf pd_3 rfl) rfl (by show 2 * 0 + _ ≤ _; exact Nat.le_of_eq rfl) (hb hby at_46) (fun _ _ => ⟨rfl, e40, (by decide : 0 + 0 ≤ _), (by decide : 0 + 0 ≤ _)⟩)
            dsimp only [Pt.U, Pt.locs, Pt.cells, Pt.slots] at X42 l42 y42 z42 st42 hQ42
            subst l42 y42 z42
            obtain ⟨hv42, N42q, e42⟩ := hQ42
            have N42 := Fr.app N40 N42q
            have hf42 : f3 w_GREATER_OR_EQUAL ((x0_2 &&& (2147483647 : Int32)) ||| (1 : Int32)) w_EQUAL w_NOT_EQUAL w_LESS_THAN w_LESS_OR_EQUAL w_GREATER_THAN w_GREATER_OR_EQUAL (5 : Int32) = (1 : Int32) := by unfold f3; rw [if_neg (by decide : ¬ ((5 : Int32) = (0 : Int32))), if_neg (by decide : ¬ ((5 : Int32) = (1 : Int32))), if_neg (by decide : ¬ ((5 : Int32) = (2 : Int32))), if_neg (by decide : ¬ ((5 : Int32) = (3 : Int32))), if_neg (by decide : ¬ ((5 : Int32) = (4 : Int32))), if_pos (by decide : ((5 : Int32) = (5 : Int32))), if_neg (own_po2 x0_2)]
            rw [hf42] at hv42
            subst hv42
            have sg44 : ∀ t, Steps p.tables e below (T42.setTop (mkF m 61 #[.val (.int x0_0), .val (.int x0_1), .val (.int x0_2), .val (.int ((x0_0 &&& (2147483647 : Int32)) % (6 : Int32))), .val (.ref w_GREATER_OR_EQUAL), .val (.int (x0_1 ||| (-2147483648 : Int32))), .val (.int ((x0_2 &&& (2147483647 : Int32)) ||| (1 : Int32))), .val (.int (1 : Int32)), .val (.int (1 : Int32)), .unset] [(.int (2 : Int32)), (.int ((x0_0 &&& (2147483647 : Int32)) % (6 : Int32)))])) t → Steps p.tables e below (T40.setTop (mkF m 46 #[.val (.int x0_0), .val (.int x0_1), .val (.int x0_2), .val (.int ((x0_0 &&& (2147483647 : Int32)) % (6 : Int32))), .val (.ref w_GREATER_OR_EQUAL), .val (.int (x0_1 ||| (-2147483648 : Int32))), .val (.int ((x0_2 &&& (2147483647 : Int32)) ||| (1 : Int32))), .val (.int (1 : Int32)), .unset, .unset] [(.int ((x0_2 &&& (2147483647 : Int32)) ||| (1 : Int32))), (.ref w_GREATER_OR_EQUAL), (.int (0 : Int32))])) t := fun t kt => by
              show Steps p.tables e below (T40.setTop (mkF m 46 #[.val (.int x0_0), .val (.int x0_1), .val (.int x0_2), .val (.int ((x0_0 &&& (2147483647 : Int32)) % (6 : Int32))), .val (.ref w_GREATER_OR_EQUAL), .val (.int (x0_1 ||| (-2147483648 : Int32))), .val (.int ((x0_2 &&& (2147483647 : Int32)) ||| (1 : Int32))), .val (.int (1 : Int32)), .unset, .unset] [(.int ((x0_2 &&& (2147483647 : Int32)) ||| (1 : Int32))), (.ref w_GREATER_OR_EQUAL), (.int (0 : Int32))])) _
              refine st42.trans ?_
              show Steps p.tables e below (T42.setTop (mkF m 49 #[.val (.int x0_0), .val (.int x0_1), .val (.int x0_2), .val (.int ((x0_0 &&& (2147483647 : Int32)) % (6 : Int32))), .val (.ref w_GREATER_OR_EQUAL), .val (.int (x0_1 ||| (-2147483648 : Int32))), .val (.int ((x0_2 &&& (2147483647 : Int32)) ||| (1 : Int32))), .val (.int (1 : Int32)), .unset, .unset] [(.int (1 : Int32)), (.int (0 : Int32))])) _
              refine XS.icmpNo X42.here hx rfl (hb hby at_49) rfl (feq (by decide : ¬ ((0 : Int32) = (1 : Int32)))).1 ?_
              show Steps p.tables e below (T42.setTop (mkF m 52 #[.val (.int x0_0), .val (.int x0_1), .val (.int x0_2), .val (.int ((x0_0 &&& (2147483647 : Int32)) % (6 : Int32))), .val (.ref w_GREATER_OR_EQUAL), .val (.int (x0_1 ||| (-2147483648 : Int32))), .val (.int ((x0_2 &&& (2147483647 : Int32)) ||| (1 : Int32))), .val (.int (1 : Int32)), .unset, .unset] [])) _
              refine XS.iconst X42.here hx rfl (hb hby at_52) ?_
              show Steps p.tables e below (T42.setTop (mkF m 53 #[.val (.int x0_0), .val (.int x0_1), .val (.int x0_2), .val (.int ((x0_0 &&& (2147483647 : Int32)) % (6 : Int32))), .val (.ref w_GREATER_OR_EQUAL), .val (.int (x0_1 ||| (-2147483648 : Int32))), .val (.int ((x0_2 &&& (2147483647 : Int32)) ||| (1 : Int32))), .val (.int (1 : Int32)), .unset, .unset] [(.int (1 : Int32))])) _
              refine XS.goto X42.here hx rfl (pc0 := 53) (pc' := 57) rfl (hb hby at_53) (by decide) (by decide) ?_
              show Steps p.tables e below (T42.setTop (mkF m 57 #[.val (.int x0_0), .val (.int x0_1), .val (.int x0_2), .val (.int ((x0_0 &&& (2147483647 : Int32)) % (6 : Int32))), .val (.ref w_GREATER_OR_EQUAL), .val (.int (x0_1 ||| (-2147483648 : Int32))), .val (.int ((x0_2 &&& (2147483647 : Int32)) ||| (1 : Int32))), .val (.int (1 : Int32)), .unset, .unset] [(.int (1 : Int32))])) _
              refine XS.istore X42.here hx rfl (hb hby at_57) rfl (l' := #[.val (.int x0_0), .val (.int x0_1), .val (.int x0_2), .val (.int ((x0_0 &&& (2147483647 : Int32)) % (6 : Int32))), .val (.ref w_GREATER_OR_EQUAL), .val (.int (x0_1 ||| (-2147483648 : Int32))), .val (.int ((x0_2 &&& (2147483647 : Int32)) ||| (1 : Int32))), .val (.int (1 : Int32)), .val (.int (1 : Int32)), .unset]) rfl ?_
              show Steps p.tables e below (T42.setTop (mkF m 59 #[.val (.int x0_0), .val (.int x0_1), .val (.int x0_2), .val (.int ((x0_0 &&& (2147483647 : Int32)) % (6 : Int32))), .val (.ref w_GREATER_OR_EQUAL), .val (.int (x0_1 ||| (-2147483648 : Int32))), .val (.int ((x0_2 &&& (2147483647 : Int32)) ||| (1 : Int32))), .val (.int (1 : Int32)), .val (.int (1 : Int32)), .unset] [])) _
              refine XS.iloadN X42.here hx rfl (hb hby at_59) rfl ?_
              show Steps p.tables e below (T42.setTop (mkF m 60 #[.val (.int x0_0), .val (.int x0_1), .val (.int x0_2), .val (.int ((x0_0 &&& (2147483647 : Int32)) % (6 : Int32))), .val (.ref w_GREATER_OR_EQUAL), .val (.int (x0_1 ||| (-2147483648 : Int32))), .val (.int ((x0_2 &&& (2147483647 : Int32)) ||| (1 : Int32))), .val (.int (1 : Int32)), .val (.int (1 : Int32)), .unset] [(.int ((x0_0 &&& (2147483647 : Int32)) % (6 : Int32)))])) _
              refine XS.iconst X42.here hx rfl (hb hby at_60) ?_
              exact kt
            by_cases hc61_45 : ((x0_0 &&& (2147483647 : Int32)) % (6 : Int32)) < (2 : Int32)
            · obtain ⟨fs, hr, hrun, hended, hW, hsame⟩ := X42.leave (v := some (.int (0 : Int32))) (fun h => by rw [Bd.returns] at h; cases h)
              refine ⟨_, _, pre0 _ (sg2 _ (sg39 _ (sg41 _ (sg43 _ (sg44 _ ?_))))), hrun, hended, _, _, rfl, ?_, ⟨_, rfl⟩, hW, hsame.mono (by decide) (by decide)⟩
              · show Steps p.tables e below (T42.setTop (mkF m 61 #[.val (.int x0_0), .val (.int x0_1), .val (.int x0_2), .val (.int ((x0_0 &&& (2147483647 : Int32)) % (6 : Int32))), .val (.ref w_GREATER_OR_EQUAL), .val (.int (x0_1 ||| (-2147483648 : Int32))), .val (.int ((x0_2 &&& (2147483647 : Int32)) ||| (1 : Int32))), .val (.int (1 : Int32)), .val (.int (1 : Int32)), .unset] [(.int (2 : Int32)), (.int ((x0_0 &&& (2147483647 : Int32)) % (6 : Int32)))])) _
                refine XS.icmpYes X42.here hx rfl (pc0 := 61) (pc' := 68) rfl (hb hby at_61) rfl (tlt hc61_45).1 (by decide) (by decide) ?_
                show Steps p.tables e below (T42.setTop (mkF m 68 #[.val (.int x0_0), .val (.int x0_1), .val (.int x0_2), .val (.int ((x0_0 &&& (2147483647 : Int32)) % (6 : Int32))), .val (.ref w_GREATER_OR_EQUAL), .val (.int (x0_1 ||| (-2147483648 : Int32))), .val (.int ((x0_2 &&& (2147483647 : Int32)) ||| (1 : Int32))), .val (.int (1 : Int32)), .val (.int (1 : Int32)), .unset] [])) _
                refine XS.iconst X42.here hx rfl (hb hby at_68) ?_
                show Steps p.tables e below (T42.setTop (mkF m 69 #[.val (.int x0_0), .val (.int x0_1), .val (.int x0_2), .val (.int ((x0_0 &&& (2147483647 : Int32)) % (6 : Int32))), .val (.ref w_GREATER_OR_EQUAL), .val (.int (x0_1 ||| (-2147483648 : Int32))), .val (.int ((x0_2 &&& (2147483647 : Int32)) ||| (1 : Int32))), .val (.int (1 : Int32)), .val (.int (1 : Int32)), .unset] [(.int (0 : Int32))])) _
                refine XS.istore X42.here hx rfl (hb hby at_69) rfl (l' := #[.val (.int x0_0), .val (.int x0_1), .val (.int x0_2), .val (.int ((x0_0 &&& (2147483647 : Int32)) % (6 : Int32))), .val (.ref w_GREATER_OR_EQUAL), .val (.int (x0_1 ||| (-2147483648 : Int32))), .val (.int ((x0_2 &&& (2147483647 : Int32)) ||| (1 : Int32))), .val (.int (1 : Int32)), .val (.int (1 : Int32)), .val (.int (0 : Int32))]) rfl ?_
                show Steps p.tables e below (T42.setTop (mkF m 71 #[.val (.int x0_0), .val (.int x0_1), .val (.int x0_2), .val (.int ((x0_0 &&& (2147483647 : Int32)) % (6 : Int32))), .val (.ref w_GREATER_OR_EQUAL), .val (.int (x0_1 ||| (-2147483648 : Int32))), .val (.int ((x0_2 &&& (2147483647 : Int32)) ||| (1 : Int32))), .val (.int (1 : Int32)), .val (.int (1 : Int32)), .val (.int (0 : Int32))] [])) _
                refine XS.iload X42.here hx rfl (hb hby at_71) rfl ?_
                show Steps p.tables e below (T42.setTop (mkF m 73 #[.val (.int x0_0), .val (.int x0_1), .val (.int x0_2), .val (.int ((x0_0 &&& (2147483647 : Int32)) % (6 : Int32))), .val (.ref w_GREATER_OR_EQUAL), .val (.int (x0_1 ||| (-2147483648 : Int32))), .val (.int ((x0_2 &&& (2147483647 : Int32)) ||| (1 : Int32))), .val (.int (1 : Int32)), .val (.int (1 : Int32)), .val (.int (0 : Int32))] [(.int (1 : Int32))])) _
                refine XS.iload X42.here hx rfl (hb hby at_73) rfl ?_
                show Steps p.tables e below (T42.setTop (mkF m 75 #[.val (.int x0_0), .val (.int x0_1), .val (.int x0_2), .val (.int ((x0_0 &&& (2147483647 : Int32)) % (6 : Int32))), .val (.ref w_GREATER_OR_EQUAL), .val (.int (x0_1 ||| (-2147483648 : Int32))), .val (.int ((x0_2 &&& (2147483647 : Int32)) ||| (1 : Int32))), .val (.int (1 : Int32)), .val (.int (1 : Int32)), .val (.int (0 : Int32))] [(.int (1 : Int32)), (.int (1 : Int32))])) _
                refine XS.icmpNo X42.here hx rfl (hb hby at_75) rfl (teq (by decide : ((1 : Int32) = (1 : Int32)))).2 ?_
                show Steps p.tables e below (T42.setTop (mkF m 78 #[.val (.int x0_0), .val (.int x0_1), .val (.int x0_2), .val (.int ((x0_0 &&& (2147483647 : Int32)) % (6 : Int32))), .val (.ref w_GREATER_OR_EQUAL), .val (.int (x0_1 ||| (-2147483648 : Int32))), .val (.int ((x0_2 &&& (2147483647 : Int32)) ||| (1 : Int32))), .val (.int (1 : Int32)), .val (.int (1 : Int32)), .val (.int (0 : Int32))] [])) _
                refine XS.iload X42.here hx rfl (hb hby at_78) rfl ?_
                show Steps p.tables e below (T42.setTop (mkF m 80 #[.val (.int x0_0), .val (.int x0_1), .val (.int x0_2), .val (.int ((x0_0 &&& (2147483647 : Int32)) % (6 : Int32))), .val (.ref w_GREATER_OR_EQUAL), .val (.int (x0_1 ||| (-2147483648 : Int32))), .val (.int ((x0_2 &&& (2147483647 : Int32)) ||| (1 : Int32))), .val (.int (1 : Int32)), .val (.int (1 : Int32)), .val (.int (0 : Int32))] [(.int (1 : Int32))])) _
                refine XS.iload X42.here hx rfl (hb hby at_80) rfl ?_
                show Steps p.tables e below (T42.setTop (mkF m 82 #[.val (.int x0_0), .val (.int x0_1), .val (.int x0_2), .val (.int ((x0_0 &&& (2147483647 : Int32)) % (6 : Int32))), .val (.ref w_GREATER_OR_EQUAL), .val (.int (x0_1 ||| (-2147483648 : Int32))), .val (.int ((x0_2 &&& (2147483647 : Int32)) ||| (1 : Int32))), .val (.int (1 : Int32)), .val (.int (1 : Int32)), .val (.int (0 : Int32))] [(.int (0 : Int32)), (.int (1 : Int32))])) _
                refine XS.icmpYes X42.here hx rfl (pc0 := 82) (pc' := 89) rfl (hb hby at_82) rfl (feq (by decide : ¬ ((1 : Int32) = (0 : Int32)))).2 (by decide) (by decide) ?_
                show Steps p.tables e below (T42.setTop (mkF m 89 #[.val (.int x0_0), .val (.int x0_1), .val (.int x0_2), .val (.int ((x0_0 &&& (2147483647 : Int32)) % (6 : Int32))), .val (.ref w_GREATER_OR_EQUAL), .val (.int (x0_1 ||| (-2147483648 : Int32))), .val (.int ((x0_2 &&& (2147483647 : Int32)) ||| (1 : Int32))), .val (.int (1 : Int32)), .val (.int (1 : Int32)), .val (.int (0 : Int32))] [])) _
                refine XS.iconst X42.here hx rfl (hb hby at_89) ?_
                show Steps p.tables e below (T42.setTop (mkF m 90 #[.val (.int x0_0), .val (.int x0_1), .val (.int x0_2), .val (.int ((x0_0 &&& (2147483647 : Int32)) % (6 : Int32))), .val (.ref w_GREATER_OR_EQUAL), .val (.int (x0_1 ||| (-2147483648 : Int32))), .val (.int ((x0_2 &&& (2147483647 : Int32)) ||| (1 : Int32))), .val (.int (1 : Int32)), .val (.int (1 : Int32)), .val (.int (0 : Int32))] [(.int (0 : Int32))])) _
                exact retN X42 hx (t := .boolean) Bd.returns (by simp) (hb hby at_90) hr
              · exact ⟨congrArg (fun z => some (Value.int z)) (show (0 : Int32) = f0 x0_0 x0_1 x0_2 w_EQUAL w_NOT_EQUAL w_LESS_THAN w_LESS_OR_EQUAL w_GREATER_THAN w_GREATER_OR_EQUAL from by unfold f0; rw [if_neg hs9_3, if_neg hs9_10, if_neg hs9_17, if_neg hs9_24, if_neg hs9_31, if_pos hc61_45]), N42, e42⟩
            · obtain ⟨fs, hr, hrun, hended, hW, hsame⟩ := X42.leave (v := some (.int (1 : Int32))) (fun h => by rw [Bd.returns] at h; cases h)
              refine ⟨_, _, pre0 _ (sg2 _ (sg39 _ (sg41 _ (sg43 _ (sg44 _ ?_))))), hrun, hended, _, _, rfl, ?_, ⟨_, rfl⟩, hW, hsame.mono (by decide) (by decide)⟩
              · show Steps p.tables e below (T42.setTop (mkF m 61 #[.val (.int x0_0), .val (.int x0_1), .val (.int x0_2), .val (.int ((x0_0 &&& (2147483647 : Int32)) % (6 : Int32))), .val (.ref w_GREATER_OR_EQUAL), .val (.int (x0_1 ||| (-2147483648 : Int32))), .val (.int ((x0_2 &&& (2147483647 : Int32)) ||| (1 : Int32))), .val (.int (1 : Int32)), .val (.int (1 : Int32)), .unset] [(.int (2 : Int32)), (.int ((x0_0 &&& (2147483647 : Int32)) % (6 : Int32)))])) _
                refine XS.icmpNo X42.here hx rfl (hb hby at_61) rfl (flt hc61_45).1 ?_
                show Steps p.tables e below (T42.setTop (mkF m 64 #[.val (.int x0_0), .val (.int x0_1), .val (.int x0_2), .val (.int ((x0_0 &&& (2147483647 : Int32)) % (6 : Int32))), .val (.ref w_GREATER_OR_EQUAL), .val (.int (x0_1 ||| (-2147483648 : Int32))), .val (.int ((x0_2 &&& (2147483647 : Int32)) ||| (1 : Int32))), .val (.int (1 : Int32)), .val (.int (1 : Int32)), .unset] [])) _
                refine XS.iconst X42.here hx rfl (hb hby at_64) ?_
                show Steps p.tables e below (T42.setTop (mkF m 65 #[.val (.int x0_0), .val (.int x0_1), .val (.int x0_2), .val (.int ((x0_0 &&& (2147483647 : Int32)) % (6 : Int32))), .val (.ref w_GREATER_OR_EQUAL), .val (.int (x0_1 ||| (-2147483648 : Int32))), .val (.int ((x0_2 &&& (2147483647 : Int32)) ||| (1 : Int32))), .val (.int (1 : Int32)), .val (.int (1 : Int32)), .unset] [(.int (1 : Int32))])) _
                refine XS.goto X42.here hx rfl (pc0 := 65) (pc' := 69) rfl (hb hby at_65) (by decide) (by decide) ?_
                show Steps p.tables e below (T42.setTop (mkF m 69 #[.val (.int x0_0), .val (.int x0_1), .val (.int x0_2), .val (.int ((x0_0 &&& (2147483647 : Int32)) % (6 : Int32))), .val (.ref w_GREATER_OR_EQUAL), .val (.int (x0_1 ||| (-2147483648 : Int32))), .val (.int ((x0_2 &&& (2147483647 : Int32)) ||| (1 : Int32))), .val (.int (1 : Int32)), .val (.int (1 : Int32)), .unset] [(.int (1 : Int32))])) _
                refine XS.istore X42.here hx rfl (hb hby at_69) rfl (l' := #[.val (.int x0_0), .val (.int x0_1), .val (.int x0_2), .val (.int ((x0_0 &&& (2147483647 : Int32)) % (6 : Int32))), .val (.ref w_GREATER_OR_EQUAL), .val (.int (x0_1 ||| (-2147483648 : Int32))), .val (.int ((x0_2 &&& (2147483647 : Int32)) ||| (1 : Int32))), .val (.int (1 : Int32)), .val (.int (1 : Int32)), .val (.int (1 : Int32))]) rfl ?_
                show Steps p.tables e below (T42.setTop (mkF m 71 #[.val (.int x0_0), .val (.int x0_1), .val (.int x0_2), .val (.int ((x0_0 &&& (2147483647 : Int32)) % (6 : Int32))), .val (.ref w_GREATER_OR_EQUAL), .val (.int (x0_1 ||| (-2147483648 : Int32))), .val (.int ((x0_2 &&& (2147483647 : Int32)) ||| (1 : Int32))), .val (.int (1 : Int32)), .val (.int (1 : Int32)), .val (.int (1 : Int32))] [])) _
                refine XS.iload X42.here hx rfl (hb hby at_71) rfl ?_
                show Steps p.tables e below (T42.setTop (mkF m 73 #[.val (.int x0_0), .val (.int x0_1), .val (.int x0_2), .val (.int ((x0_0 &&& (2147483647 : Int32)) % (6 : Int32))), .val (.ref w_GREATER_OR_EQUAL), .val (.int (x0_1 ||| (-2147483648 : Int32))), .val (.int ((x0_2 &&& (2147483647 : Int32)) ||| (1 : Int32))), .val (.int (1 : Int32)), .val (.int (1 : Int32)), .val (.int (1 : Int32))] [(.int (1 : Int32))])) _
                refine XS.iload X42.here hx rfl (hb hby at_73) rfl ?_
                show Steps p.tables e below (T42.setTop (mkF m 75 #[.val (.int x0_0), .val (.int x0_1), .val (.int x0_2), .val (.int ((x0_0 &&& (2147483647 : Int32)) % (6 : Int32))), .val (.ref w_GREATER_OR_EQUAL), .val (.int (x0_1 ||| (-2147483648 : Int32))), .val (.int ((x0_2 &&& (2147483647 : Int32)) ||| (1 : Int32))), .val (.int (1 : Int32)), .val (.int (1 : Int32)), .val (.int (1 : Int32))] [(.int (1 : Int32)), (.int (1 : Int32))])) _
                refine XS.icmpNo X42.here hx rfl (hb hby at_75) rfl (teq (by decide : ((1 : Int32) = (1 : Int32)))).2 ?_
                show Steps p.tables e below (T42.setTop (mkF m 78 #[.val (.int x0_0), .val (.int x0_1), .val (.int x0_2), .val (.int ((x0_0 &&& (2147483647 : Int32)) % (6 : Int32))), .val (.ref w_GREATER_OR_EQUAL), .val (.int (x0_1 ||| (-2147483648 : Int32))), .val (.int ((x0_2 &&& (2147483647 : Int32)) ||| (1 : Int32))), .val (.int (1 : Int32)), .val (.int (1 : Int32)), .val (.int (1 : Int32))] [])) _
                refine XS.iload X42.here hx rfl (hb hby at_78) rfl ?_
                show Steps p.tables e below (T42.setTop (mkF m 80 #[.val (.int x0_0), .val (.int x0_1), .val (.int x0_2), .val (.int ((x0_0 &&& (2147483647 : Int32)) % (6 : Int32))), .val (.ref w_GREATER_OR_EQUAL), .val (.int (x0_1 ||| (-2147483648 : Int32))), .val (.int ((x0_2 &&& (2147483647 : Int32)) ||| (1 : Int32))), .val (.int (1 : Int32)), .val (.int (1 : Int32)), .val (.int (1 : Int32))] [(.int (1 : Int32))])) _
                refine XS.iload X42.here hx rfl (hb hby at_80) rfl ?_
                show Steps p.tables e below (T42.setTop (mkF m 82 #[.val (.int x0_0), .val (.int x0_1), .val (.int x0_2), .val (.int ((x0_0 &&& (2147483647 : Int32)) % (6 : Int32))), .val (.ref w_GREATER_OR_EQUAL), .val (.int (x0_1 ||| (-2147483648 : Int32))), .val (.int ((x0_2 &&& (2147483647 : Int32)) ||| (1 : Int32))), .val (.int (1 : Int32)), .val (.int (1 : Int32)), .val (.int (1 : Int32))] [(.int (1 : Int32)), (.int (1 : Int32))])) _
                refine XS.icmpNo X42.here hx rfl (hb hby at_82) rfl (teq (by decide : ((1 : Int32) = (1 : Int32)))).2 ?_
                show Steps p.tables e below (T42.setTop (mkF m 85 #[.val (.int x0_0), .val (.int x0_1), .val (.int x0_2), .val (.int ((x0_0 &&& (2147483647 : Int32)) % (6 : Int32))), .val (.ref w_GREATER_OR_EQUAL), .val (.int (x0_1 ||| (-2147483648 : Int32))), .val (.int ((x0_2 &&& (2147483647 : Int32)) ||| (1 : Int32))), .val (.int (1 : Int32)), .val (.int (1 : Int32)), .val (.int (1 : Int32))] [])) _
                refine XS.iconst X42.here hx rfl (hb hby at_85) ?_
                show Steps p.tables e below (T42.setTop (mkF m 86 #[.val (.int x0_0), .val (.int x0_1), .val (.int x0_2), .val (.int ((x0_0 &&& (2147483647 : Int32)) % (6 : Int32))), .val (.ref w_GREATER_OR_EQUAL), .val (.int (x0_1 ||| (-2147483648 : Int32))), .val (.int ((x0_2 &&& (2147483647 : Int32)) ||| (1 : Int32))), .val (.int (1 : Int32)), .val (.int (1 : Int32)), .val (.int (1 : Int32))] [(.int (1 : Int32))])) _
                refine XS.goto X42.here hx rfl (pc0 := 86) (pc' := 90) rfl (hb hby at_86) (by decide) (by decide) ?_
                show Steps p.tables e below (T42.setTop (mkF m 90 #[.val (.int x0_0), .val (.int x0_1), .val (.int x0_2), .val (.int ((x0_0 &&& (2147483647 : Int32)) % (6 : Int32))), .val (.ref w_GREATER_OR_EQUAL), .val (.int (x0_1 ||| (-2147483648 : Int32))), .val (.int ((x0_2 &&& (2147483647 : Int32)) ||| (1 : Int32))), .val (.int (1 : Int32)), .val (.int (1 : Int32)), .val (.int (1 : Int32))] [(.int (1 : Int32))])) _
                exact retN X42 hx (t := .boolean) Bd.returns (by simp) (hb hby at_90) hr
              · exact ⟨congrArg (fun z => some (Value.int z)) (show (1 : Int32) = f0 x0_0 x0_1 x0_2 w_EQUAL w_NOT_EQUAL w_LESS_THAN w_LESS_OR_EQUAL w_GREATER_THAN w_GREATER_OR_EQUAL from by unfold f0; rw [if_neg hs9_3, if_neg hs9_10, if_neg hs9_17, if_neg hs9_24, if_neg hs9_31, if_neg hc61_45]), N42, e42⟩
theorem own_one (x0_0 x0_1 x0_2 : Int32) (w_EQUAL w_NOT_EQUAL w_LESS_THAN w_LESS_OR_EQUAL w_GREATER_THAN w_GREATER_OR_EQUAL : Addr) : f0 x0_0 x0_1 x0_2 w_EQUAL w_NOT_EQUAL w_LESS_THAN w_LESS_OR_EQUAL w_GREATER_THAN w_GREATER_OR_EQUAL = 1 := by
  unfold f0
  have m := Jvm.Kit.i32_mask x0_0 2147483647 (k := 31) (by decide) (by decide)
  have r := Jvm.Kit.i32_rem_nonneg (x := x0_0 &&& 2147483647) (y := 6) (by omega)
  rw [show (6 : Int32).toInt = 6 from by decide] at r
  generalize (x0_0 &&& (2147483647 : Int32)) % (6 : Int32) = a at *
  by_cases h0 : a = (0 : Int32)
  · rw [if_pos h0]
  · by_cases h1 : a = (1 : Int32)
    · rw [if_neg h0, if_pos h1]
    · have g0 : a.toInt ≠ 0 := fun q => h0 (Int32.toInt_inj.mp (q.trans (by decide)))
      have g1 : a.toInt ≠ 1 := fun q => h1 (Int32.toInt_inj.mp (q.trans (by decide)))
      have g2 : ¬ a < (2 : Int32) := by rw [Int32.lt_iff_toInt_lt, show (2 : Int32).toInt = 2 from by decide]; omega
      rw [if_neg h0, if_neg h1, if_neg g2]
      simp only [ite_self]
set_option maxRecDepth 65536 in
set_option maxHeartbeats 40000000 in
theorem comes_1 {Post : Tables → Env → Array Value → State → Outcome → State → Prop} (hpost : ∀ tb e args s v u, (limb_1_1.after args s (.returned v) u = true ∧ limb_1_2.after args s (.returned v) u = true ∧ True) → FrameEnd s (.returned v) u (Jvm.fieldLocs frame_1_writes args s ++ Jvm.arrayLocs frame_1_arrays args s ++ Jvm.staticLocs frame_1_statics s) 0 0 → Post tb e args s (.returned v) u) :
    ArmFor flags0 classFile x code maxLocals ret World_1 tables_1 room_1 Calls_1 rest_1 Pre_1 Post := by
  intro l hfl _ _ p e ha hc hk s m args below hf hA hF happ hP
  obtain ⟨hcalls, hrest, hpre⟩ := hP
  obtain ⟨-, -, -, hnamed, -, -, -, hat⟩ := (Spec.applies_iff hf).mp happ
  obtain ⟨hg, hn⟩ := and_e (Cond.before_iff.mp (show (Jvm.Cond.and given_1 narrow_1).before args s = true from hpre))
  obtain ⟨g1, g2⟩ := and_e hg
  obtain ⟨g3, g4⟩ := and_e g2
  obtain ⟨g5, g6⟩ := and_e g4
  obtain ⟨w0, w1, w2, rfl⟩ : ∃ w0 w1 w2 : Value, args = #[w0, w1, w2] := by
    have hs : args.size = 3 := by simpa [Cond.value, given_1] using g1
    obtain ⟨L⟩ := args
    match L, hs with
    | [w0, w1, w2], _ => exact ⟨w0, w1, w2, rfl⟩
  have hw := fun d (hd : d ∈ tables_1) => atoms_spec (ws := Jvm.Cond.code x code maxLocals ret :: tables_1) hat d (List.mem_cons_of_mem _ hd)
  obtain ⟨i0, ei0⟩ := is_v g3
  obtain rfl : w0 = (.int i0) := Option.some.inj ei0
  obtain ⟨i1, ei1⟩ := is_v g5
  obtain rfl : w1 = (.int i1) := Option.some.inj ei1
  obtain ⟨i2, ei2⟩ := is_v g6
  obtain rfl : w2 = (.int i2) := Option.some.inj ei2
  obtain ⟨m1, m2⟩ := and_e hn
  obtain ⟨m3, m4⟩ := and_e m2
  obtain ⟨m5, m6⟩ := and_e m4
  obtain ⟨m7, m8⟩ := and_e m6
  obtain ⟨m9, m10⟩ := and_e m8
  obtain ⟨m11, m12⟩ := and_e m10
  obtain ⟨m13, m14⟩ := and_e m12
  obtain ⟨m15, m16⟩ := and_e m14
  obtain ⟨m17, m18⟩ := and_e m16
  obtain ⟨m19, m20⟩ := and_e m18
  obtain ⟨m21, m22⟩ := and_e m20
  obtain ⟨w_EQUAL, evw_EQUAL⟩ := exa_v m1
  obtain ⟨w_NOT_EQUAL, evw_NOT_EQUAL⟩ := exa_v m5
  obtain ⟨w_LESS_THAN, evw_LESS_THAN⟩ := exa_v m9
  obtain ⟨w_LESS_OR_EQUAL, evw_LESS_OR_EQUAL⟩ := exa_v m17
  obtain ⟨w_GREATER_THAN, evw_GREATER_THAN⟩ := exa_v m21
  obtain ⟨w_GREATER_OR_EQUAL, evw_GREATER_OR_EQUAL⟩ := exa_v m13
  have WW : World s s.heap w_EQUAL w_NOT_EQUAL w_LESS_THAN w_LESS_OR_EQUAL w_GREATER_THAN w_GREATER_OR_EQUAL := ⟨Sta.start evw_EQUAL (Or.inr ⟨(hw _ (List.mem_of_getElem? (i := 6) rfl)), (hw _ (List.mem_of_getElem? (i := 7) rfl))⟩), Sta.start evw_NOT_EQUAL (Or.inr ⟨(hw _ (List.mem_of_getElem? (i := 6) rfl)), (hw _ (List.mem_of_getElem? (i := 30) rfl))⟩), Sta.start evw_LESS_THAN (Or.inr ⟨(hw _ (List.mem_of_getElem? (i := 6) rfl)), (hw _ (List.mem_of_getElem? (i := 33) rfl))⟩), Sta.start evw_LESS_OR_EQUAL (Or.inr ⟨(hw _ (List.mem_of_getElem? (i := 6) rfl)), (hw _ (List.mem_of_getElem? (i := 37) rfl))⟩), Sta.start evw_GREATER_THAN (Or.inr ⟨(hw _ (List.mem_of_getElem? (i := 6) rfl)), (hw _ (List.mem_of_getElem? (i := 39) rfl))⟩), Sta.start evw_GREATER_OR_EQUAL (Or.inr ⟨(hw _ (List.mem_of_getElem? (i := 6) rfl)), (hw _ (List.mem_of_getElem? (i := 35) rfl))⟩), Exa.start evw_EQUAL m1, Exa.start evw_NOT_EQUAL m5, Exa.start evw_LESS_THAN m9, Exa.start evw_LESS_OR_EQUAL m17, Exa.start evw_GREATER_THAN m21, Exa.start evw_GREATER_OR_EQUAL m13, Fld.start ((fld_at evw_EQUAL).symm.trans (own_eqI m3)), Fld.start ((fld_at evw_NOT_EQUAL).symm.trans (own_eqI m7)), Fld.start ((fld_at evw_LESS_THAN).symm.trans (own_eqI m11)), Fld.start ((fld_at evw_LESS_OR_EQUAL).symm.trans (own_eqI m19)), Fld.start ((fld_at evw_GREATER_THAN).symm.trans (own_eqI m22)), Fld.start ((fld_at evw_GREATER_OR_EQUAL).symm.trans (own_eqI m15))⟩
  obtain ⟨n, o, h1, h2, h3, _, L, rfl, ⟨rfl, N, -⟩, hq⟩ := rm0 l s _ hw tables_1 i0 i1 i2 w_EQUAL w_NOT_EQUAL w_LESS_THAN w_LESS_OR_EQUAL w_GREATER_THAN w_GREATER_OR_EQUAL s.heap s.heap.size (Nat.le_refl _) WW p e ha hc hk s m _ below hf ((Spec.applies_iff_loose hf).mp happ).1 ⟨rfl, State.Warmed39.refl s, rfl⟩ trivial
  have hone : f0 i0 i1 i2 w_EQUAL w_NOT_EQUAL w_LESS_THAN w_LESS_OR_EQUAL w_GREATER_THAN w_GREATER_OR_EQUAL = 1 := own_one i0 i1 i2 w_EQUAL w_NOT_EQUAL w_LESS_THAN w_LESS_OR_EQUAL w_GREATER_THAN w_GREATER_OR_EQUAL
  rw [hone] at h3 hq
  refine ⟨n, _, h1, h2, h3, hpost _ _ _ _ _ _ ⟨Cond.after_iff.mpr rfl, Cond.after_iff.mpr (eq_i res_at (Term.int_eval (1)) rfl), trivial⟩ ⟨hq.1, hq.2.1, (hq.2.2.sift fun y hy => Or.inr (N y hy)).mono (by decide) (by decide)⟩⟩
theorem main_1_1 : Claimed_1_1 := comes_1 fun _ _ _ _ _ _ h hF => ⟨h.1, hF⟩
theorem main_1_2 : Claimed_1_2 := comes_1 fun _ _ _ _ _ _ h hF => ⟨h.2.1, hF⟩
end Jvm.Pilot.@@N@@
namespace Jvm.Pilot.@@N@@
open Jvm Jvm.ClassFile Sem Op Lib Jvm.Free Jvm.Stand Jvm.Pilot.@@N@@.Jvm.D
/-! MADE BY PROGRAM (witnessworld.py) out of the Statement's table words and the real class files: 10 classes; the members and pool entries that the words name. The judged class is class 1, her method 2. -/
namespace start1
open Jvm.ClassFile
def u (s : String) : CpInfo := .utf8 (stringToUtf16 s)
/-- a pool by its gaps: so many unusable entries, then the entry; so many at the end -/
def gap : Nat → List CpInfo → List CpInfo
  | 0, r => r
  | n + 1, r => .unusable :: gap n r
def poolList (es : List (Nat × CpInfo)) (last : Nat) : List CpInfo := es.foldr (fun e r => gap e.1 (e.2 :: r)) (gap last [])
def pool (es : List (Nat × CpInfo)) (last : Nat) : Array CpInfo := ⟨poolList es last⟩
def fileOf (pool : Array CpInfo) (this : Nat) (attrs : Array Attribute := #[]) (ms : Array MethodInfo := #[]) (fl : Nat := 33) (sup : Nat := 0) (ifs : Array Nat := #[]) (fds : Array FieldInfo := #[]) : ClassFile where
  minorVersion := 0
  majorVersion := 65
  constantPool := pool
  accessFlags := fl
  thisClass := this
  superClass := sup
  interfaces := ifs
  fields := fds
  methods := ms
  attributes := attrs
def plain (name : String) (sup : Option ClassId) : Class where
  name := name
  kind := .ordinary
  loader := none
  accessFlags := 33
  super := sup
  interfaces := #[]
  cf := none
  fields := #[]
  methods := #[]
  instanceTypes := #[]
  staticTypes := #[]
  resolved := #[]
  callSites := []
  init := .initialized
  statics := none
  mirror := none

def pool0 : Array CpInfo := pool [(5, u "<init>"), (0, u "()V"), (1, .class_ 10), (1, u "java/lang/Object")] 113

def k0m0 : Method := { name := "<init>", desc := "()V", sig := { parameters := [], returnType := none }, accessFlags := 1, code := none }
/-- java/lang/Object -/
def k0 : Class := { plain "java/lang/Object" none with
  accessFlags := 33
  interfaces := #[]
  cf := some (fileOf pool0 8 #[] #[{ accessFlags := 1, nameIndex := 5, descriptorIndex := 6, attributes := #[] }] 33 0 #[] #[])
  fields := #[]
  methods := #[k0m0]
  instanceTypes := #[]
  staticTypes := #[]
  resolved := Array.replicate 124 none
  statics := none }

def pool1 : Array CpInfo := pool [(2, .class_ 4), (1, u "java/lang/Object"), (0, u "<init>"), (0, u "()V"), (0, .fieldref 8 9), (0, .class_ 10), (0, .nameAndType 11 12), (0, u "com/example/unit_of_work/unitofwork/Condition$Operator"), (0, u "EQUAL"), (0, u "Lcom/example/unit_of_work/unitofwork/Condition$Operator;"), (0, .fieldref 8 14), (0, .nameAndType 15 12), (0, u "NOT_EQUAL"), (0, .fieldref 8 17), (0, .nameAndType 18 12), (0, u "LESS_THAN"), (0, .fieldref 8 20), (0, .nameAndType 21 12), (0, u "LESS_OR_EQUAL"), (0, .fieldref 8 23), (0, .nameAndType 24 12), (0, u "GREATER_THAN"), (0, .fieldref 8 26), (0, .nameAndType 27 12), (0, u "GREATER_OR_EQUAL"), (0, .integer 2147483647), (0, .methodref 30 31), (0, .class_ 32), (0, .nameAndType 33 34), (0, u "com/example/unit_of_work/unitofwork/OperatorOrdersPinLaw"), (0, u "pick"), (0, u "(I)Lcom/example/unit_of_work/unitofwork/Condition$Operator;"), (2, .integer 2147483648), (0, .methodref 8 39), (0, .nameAndType 40 41), (0, u "orders"), (0, u "()Z"), (0, .methodref 8 43), (0, .nameAndType 44 45), (0, u "holds"), (0, u "(I)Z"), (3, u "law"), (0, u "(III)Z")] 6

def k1m0 : Method := { name := "<init>", desc := "()V", sig := { parameters := [], returnType := none }, accessFlags := 2, code := none }
def k1c1 : Code := { maxStack := 2, maxLocals := 1, code := method_2_code, exceptionTable := #[], attributes := #[] }
def k1m1 : Method := { name := "pick", desc := "(I)Lcom/example/unit_of_work/unitofwork/Condition$Operator;", sig := { parameters := [.int], returnType := some (.object "com/example/unit_of_work/unitofwork/Condition$Operator") }, accessFlags := 10, code := some k1c1 }
def k1c2 : Code := { maxStack := 3, maxLocals := 10, code := code, exceptionTable := #[], attributes := #[] }
def k1m2 : Method := { name := "law", desc := "(III)Z", sig := { parameters := [.int, .int, .int], returnType := some .boolean }, accessFlags := 9, code := some k1c2 }
/-- com/example/unit_of_work/unitofwork/OperatorOrdersPinLaw -/
def k1 : Class := { plain "com/example/unit_of_work/unitofwork/OperatorOrdersPinLaw" (some 0) with
  accessFlags := 49
  interfaces := #[]
  cf := some (fileOf pool1 30 #[] #[{ accessFlags := 2, nameIndex := 5, descriptorIndex := 6, attributes := #[] }, { accessFlags := 10, nameIndex := 33, descriptorIndex := 34, attributes := #[] }, { accessFlags := 9, nameIndex := 49, descriptorIndex := 50, attributes := #[] }] 49 2 #[] #[])
  fields := #[]
  methods := #[k1m0, k1m1, k1m2]
  instanceTypes := #[]
  staticTypes := #[]
  resolved := Array.replicate 57 none
  statics := none }

def pool2 : Array CpInfo := pool [(1, .class_ 2), (0, u "java/lang/constant/Constable"), (0, .class_ 4), (0, u "java/lang/Object")] 6

/-- java/lang/constant/Constable -/
def k2 : Class := { plain "java/lang/constant/Constable" (some 0) with
  accessFlags := 1537
  interfaces := #[]
  cf := some (fileOf pool2 1 #[] #[] 1537 3 #[] #[])
  fields := #[]
  methods := #[]
  instanceTypes := #[]
  staticTypes := #[]
  resolved := Array.replicate 11 none
  statics := none }

def pool3 : Array CpInfo := pool [(1, .class_ 2), (0, u "java/lang/Comparable"), (0, .class_ 4), (0, u "java/lang/Object")] 7

/-- java/lang/Comparable -/
def k3 : Class := { plain "java/lang/Comparable" (some 0) with
  accessFlags := 1537
  interfaces := #[]
  cf := some (fileOf pool3 1 #[] #[] 1537 3 #[] #[])
  fields := #[]
  methods := #[]
  instanceTypes := #[]
  staticTypes := #[]
  resolved := Array.replicate 12 none
  statics := none }

def pool4 : Array CpInfo := pool [(1, .class_ 2), (0, u "java/io/Serializable"), (0, .class_ 4), (0, u "java/lang/Object")] 2

/-- java/io/Serializable -/
def k4 : Class := { plain "java/io/Serializable" (some 0) with
  accessFlags := 1537
  interfaces := #[]
  cf := some (fileOf pool4 1 #[] #[] 1537 3 #[] #[])
  fields := #[]
  methods := #[]
  instanceTypes := #[]
  staticTypes := #[]
  resolved := Array.replicate 7 none
  statics := none }

def pool5 : Array CpInfo := pool [(2, .class_ 4), (1, u "java/lang/Enum"), (0, u "name"), (0, u "Ljava/lang/String;"), (0, .fieldref 2 8), (0, .nameAndType 9 10), (0, u "ordinal"), (0, u "I"), (1, .class_ 14), (1, u "java/lang/Object"), (4, u "hash"), (86, .class_ 108), (1, u "java/lang/Enum$EnumDesc"), (2, .class_ 112), (0, u "java/lang/constant/Constable"), (0, .class_ 114), (0, u "java/lang/Comparable"), (0, .class_ 116), (0, u "java/io/Serializable"), (9, u "()I")] 77

def k5c0 : Code := { maxStack := 1, maxLocals := 1, code := jdk_37_method_2_code, exceptionTable := #[], attributes := #[] }
def k5m0 : Method := { name := "ordinal", desc := "()I", sig := { parameters := [], returnType := some .int }, accessFlags := 17, code := some k5c0 }
/-- java/lang/Enum -/
def k5 : Class := { plain "java/lang/Enum" (some 0) with
  accessFlags := 1057
  interfaces := #[2, 3, 4]
  cf := some (fileOf pool5 2 #[.nestMembers #[106]] #[{ accessFlags := 17, nameIndex := 9, descriptorIndex := 126, attributes := #[] }] 1057 12 #[111, 113, 115] #[{ accessFlags := 18, nameIndex := 5, descriptorIndex := 6, attributes := #[] }, { accessFlags := 18, nameIndex := 9, descriptorIndex := 10, attributes := #[] }, { accessFlags := 2, nameIndex := 19, descriptorIndex := 10, attributes := #[] }])
  fields := #[{ name := "name", type := (.object "java/lang/String"), accessFlags := 18, slot := 0, constantValue := 0 }, { name := "ordinal", type := .int, accessFlags := 18, slot := 1, constantValue := 0 }, { name := "hash", type := .int, accessFlags := 2, slot := 2, constantValue := 0 }]
  methods := #[k5m0]
  instanceTypes := #[(.object "java/lang/String"), .int, .int]
  staticTypes := #[]
  resolved := Array.replicate 204 none
  statics := none }

def pool6 : Array CpInfo := pool [(1, .class_ 2), (0, u "com/example/unit_of_work/unitofwork/Condition$Operator"), (0, .fieldref 1 4), (0, .nameAndType 5 6), (0, u "EQUAL"), (0, u "Lcom/example/unit_of_work/unitofwork/Condition$Operator;"), (0, .fieldref 1 8), (0, .nameAndType 9 6), (0, u "NOT_EQUAL"), (2, u "LESS_THAN"), (2, u "LESS_OR_EQUAL"), (2, u "GREATER_THAN"), (2, u "GREATER_OR_EQUAL"), (2, u "$VALUES"), (0, u "[Lcom/example/unit_of_work/unitofwork/Condition$Operator;"), (6, .class_ 34), (1, u "java/lang/Enum"), (8, u "sql"), (0, u "Ljava/lang/String;"), (0, .methodref 1 46), (0, .nameAndType 47 48), (0, u "ordinal"), (0, u "()I"), (37, u "orders"), (0, u "()Z"), (1, u "holds"), (0, u "(I)Z"), (6, .class_ 98), (0, u "com/example/unit_of_work/unitofwork/Condition")] 2

def k6c0 : Code := { maxStack := 2, maxLocals := 1, code := prog_33_method_4_code, exceptionTable := #[], attributes := #[] }
def k6m0 : Method := { name := "orders", desc := "()Z", sig := { parameters := [], returnType := some .boolean }, accessFlags := 0, code := some k6c0 }
def k6c1 : Code := { maxStack := 4, maxLocals := 2, code := prog_33_method_5_code, exceptionTable := #[], attributes := #[] }
def k6m1 : Method := { name := "holds", desc := "(I)Z", sig := { parameters := [.int], returnType := some .boolean }, accessFlags := 0, code := some k6c1 }
/-- com/example/unit_of_work/unitofwork/Condition$Operator -/
def k6 : Class := { plain "com/example/unit_of_work/unitofwork/Condition$Operator" (some 5) with
  accessFlags := 16432
  interfaces := #[]
  cf := some (fileOf pool6 1 #[.nestHost 97] #[{ accessFlags := 0, nameIndex := 86, descriptorIndex := 87, attributes := #[] }, { accessFlags := 0, nameIndex := 89, descriptorIndex := 90, attributes := #[] }] 16432 32 #[] #[{ accessFlags := 16409, nameIndex := 5, descriptorIndex := 6, attributes := #[] }, { accessFlags := 16409, nameIndex := 9, descriptorIndex := 6, attributes := #[] }, { accessFlags := 16409, nameIndex := 12, descriptorIndex := 6, attributes := #[] }, { accessFlags := 16409, nameIndex := 15, descriptorIndex := 6, attributes := #[] }, { accessFlags := 16409, nameIndex := 18, descriptorIndex := 6, attributes := #[] }, { accessFlags := 16409, nameIndex := 21, descriptorIndex := 6, attributes := #[] }, { accessFlags := 18, nameIndex := 43, descriptorIndex := 44, attributes := #[] }, { accessFlags := 4122, nameIndex := 24, descriptorIndex := 25, attributes := #[] }])
  fields := #[{ name := "EQUAL", type := (.object "com/example/unit_of_work/unitofwork/Condition$Operator"), accessFlags := 16409, slot := 0, constantValue := 0 }, { name := "NOT_EQUAL", type := (.object "com/example/unit_of_work/unitofwork/Condition$Operator"), accessFlags := 16409, slot := 1, constantValue := 0 }, { name := "LESS_THAN", type := (.object "com/example/unit_of_work/unitofwork/Condition$Operator"), accessFlags := 16409, slot := 2, constantValue := 0 }, { name := "LESS_OR_EQUAL", type := (.object "com/example/unit_of_work/unitofwork/Condition$Operator"), accessFlags := 16409, slot := 3, constantValue := 0 }, { name := "GREATER_THAN", type := (.object "com/example/unit_of_work/unitofwork/Condition$Operator"), accessFlags := 16409, slot := 4, constantValue := 0 }, { name := "GREATER_OR_EQUAL", type := (.object "com/example/unit_of_work/unitofwork/Condition$Operator"), accessFlags := 16409, slot := 5, constantValue := 0 }, { name := "sql", type := (.object "java/lang/String"), accessFlags := 18, slot := 3, constantValue := 0 }, { name := "$VALUES", type := (.array (.object "com/example/unit_of_work/unitofwork/Condition$Operator")), accessFlags := 4122, slot := 6, constantValue := 0 }]
  methods := #[k6m0, k6m1]
  instanceTypes := #[(.object "java/lang/String"), .int, .int, (.object "java/lang/String")]
  staticTypes := #[(.object "com/example/unit_of_work/unitofwork/Condition$Operator"), (.object "com/example/unit_of_work/unitofwork/Condition$Operator"), (.object "com/example/unit_of_work/unitofwork/Condition$Operator"), (.object "com/example/unit_of_work/unitofwork/Condition$Operator"), (.object "com/example/unit_of_work/unitofwork/Condition$Operator"), (.object "com/example/unit_of_work/unitofwork/Condition$Operator"), (.array (.object "com/example/unit_of_work/unitofwork/Condition$Operator"))]
  resolved := Array.replicate 101 none
  statics := some 0 }

def pool7 : Array CpInfo := pool [(1, u "java/lang/Cloneable"), (0, .class_ 1), (0, u "java/lang/Object"), (0, .class_ 3)] 3

/-- java/lang/Cloneable -/
def k7 : Class := { plain "java/lang/Cloneable" (some 0) with
  accessFlags := 1537
  interfaces := #[]
  cf := some (fileOf pool7 2 #[] #[] 1537 4 #[] #[])
  fields := #[]
  methods := #[]
  instanceTypes := #[]
  staticTypes := #[]
  resolved := Array.replicate 8 none
  statics := none }

/-- the primitive byte -/
def k8 : Class := { plain "byte" none with kind := .primitive 'B', accessFlags := 0x411 }
/-- [B -/
def k9 : Class := { plain "[B" (some 0) with kind := .array 8 .byte, interfaces := #[7, 4], accessFlags := 1041 }

def heap : Heap := #[{ cls := 6, slots := #[.ref 1, .ref 2, .ref 3, .ref 4, .ref 5, .ref 6, .null], vm := .statics 6 },
  { cls := 6, slots := #[.null, .int 0, .int 0, .null], vm := .none },
  { cls := 6, slots := #[.null, .int 1, .int 0, .null], vm := .none },
  { cls := 6, slots := #[.null, .int 2, .int 0, .null], vm := .none },
  { cls := 6, slots := #[.null, .int 3, .int 0, .null], vm := .none },
  { cls := 6, slots := #[.null, .int 4, .int 0, .null], vm := .none },
  { cls := 6, slots := #[.null, .int 5, .int 0, .null], vm := .none }]
def classes : Array Class := #[k0, k1, k2, k3, k4, k5, k6, k7, k8, k9]
def interned : List (Array UInt16 × Addr) := []
def slotsUsed : Nat := 31
def theMethod : MethodId := ⟨1, 2⟩
def args0 : Array Value := #[.int 5, .int 300, .int 7]
def aboutOver (below : List Frame) : State where
  vm := { classes := classes, interned := interned.toArray }
  heap := heap
  slotsUsed := slotsUsed
  threads := #[{ frames := .invoking theMethod args0 :: below }]
def below0 : List Frame := [.native { method := ⟨0, 0⟩, args := #[] }]
def about1 : State := aboutOver below0
def p0 : Program := .bare "" "" ""
def e0 : Env := launch0.env 0 0 0
theorem w_frames : about1.frames = Frame.invoking theMethod args0 :: below0 := rfl
set_option maxRecDepth 65536 in
theorem w_args : argsFit about1.vm theMethod args0 = true := by decide +kernel
set_option maxRecDepth 65536 in
theorem w_heap : heapFits about1 = true := by decide +kernel
set_option maxRecDepth 65536 in
theorem w_runnable : about1.curStatus? = some .runnable := by decide +kernel
set_option maxRecDepth 65536 in
theorem w_alone : about1.alone = true := by decide +kernel
set_option maxRecDepth 65536 in
theorem w_named : about1.methodNamed? x = some theMethod := by decide +kernel
set_option maxRecDepth 65536 in
theorem w_hears : about1.hears theMethod below0 = true := by decide +kernel
set_option maxRecDepth 65536 in
theorem w_ripe : about1.ripe theMethod args0 below0 = true := by decide +kernel
theorem w_running : about1.status = .running := rfl
set_option maxRecDepth 65536 in
theorem w_room : about1.hasRoom e0.platform room_1 = true :=
  launch0.hasRoom_least _ room_1 (by decide +kernel) (by decide +kernel) (by decide +kernel) (by decide +kernel) (by decide +kernel) (by decide +kernel)
theorem allAtoms_all (ts : List Jvm.Cond) (a : Array Jvm.Value) (st : Jvm.State) : (allAtoms ts).before a st = ts.all (fun c => c.before a st) := by
  induction ts with
  | nil => rfl
  | cons c t ih =>
    show (Jvm.Cond.and c (allAtoms t)).before a st = _
    rw [Jvm.Cond.before_and, ih, List.all_cons]
def words1 : List Jvm.Cond := Jvm.Cond.code x code maxLocals ret :: tables_1
/-- a 'code' word, met by the world's own term for the bytes: nothing is compared byte by byte -/
theorem code_word {y : MethodName} {bytes : ByteArray} {mx : Nat} {rt : Option FieldType} {a : Array Value} {s : State} {m : MethodId} {meth : Method} {c : Code} (h1 : s.methodNamed? y = some m) (h2 : s.vm.method? m = some meth) (h3 : meth.code = some c) (h4 : c.code = bytes)
    (h5 : (c.maxLocals == mx && c.exceptionTable.isEmpty && decide (c.maxStack ≤ mostOperands) && decide (meth.sig.returnType = rt) && !meth.locks && decide (parseMethodDescriptor y.desc = some meth.sig)) = true) : (Jvm.Cond.code y bytes mx rt).before a s = true := by
  simp only [Bool.and_eq_true, beq_iff_eq, Bool.not_eq_true', decide_eq_true_eq] at h5
  obtain ⟨⟨⟨⟨⟨g1, g2⟩, g3⟩, g4⟩, g5⟩, g6⟩ := h5
  simp [Cond.before, Cond.holds, Cond.value, h1, h2, h3, h4, g1, g2, g3, g4, g5, g6]
def isCode : Jvm.Cond → Bool
  | .code _ _ _ _ => true
  | _ => false
theorem all_split {L : List Jvm.Cond} {P : Jvm.Cond → Bool} (h1 : L.all (fun c => isCode c || P c) = true) (h2 : ∀ c ∈ L.filter isCode, P c = true) : L.all P = true := by
  refine List.all_eq_true.mpr fun c hc => ?_
  have h := List.all_eq_true.mp h1 c hc
  rcases Bool.eq_false_or_eq_true (isCode c) with hi | hi
  · exact h2 c (List.mem_filter.mpr ⟨hc, hi⟩)
  · simpa [hi] using h
set_option maxRecDepth 65536 in
theorem w_c0 : (Jvm.Cond.code x code maxLocals ret).before args0 about1 = true := code_word (m := ⟨1, 2⟩) (meth := k1m2) (c := k1c2) (by decide +kernel) rfl rfl rfl (by decide +kernel)
set_option maxRecDepth 65536 in
theorem w_c1 : (Jvm.Cond.code ({ cls := "com/example/unit_of_work/unitofwork/OperatorOrdersPinLaw", name := "pick", desc := "(I)Lcom/example/unit_of_work/unitofwork/Condition$Operator;" } : Jvm.MethodName) method_2_code (1 : Nat) (Option.some (Jvm.ClassFile.FieldType.object "com/example/unit_of_work/unitofwork/Condition$Operator"))).before args0 about1 = true := code_word (m := ⟨1, 1⟩) (meth := k1m1) (c := k1c1) (by decide +kernel) rfl rfl rfl (by decide +kernel)
set_option maxRecDepth 65536 in
theorem w_c2 : (Jvm.Cond.code ({ cls := "com/example/unit_of_work/unitofwork/Condition$Operator", name := "orders", desc := "()Z" } : Jvm.MethodName) prog_33_method_4_code (1 : Nat) (Option.some Jvm.ClassFile.FieldType.boolean)).before args0 about1 = true := code_word (m := ⟨6, 0⟩) (meth := k6m0) (c := k6c0) (by decide +kernel) rfl rfl rfl (by decide +kernel)
set_option maxRecDepth 65536 in
theorem w_c3 : (Jvm.Cond.code ({ cls := "com/example/unit_of_work/unitofwork/Condition$Operator", name := "holds", desc := "(I)Z" } : Jvm.MethodName) prog_33_method_5_code (2 : Nat) (Option.some Jvm.ClassFile.FieldType.boolean)).before args0 about1 = true := code_word (m := ⟨6, 1⟩) (meth := k6m1) (c := k6c1) (by decide +kernel) rfl rfl rfl (by decide +kernel)
set_option maxRecDepth 65536 in
theorem w_c4 : (Jvm.Cond.code ({ cls := "java/lang/Enum", name := "ordinal", desc := "()I" } : Jvm.MethodName) jdk_37_method_2_code (1 : Nat) (Option.some Jvm.ClassFile.FieldType.int)).before args0 about1 = true := code_word (m := ⟨5, 0⟩) (meth := k5m0) (c := k5c0) (by decide +kernel) rfl rfl rfl (by decide +kernel)
def codes1 : List Jvm.Cond := [Jvm.Cond.code x code maxLocals ret, Jvm.Cond.code ({ cls := "com/example/unit_of_work/unitofwork/OperatorOrdersPinLaw", name := "pick", desc := "(I)Lcom/example/unit_of_work/unitofwork/Condition$Operator;" } : Jvm.MethodName) method_2_code (1 : Nat) (Option.some (Jvm.ClassFile.FieldType.object "com/example/unit_of_work/unitofwork/Condition$Operator")), Jvm.Cond.code ({ cls := "com/example/unit_of_work/unitofwork/Condition$Operator", name := "orders", desc := "()Z" } : Jvm.MethodName) prog_33_method_4_code (1 : Nat) (Option.some Jvm.ClassFile.FieldType.boolean), Jvm.Cond.code ({ cls := "com/example/unit_of_work/unitofwork/Condition$Operator", name := "holds", desc := "(I)Z" } : Jvm.MethodName) prog_33_method_5_code (2 : Nat) (Option.some Jvm.ClassFile.FieldType.boolean), Jvm.Cond.code ({ cls := "java/lang/Enum", name := "ordinal", desc := "()I" } : Jvm.MethodName) jdk_37_method_2_code (1 : Nat) (Option.some Jvm.ClassFile.FieldType.int)]
set_option maxRecDepth 65536 in
theorem codes_eq : words1.filter isCode = codes1 := rfl
theorem w_codes : ∀ c ∈ words1.filter isCode, c.before args0 about1 = true := by
  rw [codes_eq]
  intro c hc
  simp only [codes1, List.mem_cons, List.not_mem_nil, or_false] at hc
  rcases hc with rfl | rfl | rfl | rfl | rfl
  · exact w_c0
  · exact w_c1
  · exact w_c2
  · exact w_c3
  · exact w_c4
set_option maxRecDepth 65536 in
theorem w_t1 : (words1.take 24).all (fun c => isCode c || c.before args0 about1) = true := by decide +kernel
set_option maxRecDepth 65536 in
theorem w_t2 : (words1.drop 24).all (fun c => isCode c || c.before args0 about1) = true := by decide +kernel
theorem w_tables : (allAtoms (Jvm.Cond.code x code maxLocals ret :: tables_1)).before args0 about1 = true := by
  rw [allAtoms_all]
  show words1.all (fun c => c.before args0 about1) = true
  refine all_split ?_ w_codes
  rw [← List.take_append_drop 24 words1, List.all_append, w_t1, w_t2]
  rfl
set_option maxRecDepth 65536 in
theorem w_case : (Jvm.Cond.and given_1 narrow_1).before args0 about1 = true := by decide +kernel
theorem w_applies : (headSpec (Jvm.Cond.code x code maxLocals ret :: tables_1) room_1).applies x e0.platform about1 = true :=
  (Spec.applies_iff w_frames).mpr ⟨w_running, w_runnable, w_alone, w_named, w_hears, w_ripe, w_room, w_tables⟩
theorem atStart : AtStart classFile x code maxLocals ret World_1 tables_1 room_1 Calls_1 rest_1 Pre_1 launch0 p0 e0 about1 theMethod args0 below0 :=
  ⟨lists_1, trivial, launch0.admits_env _ _ _, launch0.least_env, fairChoices_fair.cas, fairChoices_fair.clock, w_frames, w_args, w_heap, w_applies, trivial, trivial, w_case⟩
end start1
theorem witness_1 : WitnessClaimed_1 := ⟨start1.p0, start1.e0, start1.about1, start1.theMethod, start1.args0, start1.below0, start1.atStart⟩
end Jvm.Pilot.@@N@@
