import JvmDerived
import JvmDerived.Pilot.@@N@@Statement
import JvmDerived.Pilot.@@N@@Code
set_option linter.unusedVariables false
set_option linter.unusedSimpArgs false
@@BLOCK:NumsL.lean.txt@@
@@BLOCK:Masks.lean.txt@@
namespace Jvm.RoadKit
open Sem ClassFile Op Lib Jvm.Stand Jvm.Free Jvm.LawKit
section New
variable {p : Program} {l : Launch} {e : Env} {R : Room} {s : State} {m : MethodId} {args : Array Value} {below : List Frame} {meth : Method} {c : Code} {T : State} {locs : List Loc} {cells slots : Nat}
theorem retI (X : Stand p l e R s m args below meth c T locs cells slots) (hx : p.tables.exec = Jvm.exec) {pc : Nat} {Ls : Array Slot} {z : Int32} {rest : List Value} (hret : meth.sig.returnType = some .int) (hd : decode c.code pc = .ok (.ireturn, 1)) {fs : List Frame}
    (hl : ∀ (f : JFrame) (acts : List Action), f.method = m → f.locked = none → f.entered = [] → (doReturn e (T.setTop f) acts (some (.int z))).1 = T.setFrames fs) : Steps p.tables e below (T.setTop (mkF m pc Ls (.int z :: rest))) (T.setFrames fs) := by
  have hm' : T.vm.method? m = some meth := X.method'
  have hn : narrow .int (.int z) = .int z := rfl
  show Steps p.tables e below (T.setTop { method := m, pc := pc, locals := Ls, stack := _ :: rest, locked := none }) _
  jvm_step X.here [X.here.top, hx, hd, hm', hret, hn]
  first | (intro acts; rw [hl _ acts rfl rfl rfl]) | rw [hl _ _ rfl rfl rfl]
  exact Steps.refl _
end New
end Jvm.RoadKit
namespace Jvm.Pilot.@@N@@
open Jvm Jvm.ClassFile Sem Op Lib Jvm.Free Jvm.Stand Jvm.LawKit Jvm.RoadKit Bundle Jvm.Pilot.@@N@@.Jvm.D
theorem own_lrem (x y : Int64) : x - (x / y) * y = x % y := Int64.toInt_inj.mp (by rw [Jvm.Kit.i64_rem, Int64.toInt_mod])
theorem lremM {p : Program} {l : Launch} {e : Env} {R : Room} {s : State} {m : MethodId} {args : Array Value} {below : List Frame} {meth : Method} {c : Code} {T : State} {locs : List Loc} {cells slots : Nat} {g : JFrame} {target : State} (X : Stand p l e R s m args below meth c T locs cells slots) (hx : p.tables.exec = Jvm.exec) (hg : g.method = m) {x y : Int64} {rest : List Value} (hd : decode c.code g.pc = .ok (.lrem, 1)) (hs : g.stack = .long y :: .long x :: rest) (hy : y ≠ 0)
    (hr : Steps p.tables e below (T.setTop { g with pc := g.pc + 1, stack := .long (x % y) :: rest }) target) : Steps p.tables e below (T.setTop g) target := by
  exact XS.lrem X.here hx hg hd hs hy (by rw [own_lrem]; exact hr)
theorem own_eqI {args : Array Value} {s : State} {t : Jvm.Term} {n : Int32} (h : (Jvm.Cond.eq t (.int n)).value args s none s [] = some true) : t.eval args s none [] s = some (.int n) := by
  obtain ⟨x, y, hx, hy, k1, k2⟩ := cmp_v (Or.inl h)
  obtain rfl : y = .int n := Option.some.inj (hy.symm.trans (Term.int_eval n))
  obtain ⟨z, rfl⟩ := k2
  have q : z = n := by simpa [Jvm.Cond.value, hx, hy] using h
  rw [hx, q]

theorem own_mask (x : Int32) : 0 ≤ (x &&& (2147483647 : Int32)).toInt := by
  have h := Jvm.Kit.i32_mask x 2147483647 (k := 31) (by decide) (by decide)
  omega
theorem own_per0 (x : Int32) : 1 ≤ ((x &&& (15 : Int32)) + (1 : Int32)).toInt := by
  have h := Jvm.Kit.i32_mask x 15 (k := 4) (by decide) (by decide)
  have a1 : (1 : Int32).toInt = 1 := by decide
  have e := Jvm.Kit.i32_add (p := x &&& 15) (q := 1) (by omega) (by omega)
  omega
theorem own_nz (x : Int32) (h : 1 ≤ x.toInt) : ¬ (x = (0 : Int32)) := by
  intro q
  have a0 : (0 : Int32).toInt = 0 := by decide
  rw [q] at h
  omega
theorem own_per (x : Int32) : ¬ ((x &&& (15 : Int32)) + (1 : Int32) = (0 : Int32)) := own_nz _ (own_per0 x)
theorem own_core (r p v : Int32) (hr : 0 ≤ r.toInt) (hp : 1 ≤ p.toInt) (hv : v.toInt = p.toInt * (r.toInt / p.toInt)) : ¬ (v < (0 : Int32)) ∧ ¬ (r < v) ∧ (r - v) < p ∧ ((v / p) * p) = v := by
  have b1 := r.toInt_lt
  have e := Int.emod_add_mul_ediv r.toInt p.toInt
  have n1 := Int.emod_nonneg r.toInt (by omega : p.toInt ≠ 0)
  have n2 := Int.emod_lt_of_pos r.toInt (by omega : 0 < p.toInt)
  have q0 : 0 ≤ r.toInt / p.toInt := Int.ediv_nonneg hr (by omega)
  have m0 : 0 ≤ p.toInt * (r.toInt / p.toInt) := Int.mul_nonneg (by omega) q0
  have a0 : (0 : Int32).toInt = 0 := by decide
  have s1 : (r - v).toInt = r.toInt - v.toInt := Jvm.Kit.i32_sub (by omega) (by omega)
  have d1 : (v / p).toInt = r.toInt / p.toInt := by rw [Jvm.Kit.i32_div (by omega), hv, Int.mul_tdiv_cancel_left _ (by omega)]
  have u0 : (v / p).toInt * p.toInt = v.toInt := by rw [d1, hv, Int.mul_comm]
  have u1 : ((v / p) * p).toInt = v.toInt := by rw [Jvm.Kit.i32_mul (by omega) (by omega), u0]
  refine ⟨?_, ?_, ?_, Int32.toInt_inj.mp u1⟩
  · rw [Int32.lt_iff_toInt_lt]; omega
  · rw [Int32.lt_iff_toInt_lt]; omega
  · rw [Int32.lt_iff_toInt_lt]; omega


theorem d1_0 : decode prog_1_method_10_code 0 = .ok (.iload_n 1, 1) := by decide +kernel
theorem d1_1 : decode prog_1_method_10_code 1 = .ok (.iconst 1, 1) := by decide +kernel
theorem d1_2 : decode prog_1_method_10_code 2 = .ok (.if_icmp .ne 7, 3) := by decide +kernel
theorem d1_5 : decode prog_1_method_10_code 5 = .ok (.iload_n 0, 1) := by decide +kernel
theorem d1_6 : decode prog_1_method_10_code 6 = .ok (.goto 8, 3) := by decide +kernel
theorem d1_9 : decode prog_1_method_10_code 9 = .ok (.iload_n 0, 1) := by decide +kernel
theorem d1_10 : decode prog_1_method_10_code 10 = .ok (.iload_n 0, 1) := by decide +kernel
theorem d1_11 : decode prog_1_method_10_code 11 = .ok (.iload_n 1, 1) := by decide +kernel
theorem d1_12 : decode prog_1_method_10_code 12 = .ok (.irem, 1) := by decide +kernel
theorem d1_13 : decode prog_1_method_10_code 13 = .ok (.isub, 1) := by decide +kernel
theorem d1_14 : decode prog_1_method_10_code 14 = .ok (.ireturn, 1) := by decide +kernel
theorem pn_0 : plainName "com/example/goodprefix/goodprefix/ByteMatcher" = true := by first | (simp [plainName, overriddenIn]; done) | decide +kernel
theorem ef_1 (m : MethodId) (x1_0 : Int32) (x1_1 : Int32) : entryFrame m #[(.int x1_0), (.int x1_1)] 2 = mkF m 0 #[.val (.int x1_0), .val (.int x1_1)] [] := by first | (simp [entryFrame, mkF, argsToLocals, Value.category]; done) | rfl
def f1 (x1_0 : Int32) (x1_1 : Int32) : Int32 := if x1_1 = (1 : Int32) then x1_0 else (x1_0 - (x1_0 % x1_1))
def Q1 (Z : State) (x1_0 : Int32) (x1_1 : Int32) (h0 : Heap) (n0 : Nat) (v : Option Value) (h : Heap) (L : List Loc) : Prop := v = some (.int (f1 x1_0 x1_1)) ∧ Fr n0 L ∧ h = h0
set_option maxRecDepth 65536 in
set_option maxHeartbeats 40000000 in
theorem rm1 (l : Launch) (Z : State) (a0 : Array Value) (hw : ∀ d ∈ tables_1, d.before a0 Z = true) (ws : List Jvm.Cond) (x1_0 : Int32) (x1_1 : Int32) (h0 : Heap) (n0 : Nat) (Z0 : n0 ≤ h0.size) (hnz : ¬ (x1_1 = (0 : Int32))) :
    MetFree l (⟨"com/example/goodprefix/goodprefix/ByteMatcher", "wholePeriods", "(II)I"⟩ : MethodName) (head1 (Jvm.Cond.code (⟨"com/example/goodprefix/goodprefix/ByteMatcher", "wholePeriods", "(II)I"⟩ : MethodName) prog_1_method_10_code 2 (some .int) :: ws) ({ frames := 0, cells := 0, slots := 0, locals := 0 } : Room)) (fun a U => a = #[(.int x1_0), (.int x1_1)] ∧ Z.Warmed39 U.vm ∧ U.heap = h0) (fun _ _ _ _ _ => True) (fun _ U o U' => ∃ v L, o = .returned v ∧ Q1 Z x1_0 x1_1 h0 n0 v U'.heap L ∧ FrameEnd U o U' L ({ frames := 0, cells := 0, slots := 0, locals := 0 } : Room).cells ({ frames := 0, cells := 0, slots := 0, locals := 0 } : Room).slots) := by
  refine MetFree.of_bodySF (plainFor_of_name pn_0) hisR ?_
  intro p e s m args below meth c s₁ Bd hml0 hP hK
  obtain ⟨rfl, hZ, hh⟩ := hP
  have hx := Bd.exec
  have hby := Bd.bytes
  have hml : c.maxLocals = 2 := hml0
  have hown : s.vm.findClass "com/example/goodprefix/goodprefix/ByteMatcher" = some m.cls := findClass_of_methodNamed Bd.named
  have hnm := (name_of_methodNamed Bd.named Bd.method).1
  have X0 : Stand p l e ({ frames := 0, cells := 0, slots := 0, locals := 0 } : Room) s m #[(.int x1_0), (.int x1_1)] below meth c s₁ [] 0 0 := Stand.of_body Bd
  have e0 : s₁.heap = h0 := by rw [← hh, Bd.state]; rfl
  have N0 := Fr.nil n0
  have pre0 : ∀ t, Steps p.tables e below (s₁.setTop (mkF m 0 #[.val (.int x1_0), .val (.int x1_1)] [])) t → Steps p.tables e below (s₁.setTop (entryFrame m #[(.int x1_0), (.int x1_1)] 2)) t := fun t k => castTop (ef_1 m x1_0 x1_1) k
  have sg1 : ∀ t, Steps p.tables e below (s₁.setTop (mkF m 2 #[.val (.int x1_0), .val (.int x1_1)] [(.int (1 : Int32)), (.int x1_1)])) t → Steps p.tables e below (s₁.setTop (mkF m 0 #[.val (.int x1_0), .val (.int x1_1)] [])) t := fun t kt => by
    show Steps p.tables e below (s₁.setTop (mkF m 0 #[.val (.int x1_0), .val (.int x1_1)] [])) _
    refine XS.iloadN X0.here hx rfl (hb hby d1_0) rfl ?_
    show Steps p.tables e below (s₁.setTop (mkF m 1 #[.val (.int x1_0), .val (.int x1_1)] [(.int x1_1)])) _
    refine XS.iconst X0.here hx rfl (hb hby d1_1) ?_
    exact kt
  by_cases hc2_2 : x1_1 = (1 : Int32)
  · obtain ⟨fs, hr, hrun, hended, hW, hsame⟩ := X0.leave (v := some (.int x1_0)) (fun h => by rw [Bd.returns] at h; cases h)
    refine ⟨_, _, pre0 _ (sg1 _ ?_), hrun, hended, _, _, rfl, ?_, ⟨_, rfl⟩, hW, hsame.mono (by decide) (by decide)⟩
    · show Steps p.tables e below (s₁.setTop (mkF m 2 #[.val (.int x1_0), .val (.int x1_1)] [(.int (1 : Int32)), (.int x1_1)])) _
      refine XS.icmpNo X0.here hx rfl (hb hby d1_2) rfl (teq hc2_2).2 ?_
      show Steps p.tables e below (s₁.setTop (mkF m 5 #[.val (.int x1_0), .val (.int x1_1)] [])) _
      refine XS.iloadN X0.here hx rfl (hb hby d1_5) rfl ?_
      show Steps p.tables e below (s₁.setTop (mkF m 6 #[.val (.int x1_0), .val (.int x1_1)] [(.int x1_0)])) _
      refine XS.goto X0.here hx rfl (pc0 := 6) (pc' := 14) rfl (hb hby d1_6) (by decide) (by decide) ?_
      show Steps p.tables e below (s₁.setTop (mkF m 14 #[.val (.int x1_0), .val (.int x1_1)] [(.int x1_0)])) _
      exact retI X0 hx Bd.returns (hb hby d1_14) hr
    · exact ⟨congrArg (fun z => some (Value.int z)) (show x1_0 = f1 x1_0 x1_1 from by unfold f1; rw [if_pos hc2_2]), N0, e0⟩
  · obtain ⟨fs, hr, hrun, hended, hW, hsame⟩ := X0.leave (v := some (.int (x1_0 - (x1_0 % x1_1)))) (fun h => by rw [Bd.returns] at h; cases h)
    refine ⟨_, _, pre0 _ (sg1 _ ?_), hrun, hended, _, _, rfl, ?_, ⟨_, rfl⟩, hW, hsame.mono (by decide) (by decide)⟩
    · show Steps p.tables e below (s₁.setTop (mkF m 2 #[.val (.int x1_0), .val (.int x1_1)] [(.int (1 : Int32)), (.int x1_1)])) _
      refine XS.icmpYes X0.here hx rfl (pc0 := 2) (pc' := 9) rfl (hb hby d1_2) rfl (feq hc2_2).2 (by decide) (by decide) ?_
      show Steps p.tables e below (s₁.setTop (mkF m 9 #[.val (.int x1_0), .val (.int x1_1)] [])) _
      refine XS.iloadN X0.here hx rfl (hb hby d1_9) rfl ?_
      show Steps p.tables e below (s₁.setTop (mkF m 10 #[.val (.int x1_0), .val (.int x1_1)] [(.int x1_0)])) _
      refine XS.iloadN X0.here hx rfl (hb hby d1_10) rfl ?_
      show Steps p.tables e below (s₁.setTop (mkF m 11 #[.val (.int x1_0), .val (.int x1_1)] [(.int x1_0), (.int x1_0)])) _
      refine XS.iloadN X0.here hx rfl (hb hby d1_11) rfl ?_
      show Steps p.tables e below (s₁.setTop (mkF m 12 #[.val (.int x1_0), .val (.int x1_1)] [(.int x1_1), (.int x1_0), (.int x1_0)])) _
      refine iremM X0 hx rfl (hb hby d1_12) rfl hnz ?_
      show Steps p.tables e below (s₁.setTop (mkF m 13 #[.val (.int x1_0), .val (.int x1_1)] [(.int (x1_0 % x1_1)), (.int x1_0)])) _
      refine XS.isub X0.here hx rfl (hb hby d1_13) rfl ?_
      show Steps p.tables e below (s₁.setTop (mkF m 14 #[.val (.int x1_0), .val (.int x1_1)] [(.int (x1_0 - (x1_0 % x1_1)))])) _
      exact retI X0 hx Bd.returns (hb hby d1_14) hr
    · exact ⟨congrArg (fun z => some (Value.int z)) (show (x1_0 - (x1_0 % x1_1)) = f1 x1_0 x1_1 from by unfold f1; rw [if_neg hc2_2]), N0, e0⟩
theorem own_f1 (r p : Int32) (hr : 0 ≤ r.toInt) (hp : 1 ≤ p.toInt) : ¬ (f1 r p < (0 : Int32)) ∧ ¬ (r < f1 r p) ∧ (r - f1 r p) < p ∧ ((f1 r p / p) * p) = f1 r p := by
  refine own_core r p _ hr hp ?_
  have b1 := r.toInt_lt
  have e := Int.emod_add_mul_ediv r.toInt p.toInt
  have n1 := Int.emod_nonneg r.toInt (by omega : p.toInt ≠ 0)
  unfold f1
  by_cases h : p = (1 : Int32)
  · rw [if_pos h, h, show (1 : Int32).toInt = 1 from by decide, Int.ediv_one, Int.one_mul]
  · rw [if_neg h]
    have m1 := Jvm.Kit.i32_rem_nonneg (y := p) hr
    have q0 : 0 ≤ r.toInt / p.toInt := Int.ediv_nonneg hr (by omega)
    have m0 : 0 ≤ p.toInt * (r.toInt / p.toInt) := Int.mul_nonneg (by omega) q0
    rw [Jvm.Kit.i32_sub (by omega) (by omega)]
    omega
theorem pd_0 : parseMethodDescriptor "(II)I" = some ⟨[.int, .int], some .int⟩ := by decide +kernel
theorem pn_1 : plainName "com/example/goodprefix/goodprefix/ByteMatcherWholePeriodsPinLaw" = true := by first | (simp [plainName, overriddenIn]; done) | decide +kernel
theorem ef_0 (m : MethodId) (x0_0 : Int32) (x0_1 : Int32) (x0_2 : Int32) : entryFrame m #[(.int x0_0), (.int x0_1), (.int x0_2)] maxLocals = mkF m 0 #[.val (.int x0_0), .val (.int x0_1), .val (.int x0_2), .unset, .unset, .unset, .unset] [] := by first | (simp [entryFrame, mkF, argsToLocals, Value.category, maxLocals]; done) | rfl
def f0 (x0_0 : Int32) (x0_1 : Int32) (x0_2 : Int32) : Int32 := if (x0_2 &&& (3 : Int32)) = (0 : Int32) then (if (f1 (x0_0 &&& (2147483647 : Int32)) (1 : Int32)) < (0 : Int32) then (0 : Int32) else if (x0_0 &&& (2147483647 : Int32)) < (f1 (x0_0 &&& (2147483647 : Int32)) (1 : Int32)) then (0 : Int32) else if ((x0_0 &&& (2147483647 : Int32)) - (f1 (x0_0 &&& (2147483647 : Int32)) (1 : Int32))) < (1 : Int32) then (if (((f1 (x0_0 &&& (2147483647 : Int32)) (1 : Int32)) / (1 : Int32)) * (1 : Int32)) = (f1 (x0_0 &&& (2147483647 : Int32)) (1 : Int32)) then (1 : Int32) else (0 : Int32)) else (0 : Int32)) else if (x0_2 &&& (3 : Int32)) = (1 : Int32) then (if (f1 (x0_0 &&& (2147483647 : Int32)) ((x0_1 &&& (15 : Int32)) + (1 : Int32))) < (0 : Int32) then (0 : Int32) else if (x0_0 &&& (2147483647 : Int32)) < (f1 (x0_0 &&& (2147483647 : Int32)) ((x0_1 &&& (15 : Int32)) + (1 : Int32))) then (0 : Int32) else if ((x0_0 &&& (2147483647 : Int32)) - (f1 (x0_0 &&& (2147483647 : Int32)) ((x0_1 &&& (15 : Int32)) + (1 : Int32)))) < ((x0_1 &&& (15 : Int32)) + (1 : Int32)) then (if (((f1 (x0_0 &&& (2147483647 : Int32)) ((x0_1 &&& (15 : Int32)) + (1 : Int32))) / ((x0_1 &&& (15 : Int32)) + (1 : Int32))) * ((x0_1 &&& (15 : Int32)) + (1 : Int32))) = (f1 (x0_0 &&& (2147483647 : Int32)) ((x0_1 &&& (15 : Int32)) + (1 : Int32))) then (1 : Int32) else (0 : Int32)) else (0 : Int32)) else if (x0_1 &&& (2147483647 : Int32)) = (0 : Int32) then (if (f1 (x0_0 &&& (2147483647 : Int32)) (1 : Int32)) < (0 : Int32) then (0 : Int32) else if (x0_0 &&& (2147483647 : Int32)) < (f1 (x0_0 &&& (2147483647 : Int32)) (1 : Int32)) then (0 : Int32) else if ((x0_0 &&& (2147483647 : Int32)) - (f1 (x0_0 &&& (2147483647 : Int32)) (1 : Int32))) < (1 : Int32) then (if (((f1 (x0_0 &&& (2147483647 : Int32)) (1 : Int32)) / (1 : Int32)) * (1 : Int32)) = (f1 (x0_0 &&& (2147483647 : Int32)) (1 : Int32)) then (1 : Int32) else (0 : Int32)) else (0 : Int32)) else if (f1 (x0_0 &&& (2147483647 : Int32)) (x0_1 &&& (2147483647 : Int32))) < (0 : Int32) then (0 : Int32) else if (x0_0 &&& (2147483647 : Int32)) < (f1 (x0_0 &&& (2147483647 : Int32)) (x0_1 &&& (2147483647 : Int32))) then (0 : Int32) else if ((x0_0 &&& (2147483647 : Int32)) - (f1 (x0_0 &&& (2147483647 : Int32)) (x0_1 &&& (2147483647 : Int32)))) < (x0_1 &&& (2147483647 : Int32)) then (if (((f1 (x0_0 &&& (2147483647 : Int32)) (x0_1 &&& (2147483647 : Int32))) / (x0_1 &&& (2147483647 : Int32))) * (x0_1 &&& (2147483647 : Int32))) = (f1 (x0_0 &&& (2147483647 : Int32)) (x0_1 &&& (2147483647 : Int32))) then (1 : Int32) else (0 : Int32)) else (0 : Int32)
def Q0 (Z : State) (x0_0 : Int32) (x0_1 : Int32) (x0_2 : Int32) (h0 : Heap) (n0 : Nat) (v : Option Value) (h : Heap) (L : List Loc) : Prop := v = some (.int (f0 x0_0 x0_1 x0_2)) ∧ Fr n0 L ∧ h = h0
set_option maxRecDepth 65536 in
set_option maxHeartbeats 40000000 in
theorem rm0 (l : Launch) (Z : State) (a0 : Array Value) (hw : ∀ d ∈ tables_1, d.before a0 Z = true) (ws : List Jvm.Cond) (x0_0 : Int32) (x0_1 : Int32) (x0_2 : Int32) (h0 : Heap) (n0 : Nat) (Z0 : n0 ≤ h0.size) :
    MetFree l x (head1 (Jvm.Cond.code x code maxLocals ret :: ws) room_1) (fun a U => a = #[(.int x0_0), (.int x0_1), (.int x0_2)] ∧ Z.Warmed39 U.vm ∧ U.heap = h0) (fun _ _ _ _ _ => True) (fun _ U o U' => ∃ v L, o = .returned v ∧ Q0 Z x0_0 x0_1 x0_2 h0 n0 v U'.heap L ∧ FrameEnd U o U' L room_1.cells room_1.slots) := by
  refine MetFree.of_bodySF (plainFor_of_name pn_1) hisR ?_
  intro p e s m args below meth c s₁ Bd hml0 hP hK
  obtain ⟨rfl, hZ, hh⟩ := hP
  have hx := Bd.exec
  have hby := Bd.bytes
  have hml : c.maxLocals = 7 := hml0
  have hown : s.vm.findClass "com/example/goodprefix/goodprefix/ByteMatcherWholePeriodsPinLaw" = some m.cls := findClass_of_methodNamed Bd.named
  have hnm := (name_of_methodNamed Bd.named Bd.method).1
  have X0 : Stand p l e room_1 s m #[(.int x0_0), (.int x0_1), (.int x0_2)] below meth c s₁ [] 0 0 := Stand.of_body Bd
  have e0 : s₁.heap = h0 := by rw [← hh, Bd.state]; rfl
  have N0 := Fr.nil n0
  have pre0 : ∀ t, Steps p.tables e below (s₁.setTop (mkF m 0 #[.val (.int x0_0), .val (.int x0_1), .val (.int x0_2), .unset, .unset, .unset, .unset] [])) t → Steps p.tables e below (s₁.setTop (entryFrame m #[(.int x0_0), (.int x0_1), (.int x0_2)] maxLocals)) t := fun t k => castTop (ef_0 m x0_0 x0_1 x0_2) k
  have sg1 : ∀ t, Steps p.tables e below (s₁.setTop (mkF m 12 #[.val (.int x0_0), .val (.int x0_1), .val (.int x0_2), .val (.int (x0_0 &&& (2147483647 : Int32))), .val (.int (x0_2 &&& (3 : Int32))), .unset, .unset] [(.int (x0_2 &&& (3 : Int32)))])) t → Steps p.tables e below (s₁.setTop (mkF m 0 #[.val (.int x0_0), .val (.int x0_1), .val (.int x0_2), .unset, .unset, .unset, .unset] [])) t := fun t kt => by
    show Steps p.tables e below (s₁.setTop (mkF m 0 #[.val (.int x0_0), .val (.int x0_1), .val (.int x0_2), .unset, .unset, .unset, .unset] [])) _
    refine XS.iloadN X0.here hx rfl (hb hby at_0) rfl ?_
    show Steps p.tables e below (s₁.setTop (mkF m 1 #[.val (.int x0_0), .val (.int x0_1), .val (.int x0_2), .unset, .unset, .unset, .unset] [(.int x0_0)])) _
    refine X0.ldcInt hx hown (mvT hZ (hw _ (List.mem_of_getElem? (i := 0) rfl))) (g := (mkF m 1 #[.val (.int x0_0), .val (.int x0_1), .val (.int x0_2), .unset, .unset, .unset, .unset] [(.int x0_0)])) rfl (hb hby at_1) _ ?_
    show Steps p.tables e below (s₁.setTop (mkF m 3 #[.val (.int x0_0), .val (.int x0_1), .val (.int x0_2), .unset, .unset, .unset, .unset] [(.int (2147483647 : Int32)), (.int x0_0)])) _
    refine XS.iand X0.here hx rfl (hb hby at_3) rfl ?_
    show Steps p.tables e below (s₁.setTop (mkF m 4 #[.val (.int x0_0), .val (.int x0_1), .val (.int x0_2), .unset, .unset, .unset, .unset] [(.int (x0_0 &&& (2147483647 : Int32)))])) _
    refine XS.istoreN X0.here hx rfl (hb hby at_4) rfl (l' := #[.val (.int x0_0), .val (.int x0_1), .val (.int x0_2), .val (.int (x0_0 &&& (2147483647 : Int32))), .unset, .unset, .unset]) rfl ?_
    show Steps p.tables e below (s₁.setTop (mkF m 5 #[.val (.int x0_0), .val (.int x0_1), .val (.int x0_2), .val (.int (x0_0 &&& (2147483647 : Int32))), .unset, .unset, .unset] [])) _
    refine XS.iloadN X0.here hx rfl (hb hby at_5) rfl ?_
    show Steps p.tables e below (s₁.setTop (mkF m 6 #[.val (.int x0_0), .val (.int x0_1), .val (.int x0_2), .val (.int (x0_0 &&& (2147483647 : Int32))), .unset, .unset, .unset] [(.int x0_2)])) _
    refine XS.iconst X0.here hx rfl (hb hby at_6) ?_
    show Steps p.tables e below (s₁.setTop (mkF m 7 #[.val (.int x0_0), .val (.int x0_1), .val (.int x0_2), .val (.int (x0_0 &&& (2147483647 : Int32))), .unset, .unset, .unset] [(.int (3 : Int32)), (.int x0_2)])) _
    refine XS.iand X0.here hx rfl (hb hby at_7) rfl ?_
    show Steps p.tables e below (s₁.setTop (mkF m 8 #[.val (.int x0_0), .val (.int x0_1), .val (.int x0_2), .val (.int (x0_0 &&& (2147483647 : Int32))), .unset, .unset, .unset] [(.int (x0_2 &&& (3 : Int32)))])) _
    refine XS.istore X0.here hx rfl (hb hby at_8) rfl (l' := #[.val (.int x0_0), .val (.int x0_1), .val (.int x0_2), .val (.int (x0_0 &&& (2147483647 : Int32))), .val (.int (x0_2 &&& (3 : Int32))), .unset, .unset]) rfl ?_
    show Steps p.tables e below (s₁.setTop (mkF m 10 #[.val (.int x0_0), .val (.int x0_1), .val (.int x0_2), .val (.int (x0_0 &&& (2147483647 : Int32))), .val (.int (x0_2 &&& (3 : Int32))), .unset, .unset] [])) _
    refine XS.iload X0.here hx rfl (hb hby at_10) rfl ?_
    exact kt
  by_cases hc12_2 : (x0_2 &&& (3 : Int32)) = (0 : Int32)
  · have sg4 : ∀ t, Steps p.tables e below (s₁.setTop (mkF m 55 #[.val (.int x0_0), .val (.int x0_1), .val (.int x0_2), .val (.int (x0_0 &&& (2147483647 : Int32))), .val (.int (x0_2 &&& (3 : Int32))), .val (.int (1 : Int32)), .unset] [(.int (1 : Int32)), (.int (x0_0 &&& (2147483647 : Int32)))])) t → Steps p.tables e below (s₁.setTop (mkF m 12 #[.val (.int x0_0), .val (.int x0_1), .val (.int x0_2), .val (.int (x0_0 &&& (2147483647 : Int32))), .val (.int (x0_2 &&& (3 : Int32))), .unset, .unset] [(.int (x0_2 &&& (3 : Int32)))])) t := fun t kt => by
      show Steps p.tables e below (s₁.setTop (mkF m 12 #[.val (.int x0_0), .val (.int x0_1), .val (.int x0_2), .val (.int (x0_0 &&& (2147483647 : Int32))), .val (.int (x0_2 &&& (3 : Int32))), .unset, .unset] [(.int (x0_2 &&& (3 : Int32)))])) _
      refine XS.ifNo X0.here hx rfl (hb hby at_12) rfl ((if0 _ _).trans (teq hc12_2).2) ?_
      show Steps p.tables e below (s₁.setTop (mkF m 15 #[.val (.int x0_0), .val (.int x0_1), .val (.int x0_2), .val (.int (x0_0 &&& (2147483647 : Int32))), .val (.int (x0_2 &&& (3 : Int32))), .unset, .unset] [])) _
      refine XS.iconst X0.here hx rfl (hb hby at_15) ?_
      show Steps p.tables e below (s₁.setTop (mkF m 16 #[.val (.int x0_0), .val (.int x0_1), .val (.int x0_2), .val (.int (x0_0 &&& (2147483647 : Int32))), .val (.int (x0_2 &&& (3 : Int32))), .unset, .unset] [(.int (1 : Int32))])) _
      refine XS.istore X0.here hx rfl (hb hby at_16) rfl (l' := #[.val (.int x0_0), .val (.int x0_1), .val (.int x0_2), .val (.int (x0_0 &&& (2147483647 : Int32))), .val (.int (x0_2 &&& (3 : Int32))), .val (.int (1 : Int32)), .unset]) rfl ?_
      show Steps p.tables e below (s₁.setTop (mkF m 18 #[.val (.int x0_0), .val (.int x0_1), .val (.int x0_2), .val (.int (x0_0 &&& (2147483647 : Int32))), .val (.int (x0_2 &&& (3 : Int32))), .val (.int (1 : Int32)), .unset] [])) _
      refine XS.goto X0.here hx rfl (pc0 := 18) (pc' := 52) rfl (hb hby at_18) (by decide) (by decide) ?_
      show Steps p.tables e below (s₁.setTop (mkF m 52 #[.val (.int x0_0), .val (.int x0_1), .val (.int x0_2), .val (.int (x0_0 &&& (2147483647 : Int32))), .val (.int (x0_2 &&& (3 : Int32))), .val (.int (1 : Int32)), .unset] [])) _
      refine XS.iloadN X0.here hx rfl (hb hby at_52) rfl ?_
      show Steps p.tables e below (s₁.setTop (mkF m 53 #[.val (.int x0_0), .val (.int x0_1), .val (.int x0_2), .val (.int (x0_0 &&& (2147483647 : Int32))), .val (.int (x0_2 &&& (3 : Int32))), .val (.int (1 : Int32)), .unset] [(.int (x0_0 &&& (2147483647 : Int32)))])) _
      refine XS.iload X0.here hx rfl (hb hby at_53) rfl ?_
      exact kt
    obtain ⟨v3, _, ⟨T3, L3, k3, n3⟩, -, X3, ⟨Lc3, hQ3, l3, y3, z3⟩, st3⟩ := Jvm.LawKit.callS X0 hx (y := (⟨"com/example/goodprefix/goodprefix/ByteMatcher", "wholePeriods", "(II)I"⟩ : MethodName)) hown (mvT hZ (hw _ (List.mem_of_getElem? (i := 1) rfl))) (mvT hZ (hw _ (List.mem_of_getElem? (i := 2) rfl))) (mvT hZ (hw _ (List.mem_of_getElem? (i := 3) rfl))) (mvT hZ (hw _ (List.mem_of_getElem? (i := 4) rfl))) (by decide) (backOf (W := 0) (rm1 l Z a0 hw [] (x0_0 &&& (2147483647 : Int32)) (1 : Int32) h0 n0 Z0 (by decide : ¬ ((1 : Int32) = (0 : Int32)))) hZ (hw _ (List.mem_of_getElem? (i := 4) rfl)) (hw _ (List.mem_of_getElem? (i := 3) rfl)) (by decide) (by decide)) (g := (mkF m 55 #[.val (.int x0_0), .val (.int x0_1), .val (.int x0_2), .val (.int (x0_0 &&& (2147483647 : Int32))), .val (.int (x0_2 &&& (3 : Int32))), .val (.int (1 : Int32)), .unset] [(.int (1 : Int32)), (.int (x0_0 &&& (2147483647 : Int32)))])) rfl (by rw [hml]; rfl) (argsL := [(.int (x0_0 &&& (2147483647 : Int32))), (.int (1 : Int32))]) (rest := []) (lenOf pd_0 rfl) rfl (by show 2 * 0 + _ ≤ _; exact Nat.le_of_eq rfl) (hb hby at_55) (fun _ _ => ⟨rfl, e0, (by decide : 0 + 0 ≤ _), (by decide : 0 + 0 ≤ _)⟩)
    dsimp only [Pt.U, Pt.locs, Pt.cells, Pt.slots] at X3 l3 y3 z3 st3 hQ3
    subst l3 y3 z3
    obtain ⟨hv3, N3q, e3⟩ := hQ3
    have N3 := Fr.app N0 N3q
    subst hv3
    have sg5 : ∀ t, Steps p.tables e below (T3.setTop (mkF m 62 #[.val (.int x0_0), .val (.int x0_1), .val (.int x0_2), .val (.int (x0_0 &&& (2147483647 : Int32))), .val (.int (x0_2 &&& (3 : Int32))), .val (.int (1 : Int32)), .val (.int (f1 (x0_0 &&& (2147483647 : Int32)) (1 : Int32)))] [(.int (f1 (x0_0 &&& (2147483647 : Int32)) (1 : Int32)))])) t → Steps p.tables e below (s₁.setTop (mkF m 55 #[.val (.int x0_0), .val (.int x0_1), .val (.int x0_2), .val (.int (x0_0 &&& (2147483647 : Int32))), .val (.int (x0_2 &&& (3 : Int32))), .val (.int (1 : Int32)), .unset] [(.int (1 : Int32)), (.int (x0_0 &&& (2147483647 : Int32)))])) t := fun t kt => by
      show Steps p.tables e below (s₁.setTop (mkF m 55 #[.val (.int x0_0), .val (.int x0_1), .val (.int x0_2), .val (.int (x0_0 &&& (2147483647 : Int32))), .val (.int (x0_2 &&& (3 : Int32))), .val (.int (1 : Int32)), .unset] [(.int (1 : Int32)), (.int (x0_0 &&& (2147483647 : Int32)))])) _
      refine st3 _ ?_
      show Steps p.tables e below (T3.setTop (mkF m 58 #[.val (.int x0_0), .val (.int x0_1), .val (.int x0_2), .val (.int (x0_0 &&& (2147483647 : Int32))), .val (.int (x0_2 &&& (3 : Int32))), .val (.int (1 : Int32)), .unset] [(.int (f1 (x0_0 &&& (2147483647 : Int32)) (1 : Int32)))])) _
      refine XS.istore X3.here hx rfl (hb hby at_58) rfl (l' := #[.val (.int x0_0), .val (.int x0_1), .val (.int x0_2), .val (.int (x0_0 &&& (2147483647 : Int32))), .val (.int (x0_2 &&& (3 : Int32))), .val (.int (1 : Int32)), .val (.int (f1 (x0_0 &&& (2147483647 : Int32)) (1 : Int32)))]) rfl ?_
      show Steps p.tables e below (T3.setTop (mkF m 60 #[.val (.int x0_0), .val (.int x0_1), .val (.int x0_2), .val (.int (x0_0 &&& (2147483647 : Int32))), .val (.int (x0_2 &&& (3 : Int32))), .val (.int (1 : Int32)), .val (.int (f1 (x0_0 &&& (2147483647 : Int32)) (1 : Int32)))] [])) _
      refine XS.iload X3.here hx rfl (hb hby at_60) rfl ?_
      exact kt
    by_cases hc62_6 : (f1 (x0_0 &&& (2147483647 : Int32)) (1 : Int32)) < (0 : Int32)
    · obtain ⟨fs, hr, hrun, hended, hW, hsame⟩ := X3.leave (v := some (.int (0 : Int32))) (fun h => by rw [Bd.returns] at h; cases h)
      refine ⟨_, _, pre0 _ (sg1 _ (sg4 _ (sg5 _ ?_))), hrun, hended, _, _, rfl, ?_, ⟨_, rfl⟩, hW, hsame.mono (by decide) (by decide)⟩
      · show Steps p.tables e below (T3.setTop (mkF m 62 #[.val (.int x0_0), .val (.int x0_1), .val (.int x0_2), .val (.int (x0_0 &&& (2147483647 : Int32))), .val (.int (x0_2 &&& (3 : Int32))), .val (.int (1 : Int32)), .val (.int (f1 (x0_0 &&& (2147483647 : Int32)) (1 : Int32)))] [(.int (f1 (x0_0 &&& (2147483647 : Int32)) (1 : Int32)))])) _
        refine XS.ifYes X3.here hx rfl (pc0 := 62) (pc' := 71) rfl (hb hby at_62) rfl ((if0 _ _).trans (tlt hc62_6).1) (by decide) (by decide) ?_
        show Steps p.tables e below (T3.setTop (mkF m 71 #[.val (.int x0_0), .val (.int x0_1), .val (.int x0_2), .val (.int (x0_0 &&& (2147483647 : Int32))), .val (.int (x0_2 &&& (3 : Int32))), .val (.int (1 : Int32)), .val (.int (f1 (x0_0 &&& (2147483647 : Int32)) (1 : Int32)))] [])) _
        refine XS.iconst X3.here hx rfl (hb hby at_71) ?_
        show Steps p.tables e below (T3.setTop (mkF m 72 #[.val (.int x0_0), .val (.int x0_1), .val (.int x0_2), .val (.int (x0_0 &&& (2147483647 : Int32))), .val (.int (x0_2 &&& (3 : Int32))), .val (.int (1 : Int32)), .val (.int (f1 (x0_0 &&& (2147483647 : Int32)) (1 : Int32)))] [(.int (0 : Int32))])) _
        exact retN X3 hx (t := .boolean) Bd.returns (by simp) (hb hby at_72) hr
      · exact ⟨congrArg (fun z => some (Value.int z)) (show (0 : Int32) = f0 x0_0 x0_1 x0_2 from by unfold f0; rw [if_pos hc12_2, if_pos hc62_6]), N3, e3⟩
    · have sg7 : ∀ t, Steps p.tables e below (T3.setTop (mkF m 68 #[.val (.int x0_0), .val (.int x0_1), .val (.int x0_2), .val (.int (x0_0 &&& (2147483647 : Int32))), .val (.int (x0_2 &&& (3 : Int32))), .val (.int (1 : Int32)), .val (.int (f1 (x0_0 &&& (2147483647 : Int32)) (1 : Int32)))] [(.int (x0_0 &&& (2147483647 : Int32))), (.int (f1 (x0_0 &&& (2147483647 : Int32)) (1 : Int32)))])) t → Steps p.tables e below (T3.setTop (mkF m 62 #[.val (.int x0_0), .val (.int x0_1), .val (.int x0_2), .val (.int (x0_0 &&& (2147483647 : Int32))), .val (.int (x0_2 &&& (3 : Int32))), .val (.int (1 : Int32)), .val (.int (f1 (x0_0 &&& (2147483647 : Int32)) (1 : Int32)))] [(.int (f1 (x0_0 &&& (2147483647 : Int32)) (1 : Int32)))])) t := fun t kt => by
        show Steps p.tables e below (T3.setTop (mkF m 62 #[.val (.int x0_0), .val (.int x0_1), .val (.int x0_2), .val (.int (x0_0 &&& (2147483647 : Int32))), .val (.int (x0_2 &&& (3 : Int32))), .val (.int (1 : Int32)), .val (.int (f1 (x0_0 &&& (2147483647 : Int32)) (1 : Int32)))] [(.int (f1 (x0_0 &&& (2147483647 : Int32)) (1 : Int32)))])) _
        refine XS.ifNo X3.here hx rfl (hb hby at_62) rfl ((if0 _ _).trans (flt hc62_6).1) ?_
        show Steps p.tables e below (T3.setTop (mkF m 65 #[.val (.int x0_0), .val (.int x0_1), .val (.int x0_2), .val (.int (x0_0 &&& (2147483647 : Int32))), .val (.int (x0_2 &&& (3 : Int32))), .val (.int (1 : Int32)), .val (.int (f1 (x0_0 &&& (2147483647 : Int32)) (1 : Int32)))] [])) _
        refine XS.iload X3.here hx rfl (hb hby at_65) rfl ?_
        show Steps p.tables e below (T3.setTop (mkF m 67 #[.val (.int x0_0), .val (.int x0_1), .val (.int x0_2), .val (.int (x0_0 &&& (2147483647 : Int32))), .val (.int (x0_2 &&& (3 : Int32))), .val (.int (1 : Int32)), .val (.int (f1 (x0_0 &&& (2147483647 : Int32)) (1 : Int32)))] [(.int (f1 (x0_0 &&& (2147483647 : Int32)) (1 : Int32)))])) _
        refine XS.iloadN X3.here hx rfl (hb hby at_67) rfl ?_
        exact kt
      by_cases hc68_8 : (x0_0 &&& (2147483647 : Int32)) < (f1 (x0_0 &&& (2147483647 : Int32)) (1 : Int32))
      · obtain ⟨fs, hr, hrun, hended, hW, hsame⟩ := X3.leave (v := some (.int (0 : Int32))) (fun h => by rw [Bd.returns] at h; cases h)
        refine ⟨_, _, pre0 _ (sg1 _ (sg4 _ (sg5 _ (sg7 _ ?_)))), hrun, hended, _, _, rfl, ?_, ⟨_, rfl⟩, hW, hsame.mono (by decide) (by decide)⟩
        · show Steps p.tables e below (T3.setTop (mkF m 68 #[.val (.int x0_0), .val (.int x0_1), .val (.int x0_2), .val (.int (x0_0 &&& (2147483647 : Int32))), .val (.int (x0_2 &&& (3 : Int32))), .val (.int (1 : Int32)), .val (.int (f1 (x0_0 &&& (2147483647 : Int32)) (1 : Int32)))] [(.int (x0_0 &&& (2147483647 : Int32))), (.int (f1 (x0_0 &&& (2147483647 : Int32)) (1 : Int32)))])) _
          refine XS.icmpNo X3.here hx rfl (hb hby at_68) rfl (tlt hc68_8).2.2.2 ?_
          show Steps p.tables e below (T3.setTop (mkF m 71 #[.val (.int x0_0), .val (.int x0_1), .val (.int x0_2), .val (.int (x0_0 &&& (2147483647 : Int32))), .val (.int (x0_2 &&& (3 : Int32))), .val (.int (1 : Int32)), .val (.int (f1 (x0_0 &&& (2147483647 : Int32)) (1 : Int32)))] [])) _
          refine XS.iconst X3.here hx rfl (hb hby at_71) ?_
          show Steps p.tables e below (T3.setTop (mkF m 72 #[.val (.int x0_0), .val (.int x0_1), .val (.int x0_2), .val (.int (x0_0 &&& (2147483647 : Int32))), .val (.int (x0_2 &&& (3 : Int32))), .val (.int (1 : Int32)), .val (.int (f1 (x0_0 &&& (2147483647 : Int32)) (1 : Int32)))] [(.int (0 : Int32))])) _
          exact retN X3 hx (t := .boolean) Bd.returns (by simp) (hb hby at_72) hr
        · exact ⟨congrArg (fun z => some (Value.int z)) (show (0 : Int32) = f0 x0_0 x0_1 x0_2 from by unfold f0; rw [if_pos hc12_2, if_neg hc62_6, if_pos hc68_8]), N3, e3⟩
      · have sg9 : ∀ t, Steps p.tables e below (T3.setTop (mkF m 79 #[.val (.int x0_0), .val (.int x0_1), .val (.int x0_2), .val (.int (x0_0 &&& (2147483647 : Int32))), .val (.int (x0_2 &&& (3 : Int32))), .val (.int (1 : Int32)), .val (.int (f1 (x0_0 &&& (2147483647 : Int32)) (1 : Int32)))] [(.int (1 : Int32)), (.int ((x0_0 &&& (2147483647 : Int32)) - (f1 (x0_0 &&& (2147483647 : Int32)) (1 : Int32))))])) t → Steps p.tables e below (T3.setTop (mkF m 68 #[.val (.int x0_0), .val (.int x0_1), .val (.int x0_2), .val (.int (x0_0 &&& (2147483647 : Int32))), .val (.int (x0_2 &&& (3 : Int32))), .val (.int (1 : Int32)), .val (.int (f1 (x0_0 &&& (2147483647 : Int32)) (1 : Int32)))] [(.int (x0_0 &&& (2147483647 : Int32))), (.int (f1 (x0_0 &&& (2147483647 : Int32)) (1 : Int32)))])) t := fun t kt => by
          show Steps p.tables e below (T3.setTop (mkF m 68 #[.val (.int x0_0), .val (.int x0_1), .val (.int x0_2), .val (.int (x0_0 &&& (2147483647 : Int32))), .val (.int (x0_2 &&& (3 : Int32))), .val (.int (1 : Int32)), .val (.int (f1 (x0_0 &&& (2147483647 : Int32)) (1 : Int32)))] [(.int (x0_0 &&& (2147483647 : Int32))), (.int (f1 (x0_0 &&& (2147483647 : Int32)) (1 : Int32)))])) _
          refine XS.icmpYes X3.here hx rfl (pc0 := 68) (pc' := 73) rfl (hb hby at_68) rfl (flt hc68_8).2.2.2 (by decide) (by decide) ?_
          show Steps p.tables e below (T3.setTop (mkF m 73 #[.val (.int x0_0), .val (.int x0_1), .val (.int x0_2), .val (.int (x0_0 &&& (2147483647 : Int32))), .val (.int (x0_2 &&& (3 : Int32))), .val (.int (1 : Int32)), .val (.int (f1 (x0_0 &&& (2147483647 : Int32)) (1 : Int32)))] [])) _
          refine XS.iloadN X3.here hx rfl (hb hby at_73) rfl ?_
          show Steps p.tables e below (T3.setTop (mkF m 74 #[.val (.int x0_0), .val (.int x0_1), .val (.int x0_2), .val (.int (x0_0 &&& (2147483647 : Int32))), .val (.int (x0_2 &&& (3 : Int32))), .val (.int (1 : Int32)), .val (.int (f1 (x0_0 &&& (2147483647 : Int32)) (1 : Int32)))] [(.int (x0_0 &&& (2147483647 : Int32)))])) _
          refine XS.iload X3.here hx rfl (hb hby at_74) rfl ?_
          show Steps p.tables e below (T3.setTop (mkF m 76 #[.val (.int x0_0), .val (.int x0_1), .val (.int x0_2), .val (.int (x0_0 &&& (2147483647 : Int32))), .val (.int (x0_2 &&& (3 : Int32))), .val (.int (1 : Int32)), .val (.int (f1 (x0_0 &&& (2147483647 : Int32)) (1 : Int32)))] [(.int (f1 (x0_0 &&& (2147483647 : Int32)) (1 : Int32))), (.int (x0_0 &&& (2147483647 : Int32)))])) _
          refine XS.isub X3.here hx rfl (hb hby at_76) rfl ?_
          show Steps p.tables e below (T3.setTop (mkF m 77 #[.val (.int x0_0), .val (.int x0_1), .val (.int x0_2), .val (.int (x0_0 &&& (2147483647 : Int32))), .val (.int (x0_2 &&& (3 : Int32))), .val (.int (1 : Int32)), .val (.int (f1 (x0_0 &&& (2147483647 : Int32)) (1 : Int32)))] [(.int ((x0_0 &&& (2147483647 : Int32)) - (f1 (x0_0 &&& (2147483647 : Int32)) (1 : Int32))))])) _
          refine XS.iload X3.here hx rfl (hb hby at_77) rfl ?_
          exact kt
        by_cases hc79_10 : ((x0_0 &&& (2147483647 : Int32)) - (f1 (x0_0 &&& (2147483647 : Int32)) (1 : Int32))) < (1 : Int32)
        · have sg11 : ∀ t, Steps p.tables e below (T3.setTop (mkF m 94 #[.val (.int x0_0), .val (.int x0_1), .val (.int x0_2), .val (.int (x0_0 &&& (2147483647 : Int32))), .val (.int (x0_2 &&& (3 : Int32))), .val (.int (1 : Int32)), .val (.int (f1 (x0_0 &&& (2147483647 : Int32)) (1 : Int32)))] [(.int (f1 (x0_0 &&& (2147483647 : Int32)) (1 : Int32))), (.int (((f1 (x0_0 &&& (2147483647 : Int32)) (1 : Int32)) / (1 : Int32)) * (1 : Int32)))])) t → Steps p.tables e below (T3.setTop (mkF m 79 #[.val (.int x0_0), .val (.int x0_1), .val (.int x0_2), .val (.int (x0_0 &&& (2147483647 : Int32))), .val (.int (x0_2 &&& (3 : Int32))), .val (.int (1 : Int32)), .val (.int (f1 (x0_0 &&& (2147483647 : Int32)) (1 : Int32)))] [(.int (1 : Int32)), (.int ((x0_0 &&& (2147483647 : Int32)) - (f1 (x0_0 &&& (2147483647 : Int32)) (1 : Int32))))])) t := fun t kt => by
            show Steps p.tables e below (T3.setTop (mkF m 79 #[.val (.int x0_0), .val (.int x0_1), .val (.int x0_2), .val (.int (x0_0 &&& (2147483647 : Int32))), .val (.int (x0_2 &&& (3 : Int32))), .val (.int (1 : Int32)), .val (.int (f1 (x0_0 &&& (2147483647 : Int32)) (1 : Int32)))] [(.int (1 : Int32)), (.int ((x0_0 &&& (2147483647 : Int32)) - (f1 (x0_0 &&& (2147483647 : Int32)) (1 : Int32))))])) _
            refine XS.icmpYes X3.here hx rfl (pc0 := 79) (pc' := 84) rfl (hb hby at_79) rfl (tlt hc79_10).1 (by decide) (by decide) ?_
            show Steps p.tables e below (T3.setTop (mkF m 84 #[.val (.int x0_0), .val (.int x0_1), .val (.int x0_2), .val (.int (x0_0 &&& (2147483647 : Int32))), .val (.int (x0_2 &&& (3 : Int32))), .val (.int (1 : Int32)), .val (.int (f1 (x0_0 &&& (2147483647 : Int32)) (1 : Int32)))] [])) _
            refine XS.iload X3.here hx rfl (hb hby at_84) rfl ?_
            show Steps p.tables e below (T3.setTop (mkF m 86 #[.val (.int x0_0), .val (.int x0_1), .val (.int x0_2), .val (.int (x0_0 &&& (2147483647 : Int32))), .val (.int (x0_2 &&& (3 : Int32))), .val (.int (1 : Int32)), .val (.int (f1 (x0_0 &&& (2147483647 : Int32)) (1 : Int32)))] [(.int (f1 (x0_0 &&& (2147483647 : Int32)) (1 : Int32)))])) _
            refine XS.iload X3.here hx rfl (hb hby at_86) rfl ?_
            show Steps p.tables e below (T3.setTop (mkF m 88 #[.val (.int x0_0), .val (.int x0_1), .val (.int x0_2), .val (.int (x0_0 &&& (2147483647 : Int32))), .val (.int (x0_2 &&& (3 : Int32))), .val (.int (1 : Int32)), .val (.int (f1 (x0_0 &&& (2147483647 : Int32)) (1 : Int32)))] [(.int (1 : Int32)), (.int (f1 (x0_0 &&& (2147483647 : Int32)) (1 : Int32)))])) _
            refine XS.idiv X3.here hx rfl (hb hby at_88) rfl (by decide : ¬ ((1 : Int32) = (0 : Int32))) ?_
            show Steps p.tables e below (T3.setTop (mkF m 89 #[.val (.int x0_0), .val (.int x0_1), .val (.int x0_2), .val (.int (x0_0 &&& (2147483647 : Int32))), .val (.int (x0_2 &&& (3 : Int32))), .val (.int (1 : Int32)), .val (.int (f1 (x0_0 &&& (2147483647 : Int32)) (1 : Int32)))] [(.int ((f1 (x0_0 &&& (2147483647 : Int32)) (1 : Int32)) / (1 : Int32)))])) _
            refine XS.iload X3.here hx rfl (hb hby at_89) rfl ?_
            show Steps p.tables e below (T3.setTop (mkF m 91 #[.val (.int x0_0), .val (.int x0_1), .val (.int x0_2), .val (.int (x0_0 &&& (2147483647 : Int32))), .val (.int (x0_2 &&& (3 : Int32))), .val (.int (1 : Int32)), .val (.int (f1 (x0_0 &&& (2147483647 : Int32)) (1 : Int32)))] [(.int (1 : Int32)), (.int ((f1 (x0_0 &&& (2147483647 : Int32)) (1 : Int32)) / (1 : Int32)))])) _
            refine XS.imul X3.here hx rfl (hb hby at_91) rfl ?_
            show Steps p.tables e below (T3.setTop (mkF m 92 #[.val (.int x0_0), .val (.int x0_1), .val (.int x0_2), .val (.int (x0_0 &&& (2147483647 : Int32))), .val (.int (x0_2 &&& (3 : Int32))), .val (.int (1 : Int32)), .val (.int (f1 (x0_0 &&& (2147483647 : Int32)) (1 : Int32)))] [(.int (((f1 (x0_0 &&& (2147483647 : Int32)) (1 : Int32)) / (1 : Int32)) * (1 : Int32)))])) _
            refine XS.iload X3.here hx rfl (hb hby at_92) rfl ?_
            exact kt
          by_cases hc94_12 : (((f1 (x0_0 &&& (2147483647 : Int32)) (1 : Int32)) / (1 : Int32)) * (1 : Int32)) = (f1 (x0_0 &&& (2147483647 : Int32)) (1 : Int32))
          · obtain ⟨fs, hr, hrun, hended, hW, hsame⟩ := X3.leave (v := some (.int (1 : Int32))) (fun h => by rw [Bd.returns] at h; cases h)
            refine ⟨_, _, pre0 _ (sg1 _ (sg4 _ (sg5 _ (sg7 _ (sg9 _ (sg11 _ ?_)))))), hrun, hended, _, _, rfl, ?_, ⟨_, rfl⟩, hW, hsame.mono (by decide) (by decide)⟩
            · show Steps p.tables e below (T3.setTop (mkF m 94 #[.val (.int x0_0), .val (.int x0_1), .val (.int x0_2), .val (.int (x0_0 &&& (2147483647 : Int32))), .val (.int (x0_2 &&& (3 : Int32))), .val (.int (1 : Int32)), .val (.int (f1 (x0_0 &&& (2147483647 : Int32)) (1 : Int32)))] [(.int (f1 (x0_0 &&& (2147483647 : Int32)) (1 : Int32))), (.int (((f1 (x0_0 &&& (2147483647 : Int32)) (1 : Int32)) / (1 : Int32)) * (1 : Int32)))])) _
              refine XS.icmpNo X3.here hx rfl (hb hby at_94) rfl (teq hc94_12).2 ?_
              show Steps p.tables e below (T3.setTop (mkF m 97 #[.val (.int x0_0), .val (.int x0_1), .val (.int x0_2), .val (.int (x0_0 &&& (2147483647 : Int32))), .val (.int (x0_2 &&& (3 : Int32))), .val (.int (1 : Int32)), .val (.int (f1 (x0_0 &&& (2147483647 : Int32)) (1 : Int32)))] [])) _
              refine XS.iconst X3.here hx rfl (hb hby at_97) ?_
              show Steps p.tables e below (T3.setTop (mkF m 98 #[.val (.int x0_0), .val (.int x0_1), .val (.int x0_2), .val (.int (x0_0 &&& (2147483647 : Int32))), .val (.int (x0_2 &&& (3 : Int32))), .val (.int (1 : Int32)), .val (.int (f1 (x0_0 &&& (2147483647 : Int32)) (1 : Int32)))] [(.int (1 : Int32))])) _
              refine XS.goto X3.here hx rfl (pc0 := 98) (pc' := 102) rfl (hb hby at_98) (by decide) (by decide) ?_
              show Steps p.tables e below (T3.setTop (mkF m 102 #[.val (.int x0_0), .val (.int x0_1), .val (.int x0_2), .val (.int (x0_0 &&& (2147483647 : Int32))), .val (.int (x0_2 &&& (3 : Int32))), .val (.int (1 : Int32)), .val (.int (f1 (x0_0 &&& (2147483647 : Int32)) (1 : Int32)))] [(.int (1 : Int32))])) _
              exact retN X3 hx (t := .boolean) Bd.returns (by simp) (hb hby at_102) hr
            · exact ⟨congrArg (fun z => some (Value.int z)) (show (1 : Int32) = f0 x0_0 x0_1 x0_2 from by unfold f0; rw [if_pos hc12_2, if_neg hc62_6, if_neg hc68_8, if_pos hc79_10, if_pos hc94_12]), N3, e3⟩
          · obtain ⟨fs, hr, hrun, hended, hW, hsame⟩ := X3.leave (v := some (.int (0 : Int32))) (fun h => by rw [Bd.returns] at h; cases h)
            refine ⟨_, _, pre0 _ (sg1 _ (sg4 _ (sg5 _ (sg7 _ (sg9 _ (sg11 _ ?_)))))), hrun, hended, _, _, rfl, ?_, ⟨_, rfl⟩, hW, hsame.mono (by decide) (by decide)⟩
            · show Steps p.tables e below (T3.setTop (mkF m 94 #[.val (.int x0_0), .val (.int x0_1), .val (.int x0_2), .val (.int (x0_0 &&& (2147483647 : Int32))), .val (.int (x0_2 &&& (3 : Int32))), .val (.int (1 : Int32)), .val (.int (f1 (x0_0 &&& (2147483647 : Int32)) (1 : Int32)))] [(.int (f1 (x0_0 &&& (2147483647 : Int32)) (1 : Int32))), (.int (((f1 (x0_0 &&& (2147483647 : Int32)) (1 : Int32)) / (1 : Int32)) * (1 : Int32)))])) _
              refine XS.icmpYes X3.here hx rfl (pc0 := 94) (pc' := 101) rfl (hb hby at_94) rfl (feq hc94_12).2 (by decide) (by decide) ?_
              show Steps p.tables e below (T3.setTop (mkF m 101 #[.val (.int x0_0), .val (.int x0_1), .val (.int x0_2), .val (.int (x0_0 &&& (2147483647 : Int32))), .val (.int (x0_2 &&& (3 : Int32))), .val (.int (1 : Int32)), .val (.int (f1 (x0_0 &&& (2147483647 : Int32)) (1 : Int32)))] [])) _
              refine XS.iconst X3.here hx rfl (hb hby at_101) ?_
              show Steps p.tables e below (T3.setTop (mkF m 102 #[.val (.int x0_0), .val (.int x0_1), .val (.int x0_2), .val (.int (x0_0 &&& (2147483647 : Int32))), .val (.int (x0_2 &&& (3 : Int32))), .val (.int (1 : Int32)), .val (.int (f1 (x0_0 &&& (2147483647 : Int32)) (1 : Int32)))] [(.int (0 : Int32))])) _
              exact retN X3 hx (t := .boolean) Bd.returns (by simp) (hb hby at_102) hr
            · exact ⟨congrArg (fun z => some (Value.int z)) (show (0 : Int32) = f0 x0_0 x0_1 x0_2 from by unfold f0; rw [if_pos hc12_2, if_neg hc62_6, if_neg hc68_8, if_pos hc79_10, if_neg hc94_12]), N3, e3⟩
        · obtain ⟨fs, hr, hrun, hended, hW, hsame⟩ := X3.leave (v := some (.int (0 : Int32))) (fun h => by rw [Bd.returns] at h; cases h)
          refine ⟨_, _, pre0 _ (sg1 _ (sg4 _ (sg5 _ (sg7 _ (sg9 _ ?_))))), hrun, hended, _, _, rfl, ?_, ⟨_, rfl⟩, hW, hsame.mono (by decide) (by decide)⟩
          · show Steps p.tables e below (T3.setTop (mkF m 79 #[.val (.int x0_0), .val (.int x0_1), .val (.int x0_2), .val (.int (x0_0 &&& (2147483647 : Int32))), .val (.int (x0_2 &&& (3 : Int32))), .val (.int (1 : Int32)), .val (.int (f1 (x0_0 &&& (2147483647 : Int32)) (1 : Int32)))] [(.int (1 : Int32)), (.int ((x0_0 &&& (2147483647 : Int32)) - (f1 (x0_0 &&& (2147483647 : Int32)) (1 : Int32))))])) _
            refine XS.icmpNo X3.here hx rfl (hb hby at_79) rfl (flt hc79_10).1 ?_
            show Steps p.tables e below (T3.setTop (mkF m 82 #[.val (.int x0_0), .val (.int x0_1), .val (.int x0_2), .val (.int (x0_0 &&& (2147483647 : Int32))), .val (.int (x0_2 &&& (3 : Int32))), .val (.int (1 : Int32)), .val (.int (f1 (x0_0 &&& (2147483647 : Int32)) (1 : Int32)))] [])) _
            refine XS.iconst X3.here hx rfl (hb hby at_82) ?_
            show Steps p.tables e below (T3.setTop (mkF m 83 #[.val (.int x0_0), .val (.int x0_1), .val (.int x0_2), .val (.int (x0_0 &&& (2147483647 : Int32))), .val (.int (x0_2 &&& (3 : Int32))), .val (.int (1 : Int32)), .val (.int (f1 (x0_0 &&& (2147483647 : Int32)) (1 : Int32)))] [(.int (0 : Int32))])) _
            exact retN X3 hx (t := .boolean) Bd.returns (by simp) (hb hby at_83) hr
          · exact ⟨congrArg (fun z => some (Value.int z)) (show (0 : Int32) = f0 x0_0 x0_1 x0_2 from by unfold f0; rw [if_pos hc12_2, if_neg hc62_6, if_neg hc68_8, if_neg hc79_10]), N3, e3⟩
  · have sg13 : ∀ t, Steps p.tables e below (s₁.setTop (mkF m 24 #[.val (.int x0_0), .val (.int x0_1), .val (.int x0_2), .val (.int (x0_0 &&& (2147483647 : Int32))), .val (.int (x0_2 &&& (3 : Int32))), .unset, .unset] [(.int (1 : Int32)), (.int (x0_2 &&& (3 : Int32)))])) t → Steps p.tables e below (s₁.setTop (mkF m 12 #[.val (.int x0_0), .val (.int x0_1), .val (.int x0_2), .val (.int (x0_0 &&& (2147483647 : Int32))), .val (.int (x0_2 &&& (3 : Int32))), .unset, .unset] [(.int (x0_2 &&& (3 : Int32)))])) t := fun t kt => by
      show Steps p.tables e below (s₁.setTop (mkF m 12 #[.val (.int x0_0), .val (.int x0_1), .val (.int x0_2), .val (.int (x0_0 &&& (2147483647 : Int32))), .val (.int (x0_2 &&& (3 : Int32))), .unset, .unset] [(.int (x0_2 &&& (3 : Int32)))])) _
      refine XS.ifYes X0.here hx rfl (pc0 := 12) (pc' := 21) rfl (hb hby at_12) rfl ((if0 _ _).trans (feq hc12_2).2) (by decide) (by decide) ?_
      show Steps p.tables e below (s₁.setTop (mkF m 21 #[.val (.int x0_0), .val (.int x0_1), .val (.int x0_2), .val (.int (x0_0 &&& (2147483647 : Int32))), .val (.int (x0_2 &&& (3 : Int32))), .unset, .unset] [])) _
      refine XS.iload X0.here hx rfl (hb hby at_21) rfl ?_
      show Steps p.tables e below (s₁.setTop (mkF m 23 #[.val (.int x0_0), .val (.int x0_1), .val (.int x0_2), .val (.int (x0_0 &&& (2147483647 : Int32))), .val (.int (x0_2 &&& (3 : Int32))), .unset, .unset] [(.int (x0_2 &&& (3 : Int32)))])) _
      refine XS.iconst X0.here hx rfl (hb hby at_23) ?_
      exact kt
    by_cases hc24_14 : (x0_2 &&& (3 : Int32)) = (1 : Int32)
    · have sg16 : ∀ t, Steps p.tables e below (s₁.setTop (mkF m 55 #[.val (.int x0_0), .val (.int x0_1), .val (.int x0_2), .val (.int (x0_0 &&& (2147483647 : Int32))), .val (.int (x0_2 &&& (3 : Int32))), .val (.int ((x0_1 &&& (15 : Int32)) + (1 : Int32))), .unset] [(.int ((x0_1 &&& (15 : Int32)) + (1 : Int32))), (.int (x0_0 &&& (2147483647 : Int32)))])) t → Steps p.tables e below (s₁.setTop (mkF m 24 #[.val (.int x0_0), .val (.int x0_1), .val (.int x0_2), .val (.int (x0_0 &&& (2147483647 : Int32))), .val (.int (x0_2 &&& (3 : Int32))), .unset, .unset] [(.int (1 : Int32)), (.int (x0_2 &&& (3 : Int32)))])) t := fun t kt => by
        show Steps p.tables e below (s₁.setTop (mkF m 24 #[.val (.int x0_0), .val (.int x0_1), .val (.int x0_2), .val (.int (x0_0 &&& (2147483647 : Int32))), .val (.int (x0_2 &&& (3 : Int32))), .unset, .unset] [(.int (1 : Int32)), (.int (x0_2 &&& (3 : Int32)))])) _
        refine XS.icmpNo X0.here hx rfl (hb hby at_24) rfl (teq hc24_14).2 ?_
        show Steps p.tables e below (s₁.setTop (mkF m 27 #[.val (.int x0_0), .val (.int x0_1), .val (.int x0_2), .val (.int (x0_0 &&& (2147483647 : Int32))), .val (.int (x0_2 &&& (3 : Int32))), .unset, .unset] [])) _
        refine XS.iloadN X0.here hx rfl (hb hby at_27) rfl ?_
        show Steps p.tables e below (s₁.setTop (mkF m 28 #[.val (.int x0_0), .val (.int x0_1), .val (.int x0_2), .val (.int (x0_0 &&& (2147483647 : Int32))), .val (.int (x0_2 &&& (3 : Int32))), .unset, .unset] [(.int x0_1)])) _
        refine XS.bipush X0.here hx rfl (hb hby at_28) ?_
        show Steps p.tables e below (s₁.setTop (mkF m 30 #[.val (.int x0_0), .val (.int x0_1), .val (.int x0_2), .val (.int (x0_0 &&& (2147483647 : Int32))), .val (.int (x0_2 &&& (3 : Int32))), .unset, .unset] [(.int (15 : Int32)), (.int x0_1)])) _
        refine XS.iand X0.here hx rfl (hb hby at_30) rfl ?_
        show Steps p.tables e below (s₁.setTop (mkF m 31 #[.val (.int x0_0), .val (.int x0_1), .val (.int x0_2), .val (.int (x0_0 &&& (2147483647 : Int32))), .val (.int (x0_2 &&& (3 : Int32))), .unset, .unset] [(.int (x0_1 &&& (15 : Int32)))])) _
        refine XS.iconst X0.here hx rfl (hb hby at_31) ?_
        show Steps p.tables e below (s₁.setTop (mkF m 32 #[.val (.int x0_0), .val (.int x0_1), .val (.int x0_2), .val (.int (x0_0 &&& (2147483647 : Int32))), .val (.int (x0_2 &&& (3 : Int32))), .unset, .unset] [(.int (1 : Int32)), (.int (x0_1 &&& (15 : Int32)))])) _
        refine XS.iadd X0.here hx rfl (hb hby at_32) rfl ?_
        show Steps p.tables e below (s₁.setTop (mkF m 33 #[.val (.int x0_0), .val (.int x0_1), .val (.int x0_2), .val (.int (x0_0 &&& (2147483647 : Int32))), .val (.int (x0_2 &&& (3 : Int32))), .unset, .unset] [(.int ((x0_1 &&& (15 : Int32)) + (1 : Int32)))])) _
        refine XS.istore X0.here hx rfl (hb hby at_33) rfl (l' := #[.val (.int x0_0), .val (.int x0_1), .val (.int x0_2), .val (.int (x0_0 &&& (2147483647 : Int32))), .val (.int (x0_2 &&& (3 : Int32))), .val (.int ((x0_1 &&& (15 : Int32)) + (1 : Int32))), .unset]) rfl ?_
        show Steps p.tables e below (s₁.setTop (mkF m 35 #[.val (.int x0_0), .val (.int x0_1), .val (.int x0_2), .val (.int (x0_0 &&& (2147483647 : Int32))), .val (.int (x0_2 &&& (3 : Int32))), .val (.int ((x0_1 &&& (15 : Int32)) + (1 : Int32))), .unset] [])) _
        refine XS.goto X0.here hx rfl (pc0 := 35) (pc' := 52) rfl (hb hby at_35) (by decide) (by decide) ?_
        show Steps p.tables e below (s₁.setTop (mkF m 52 #[.val (.int x0_0), .val (.int x0_1), .val (.int x0_2), .val (.int (x0_0 &&& (2147483647 : Int32))), .val (.int (x0_2 &&& (3 : Int32))), .val (.int ((x0_1 &&& (15 : Int32)) + (1 : Int32))), .unset] [])) _
        refine XS.iloadN X0.here hx rfl (hb hby at_52) rfl ?_
        show Steps p.tables e below (s₁.setTop (mkF m 53 #[.val (.int x0_0), .val (.int x0_1), .val (.int x0_2), .val (.int (x0_0 &&& (2147483647 : Int32))), .val (.int (x0_2 &&& (3 : Int32))), .val (.int ((x0_1 &&& (15 : Int32)) + (1 : Int32))), .unset] [(.int (x0_0 &&& (2147483647 : Int32)))])) _
        refine XS.iload X0.here hx rfl (hb hby at_53) rfl ?_
        exact kt
      obtain ⟨v15, _, ⟨T15, L15, k15, n15⟩, -, X15, ⟨Lc15, hQ15, l15, y15, z15⟩, st15⟩ := Jvm.LawKit.callS X0 hx (y := (⟨"com/example/goodprefix/goodprefix/ByteMatcher", "wholePeriods", "(II)I"⟩ : MethodName)) hown (mvT hZ (hw _ (List.mem_of_getElem? (i := 1) rfl))) (mvT hZ (hw _ (List.mem_of_getElem? (i := 2) rfl))) (mvT hZ (hw _ (List.mem_of_getElem? (i := 3) rfl))) (mvT hZ (hw _ (List.mem_of_getElem? (i := 4) rfl))) (by decide) (backOf (W := 0) (rm1 l Z a0 hw [] (x0_0 &&& (2147483647 : Int32)) ((x0_1 &&& (15 : Int32)) + (1 : Int32)) h0 n0 Z0 (own_per x0_1)) hZ (hw _ (List.mem_of_getElem? (i := 4) rfl)) (hw _ (List.mem_of_getElem? (i := 3) rfl)) (by decide) (by decide)) (g := (mkF m 55 #[.val (.int x0_0), .val (.int x0_1), .val (.int x0_2), .val (.int (x0_0 &&& (2147483647 : Int32))), .val (.int (x0_2 &&& (3 : Int32))), .val (.int ((x0_1 &&& (15 : Int32)) + (1 : Int32))), .unset] [(.int ((x0_1 &&& (15 : Int32)) + (1 : Int32))), (.int (x0_0 &&& (2147483647 : Int32)))])) rfl (by rw [hml]; rfl) (argsL := [(.int (x0_0 &&& (2147483647 : Int32))), (.int ((x0_1 &&& (15 : Int32)) + (1 : Int32)))]) (rest := []) (lenOf pd_0 rfl) rfl (by show 2 * 0 + _ ≤ _; exact Nat.le_of_eq rfl) (hb hby at_55) (fun _ _ => ⟨rfl, e0, (by decide : 0 + 0 ≤ _), (by decide : 0 + 0 ≤ _)⟩)
      dsimp only [Pt.U, Pt.locs, Pt.cells, Pt.slots] at X15 l15 y15 z15 st15 hQ15
      subst l15 y15 z15
      obtain ⟨hv15, N15q, e15⟩ := hQ15
      have N15 := Fr.app N0 N15q
      subst hv15
      have sg17 : ∀ t, Steps p.tables e below (T15.setTop (mkF m 62 #[.val (.int x0_0), .val (.int x0_1), .val (.int x0_2), .val (.int (x0_0 &&& (2147483647 : Int32))), .val (.int (x0_2 &&& (3 : Int32))), .val (.int ((x0_1 &&& (15 : Int32)) + (1 : Int32))), .val (.int (f1 (x0_0 &&& (2147483647 : Int32)) ((x0_1 &&& (15 : Int32)) + (1 : Int32))))] [(.int (f1 (x0_0 &&& (2147483647 : Int32)) ((x0_1 &&& (15 : Int32)) + (1 : Int32))))])) t → Steps p.tables e below (s₁.setTop (mkF m 55 #[.val (.int x0_0), .val (.int x0_1), .val (.int x0_2), .val (.int (x0_0 &&& (2147483647 : Int32))), .val (.int (x0_2 &&& (3 : Int32))), .val (.int ((x0_1 &&& (15 : Int32)) + (1 : Int32))), .unset] [(.int ((x0_1 &&& (15 : Int32)) + (1 : Int32))), (.int (x0_0 &&& (2147483647 : Int32)))])) t := fun t kt => by
        show Steps p.tables e below (s₁.setTop (mkF m 55 #[.val (.int x0_0), .val (.int x0_1), .val (.int x0_2), .val (.int (x0_0 &&& (2147483647 : Int32))), .val (.int (x0_2 &&& (3 : Int32))), .val (.int ((x0_1 &&& (15 : Int32)) + (1 : Int32))), .unset] [(.int ((x0_1 &&& (15 : Int32)) + (1 : Int32))), (.int (x0_0 &&& (2147483647 : Int32)))])) _
        refine st15 _ ?_
        show Steps p.tables e below (T15.setTop (mkF m 58 #[.val (.int x0_0), .val (.int x0_1), .val (.int x0_2), .val (.int (x0_0 &&& (2147483647 : Int32))), .val (.int (x0_2 &&& (3 : Int32))), .val (.int ((x0_1 &&& (15 : Int32)) + (1 : Int32))), .unset] [(.int (f1 (x0_0 &&& (2147483647 : Int32)) ((x0_1 &&& (15 : Int32)) + (1 : Int32))))])) _
        refine XS.istore X15.here hx rfl (hb hby at_58) rfl (l' := #[.val (.int x0_0), .val (.int x0_1), .val (.int x0_2), .val (.int (x0_0 &&& (2147483647 : Int32))), .val (.int (x0_2 &&& (3 : Int32))), .val (.int ((x0_1 &&& (15 : Int32)) + (1 : Int32))), .val (.int (f1 (x0_0 &&& (2147483647 : Int32)) ((x0_1 &&& (15 : Int32)) + (1 : Int32))))]) rfl ?_
        show Steps p.tables e below (T15.setTop (mkF m 60 #[.val (.int x0_0), .val (.int x0_1), .val (.int x0_2), .val (.int (x0_0 &&& (2147483647 : Int32))), .val (.int (x0_2 &&& (3 : Int32))), .val (.int ((x0_1 &&& (15 : Int32)) + (1 : Int32))), .val (.int (f1 (x0_0 &&& (2147483647 : Int32)) ((x0_1 &&& (15 : Int32)) + (1 : Int32))))] [])) _
        refine XS.iload X15.here hx rfl (hb hby at_60) rfl ?_
        exact kt
      by_cases hc62_18 : (f1 (x0_0 &&& (2147483647 : Int32)) ((x0_1 &&& (15 : Int32)) + (1 : Int32))) < (0 : Int32)
      · obtain ⟨fs, hr, hrun, hended, hW, hsame⟩ := X15.leave (v := some (.int (0 : Int32))) (fun h => by rw [Bd.returns] at h; cases h)
        refine ⟨_, _, pre0 _ (sg1 _ (sg13 _ (sg16 _ (sg17 _ ?_)))), hrun, hended, _, _, rfl, ?_, ⟨_, rfl⟩, hW, hsame.mono (by decide) (by decide)⟩
        · show Steps p.tables e below (T15.setTop (mkF m 62 #[.val (.int x0_0), .val (.int x0_1), .val (.int x0_2), .val (.int (x0_0 &&& (2147483647 : Int32))), .val (.int (x0_2 &&& (3 : Int32))), .val (.int ((x0_1 &&& (15 : Int32)) + (1 : Int32))), .val (.int (f1 (x0_0 &&& (2147483647 : Int32)) ((x0_1 &&& (15 : Int32)) + (1 : Int32))))] [(.int (f1 (x0_0 &&& (2147483647 : Int32)) ((x0_1 &&& (15 : Int32)) + (1 : Int32))))])) _
          refine XS.ifYes X15.here hx rfl (pc0 := 62) (pc' := 71) rfl (hb hby at_62) rfl ((if0 _ _).trans (tlt hc62_18).1) (by decide) (by decide) ?_
          show Steps p.tables e below (T15.setTop (mkF m 71 #[.val (.int x0_0), .val (.int x0_1), .val (.int x0_2), .val (.int (x0_0 &&& (2147483647 : Int32))), .val (.int (x0_2 &&& (3 : Int32))), .val (.int ((x0_1 &&& (15 : Int32)) + (1 : Int32))), .val (.int (f1 (x0_0 &&& (2147483647 : Int32)) ((x0_1 &&& (15 : Int32)) + (1 : Int32))))] [])) _
          refine XS.iconst X15.here hx rfl (hb hby at_71) ?_
          show Steps p.tables e below (T15.setTop (mkF m 72 #[.val (.int x0_0), .val (.int x0_1), .val (.int x0_2), .val (.int (x0_0 &&& (2147483647 : Int32))), .val (.int (x0_2 &&& (3 : Int32))), .val (.int ((x0_1 &&& (15 : Int32)) + (1 : Int32))), .val (.int (f1 (x0_0 &&& (2147483647 : Int32)) ((x0_1 &&& (15 : Int32)) + (1 : Int32))))] [(.int (0 : Int32))])) _
          exact retN X15 hx (t := .boolean) Bd.returns (by simp) (hb hby at_72) hr
        · exact ⟨congrArg (fun z => some (Value.int z)) (show (0 : Int32) = f0 x0_0 x0_1 x0_2 from by unfold f0; rw [if_neg hc12_2, if_pos hc24_14, if_pos hc62_18]), N15, e15⟩
      · have sg19 : ∀ t, Steps p.tables e below (T15.setTop (mkF m 68 #[.val (.int x0_0), .val (.int x0_1), .val (.int x0_2), .val (.int (x0_0 &&& (2147483647 : Int32))), .val (.int (x0_2 &&& (3 : Int32))), .val (.int ((x0_1 &&& (15 : Int32)) + (1 : Int32))), .val (.int (f1 (x0_0 &&& (2147483647 : Int32)) ((x0_1 &&& (15 : Int32)) + (1 : Int32))))] [(.int (x0_0 &&& (2147483647 : Int32))), (.int (f1 (x0_0 &&& (2147483647 : Int32)) ((x0_1 &&& (15 : Int32)) + (1 : Int32))))])) t → Steps p.tables e below (T15.setTop (mkF m 62 #[.val (.int x0_0), .val (.int x0_1), .val (.int x0_2), .val (.int (x0_0 &&& (2147483647 : Int32))), .val (.int (x0_2 &&& (3 : Int32))), .val (.int ((x0_1 &&& (15 : Int32)) + (1 : Int32))), .val (.int (f1 (x0_0 &&& (2147483647 : Int32)) ((x0_1 &&& (15 : Int32)) + (1 : Int32))))] [(.int (f1 (x0_0 &&& (2147483647 : Int32)) ((x0_1 &&& (15 : Int32)) + (1 : Int32))))])) t := fun t kt => by
          show Steps p.tables e below (T15.setTop (mkF m 62 #[.val (.int x0_0), .val (.int x0_1), .val (.int x0_2), .val (.int (x0_0 &&& (2147483647 : Int32))), .val (.int (x0_2 &&& (3 : Int32))), .val (.int ((x0_1 &&& (15 : Int32)) + (1 : Int32))), .val (.int (f1 (x0_0 &&& (2147483647 : Int32)) ((x0_1 &&& (15 : Int32)) + (1 : Int32))))] [(.int (f1 (x0_0 &&& (2147483647 : Int32)) ((x0_1 &&& (15 : Int32)) + (1 : Int32))))])) _
          refine XS.ifNo X15.here hx rfl (hb hby at_62) rfl ((if0 _ _).trans (flt hc62_18).1) ?_
          show Steps p.tables e below (T15.setTop (mkF m 65 #[.val (.int x0_0), .val (.int x0_1), .val (.int x0_2), .val (.int (x0_0 &&& (2147483647 : Int32))), .val (.int (x0_2 &&& (3 : Int32))), .val (.int ((x0_1 &&& (15 : Int32)) + (1 : Int32))), .val (.int (f1 (x0_0 &&& (2147483647 : Int32)) ((x0_1 &&& (15 : Int32)) + (1 : Int32))))] [])) _
          refine XS.iload X15.here hx rfl (hb hby at_65) rfl ?_
          show Steps p.tables e below (T15.setTop (mkF m 67 #[.val (.int x0_0), .val (.int x0_1), .val (.int x0_2), .val (.int (x0_0 &&& (2147483647 : Int32))), .val (.int (x0_2 &&& (3 : Int32))), .val (.int ((x0_1 &&& (15 : Int32)) + (1 : Int32))), .val (.int (f1 (x0_0 &&& (2147483647 : Int32)) ((x0_1 &&& (15 : Int32)) + (1 : Int32))))] [(.int (f1 (x0_0 &&& (2147483647 : Int32)) ((x0_1 &&& (15 : Int32)) + (1 : Int32))))])) _
          refine XS.iloadN X15.here hx rfl (hb hby at_67) rfl ?_
          exact kt
        by_cases hc68_20 : (x0_0 &&& (2147483647 : Int32)) < (f1 (x0_0 &&& (2147483647 : Int32)) ((x0_1 &&& (15 : Int32)) + (1 : Int32)))
        · obtain ⟨fs, hr, hrun, hended, hW, hsame⟩ := X15.leave (v := some (.int (0 : Int32))) (fun h => by rw [Bd.returns] at h; cases h)
          refine ⟨_, _, pre0 _ (sg1 _ (sg13 _ (sg16 _ (sg17 _ (sg19 _ ?_))))), hrun, hended, _, _, rfl, ?_, ⟨_, rfl⟩, hW, hsame.mono (by decide) (by decide)⟩
          · show Steps p.tables e below (T15.setTop (mkF m 68 #[.val (.int x0_0), .val (.int x0_1), .val (.int x0_2), .val (.int (x0_0 &&& (2147483647 : Int32))), .val (.int (x0_2 &&& (3 : Int32))), .val (.int ((x0_1 &&& (15 : Int32)) + (1 : Int32))), .val (.int (f1 (x0_0 &&& (2147483647 : Int32)) ((x0_1 &&& (15 : Int32)) + (1 : Int32))))] [(.int (x0_0 &&& (2147483647 : Int32))), (.int (f1 (x0_0 &&& (2147483647 : Int32)) ((x0_1 &&& (15 : Int32)) + (1 : Int32))))])) _
            refine XS.icmpNo X15.here hx rfl (hb hby at_68) rfl (tlt hc68_20).2.2.2 ?_
            show Steps p.tables e below (T15.setTop (mkF m 71 #[.val (.int x0_0), .val (.int x0_1), .val (.int x0_2), .val (.int (x0_0 &&& (2147483647 : Int32))), .val (.int (x0_2 &&& (3 : Int32))), .val (.int ((x0_1 &&& (15 : Int32)) + (1 : Int32))), .val (.int (f1 (x0_0 &&& (2147483647 : Int32)) ((x0_1 &&& (15 : Int32)) + (1 : Int32))))] [])) _
            refine XS.iconst X15.here hx rfl (hb hby at_71) ?_
            show Steps p.tables e below (T15.setTop (mkF m 72 #[.val (.int x0_0), .val (.int x0_1), .val (.int x0_2), .val (.int (x0_0 &&& (2147483647 : Int32))), .val (.int (x0_2 &&& (3 : Int32))), .val (.int ((x0_1 &&& (15 : Int32)) + (1 : Int32))), .val (.int (f1 (x0_0 &&& (2147483647 : Int32)) ((x0_1 &&& (15 : Int32)) + (1 : Int32))))] [(.int (0 : Int32))])) _
            exact retN X15 hx (t := .boolean) Bd.returns (by simp) (hb hby at_72) hr
          · exact ⟨congrArg (fun z => some (Value.int z)) (show (0 : Int32) = f0 x0_0 x0_1 x0_2 from by unfold f0; rw [if_neg hc12_2, if_pos hc24_14, if_neg hc62_18, if_pos hc68_20]), N15, e15⟩
        · have sg21 : ∀ t, Steps p.tables e below (T15.setTop (mkF m 79 #[.val (.int x0_0), .val (.int x0_1), .val (.int x0_2), .val (.int (x0_0 &&& (2147483647 : Int32))), .val (.int (x0_2 &&& (3 : Int32))), .val (.int ((x0_1 &&& (15 : Int32)) + (1 : Int32))), .val (.int (f1 (x0_0 &&& (2147483647 : Int32)) ((x0_1 &&& (15 : Int32)) + (1 : Int32))))] [(.int ((x0_1 &&& (15 : Int32)) + (1 : Int32))), (.int ((x0_0 &&& (2147483647 : Int32)) - (f1 (x0_0 &&& (2147483647 : Int32)) ((x0_1 &&& (15 : Int32)) + (1 : Int32)))))])) t → Steps p.tables e below (T15.setTop (mkF m 68 #[.val (.int x0_0), .val (.int x0_1), .val (.int x0_2), .val (.int (x0_0 &&& (2147483647 : Int32))), .val (.int (x0_2 &&& (3 : Int32))), .val (.int ((x0_1 &&& (15 : Int32)) + (1 : Int32))), .val (.int (f1 (x0_0 &&& (2147483647 : Int32)) ((x0_1 &&& (15 : Int32)) + (1 : Int32))))] [(.int (x0_0 &&& (2147483647 : Int32))), (.int (f1 (x0_0 &&& (2147483647 : Int32)) ((x0_1 &&& (15 : Int32)) + (1 : Int32))))])) t := fun t kt => by
            show Steps p.tables e below (T15.setTop (mkF m 68 #[.val (.int x0_0), .val (.int x0_1), .val (.int x0_2), .val (.int (x0_0 &&& (2147483647 : Int32))), .val (.int (x0_2 &&& (3 : Int32))), .val (.int ((x0_1 &&& (15 : Int32)) + (1 : Int32))), .val (.int (f1 (x0_0 &&& (2147483647 : Int32)) ((x0_1 &&& (15 : Int32)) + (1 : Int32))))] [(.int (x0_0 &&& (2147483647 : Int32))), (.int (f1 (x0_0 &&& (2147483647 : Int32)) ((x0_1 &&& (15 : Int32)) + (1 : Int32))))])) _
            refine XS.icmpYes X15.here hx rfl (pc0 := 68) (pc' := 73) rfl (hb hby at_68) rfl (flt hc68_20).2.2.2 (by decide) (by decide) ?_
            show Steps p.tables e below (T15.setTop (mkF m 73 #[.val (.int x0_0), .val (.int x0_1), .val (.int x0_2), .val (.int (x0_0 &&& (2147483647 : Int32))), .val (.int (x0_2 &&& (3 : Int32))), .val (.int ((x0_1 &&& (15 : Int32)) + (1 : Int32))), .val (.int (f1 (x0_0 &&& (2147483647 : Int32)) ((x0_1 &&& (15 : Int32)) + (1 : Int32))))] [])) _
            refine XS.iloadN X15.here hx rfl (hb hby at_73) rfl ?_
            show Steps p.tables e below (T15.setTop (mkF m 74 #[.val (.int x0_0), .val (.int x0_1), .val (.int x0_2), .val (.int (x0_0 &&& (2147483647 : Int32))), .val (.int (x0_2 &&& (3 : Int32))), .val (.int ((x0_1 &&& (15 : Int32)) + (1 : Int32))), .val (.int (f1 (x0_0 &&& (2147483647 : Int32)) ((x0_1 &&& (15 : Int32)) + (1 : Int32))))] [(.int (x0_0 &&& (2147483647 : Int32)))])) _
            refine XS.iload X15.here hx rfl (hb hby at_74) rfl ?_
            show Steps p.tables e below (T15.setTop (mkF m 76 #[.val (.int x0_0), .val (.int x0_1), .val (.int x0_2), .val (.int (x0_0 &&& (2147483647 : Int32))), .val (.int (x0_2 &&& (3 : Int32))), .val (.int ((x0_1 &&& (15 : Int32)) + (1 : Int32))), .val (.int (f1 (x0_0 &&& (2147483647 : Int32)) ((x0_1 &&& (15 : Int32)) + (1 : Int32))))] [(.int (f1 (x0_0 &&& (2147483647 : Int32)) ((x0_1 &&& (15 : Int32)) + (1 : Int32)))), (.int (x0_0 &&& (2147483647 : Int32)))])) _
            refine XS.isub X15.here hx rfl (hb hby at_76) rfl ?_
            show Steps p.tables e below (T15.setTop (mkF m 77 #[.val (.int x0_0), .val (.int x0_1), .val (.int x0_2), .val (.int (x0_0 &&& (2147483647 : Int32))), .val (.int (x0_2 &&& (3 : Int32))), .val (.int ((x0_1 &&& (15 : Int32)) + (1 : Int32))), .val (.int (f1 (x0_0 &&& (2147483647 : Int32)) ((x0_1 &&& (15 : Int32)) + (1 : Int32))))] [(.int ((x0_0 &&& (2147483647 : Int32)) - (f1 (x0_0 &&& (2147483647 : Int32)) ((x0_1 &&& (15 : Int32)) + (1 : Int32)))))])) _
            refine XS.iload X15.here hx rfl (hb hby at_77) rfl ?_
            exact kt
          by_cases hc79_22 : ((x0_0 &&& (2147483647 : Int32)) - (f1 (x0_0 &&& (2147483647 : Int32)) ((x0_1 &&& (15 : Int32)) + (1 : Int32)))) < ((x0_1 &&& (15 : Int32)) + (1 : Int32))
          · have sg23 : ∀ t, Steps p.tables e below (T15.setTop (mkF m 94 #[.val (.int x0_0), .val (.int x0_1), .val (.int x0_2), .val (.int (x0_0 &&& (2147483647 : Int32))), .val (.int (x0_2 &&& (3 : Int32))), .val (.int ((x0_1 &&& (15 : Int32)) + (1 : Int32))), .val (.int (f1 (x0_0 &&& (2147483647 : Int32)) ((x0_1 &&& (15 : Int32)) + (1 : Int32))))] [(.int (f1 (x0_0 &&& (2147483647 : Int32)) ((x0_1 &&& (15 : Int32)) + (1 : Int32)))), (.int (((f1 (x0_0 &&& (2147483647 : Int32)) ((x0_1 &&& (15 : Int32)) + (1 : Int32))) / ((x0_1 &&& (15 : Int32)) + (1 : Int32))) * ((x0_1 &&& (15 : Int32)) + (1 : Int32))))])) t → Steps p.tables e below (T15.setTop (mkF m 79 #[.val (.int x0_0), .val (.int x0_1), .val (.int x0_2), .val (.int (x0_0 &&& (2147483647 : Int32))), .val (.int (x0_2 &&& (3 : Int32))), .val (.int ((x0_1 &&& (15 : Int32)) + (1 : Int32))), .val (.int (f1 (x0_0 &&& (2147483647 : Int32)) ((x0_1 &&& (15 : Int32)) + (1 : Int32))))] [(.int ((x0_1 &&& (15 : Int32)) + (1 : Int32))), (.int ((x0_0 &&& (2147483647 : Int32)) - (f1 (x0_0 &&& (2147483647 : Int32)) ((x0_1 &&& (15 : Int32)) + (1 : Int32)))))])) t := fun t kt => by
              show Steps p.tables e below (T15.setTop (mkF m 79 #[.val (.int x0_0), .val (.int x0_1), .val (.int x0_2), .val (.int (x0_0 &&& (2147483647 : Int32))), .val (.int (x0_2 &&& (3 : Int32))), .val (.int ((x0_1 &&& (15 : Int32)) + (1 : Int32))), .val (.int (f1 (x0_0 &&& (2147483647 : Int32)) ((x0_1 &&& (15 : Int32)) + (1 : Int32))))] [(.int ((x0_1 &&& (15 : Int32)) + (1 : Int32))), (.int ((x0_0 &&& (2147483647 : Int32)) - (f1 (x0_0 &&& (2147483647 : Int32)) ((x0_1 &&& (15 : Int32)) + (1 : Int32)))))])) _
              refine XS.icmpYes X15.here hx rfl (pc0 := 79) (pc' := 84) rfl (hb hby at_79) rfl (tlt hc79_22).1 (by decide) (by decide) ?_
              show Steps p.tables e below (T15.setTop (mkF m 84 #[.val (.int x0_0), .val (.int x0_1), .val (.int x0_2), .val (.int (x0_0 &&& (2147483647 : Int32))), .val (.int (x0_2 &&& (3 : Int32))), .val (.int ((x0_1 &&& (15 : Int32)) + (1 : Int32))), .val (.int (f1 (x0_0 &&& (2147483647 : Int32)) ((x0_1 &&& (15 : Int32)) + (1 : Int32))))] [])) _
              refine XS.iload X15.here hx rfl (hb hby at_84) rfl ?_
              show Steps p.tables e below (T15.setTop (mkF m 86 #[.val (.int x0_0), .val (.int x0_1), .val (.int x0_2), .val (.int (x0_0 &&& (2147483647 : Int32))), .val (.int (x0_2 &&& (3 : Int32))), .val (.int ((x0_1 &&& (15 : Int32)) + (1 : Int32))), .val (.int (f1 (x0_0 &&& (2147483647 : Int32)) ((x0_1 &&& (15 : Int32)) + (1 : Int32))))] [(.int (f1 (x0_0 &&& (2147483647 : Int32)) ((x0_1 &&& (15 : Int32)) + (1 : Int32))))])) _
              refine XS.iload X15.here hx rfl (hb hby at_86) rfl ?_
              show Steps p.tables e below (T15.setTop (mkF m 88 #[.val (.int x0_0), .val (.int x0_1), .val (.int x0_2), .val (.int (x0_0 &&& (2147483647 : Int32))), .val (.int (x0_2 &&& (3 : Int32))), .val (.int ((x0_1 &&& (15 : Int32)) + (1 : Int32))), .val (.int (f1 (x0_0 &&& (2147483647 : Int32)) ((x0_1 &&& (15 : Int32)) + (1 : Int32))))] [(.int ((x0_1 &&& (15 : Int32)) + (1 : Int32))), (.int (f1 (x0_0 &&& (2147483647 : Int32)) ((x0_1 &&& (15 : Int32)) + (1 : Int32))))])) _
              refine XS.idiv X15.here hx rfl (hb hby at_88) rfl (own_per x0_1) ?_
              show Steps p.tables e below (T15.setTop (mkF m 89 #[.val (.int x0_0), .val (.int x0_1), .val (.int x0_2), .val (.int (x0_0 &&& (2147483647 : Int32))), .val (.int (x0_2 &&& (3 : Int32))), .val (.int ((x0_1 &&& (15 : Int32)) + (1 : Int32))), .val (.int (f1 (x0_0 &&& (2147483647 : Int32)) ((x0_1 &&& (15 : Int32)) + (1 : Int32))))] [(.int ((f1 (x0_0 &&& (2147483647 : Int32)) ((x0_1 &&& (15 : Int32)) + (1 : Int32))) / ((x0_1 &&& (15 : Int32)) + (1 : Int32))))])) _
              refine XS.iload X15.here hx rfl (hb hby at_89) rfl ?_
              show Steps p.tables e below (T15.setTop (mkF m 91 #[.val (.int x0_0), .val (.int x0_1), .val (.int x0_2), .val (.int (x0_0 &&& (2147483647 : Int32))), .val (.int (x0_2 &&& (3 : Int32))), .val (.int ((x0_1 &&& (15 : Int32)) + (1 : Int32))), .val (.int (f1 (x0_0 &&& (2147483647 : Int32)) ((x0_1 &&& (15 : Int32)) + (1 : Int32))))] [(.int ((x0_1 &&& (15 : Int32)) + (1 : Int32))), (.int ((f1 (x0_0 &&& (2147483647 : Int32)) ((x0_1 &&& (15 : Int32)) + (1 : Int32))) / ((x0_1 &&& (15 : Int32)) + (1 : Int32))))])) _
              refine XS.imul X15.here hx rfl (hb hby at_91) rfl ?_
              show Steps p.tables e below (T15.setTop (mkF m 92 #[.val (.int x0_0), .val (.int x0_1), .val (.int x0_2), .val (.int (x0_0 &&& (2147483647 : Int32))), .val (.int (x0_2 &&& (3 : Int32))), .val (.int ((x0_1 &&& (15 : Int32)) + (1 : Int32))), .val (.int (f1 (x0_0 &&& (2147483647 : Int32)) ((x0_1 &&& (15 : Int32)) + (1 : Int32))))] [(.int (((f1 (x0_0 &&& (2147483647 : Int32)) ((x0_1 &&& (15 : Int32)) + (1 : Int32))) / ((x0_1 &&& (15 : Int32)) + (1 : Int32))) * ((x0_1 &&& (15 : Int32)) + (1 : Int32))))])) _
              refine XS.iload X15.here hx rfl (hb hby at_92) rfl ?_
              exact kt
            by_cases hc94_24 : (((f1 (x0_0 &&& (2147483647 : Int32)) ((x0_1 &&& (15 : Int32)) + (1 : Int32))) / ((x0_1 &&& (15 : Int32)) + (1 : Int32))) * ((x0_1 &&& (15 : Int32)) + (1 : Int32))) = (f1 (x0_0 &&& (2147483647 : Int32)) ((x0_1 &&& (15 : Int32)) + (1 : Int32)))
            · obtain ⟨fs, hr, hrun, hended, hW, hsame⟩ := X15.leave (v := some (.int (1 : Int32))) (fun h => by rw [Bd.returns] at h; cases h)
              refine ⟨_, _, pre0 _ (sg1 _ (sg13 _ (sg16 _ (sg17 _ (sg19 _ (sg21 _ (sg23 _ ?_))))))), hrun, hended, _, _, rfl, ?_, ⟨_, rfl⟩, hW, hsame.mono (by decide) (by decide)⟩
              · show Steps p.tables e below (T15.setTop (mkF m 94 #[.val (.int x0_0), .val (.int x0_1), .val (.int x0_2), .val (.int (x0_0 &&& (2147483647 : Int32))), .val (.int (x0_2 &&& (3 : Int32))), .val (.int ((x0_1 &&& (15 : Int32)) + (1 : Int32))), .val (.int (f1 (x0_0 &&& (2147483647 : Int32)) ((x0_1 &&& (15 : Int32)) + (1 : Int32))))] [(.int (f1 (x0_0 &&& (2147483647 : Int32)) ((x0_1 &&& (15 : Int32)) + (1 : Int32)))), (.int (((f1 (x0_0 &&& (2147483647 : Int32)) ((x0_1 &&& (15 : Int32)) + (1 : Int32))) / ((x0_1 &&& (15 : Int32)) + (1 : Int32))) * ((x0_1 &&& (15 : Int32)) + (1 : Int32))))])) _
                refine XS.icmpNo X15.here hx rfl (hb hby at_94) rfl (teq hc94_24).2 ?_
                show Steps p.tables e below (T15.setTop (mkF m 97 #[.val (.int x0_0), .val (.int x0_1), .val (.int x0_2), .val (.int (x0_0 &&& (2147483647 : Int32))), .val (.int (x0_2 &&& (3 : Int32))), .val (.int ((x0_1 &&& (15 : Int32)) + (1 : Int32))), .val (.int (f1 (x0_0 &&& (2147483647 : Int32)) ((x0_1 &&& (15 : Int32)) + (1 : Int32))))] [])) _
                refine XS.iconst X15.here hx rfl (hb hby at_97) ?_
                show Steps p.tables e below (T15.setTop (mkF m 98 #[.val (.int x0_0), .val (.int x0_1), .val (.int x0_2), .val (.int (x0_0 &&& (2147483647 : Int32))), .val (.int (x0_2 &&& (3 : Int32))), .val (.int ((x0_1 &&& (15 : Int32)) + (1 : Int32))), .val (.int (f1 (x0_0 &&& (2147483647 : Int32)) ((x0_1 &&& (15 : Int32)) + (1 : Int32))))] [(.int (1 : Int32))])) _
                refine XS.goto X15.here hx rfl (pc0 := 98) (pc' := 102) rfl (hb hby at_98) (by decide) (by decide) ?_
                show Steps p.tables e below (T15.setTop (mkF m 102 #[.val (.int x0_0), .val (.int x0_1), .val (.int x0_2), .val (.int (x0_0 &&& (2147483647 : Int32))), .val (.int (x0_2 &&& (3 : Int32))), .val (.int ((x0_1 &&& (15 : Int32)) + (1 : Int32))), .val (.int (f1 (x0_0 &&& (2147483647 : Int32)) ((x0_1 &&& (15 : Int32)) + (1 : Int32))))] [(.int (1 : Int32))])) _
                exact retN X15 hx (t := .boolean) Bd.returns (by simp) (hb hby at_102) hr
              · exact ⟨congrArg (fun z => some (Value.int z)) (show (1 : Int32) = f0 x0_0 x0_1 x0_2 from by unfold f0; rw [if_neg hc12_2, if_pos hc24_14, if_neg hc62_18, if_neg hc68_20, if_pos hc79_22, if_pos hc94_24]), N15, e15⟩
            · obtain ⟨fs, hr, hrun, hended, hW, hsame⟩ := X15.leave (v := some (.int (0 : Int32))) (fun h => by rw [Bd.returns] at h; cases h)
              refine ⟨_, _, pre0 _ (sg1 _ (sg13 _ (sg16 _ (sg17 _ (sg19 _ (sg21 _ (sg23 _ ?_))))))), hrun, hended, _, _, rfl, ?_, ⟨_, rfl⟩, hW, hsame.mono (by decide) (by decide)⟩
              · show Steps p.tables e below (T15.setTop (mkF m 94 #[.val (.int x0_0), .val (.int x0_1), .val (.int x0_2), .val (.int (x0_0 &&& (2147483647 : Int32))), .val (.int (x0_2 &&& (3 : Int32))), .val (.int ((x0_1 &&& (15 : Int32)) + (1 : Int32))), .val (.int (f1 (x0_0 &&& (2147483647 : Int32)) ((x0_1 &&& (15 : Int32)) + (1 : Int32))))] [(.int (f1 (x0_0 &&& (2147483647 : Int32)) ((x0_1 &&& (15 : Int32)) + (1 : Int32)))), (.int (((f1 (x0_0 &&& (2147483647 : Int32)) ((x0_1 &&& (15 : Int32)) + (1 : Int32))) / ((x0_1 &&& (15 : Int32)) + (1 : Int32))) * ((x0_1 &&& (15 : Int32)) + (1 : Int32))))])) _
                refine XS.icmpYes X15.here hx rfl (pc0 := 94) (pc' := 101) rfl (hb hby at_94) rfl (feq hc94_24).2 (by decide) (by decide) ?_
                show Steps p.tables e below (T15.setTop (mkF m 101 #[.val (.int x0_0), .val (.int x0_1), .val (.int x0_2), .val (.int (x0_0 &&& (2147483647 : Int32))), .val (.int (x0_2 &&& (3 : Int32))), .val (.int ((x0_1 &&& (15 : Int32)) + (1 : Int32))), .val (.int (f1 (x0_0 &&& (2147483647 : Int32)) ((x0_1 &&& (15 : Int32)) + (1 : Int32))))] [])) _
                refine XS.iconst X15.here hx rfl (hb hby at_101) ?_
                show Steps p.tables e below (T15.setTop (mkF m 102 #[.val (.int x0_0), .val (.int x0_1), .val (.int x0_2), .val (.int (x0_0 &&& (2147483647 : Int32))), .val (.int (x0_2 &&& (3 : Int32))), .val (.int ((x0_1 &&& (15 : Int32)) + (1 : Int32))), .val (.int (f1 (x0_0 &&& (2147483647 : Int32)) ((x0_1 &&& (15 : Int32)) + (1 : Int32))))] [(.int (0 : Int32))])) _
                exact retN X15 hx (t := .boolean) Bd.returns (by simp) (hb hby at_102) hr
              · exact ⟨congrArg (fun z => some (Value.int z)) (show (0 : Int32) = f0 x0_0 x0_1 x0_2 from by unfold f0; rw [if_neg hc12_2, if_pos hc24_14, if_neg hc62_18, if_neg hc68_20, if_pos hc79_22, if_neg hc94_24]), N15, e15⟩
          · obtain ⟨fs, hr, hrun, hended, hW, hsame⟩ := X15.leave (v := some (.int (0 : Int32))) (fun h => by rw [Bd.returns] at h; cases h)
            refine ⟨_, _, pre0 _ (sg1 _ (sg13 _ (sg16 _ (sg17 _ (sg19 _ (sg21 _ ?_)))))), hrun, hended, _, _, rfl, ?_, ⟨_, rfl⟩, hW, hsame.mono (by decide) (by decide)⟩
            · show Steps p.tables e below (T15.setTop (mkF m 79 #[.val (.int x0_0), .val (.int x0_1), .val (.int x0_2), .val (.int (x0_0 &&& (2147483647 : Int32))), .val (.int (x0_2 &&& (3 : Int32))), .val (.int ((x0_1 &&& (15 : Int32)) + (1 : Int32))), .val (.int (f1 (x0_0 &&& (2147483647 : Int32)) ((x0_1 &&& (15 : Int32)) + (1 : Int32))))] [(.int ((x0_1 &&& (15 : Int32)) + (1 : Int32))), (.int ((x0_0 &&& (2147483647 : Int32)) - (f1 (x0_0 &&& (2147483647 : Int32)) ((x0_1 &&& (15 : Int32)) + (1 : Int32)))))])) _
              refine XS.icmpNo X15.here hx rfl (hb hby at_79) rfl (flt hc79_22).1 ?_
              show Steps p.tables e below (T15.setTop (mkF m 82 #[.val (.int x0_0), .val (.int x0_1), .val (.int x0_2), .val (.int (x0_0 &&& (2147483647 : Int32))), .val (.int (x0_2 &&& (3 : Int32))), .val (.int ((x0_1 &&& (15 : Int32)) + (1 : Int32))), .val (.int (f1 (x0_0 &&& (2147483647 : Int32)) ((x0_1 &&& (15 : Int32)) + (1 : Int32))))] [])) _
              refine XS.iconst X15.here hx rfl (hb hby at_82) ?_
              show Steps p.tables e below (T15.setTop (mkF m 83 #[.val (.int x0_0), .val (.int x0_1), .val (.int x0_2), .val (.int (x0_0 &&& (2147483647 : Int32))), .val (.int (x0_2 &&& (3 : Int32))), .val (.int ((x0_1 &&& (15 : Int32)) + (1 : Int32))), .val (.int (f1 (x0_0 &&& (2147483647 : Int32)) ((x0_1 &&& (15 : Int32)) + (1 : Int32))))] [(.int (0 : Int32))])) _
              exact retN X15 hx (t := .boolean) Bd.returns (by simp) (hb hby at_83) hr
            · exact ⟨congrArg (fun z => some (Value.int z)) (show (0 : Int32) = f0 x0_0 x0_1 x0_2 from by unfold f0; rw [if_neg hc12_2, if_pos hc24_14, if_neg hc62_18, if_neg hc68_20, if_neg hc79_22]), N15, e15⟩
    · have sg25 : ∀ t, Steps p.tables e below (s₁.setTop (mkF m 46 #[.val (.int x0_0), .val (.int x0_1), .val (.int x0_2), .val (.int (x0_0 &&& (2147483647 : Int32))), .val (.int (x0_2 &&& (3 : Int32))), .val (.int (x0_1 &&& (2147483647 : Int32))), .unset] [(.int (x0_1 &&& (2147483647 : Int32)))])) t → Steps p.tables e below (s₁.setTop (mkF m 24 #[.val (.int x0_0), .val (.int x0_1), .val (.int x0_2), .val (.int (x0_0 &&& (2147483647 : Int32))), .val (.int (x0_2 &&& (3 : Int32))), .unset, .unset] [(.int (1 : Int32)), (.int (x0_2 &&& (3 : Int32)))])) t := fun t kt => by
        show Steps p.tables e below (s₁.setTop (mkF m 24 #[.val (.int x0_0), .val (.int x0_1), .val (.int x0_2), .val (.int (x0_0 &&& (2147483647 : Int32))), .val (.int (x0_2 &&& (3 : Int32))), .unset, .unset] [(.int (1 : Int32)), (.int (x0_2 &&& (3 : Int32)))])) _
        refine XS.icmpYes X0.here hx rfl (pc0 := 24) (pc' := 38) rfl (hb hby at_24) rfl (feq hc24_14).2 (by decide) (by decide) ?_
        show Steps p.tables e below (s₁.setTop (mkF m 38 #[.val (.int x0_0), .val (.int x0_1), .val (.int x0_2), .val (.int (x0_0 &&& (2147483647 : Int32))), .val (.int (x0_2 &&& (3 : Int32))), .unset, .unset] [])) _
        refine XS.iloadN X0.here hx rfl (hb hby at_38) rfl ?_
        show Steps p.tables e below (s₁.setTop (mkF m 39 #[.val (.int x0_0), .val (.int x0_1), .val (.int x0_2), .val (.int (x0_0 &&& (2147483647 : Int32))), .val (.int (x0_2 &&& (3 : Int32))), .unset, .unset] [(.int x0_1)])) _
        refine X0.ldcInt hx hown (mvT hZ (hw _ (List.mem_of_getElem? (i := 0) rfl))) (g := (mkF m 39 #[.val (.int x0_0), .val (.int x0_1), .val (.int x0_2), .val (.int (x0_0 &&& (2147483647 : Int32))), .val (.int (x0_2 &&& (3 : Int32))), .unset, .unset] [(.int x0_1)])) rfl (hb hby at_39) _ ?_
        show Steps p.tables e below (s₁.setTop (mkF m 41 #[.val (.int x0_0), .val (.int x0_1), .val (.int x0_2), .val (.int (x0_0 &&& (2147483647 : Int32))), .val (.int (x0_2 &&& (3 : Int32))), .unset, .unset] [(.int (2147483647 : Int32)), (.int x0_1)])) _
        refine XS.iand X0.here hx rfl (hb hby at_41) rfl ?_
        show Steps p.tables e below (s₁.setTop (mkF m 42 #[.val (.int x0_0), .val (.int x0_1), .val (.int x0_2), .val (.int (x0_0 &&& (2147483647 : Int32))), .val (.int (x0_2 &&& (3 : Int32))), .unset, .unset] [(.int (x0_1 &&& (2147483647 : Int32)))])) _
        refine XS.istore X0.here hx rfl (hb hby at_42) rfl (l' := #[.val (.int x0_0), .val (.int x0_1), .val (.int x0_2), .val (.int (x0_0 &&& (2147483647 : Int32))), .val (.int (x0_2 &&& (3 : Int32))), .val (.int (x0_1 &&& (2147483647 : Int32))), .unset]) rfl ?_
        show Steps p.tables e below (s₁.setTop (mkF m 44 #[.val (.int x0_0), .val (.int x0_1), .val (.int x0_2), .val (.int (x0_0 &&& (2147483647 : Int32))), .val (.int (x0_2 &&& (3 : Int32))), .val (.int (x0_1 &&& (2147483647 : Int32))), .unset] [])) _
        refine XS.iload X0.here hx rfl (hb hby at_44) rfl ?_
        exact kt
      by_cases hc46_26 : (x0_1 &&& (2147483647 : Int32)) = (0 : Int32)
      · have sg28 : ∀ t, Steps p.tables e below (s₁.setTop (mkF m 55 #[.val (.int x0_0), .val (.int x0_1), .val (.int x0_2), .val (.int (x0_0 &&& (2147483647 : Int32))), .val (.int (x0_2 &&& (3 : Int32))), .val (.int (1 : Int32)), .unset] [(.int (1 : Int32)), (.int (x0_0 &&& (2147483647 : Int32)))])) t → Steps p.tables e below (s₁.setTop (mkF m 46 #[.val (.int x0_0), .val (.int x0_1), .val (.int x0_2), .val (.int (x0_0 &&& (2147483647 : Int32))), .val (.int (x0_2 &&& (3 : Int32))), .val (.int (x0_1 &&& (2147483647 : Int32))), .unset] [(.int (x0_1 &&& (2147483647 : Int32)))])) t := fun t kt => by
          show Steps p.tables e below (s₁.setTop (mkF m 46 #[.val (.int x0_0), .val (.int x0_1), .val (.int x0_2), .val (.int (x0_0 &&& (2147483647 : Int32))), .val (.int (x0_2 &&& (3 : Int32))), .val (.int (x0_1 &&& (2147483647 : Int32))), .unset] [(.int (x0_1 &&& (2147483647 : Int32)))])) _
          refine XS.ifNo X0.here hx rfl (hb hby at_46) rfl ((if0 _ _).trans (teq hc46_26).2) ?_
          show Steps p.tables e below (s₁.setTop (mkF m 49 #[.val (.int x0_0), .val (.int x0_1), .val (.int x0_2), .val (.int (x0_0 &&& (2147483647 : Int32))), .val (.int (x0_2 &&& (3 : Int32))), .val (.int (x0_1 &&& (2147483647 : Int32))), .unset] [])) _
          refine XS.iconst X0.here hx rfl (hb hby at_49) ?_
          show Steps p.tables e below (s₁.setTop (mkF m 50 #[.val (.int x0_0), .val (.int x0_1), .val (.int x0_2), .val (.int (x0_0 &&& (2147483647 : Int32))), .val (.int (x0_2 &&& (3 : Int32))), .val (.int (x0_1 &&& (2147483647 : Int32))), .unset] [(.int (1 : Int32))])) _
          refine XS.istore X0.here hx rfl (hb hby at_50) rfl (l' := #[.val (.int x0_0), .val (.int x0_1), .val (.int x0_2), .val (.int (x0_0 &&& (2147483647 : Int32))), .val (.int (x0_2 &&& (3 : Int32))), .val (.int (1 : Int32)), .unset]) rfl ?_
          show Steps p.tables e below (s₁.setTop (mkF m 52 #[.val (.int x0_0), .val (.int x0_1), .val (.int x0_2), .val (.int (x0_0 &&& (2147483647 : Int32))), .val (.int (x0_2 &&& (3 : Int32))), .val (.int (1 : Int32)), .unset] [])) _
          refine XS.iloadN X0.here hx rfl (hb hby at_52) rfl ?_
          show Steps p.tables e below (s₁.setTop (mkF m 53 #[.val (.int x0_0), .val (.int x0_1), .val (.int x0_2), .val (.int (x0_0 &&& (2147483647 : Int32))), .val (.int (x0_2 &&& (3 : Int32))), .val (.int (1 : Int32)), .unset] [(.int (x0_0 &&& (2147483647 : Int32)))])) _
          refine XS.iload X0.here hx rfl (hb hby at_53) rfl ?_
          exact kt
        obtain ⟨v27, _, ⟨T27, L27, k27, n27⟩, -, X27, ⟨Lc27, hQ27, l27, y27, z27⟩, st27⟩ := Jvm.LawKit.callS X0 hx (y := (⟨"com/example/goodprefix/goodprefix/ByteMatcher", "wholePeriods", "(II)I"⟩ : MethodName)) hown (mvT hZ (hw _ (List.mem_of_getElem? (i := 1) rfl))) (mvT hZ (hw _ (List.mem_of_getElem? (i := 2) rfl))) (mvT hZ (hw _ (List.mem_of_getElem? (i := 3) rfl))) (mvT hZ (hw _ (List.mem_of_getElem? (i := 4) rfl))) (by decide) (backOf (W := 0) (rm1 l Z a0 hw [] (x0_0 &&& (2147483647 : Int32)) (1 : Int32) h0 n0 Z0 (by decide : ¬ ((1 : Int32) = (0 : Int32)))) hZ (hw _ (List.mem_of_getElem? (i := 4) rfl)) (hw _ (List.mem_of_getElem? (i := 3) rfl)) (by decide) (by decide)) (g := (mkF m 55 #[.val (.int x0_0), .val (.int x0_1), .val (.int x0_2), .val (.int (x0_0 &&& (2147483647 : Int32))), .val (.int (x0_2 &&& (3 : Int32))), .val (.int (1 : Int32)), .unset] [(.int (1 : Int32)), (.int (x0_0 &&& (2147483647 : Int32)))])) rfl (by rw [hml]; rfl) (argsL := [(.int (x0_0 &&& (2147483647 : Int32))), (.int (1 : Int32))]) (rest := []) (lenOf pd_0 rfl) rfl (by show 2 * 0 + _ ≤ _; exact Nat.le_of_eq rfl) (hb hby at_55) (fun _ _ => ⟨rfl, e0, (by decide : 0 + 0 ≤ _), (by decide : 0 + 0 ≤ _)⟩)
        dsimp only [Pt.U, Pt.locs, Pt.cells, Pt.slots] at X27 l27 y27 z27 st27 hQ27
        subst l27 y27 z27
        obtain ⟨hv27, N27q, e27⟩ := hQ27
        have N27 := Fr.app N0 N27q
        subst hv27
        have sg29 : ∀ t, Steps p.tables e below (T27.setTop (mkF m 62 #[.val (.int x0_0), .val (.int x0_1), .val (.int x0_2), .val (.int (x0_0 &&& (2147483647 : Int32))), .val (.int (x0_2 &&& (3 : Int32))), .val (.int (1 : Int32)), .val (.int (f1 (x0_0 &&& (2147483647 : Int32)) (1 : Int32)))] [(.int (f1 (x0_0 &&& (2147483647 : Int32)) (1 : Int32)))])) t → Steps p.tables e below (s₁.setTop (mkF m 55 #[.val (.int x0_0), .val (.int x0_1), .val (.int x0_2), .val (.int (x0_0 &&& (2147483647 : Int32))), .val (.int (x0_2 &&& (3 : Int32))), .val (.int (1 : Int32)), .unset] [(.int (1 : Int32)), (.int (x0_0 &&& (2147483647 : Int32)))])) t := fun t kt => by
          show Steps p.tables e below (s₁.setTop (mkF m 55 #[.val (.int x0_0), .val (.int x0_1), .val (.int x0_2), .val (.int (x0_0 &&& (2147483647 : Int32))), .val (.int (x0_2 &&& (3 : Int32))), .val (.int (1 : Int32)), .unset] [(.int (1 : Int32)), (.int (x0_0 &&& (2147483647 : Int32)))])) _
          refine st27 _ ?_
          show Steps p.tables e below (T27.setTop (mkF m 58 #[.val (.int x0_0), .val (.int x0_1), .val (.int x0_2), .val (.int (x0_0 &&& (2147483647 : Int32))), .val (.int (x0_2 &&& (3 : Int32))), .val (.int (1 : Int32)), .unset] [(.int (f1 (x0_0 &&& (2147483647 : Int32)) (1 : Int32)))])) _
          refine XS.istore X27.here hx rfl (hb hby at_58) rfl (l' := #[.val (.int x0_0), .val (.int x0_1), .val (.int x0_2), .val (.int (x0_0 &&& (2147483647 : Int32))), .val (.int (x0_2 &&& (3 : Int32))), .val (.int (1 : Int32)), .val (.int (f1 (x0_0 &&& (2147483647 : Int32)) (1 : Int32)))]) rfl ?_
          show Steps p.tables e below (T27.setTop (mkF m 60 #[.val (.int x0_0), .val (.int x0_1), .val (.int x0_2), .val (.int (x0_0 &&& (2147483647 : Int32))), .val (.int (x0_2 &&& (3 : Int32))), .val (.int (1 : Int32)), .val (.int (f1 (x0_0 &&& (2147483647 : Int32)) (1 : Int32)))] [])) _
          refine XS.iload X27.here hx rfl (hb hby at_60) rfl ?_
          exact kt
        by_cases hc62_30 : (f1 (x0_0 &&& (2147483647 : Int32)) (1 : Int32)) < (0 : Int32)
        · obtain ⟨fs, hr, hrun, hended, hW, hsame⟩ := X27.leave (v := some (.int (0 : Int32))) (fun h => by rw [Bd.returns] at h; cases h)
          refine ⟨_, _, pre0 _ (sg1 _ (sg13 _ (sg25 _ (sg28 _ (sg29 _ ?_))))), hrun, hended, _, _, rfl, ?_, ⟨_, rfl⟩, hW, hsame.mono (by decide) (by decide)⟩
          · show Steps p.tables e below (T27.setTop (mkF m 62 #[.val (.int x0_0), .val (.int x0_1), .val (.int x0_2), .val (.int (x0_0 &&& (2147483647 : Int32))), .val (.int (x0_2 &&& (3 : Int32))), .val (.int (1 : Int32)), .val (.int (f1 (x0_0 &&& (2147483647 : Int32)) (1 : Int32)))] [(.int (f1 (x0_0 &&& (2147483647 : Int32)) (1 : Int32)))])) _
            refine XS.ifYes X27.here hx rfl (pc0 := 62) (pc' := 71) rfl (hb hby at_62) rfl ((if0 _ _).trans (tlt hc62_30).1) (by decide) (by decide) ?_
            show Steps p.tables e below (T27.setTop (mkF m 71 #[.val (.int x0_0), .val (.int x0_1), .val (.int x0_2), .val (.int (x0_0 &&& (2147483647 : Int32))), .val (.int (x0_2 &&& (3 : Int32))), .val (.int (1 : Int32)), .val (.int (f1 (x0_0 &&& (2147483647 : Int32)) (1 : Int32)))] [])) _
            refine XS.iconst X27.here hx rfl (hb hby at_71) ?_
            show Steps p.tables e below (T27.setTop (mkF m 72 #[.val (.int x0_0), .val (.int x0_1), .val (.int x0_2), .val (.int (x0_0 &&& (2147483647 : Int32))), .val (.int (x0_2 &&& (3 : Int32))), .val (.int (1 : Int32)), .val (.int (f1 (x0_0 &&& (2147483647 : Int32)) (1 : Int32)))] [(.int (0 : Int32))])) _
            exact retN X27 hx (t := .boolean) Bd.returns (by simp) (hb hby at_72) hr
          · exact ⟨congrArg (fun z => some (Value.int z)) (show (0 : Int32) = f0 x0_0 x0_1 x0_2 from by unfold f0; rw [if_neg hc12_2, if_neg hc24_14, if_pos hc46_26, if_pos hc62_30]), N27, e27⟩
        · have sg31 : ∀ t, Steps p.tables e below (T27.setTop (mkF m 68 #[.val (.int x0_0), .val (.int x0_1), .val (.int x0_2), .val (.int (x0_0 &&& (2147483647 : Int32))), .val (.int (x0_2 &&& (3 : Int32))), .val (.int (1 : Int32)), .val (.int (f1 (x0_0 &&& (2147483647 : Int32)) (1 : Int32)))] [(.int (x0_0 &&& (2147483647 : Int32))), (.int (f1 (x0_0 &&& (2147483647 : Int32)) (1 : Int32)))])) t → Steps p.tables e below (T27.setTop (mkF m 62 #[.val (.int x0_0), .val (.int x0_1), .val (.int x0_2), .val (.int (x0_0 &&& (2147483647 : Int32))), .val (.int (x0_2 &&& (3 : Int32))), .val (.int (1 : Int32)), .val (.int (f1 (x0_0 &&& (2147483647 : Int32)) (1 : Int32)))] [(.int (f1 (x0_0 &&& (2147483647 : Int32)) (1 : Int32)))])) t := fun t kt => by
            show Steps p.tables e below (T27.setTop (mkF m 62 #[.val (.int x0_0), .val (.int x0_1), .val (.int x0_2), .val (.int (x0_0 &&& (2147483647 : Int32))), .val (.int (x0_2 &&& (3 : Int32))), .val (.int (1 : Int32)), .val (.int (f1 (x0_0 &&& (2147483647 : Int32)) (1 : Int32)))] [(.int (f1 (x0_0 &&& (2147483647 : Int32)) (1 : Int32)))])) _
            refine XS.ifNo X27.here hx rfl (hb hby at_62) rfl ((if0 _ _).trans (flt hc62_30).1) ?_
            show Steps p.tables e below (T27.setTop (mkF m 65 #[.val (.int x0_0), .val (.int x0_1), .val (.int x0_2), .val (.int (x0_0 &&& (2147483647 : Int32))), .val (.int (x0_2 &&& (3 : Int32))), .val (.int (1 : Int32)), .val (.int (f1 (x0_0 &&& (2147483647 : Int32)) (1 : Int32)))] [])) _
            refine XS.iload X27.here hx rfl (hb hby at_65) rfl ?_
            show Steps p.tables e below (T27.setTop (mkF m 67 #[.val (.int x0_0), .val (.int x0_1), .val (.int x0_2), .val (.int (x0_0 &&& (2147483647 : Int32))), .val (.int (x0_2 &&& (3 : Int32))), .val (.int (1 : Int32)), .val (.int (f1 (x0_0 &&& (2147483647 : Int32)) (1 : Int32)))] [(.int (f1 (x0_0 &&& (2147483647 : Int32)) (1 : Int32)))])) _
            refine XS.iloadN X27.here hx rfl (hb hby at_67) rfl ?_
            exact kt
          by_cases hc68_32 : (x0_0 &&& (2147483647 : Int32)) < (f1 (x0_0 &&& (2147483647 : Int32)) (1 : Int32))
          · obtain ⟨fs, hr, hrun, hended, hW, hsame⟩ := X27.leave (v := some (.int (0 : Int32))) (fun h => by rw [Bd.returns] at h; cases h)
            refine ⟨_, _, pre0 _ (sg1 _ (sg13 _ (sg25 _ (sg28 _ (sg29 _ (sg31 _ ?_)))))), hrun, hended, _, _, rfl, ?_, ⟨_, rfl⟩, hW, hsame.mono (by decide) (by decide)⟩
            · show Steps p.tables e below (T27.setTop (mkF m 68 #[.val (.int x0_0), .val (.int x0_1), .val (.int x0_2), .val (.int (x0_0 &&& (2147483647 : Int32))), .val (.int (x0_2 &&& (3 : Int32))), .val (.int (1 : Int32)), .val (.int (f1 (x0_0 &&& (2147483647 : Int32)) (1 : Int32)))] [(.int (x0_0 &&& (2147483647 : Int32))), (.int (f1 (x0_0 &&& (2147483647 : Int32)) (1 : Int32)))])) _
              refine XS.icmpNo X27.here hx rfl (hb hby at_68) rfl (tlt hc68_32).2.2.2 ?_
              show Steps p.tables e below (T27.setTop (mkF m 71 #[.val (.int x0_0), .val (.int x0_1), .val (.int x0_2), .val (.int (x0_0 &&& (2147483647 : Int32))), .val (.int (x0_2 &&& (3 : Int32))), .val (.int (1 : Int32)), .val (.int (f1 (x0_0 &&& (2147483647 : Int32)) (1 : Int32)))] [])) _
              refine XS.iconst X27.here hx rfl (hb hby at_71) ?_
              show Steps p.tables e below (T27.setTop (mkF m 72 #[.val (.int x0_0), .val (.int x0_1), .val (.int x0_2), .val (.int (x0_0 &&& (2147483647 : Int32))), .val (.int (x0_2 &&& (3 : Int32))), .val (.int (1 : Int32)), .val (.int (f1 (x0_0 &&& (2147483647 : Int32)) (1 : Int32)))] [(.int (0 : Int32))])) _
              exact retN X27 hx (t := .boolean) Bd.returns (by simp) (hb hby at_72) hr
            · exact ⟨congrArg (fun z => some (Value.int z)) (show (0 : Int32) = f0 x0_0 x0_1 x0_2 from by unfold f0; rw [if_neg hc12_2, if_neg hc24_14, if_pos hc46_26, if_neg hc62_30, if_pos hc68_32]), N27, e27⟩
          · have sg33 : ∀ t, Steps p.tables e below (T27.setTop (mkF m 79 #[.val (.int x0_0), .val (.int x0_1), .val (.int x0_2), .val (.int (x0_0 &&& (2147483647 : Int32))), .val (.int (x0_2 &&& (3 : Int32))), .val (.int (1 : Int32)), .val (.int (f1 (x0_0 &&& (2147483647 : Int32)) (1 : Int32)))] [(.int (1 : Int32)), (.int ((x0_0 &&& (2147483647 : Int32)) - (f1 (x0_0 &&& (2147483647 : Int32)) (1 : Int32))))])) t → Steps p.tables e below (T27.setTop (mkF m 68 #[.val (.int x0_0), .val (.int x0_1), .val (.int x0_2), .val (.int (x0_0 &&& (2147483647 : Int32))), .val (.int (x0_2 &&& (3 : Int32))), .val (.int (1 : Int32)), .val (.int (f1 (x0_0 &&& (2147483647 : Int32)) (1 : Int32)))] [(.int (x0_0 &&& (2147483647 : Int32))), (.int (f1 (x0_0 &&& (2147483647 : Int32)) (1 : Int32)))])) t := fun t kt => by
              show Steps p.tables e below (T27.setTop (mkF m 68 #[.val (.int x0_0), .val (.int x0_1), .val (.int x0_2), .val (.int (x0_0 &&& (2147483647 : Int32))), .val (.int (x0_2 &&& (3 : Int32))), .val (.int (1 : Int32)), .val (.int (f1 (x0_0 &&& (2147483647 : Int32)) (1 : Int32)))] [(.int (x0_0 &&& (2147483647 : Int32))), (.int (f1 (x0_0 &&& (2147483647 : Int32)) (1 : Int32)))])) _
              refine XS.icmpYes X27.here hx rfl (pc0 := 68) (pc' := 73) rfl (hb hby at_68) rfl (flt hc68_32).2.2.2 (by decide) (by decide) ?_
              show Steps p.tables e below (T27.setTop (mkF m 73 #[.val (.int x0_0), .val (.int x0_1), .val (.int x0_2), .val (.int (x0_0 &&& (2147483647 : Int32))), .val (.int (x0_2 &&& (3 : Int32))), .val (.int (1 : Int32)), .val (.int (f1 (x0_0 &&& (2147483647 : Int32)) (1 : Int32)))] [])) _
              refine XS.iloadN X27.here hx rfl (hb hby at_73) rfl ?_
              show Steps p.tables e below (T27.setTop (mkF m 74 #[.val (.int x0_0), .val (.int x0_1), .val (.int x0_2), .val (.int (x0_0 &&& (2147483647 : Int32))), .val (.int (x0_2 &&& (3 : Int32))), .val (.int (1 : Int32)), .val (.int (f1 (x0_0 &&& (2147483647 : Int32)) (1 : Int32)))] [(.int (x0_0 &&& (2147483647 : Int32)))])) _
              refine XS.iload X27.here hx rfl (hb hby at_74) rfl ?_
              show Steps p.tables e below (T27.setTop (mkF m 76 #[.val (.int x0_0), .val (.int x0_1), .val (.int x0_2), .val (.int (x0_0 &&& (2147483647 : Int32))), .val (.int (x0_2 &&& (3 : Int32))), .val (.int (1 : Int32)), .val (.int (f1 (x0_0 &&& (2147483647 : Int32)) (1 : Int32)))] [(.int (f1 (x0_0 &&& (2147483647 : Int32)) (1 : Int32))), (.int (x0_0 &&& (2147483647 : Int32)))])) _
              refine XS.isub X27.here hx rfl (hb hby at_76) rfl ?_
              show Steps p.tables e below (T27.setTop (mkF m 77 #[.val (.int x0_0), .val (.int x0_1), .val (.int x0_2), .val (.int (x0_0 &&& (2147483647 : Int32))), .val (.int (x0_2 &&& (3 : Int32))), .val (.int (1 : Int32)), .val (.int (f1 (x0_0 &&& (2147483647 : Int32)) (1 : Int32)))] [(.int ((x0_0 &&& (2147483647 : Int32)) - (f1 (x0_0 &&& (2147483647 : Int32)) (1 : Int32))))])) _
              refine XS.iload X27.here hx rfl (hb hby at_77) rfl ?_
              exact kt
            by_cases hc79_34 : ((x0_0 &&& (2147483647 : Int32)) - (f1 (x0_0 &&& (2147483647 : Int32)) (1 : Int32))) < (1 : Int32)
            · have sg35 : ∀ t, Steps p.tables e below (T27.setTop (mkF m 94 #[.val (.int x0_0), .val (.int x0_1), .val (.int x0_2), .val (.int (x0_0 &&& (2147483647 : Int32))), .val (.int (x0_2 &&& (3 : Int32))), .val (.int (1 : Int32)), .val (.int (f1 (x0_0 &&& (2147483647 : Int32)) (1 : Int32)))] [(.int (f1 (x0_0 &&& (2147483647 : Int32)) (1 : Int32))), (.int (((f1 (x0_0 &&& (2147483647 : Int32)) (1 : Int32)) / (1 : Int32)) * (1 : Int32)))])) t → Steps p.tables e below (T27.setTop (mkF m 79 #[.val (.int x0_0), .val (.int x0_1), .val (.int x0_2), .val (.int (x0_0 &&& (2147483647 : Int32))), .val (.int (x0_2 &&& (3 : Int32))), .val (.int (1 : Int32)), .val (.int (f1 (x0_0 &&& (2147483647 : Int32)) (1 : Int32)))] [(.int (1 : Int32)), (.int ((x0_0 &&& (2147483647 : Int32)) - (f1 (x0_0 &&& (2147483647 : Int32)) (1 : Int32))))])) t := fun t kt => by
                show Steps p.tables e below (T27.setTop (mkF m 79 #[.val (.int x0_0), .val (.int x0_1), .val (.int x0_2), .val (.int (x0_0 &&& (2147483647 : Int32))), .val (.int (x0_2 &&& (3 : Int32))), .val (.int (1 : Int32)), .val (.int (f1 (x0_0 &&& (2147483647 : Int32)) (1 : Int32)))] [(.int (1 : Int32)), (.int ((x0_0 &&& (2147483647 : Int32)) - (f1 (x0_0 &&& (2147483647 : Int32)) (1 : Int32))))])) _
                refine XS.icmpYes X27.here hx rfl (pc0 := 79) (pc' := 84) rfl (hb hby at_79) rfl (tlt hc79_34).1 (by decide) (by decide) ?_
                show Steps p.tables e below (T27.setTop (mkF m 84 #[.val (.int x0_0), .val (.int x0_1), .val (.int x0_2), .val (.int (x0_0 &&& (2147483647 : Int32))), .val (.int (x0_2 &&& (3 : Int32))), .val (.int (1 : Int32)), .val (.int (f1 (x0_0 &&& (2147483647 : Int32)) (1 : Int32)))] [])) _
                refine XS.iload X27.here hx rfl (hb hby at_84) rfl ?_
                show Steps p.tables e below (T27.setTop (mkF m 86 #[.val (.int x0_0), .val (.int x0_1), .val (.int x0_2), .val (.int (x0_0 &&& (2147483647 : Int32))), .val (.int (x0_2 &&& (3 : Int32))), .val (.int (1 : Int32)), .val (.int (f1 (x0_0 &&& (2147483647 : Int32)) (1 : Int32)))] [(.int (f1 (x0_0 &&& (2147483647 : Int32)) (1 : Int32)))])) _
                refine XS.iload X27.here hx rfl (hb hby at_86) rfl ?_
                show Steps p.tables e below (T27.setTop (mkF m 88 #[.val (.int x0_0), .val (.int x0_1), .val (.int x0_2), .val (.int (x0_0 &&& (2147483647 : Int32))), .val (.int (x0_2 &&& (3 : Int32))), .val (.int (1 : Int32)), .val (.int (f1 (x0_0 &&& (2147483647 : Int32)) (1 : Int32)))] [(.int (1 : Int32)), (.int (f1 (x0_0 &&& (2147483647 : Int32)) (1 : Int32)))])) _
                refine XS.idiv X27.here hx rfl (hb hby at_88) rfl (by decide : ¬ ((1 : Int32) = (0 : Int32))) ?_
                show Steps p.tables e below (T27.setTop (mkF m 89 #[.val (.int x0_0), .val (.int x0_1), .val (.int x0_2), .val (.int (x0_0 &&& (2147483647 : Int32))), .val (.int (x0_2 &&& (3 : Int32))), .val (.int (1 : Int32)), .val (.int (f1 (x0_0 &&& (2147483647 : Int32)) (1 : Int32)))] [(.int ((f1 (x0_0 &&& (2147483647 : Int32)) (1 : Int32)) / (1 : Int32)))])) _
                refine XS.iload X27.here hx rfl (hb hby at_89) rfl ?_
                show Steps p.tables e below (T27.setTop (mkF m 91 #[.val (.int x0_0), .val (.int x0_1), .val (.int x0_2), .val (.int (x0_0 &&& (2147483647 : Int32))), .val (.int (x0_2 &&& (3 : Int32))), .val (.int (1 : Int32)), .val (.int (f1 (x0_0 &&& (2147483647 : Int32)) (1 : Int32)))] [(.int (1 : Int32)), (.int ((f1 (x0_0 &&& (2147483647 : Int32)) (1 : Int32)) / (1 : Int32)))])) _
                refine XS.imul X27.here hx rfl (hb hby at_91) rfl ?_
                show Steps p.tables e below (T27.setTop (mkF m 92 #[.val (.int x0_0), .val (.int x0_1), .val (.int x0_2), .val (.int (x0_0 &&& (2147483647 : Int32))), .val (.int (x0_2 &&& (3 : Int32))), .val (.int (1 : Int32)), .val (.int (f1 (x0_0 &&& (2147483647 : Int32)) (1 : Int32)))] [(.int (((f1 (x0_0 &&& (2147483647 : Int32)) (1 : Int32)) / (1 : Int32)) * (1 : Int32)))])) _
                refine XS.iload X27.here hx rfl (hb hby at_92) rfl ?_
                exact kt
              by_cases hc94_36 : (((f1 (x0_0 &&& (2147483647 : Int32)) (1 : Int32)) / (1 : Int32)) * (1 : Int32)) = (f1 (x0_0 &&& (2147483647 : Int32)) (1 : Int32))
              · obtain ⟨fs, hr, hrun, hended, hW, hsame⟩ := X27.leave (v := some (.int (1 : Int32))) (fun h => by rw [Bd.returns] at h; cases h)
                refine ⟨_, _, pre0 _ (sg1 _ (sg13 _ (sg25 _ (sg28 _ (sg29 _ (sg31 _ (sg33 _ (sg35 _ ?_)))))))), hrun, hended, _, _, rfl, ?_, ⟨_, rfl⟩, hW, hsame.mono (by decide) (by decide)⟩
                · show Steps p.tables e below (T27.setTop (mkF m 94 #[.val (.int x0_0), .val (.int x0_1), .val (.int x0_2), .val (.int (x0_0 &&& (2147483647 : Int32))), .val (.int (x0_2 &&& (3 : Int32))), .val (.int (1 : Int32)), .val (.int (f1 (x0_0 &&& (2147483647 : Int32)) (1 : Int32)))] [(.int (f1 (x0_0 &&& (2147483647 : Int32)) (1 : Int32))), (.int (((f1 (x0_0 &&& (2147483647 : Int32)) (1 : Int32)) / (1 : Int32)) * (1 : Int32)))])) _
                  refine XS.icmpNo X27.here hx rfl (hb hby at_94) rfl (teq hc94_36).2 ?_
                  show Steps p.tables e below (T27.setTop (mkF m 97 #[.val (.int x0_0), .val (.int x0_1), .val (.int x0_2), .val (.int (x0_0 &&& (2147483647 : Int32))), .val (.int (x0_2 &&& (3 : Int32))), .val (.int (1 : Int32)), .val (.int (f1 (x0_0 &&& (2147483647 : Int32)) (1 : Int32)))] [])) _
                  refine XS.iconst X27.here hx rfl (hb hby at_97) ?_
                  show Steps p.tables e below (T27.setTop (mkF m 98 #[.val (.int x0_0), .val (.int x0_1), .val (.int x0_2), .val (.int (x0_0 &&& (2147483647 : Int32))), .val (.int (x0_2 &&& (3 : Int32))), .val (.int (1 : Int32)), .val (.int (f1 (x0_0 &&& (2147483647 : Int32)) (1 : Int32)))] [(.int (1 : Int32))])) _
                  refine XS.goto X27.here hx rfl (pc0 := 98) (pc' := 102) rfl (hb hby at_98) (by decide) (by decide) ?_
                  show Steps p.tables e below (T27.setTop (mkF m 102 #[.val (.int x0_0), .val (.int x0_1), .val (.int x0_2), .val (.int (x0_0 &&& (2147483647 : Int32))), .val (.int (x0_2 &&& (3 : Int32))), .val (.int (1 : Int32)), .val (.int (f1 (x0_0 &&& (2147483647 : Int32)) (1 : Int32)))] [(.int (1 : Int32))])) _
                  exact retN X27 hx (t := .boolean) Bd.returns (by simp) (hb hby at_102) hr
                · exact ⟨congrArg (fun z => some (Value.int z)) (show (1 : Int32) = f0 x0_0 x0_1 x0_2 from by unfold f0; rw [if_neg hc12_2, if_neg hc24_14, if_pos hc46_26, if_neg hc62_30, if_neg hc68_32, if_pos hc79_34, if_pos hc94_36]), N27, e27⟩
              · obtain ⟨fs, hr, hrun, hended, hW, hsame⟩ := X27.leave (v := some (.int (0 : Int32))) (fun h => by rw [Bd.returns] at h; cases h)
                refine ⟨_, _, pre0 _ (sg1 _ (sg13 _ (sg25 _ (sg28 _ (sg29 _ (sg31 _ (sg33 _ (sg35 _ ?_)))))))), hrun, hended, _, _, rfl, ?_, ⟨_, rfl⟩, hW, hsame.mono (by decide) (by decide)⟩
                · show Steps p.tables e below (T27.setTop (mkF m 94 #[.val (.int x0_0), .val (.int x0_1), .val (.int x0_2), .val (.int (x0_0 &&& (2147483647 : Int32))), .val (.int (x0_2 &&& (3 : Int32))), .val (.int (1 : Int32)), .val (.int (f1 (x0_0 &&& (2147483647 : Int32)) (1 : Int32)))] [(.int (f1 (x0_0 &&& (2147483647 : Int32)) (1 : Int32))), (.int (((f1 (x0_0 &&& (2147483647 : Int32)) (1 : Int32)) / (1 : Int32)) * (1 : Int32)))])) _
                  refine XS.icmpYes X27.here hx rfl (pc0 := 94) (pc' := 101) rfl (hb hby at_94) rfl (feq hc94_36).2 (by decide) (by decide) ?_
                  show Steps p.tables e below (T27.setTop (mkF m 101 #[.val (.int x0_0), .val (.int x0_1), .val (.int x0_2), .val (.int (x0_0 &&& (2147483647 : Int32))), .val (.int (x0_2 &&& (3 : Int32))), .val (.int (1 : Int32)), .val (.int (f1 (x0_0 &&& (2147483647 : Int32)) (1 : Int32)))] [])) _
                  refine XS.iconst X27.here hx rfl (hb hby at_101) ?_
                  show Steps p.tables e below (T27.setTop (mkF m 102 #[.val (.int x0_0), .val (.int x0_1), .val (.int x0_2), .val (.int (x0_0 &&& (2147483647 : Int32))), .val (.int (x0_2 &&& (3 : Int32))), .val (.int (1 : Int32)), .val (.int (f1 (x0_0 &&& (2147483647 : Int32)) (1 : Int32)))] [(.int (0 : Int32))])) _
                  exact retN X27 hx (t := .boolean) Bd.returns (by simp) (hb hby at_102) hr
                · exact ⟨congrArg (fun z => some (Value.int z)) (show (0 : Int32) = f0 x0_0 x0_1 x0_2 from by unfold f0; rw [if_neg hc12_2, if_neg hc24_14, if_pos hc46_26, if_neg hc62_30, if_neg hc68_32, if_pos hc79_34, if_neg hc94_36]), N27, e27⟩
            · obtain ⟨fs, hr, hrun, hended, hW, hsame⟩ := X27.leave (v := some (.int (0 : Int32))) (fun h => by rw [Bd.returns] at h; cases h)
              refine ⟨_, _, pre0 _ (sg1 _ (sg13 _ (sg25 _ (sg28 _ (sg29 _ (sg31 _ (sg33 _ ?_))))))), hrun, hended, _, _, rfl, ?_, ⟨_, rfl⟩, hW, hsame.mono (by decide) (by decide)⟩
              · show Steps p.tables e below (T27.setTop (mkF m 79 #[.val (.int x0_0), .val (.int x0_1), .val (.int x0_2), .val (.int (x0_0 &&& (2147483647 : Int32))), .val (.int (x0_2 &&& (3 : Int32))), .val (.int (1 : Int32)), .val (.int (f1 (x0_0 &&& (2147483647 : Int32)) (1 : Int32)))] [(.int (1 : Int32)), (.int ((x0_0 &&& (2147483647 : Int32)) - (f1 (x0_0 &&& (2147483647 : Int32)) (1 : Int32))))])) _
                refine XS.icmpNo X27.here hx rfl (hb hby at_79) rfl (flt hc79_34).1 ?_
                show Steps p.tables e below (T27.setTop (mkF m 82 #[.val (.int x0_0), .val (.int x0_1), .val (.int x0_2), .val (.int (x0_0 &&& (2147483647 : Int32))), .val (.int (x0_2 &&& (3 : Int32))), .val (.int (1 : Int32)), .val (.int (f1 (x0_0 &&& (2147483647 : Int32)) (1 : Int32)))] [])) _
                refine XS.iconst X27.here hx rfl (hb hby at_82) ?_
                show Steps p.tables e below (T27.setTop (mkF m 83 #[.val (.int x0_0), .val (.int x0_1), .val (.int x0_2), .val (.int (x0_0 &&& (2147483647 : Int32))), .val (.int (x0_2 &&& (3 : Int32))), .val (.int (1 : Int32)), .val (.int (f1 (x0_0 &&& (2147483647 : Int32)) (1 : Int32)))] [(.int (0 : Int32))])) _
                exact retN X27 hx (t := .boolean) Bd.returns (by simp) (hb hby at_83) hr
              · exact ⟨congrArg (fun z => some (Value.int z)) (show (0 : Int32) = f0 x0_0 x0_1 x0_2 from by unfold f0; rw [if_neg hc12_2, if_neg hc24_14, if_pos hc46_26, if_neg hc62_30, if_neg hc68_32, if_neg hc79_34]), N27, e27⟩
      · have sg38 : ∀ t, Steps p.tables e below (s₁.setTop (mkF m 55 #[.val (.int x0_0), .val (.int x0_1), .val (.int x0_2), .val (.int (x0_0 &&& (2147483647 : Int32))), .val (.int (x0_2 &&& (3 : Int32))), .val (.int (x0_1 &&& (2147483647 : Int32))), .unset] [(.int (x0_1 &&& (2147483647 : Int32))), (.int (x0_0 &&& (2147483647 : Int32)))])) t → Steps p.tables e below (s₁.setTop (mkF m 46 #[.val (.int x0_0), .val (.int x0_1), .val (.int x0_2), .val (.int (x0_0 &&& (2147483647 : Int32))), .val (.int (x0_2 &&& (3 : Int32))), .val (.int (x0_1 &&& (2147483647 : Int32))), .unset] [(.int (x0_1 &&& (2147483647 : Int32)))])) t := fun t kt => by
          show Steps p.tables e below (s₁.setTop (mkF m 46 #[.val (.int x0_0), .val (.int x0_1), .val (.int x0_2), .val (.int (x0_0 &&& (2147483647 : Int32))), .val (.int (x0_2 &&& (3 : Int32))), .val (.int (x0_1 &&& (2147483647 : Int32))), .unset] [(.int (x0_1 &&& (2147483647 : Int32)))])) _
          refine XS.ifYes X0.here hx rfl (pc0 := 46) (pc' := 52) rfl (hb hby at_46) rfl ((if0 _ _).trans (feq hc46_26).2) (by decide) (by decide) ?_
          show Steps p.tables e below (s₁.setTop (mkF m 52 #[.val (.int x0_0), .val (.int x0_1), .val (.int x0_2), .val (.int (x0_0 &&& (2147483647 : Int32))), .val (.int (x0_2 &&& (3 : Int32))), .val (.int (x0_1 &&& (2147483647 : Int32))), .unset] [])) _
          refine XS.iloadN X0.here hx rfl (hb hby at_52) rfl ?_
          show Steps p.tables e below (s₁.setTop (mkF m 53 #[.val (.int x0_0), .val (.int x0_1), .val (.int x0_2), .val (.int (x0_0 &&& (2147483647 : Int32))), .val (.int (x0_2 &&& (3 : Int32))), .val (.int (x0_1 &&& (2147483647 : Int32))), .unset] [(.int (x0_0 &&& (2147483647 : Int32)))])) _
          refine XS.iload X0.here hx rfl (hb hby at_53) rfl ?_
          exact kt
        obtain ⟨v37, _, ⟨T37, L37, k37, n37⟩, -, X37, ⟨Lc37, hQ37, l37, y37, z37⟩, st37⟩ := Jvm.LawKit.callS X0 hx (y := (⟨"com/example/goodprefix/goodprefix/ByteMatcher", "wholePeriods", "(II)I"⟩ : MethodName)) hown (mvT hZ (hw _ (List.mem_of_getElem? (i := 1) rfl))) (mvT hZ (hw _ (List.mem_of_getElem? (i := 2) rfl))) (mvT hZ (hw _ (List.mem_of_getElem? (i := 3) rfl))) (mvT hZ (hw _ (List.mem_of_getElem? (i := 4) rfl))) (by decide) (backOf (W := 0) (rm1 l Z a0 hw [] (x0_0 &&& (2147483647 : Int32)) (x0_1 &&& (2147483647 : Int32)) h0 n0 Z0 hc46_26) hZ (hw _ (List.mem_of_getElem? (i := 4) rfl)) (hw _ (List.mem_of_getElem? (i := 3) rfl)) (by decide) (by decide)) (g := (mkF m 55 #[.val (.int x0_0), .val (.int x0_1), .val (.int x0_2), .val (.int (x0_0 &&& (2147483647 : Int32))), .val (.int (x0_2 &&& (3 : Int32))), .val (.int (x0_1 &&& (2147483647 : Int32))), .unset] [(.int (x0_1 &&& (2147483647 : Int32))), (.int (x0_0 &&& (2147483647 : Int32)))])) rfl (by rw [hml]; rfl) (argsL := [(.int (x0_0 &&& (2147483647 : Int32))), (.int (x0_1 &&& (2147483647 : Int32)))]) (rest := []) (lenOf pd_0 rfl) rfl (by show 2 * 0 + _ ≤ _; exact Nat.le_of_eq rfl) (hb hby at_55) (fun _ _ => ⟨rfl, e0, (by decide : 0 + 0 ≤ _), (by decide : 0 + 0 ≤ _)⟩)
        dsimp only [Pt.U, Pt.locs, Pt.cells, Pt.slots] at X37 l37 y37 z37 st37 hQ37
        subst l37 y37 z37
        obtain ⟨hv37, N37q, e37⟩ := hQ37
        have N37 := Fr.app N0 N37q
        subst hv37
        have sg39 : ∀ t, Steps p.tables e below (T37.setTop (mkF m 62 #[.val (.int x0_0), .val (.int x0_1), .val (.int x0_2), .val (.int (x0_0 &&& (2147483647 : Int32))), .val (.int (x0_2 &&& (3 : Int32))), .val (.int (x0_1 &&& (2147483647 : Int32))), .val (.int (f1 (x0_0 &&& (2147483647 : Int32)) (x0_1 &&& (2147483647 : Int32))))] [(.int (f1 (x0_0 &&& (2147483647 : Int32)) (x0_1 &&& (2147483647 : Int32))))])) t → Steps p.tables e below (s₁.setTop (mkF m 55 #[.val (.int x0_0), .val (.int x0_1), .val (.int x0_2), .val (.int (x0_0 &&& (2147483647 : Int32))), .val (.int (x0_2 &&& (3 : Int32))), .val (.int (x0_1 &&& (2147483647 : Int32))), .unset] [(.int (x0_1 &&& (2147483647 : Int32))), (.int (x0_0 &&& (2147483647 : Int32)))])) t := fun t kt => by
          show Steps p.tables e below (s₁.setTop (mkF m 55 #[.val (.int x0_0), .val (.int x0_1), .val (.int x0_2), .val (.int (x0_0 &&& (2147483647 : Int32))), .val (.int (x0_2 &&& (3 : Int32))), .val (.int (x0_1 &&& (2147483647 : Int32))), .unset] [(.int (x0_1 &&& (2147483647 : Int32))), (.int (x0_0 &&& (2147483647 : Int32)))])) _
          refine st37 _ ?_
          show Steps p.tables e below (T37.setTop (mkF m 58 #[.val (.int x0_0), .val (.int x0_1), .val (.int x0_2), .val (.int (x0_0 &&& (2147483647 : Int32))), .val (.int (x0_2 &&& (3 : Int32))), .val (.int (x0_1 &&& (2147483647 : Int32))), .unset] [(.int (f1 (x0_0 &&& (2147483647 : Int32)) (x0_1 &&& (2147483647 : Int32))))])) _
          refine XS.istore X37.here hx rfl (hb hby at_58) rfl (l' := #[.val (.int x0_0), .val (.int x0_1), .val (.int x0_2), .val (.int (x0_0 &&& (2147483647 : Int32))), .val (.int (x0_2 &&& (3 : Int32))), .val (.int (x0_1 &&& (2147483647 : Int32))), .val (.int (f1 (x0_0 &&& (2147483647 : Int32)) (x0_1 &&& (2147483647 : Int32))))]) rfl ?_
          show Steps p.tables e below (T37.setTop (mkF m 60 #[.val (.int x0_0), .val (.int x0_1), .val (.int x0_2), .val (.int (x0_0 &&& (2147483647 : Int32))), .val (.int (x0_2 &&& (3 : Int32))), .val (.int (x0_1 &&& (2147483647 : Int32))), .val (.int (f1 (x0_0 &&& (2147483647 : Int32)) (x0_1 &&& (2147483647 : Int32))))] [])) _
          refine XS.iload X37.here hx rfl (hb hby at_60) rfl ?_
          exact kt
        by_cases hc62_40 : (f1 (x0_0 &&& (2147483647 : Int32)) (x0_1 &&& (2147483647 : Int32))) < (0 : Int32)
        · obtain ⟨fs, hr, hrun, hended, hW, hsame⟩ := X37.leave (v := some (.int (0 : Int32))) (fun h => by rw [Bd.returns] at h; cases h)
          refine ⟨_, _, pre0 _ (sg1 _ (sg13 _ (sg25 _ (sg38 _ (sg39 _ ?_))))), hrun, hended, _, _, rfl, ?_, ⟨_, rfl⟩, hW, hsame.mono (by decide) (by decide)⟩
          · show Steps p.tables e below (T37.setTop (mkF m 62 #[.val (.int x0_0), .val (.int x0_1), .val (.int x0_2), .val (.int (x0_0 &&& (2147483647 : Int32))), .val (.int (x0_2 &&& (3 : Int32))), .val (.int (x0_1 &&& (2147483647 : Int32))), .val (.int (f1 (x0_0 &&& (2147483647 : Int32)) (x0_1 &&& (2147483647 : Int32))))] [(.int (f1 (x0_0 &&& (2147483647 : Int32)) (x0_1 &&& (2147483647 : Int32))))])) _
            refine XS.ifYes X37.here hx rfl (pc0 := 62) (pc' := 71) rfl (hb hby at_62) rfl ((if0 _ _).trans (tlt hc62_40).1) (by decide) (by decide) ?_
            show Steps p.tables e below (T37.setTop (mkF m 71 #[.val (.int x0_0), .val (.int x0_1), .val (.int x0_2), .val (.int (x0_0 &&& (2147483647 : Int32))), .val (.int (x0_2 &&& (3 : Int32))), .val (.int (x0_1 &&& (2147483647 : Int32))), .val (.int (f1 (x0_0 &&& (2147483647 : Int32)) (x0_1 &&& (2147483647 : Int32))))] [])) _
            refine XS.iconst X37.here hx rfl (hb hby at_71) ?_
            show Steps p.tables e below (T37.setTop (mkF m 72 #[.val (.int x0_0), .val (.int x0_1), .val (.int x0_2), .val (.int (x0_0 &&& (2147483647 : Int32))), .val (.int (x0_2 &&& (3 : Int32))), .val (.int (x0_1 &&& (2147483647 : Int32))), .val (.int (f1 (x0_0 &&& (2147483647 : Int32)) (x0_1 &&& (2147483647 : Int32))))] [(.int (0 : Int32))])) _
            exact retN X37 hx (t := .boolean) Bd.returns (by simp) (hb hby at_72) hr
          · exact ⟨congrArg (fun z => some (Value.int z)) (show (0 : Int32) = f0 x0_0 x0_1 x0_2 from by unfold f0; rw [if_neg hc12_2, if_neg hc24_14, if_neg hc46_26, if_pos hc62_40]), N37, e37⟩
        · have sg41 : ∀ t, Steps p.tables e below (T37.setTop (mkF m 68 #[.val (.int x0_0), .val (.int x0_1), .val (.int x0_2), .val (.int (x0_0 &&& (2147483647 : Int32))), .val (.int (x0_2 &&& (3 : Int32))), .val (.int (x0_1 &&& (2147483647 : Int32))), .val (.int (f1 (x0_0 &&& (2147483647 : Int32)) (x0_1 &&& (2147483647 : Int32))))] [(.int (x0_0 &&& (2147483647 : Int32))), (.int (f1 (x0_0 &&& (2147483647 : Int32)) (x0_1 &&& (2147483647 : Int32))))])) t → Steps p.tables e below (T37.setTop (mkF m 62 #[.val (.int x0_0), .val (.int x0_1), .val (.int x0_2), .val (.int (x0_0 &&& (2147483647 : Int32))), .val (.int (x0_2 &&& (3 : Int32))), .val (.int (x0_1 &&& (2147483647 : Int32))), .val (.int (f1 (x0_0 &&& (2147483647 : Int32)) (x0_1 &&& (2147483647 : Int32))))] [(.int (f1 (x0_0 &&& (2147483647 : Int32)) (x0_1 &&& (2147483647 : Int32))))])) t := fun t kt => by
            show Steps p.tables e below (T37.setTop (mkF m 62 #[.val (.int x0_0), .val (.int x0_1), .val (.int x0_2), .val (.int (x0_0 &&& (2147483647 : Int32))), .val (.int (x0_2 &&& (3 : Int32))), .val (.int (x0_1 &&& (2147483647 : Int32))), .val (.int (f1 (x0_0 &&& (2147483647 : Int32)) (x0_1 &&& (2147483647 : Int32))))] [(.int (f1 (x0_0 &&& (2147483647 : Int32)) (x0_1 &&& (2147483647 : Int32))))])) _
            refine XS.ifNo X37.here hx rfl (hb hby at_62) rfl ((if0 _ _).trans (flt hc62_40).1) ?_
            show Steps p.tables e below (T37.setTop (mkF m 65 #[.val (.int x0_0), .val (.int x0_1), .val (.int x0_2), .val (.int (x0_0 &&& (2147483647 : Int32))), .val (.int (x0_2 &&& (3 : Int32))), .val (.int (x0_1 &&& (2147483647 : Int32))), .val (.int (f1 (x0_0 &&& (2147483647 : Int32)) (x0_1 &&& (2147483647 : Int32))))] [])) _
            refine XS.iload X37.here hx rfl (hb hby at_65) rfl ?_
            show Steps p.tables e below (T37.setTop (mkF m 67 #[.val (.int x0_0), .val (.int x0_1), .val (.int x0_2), .val (.int (x0_0 &&& (2147483647 : Int32))), .val (.int (x0_2 &&& (3 : Int32))), .val (.int (x0_1 &&& (2147483647 : Int32))), .val (.int (f1 (x0_0 &&& (2147483647 : Int32)) (x0_1 &&& (2147483647 : Int32))))] [(.int (f1 (x0_0 &&& (2147483647 : Int32)) (x0_1 &&& (2147483647 : Int32))))])) _
            refine XS.iloadN X37.here hx rfl (hb hby at_67) rfl ?_
            exact kt
          by_cases hc68_42 : (x0_0 &&& (2147483647 : Int32)) < (f1 (x0_0 &&& (2147483647 : Int32)) (x0_1 &&& (2147483647 : Int32)))
          · obtain ⟨fs, hr, hrun, hended, hW, hsame⟩ := X37.leave (v := some (.int (0 : Int32))) (fun h => by rw [Bd.returns] at h; cases h)
            refine ⟨_, _, pre0 _ (sg1 _ (sg13 _ (sg25 _ (sg38 _ (sg39 _ (sg41 _ ?_)))))), hrun, hended, _, _, rfl, ?_, ⟨_, rfl⟩, hW, hsame.mono (by decide) (by decide)⟩
            · show Steps p.tables e below (T37.setTop (mkF m 68 #[.val (.int x0_0), .val (.int x0_1), .val (.int x0_2), .val (.int (x0_0 &&& (2147483647 : Int32))), .val (.int (x0_2 &&& (3 : Int32))), .val (.int (x0_1 &&& (2147483647 : Int32))), .val (.int (f1 (x0_0 &&& (2147483647 : Int32)) (x0_1 &&& (2147483647 : Int32))))] [(.int (x0_0 &&& (2147483647 : Int32))), (.int (f1 (x0_0 &&& (2147483647 : Int32)) (x0_1 &&& (2147483647 : Int32))))])) _
              refine XS.icmpNo X37.here hx rfl (hb hby at_68) rfl (tlt hc68_42).2.2.2 ?_
              show Steps p.tables e below (T37.setTop (mkF m 71 #[.val (.int x0_0), .val (.int x0_1), .val (.int x0_2), .val (.int (x0_0 &&& (2147483647 : Int32))), .val (.int (x0_2 &&& (3 : Int32))), .val (.int (x0_1 &&& (2147483647 : Int32))), .val (.int (f1 (x0_0 &&& (2147483647 : Int32)) (x0_1 &&& (2147483647 : Int32))))] [])) _
              refine XS.iconst X37.here hx rfl (hb hby at_71) ?_
              show Steps p.tables e below (T37.setTop (mkF m 72 #[.val (.int x0_0), .val (.int x0_1), .val (.int x0_2), .val (.int (x0_0 &&& (2147483647 : Int32))), .val (.int (x0_2 &&& (3 : Int32))), .val (.int (x0_1 &&& (2147483647 : Int32))), .val (.int (f1 (x0_0 &&& (2147483647 : Int32)) (x0_1 &&& (2147483647 : Int32))))] [(.int (0 : Int32))])) _
              exact retN X37 hx (t := .boolean) Bd.returns (by simp) (hb hby at_72) hr
            · exact ⟨congrArg (fun z => some (Value.int z)) (show (0 : Int32) = f0 x0_0 x0_1 x0_2 from by unfold f0; rw [if_neg hc12_2, if_neg hc24_14, if_neg hc46_26, if_neg hc62_40, if_pos hc68_42]), N37, e37⟩
          · have sg43 : ∀ t, Steps p.tables e below (T37.setTop (mkF m 79 #[.val (.int x0_0), .val (.int x0_1), .val (.int x0_2), .val (.int (x0_0 &&& (2147483647 : Int32))), .val (.int (x0_2 &&& (3 : Int32))), .val (.int (x0_1 &&& (2147483647 : Int32))), .val (.int (f1 (x0_0 &&& (2147483647 : Int32)) (x0_1 &&& (2147483647 : Int32))))] [(.int (x0_1 &&& (2147483647 : Int32))), (.int ((x0_0 &&& (2147483647 : Int32)) - (f1 (x0_0 &&& (2147483647 : Int32)) (x0_1 &&& (2147483647 : Int32)))))])) t → Steps p.tables e below (T37.setTop (mkF m 68 #[.val (.int x0_0), .val (.int x0_1), .val (.int x0_2), .val (.int (x0_0 &&& (2147483647 : Int32))), .val (.int (x0_2 &&& (3 : Int32))), .val (.int (x0_1 &&& (2147483647 : Int32))), .val (.int (f1 (x0_0 &&& (2147483647 : Int32)) (x0_1 &&& (2147483647 : Int32))))] [(.int (x0_0 &&& (2147483647 : Int32))), (.int (f1 (x0_0 &&& (2147483647 : Int32)) (x0_1 &&& (2147483647 : Int32))))])) t := fun t kt => by
              show Steps p.tables e below (T37.setTop (mkF m 68 #[.val (.int x0_0), .val (.int x0_1), .val (.int x0_2), .val (.int (x0_0 &&& (2147483647 : Int32))), .val (.int (x0_2 &&& (3 : Int32))), .val (.int (x0_1 &&& (2147483647 : Int32))), .val (.int (f1 (x0_0 &&& (2147483647 : Int32)) (x0_1 &&& (2147483647 : Int32))))] [(.int (x0_0 &&& (2147483647 : Int32))), (.int (f1 (x0_0 &&& (2147483647 : Int32)) (x0_1 &&& (2147483647 : Int32))))])) _
              refine XS.icmpYes X37.here hx rfl (pc0 := 68) (pc' := 73) rfl (hb hby at_68) rfl (flt hc68_42).2.2.2 (by decide) (by decide) ?_
              show Steps p.tables e below (T37.setTop (mkF m 73 #[.val (.int x0_0), .val (.int x0_1), .val (.int x0_2), .val (.int (x0_0 &&& (2147483647 : Int32))), .val (.int (x0_2 &&& (3 : Int32))), .val (.int (x0_1 &&& (2147483647 : Int32))), .val (.int (f1 (x0_0 &&& (2147483647 : Int32)) (x0_1 &&& (2147483647 : Int32))))] [])) _
              refine XS.iloadN X37.here hx rfl (hb hby at_73) rfl ?_
              show Steps p.tables e below (T37.setTop (mkF m 74 #[.val (.int x0_0), .val (.int x0_1), .val (.int x0_2), .val (.int (x0_0 &&& (2147483647 : Int32))), .val (.int (x0_2 &&& (3 : Int32))), .val (.int (x0_1 &&& (2147483647 : Int32))), .val (.int (f1 (x0_0 &&& (2147483647 : Int32)) (x0_1 &&& (2147483647 : Int32))))] [(.int (x0_0 &&& (2147483647 : Int32)))])) _
              refine XS.iload X37.here hx rfl (hb hby at_74) rfl ?_
              show Steps p.tables e below (T37.setTop (mkF m 76 #[.val (.int x0_0), .val (.int x0_1), .val (.int x0_2), .val (.int (x0_0 &&& (2147483647 : Int32))), .val (.int (x0_2 &&& (3 : Int32))), .val (.int (x0_1 &&& (2147483647 : Int32))), .val (.int (f1 (x0_0 &&& (2147483647 : Int32)) (x0_1 &&& (2147483647 : Int32))))] [(.int (f1 (x0_0 &&& (2147483647 : Int32)) (x0_1 &&& (2147483647 : Int32)))), (.int (x0_0 &&& (2147483647 : Int32)))])) _
              refine XS.isub X37.here hx rfl (hb hby at_76) rfl ?_
              show Steps p.tables e below (T37.setTop (mkF m 77 #[.val (.int x0_0), .val (.int x0_1), .val (.int x0_2), .val (.int (x0_0 &&& (2147483647 : Int32))), .val (.int (x0_2 &&& (3 : Int32))), .val (.int (x0_1 &&& (2147483647 : Int32))), .val (.int (f1 (x0_0 &&& (2147483647 : Int32)) (x0_1 &&& (2147483647 : Int32))))] [(.int ((x0_0 &&& (2147483647 : Int32)) - (f1 (x0_0 &&& (2147483647 : Int32)) (x0_1 &&& (2147483647 : Int32)))))])) _
              refine XS.iload X37.here hx rfl (hb hby at_77) rfl ?_
              exact kt
            by_cases hc79_44 : ((x0_0 &&& (2147483647 : Int32)) - (f1 (x0_0 &&& (2147483647 : Int32)) (x0_1 &&& (2147483647 : Int32)))) < (x0_1 &&& (2147483647 : Int32))
            · have sg45 : ∀ t, Steps p.tables e below (T37.setTop (mkF m 94 #[.val (.int x0_0), .val (.int x0_1), .val (.int x0_2), .val (.int (x0_0 &&& (2147483647 : Int32))), .val (.int (x0_2 &&& (3 : Int32))), .val (.int (x0_1 &&& (2147483647 : Int32))), .val (.int (f1 (x0_0 &&& (2147483647 : Int32)) (x0_1 &&& (2147483647 : Int32))))] [(.int (f1 (x0_0 &&& (2147483647 : Int32)) (x0_1 &&& (2147483647 : Int32)))), (.int (((f1 (x0_0 &&& (2147483647 : Int32)) (x0_1 &&& (2147483647 : Int32))) / (x0_1 &&& (2147483647 : Int32))) * (x0_1 &&& (2147483647 : Int32))))])) t → Steps p.tables e below (T37.setTop (mkF m 79 #[.val (.int x0_0), .val (.int x0_1), .val (.int x0_2), .val (.int (x0_0 &&& (2147483647 : Int32))), .val (.int (x0_2 &&& (3 : Int32))), .val (.int (x0_1 &&& (2147483647 : Int32))), .val (.int (f1 (x0_0 &&& (2147483647 : Int32)) (x0_1 &&& (2147483647 : Int32))))] [(.int (x0_1 &&& (2147483647 : Int32))), (.int ((x0_0 &&& (2147483647 : Int32)) - (f1 (x0_0 &&& (2147483647 : Int32)) (x0_1 &&& (2147483647 : Int32)))))])) t := fun t kt => by
                show Steps p.tables e below (T37.setTop (mkF m 79 #[.val (.int x0_0), .val (.int x0_1), .val (.int x0_2), .val (.int (x0_0 &&& (2147483647 : Int32))), .val (.int (x0_2 &&& (3 : Int32))), .val (.int (x0_1 &&& (2147483647 : Int32))), .val (.int (f1 (x0_0 &&& (2147483647 : Int32)) (x0_1 &&& (2147483647 : Int32))))] [(.int (x0_1 &&& (2147483647 : Int32))), (.int ((x0_0 &&& (2147483647 : Int32)) - (f1 (x0_0 &&& (2147483647 : Int32)) (x0_1 &&& (2147483647 : Int32)))))])) _
                refine XS.icmpYes X37.here hx rfl (pc0 := 79) (pc' := 84) rfl (hb hby at_79) rfl (tlt hc79_44).1 (by decide) (by decide) ?_
                show Steps p.tables e below (T37.setTop (mkF m 84 #[.val (.int x0_0), .val (.int x0_1), .val (.int x0_2), .val (.int (x0_0 &&& (2147483647 : Int32))), .val (.int (x0_2 &&& (3 : Int32))), .val (.int (x0_1 &&& (2147483647 : Int32))), .val (.int (f1 (x0_0 &&& (2147483647 : Int32)) (x0_1 &&& (2147483647 : Int32))))] [])) _
                refine XS.iload X37.here hx rfl (hb hby at_84) rfl ?_
                show Steps p.tables e below (T37.setTop (mkF m 86 #[.val (.int x0_0), .val (.int x0_1), .val (.int x0_2), .val (.int (x0_0 &&& (2147483647 : Int32))), .val (.int (x0_2 &&& (3 : Int32))), .val (.int (x0_1 &&& (2147483647 : Int32))), .val (.int (f1 (x0_0 &&& (2147483647 : Int32)) (x0_1 &&& (2147483647 : Int32))))] [(.int (f1 (x0_0 &&& (2147483647 : Int32)) (x0_1 &&& (2147483647 : Int32))))])) _
                refine XS.iload X37.here hx rfl (hb hby at_86) rfl ?_
                show Steps p.tables e below (T37.setTop (mkF m 88 #[.val (.int x0_0), .val (.int x0_1), .val (.int x0_2), .val (.int (x0_0 &&& (2147483647 : Int32))), .val (.int (x0_2 &&& (3 : Int32))), .val (.int (x0_1 &&& (2147483647 : Int32))), .val (.int (f1 (x0_0 &&& (2147483647 : Int32)) (x0_1 &&& (2147483647 : Int32))))] [(.int (x0_1 &&& (2147483647 : Int32))), (.int (f1 (x0_0 &&& (2147483647 : Int32)) (x0_1 &&& (2147483647 : Int32))))])) _
                refine XS.idiv X37.here hx rfl (hb hby at_88) rfl hc46_26 ?_
                show Steps p.tables e below (T37.setTop (mkF m 89 #[.val (.int x0_0), .val (.int x0_1), .val (.int x0_2), .val (.int (x0_0 &&& (2147483647 : Int32))), .val (.int (x0_2 &&& (3 : Int32))), .val (.int (x0_1 &&& (2147483647 : Int32))), .val (.int (f1 (x0_0 &&& (2147483647 : Int32)) (x0_1 &&& (2147483647 : Int32))))] [(.int ((f1 (x0_0 &&& (2147483647 : Int32)) (x0_1 &&& (2147483647 : Int32))) / (x0_1 &&& (2147483647 : Int32))))])) _
                refine XS.iload X37.here hx rfl (hb hby at_89) rfl ?_
                show Steps p.tables e below (T37.setTop (mkF m 91 #[.val (.int x0_0), .val (.int x0_1), .val (.int x0_2), .val (.int (x0_0 &&& (2147483647 : Int32))), .val (.int (x0_2 &&& (3 : Int32))), .val (.int (x0_1 &&& (2147483647 : Int32))), .val (.int (f1 (x0_0 &&& (2147483647 : Int32)) (x0_1 &&& (2147483647 : Int32))))] [(.int (x0_1 &&& (2147483647 : Int32))), (.int ((f1 (x0_0 &&& (2147483647 : Int32)) (x0_1 &&& (2147483647 : Int32))) / (x0_1 &&& (2147483647 : Int32))))])) _
                refine XS.imul X37.here hx rfl (hb hby at_91) rfl ?_
                show Steps p.tables e below (T37.setTop (mkF m 92 #[.val (.int x0_0), .val (.int x0_1), .val (.int x0_2), .val (.int (x0_0 &&& (2147483647 : Int32))), .val (.int (x0_2 &&& (3 : Int32))), .val (.int (x0_1 &&& (2147483647 : Int32))), .val (.int (f1 (x0_0 &&& (2147483647 : Int32)) (x0_1 &&& (2147483647 : Int32))))] [(.int (((f1 (x0_0 &&& (2147483647 : Int32)) (x0_1 &&& (2147483647 : Int32))) / (x0_1 &&& (2147483647 : Int32))) * (x0_1 &&& (2147483647 : Int32))))])) _
                refine XS.iload X37.here hx rfl (hb hby at_92) rfl ?_
                exact kt
              by_cases hc94_46 : (((f1 (x0_0 &&& (2147483647 : Int32)) (x0_1 &&& (2147483647 : Int32))) / (x0_1 &&& (2147483647 : Int32))) * (x0_1 &&& (2147483647 : Int32))) = (f1 (x0_0 &&& (2147483647 : Int32)) (x0_1 &&& (2147483647 : Int32)))
              · obtain ⟨fs, hr, hrun, hended, hW, hsame⟩ := X37.leave (v := some (.int (1 : Int32))) (fun h => by rw [Bd.returns] at h; cases h)
                refine ⟨_, _, pre0 _ (sg1 _ (sg13 _ (sg25 _ (sg38 _ (sg39 _ (sg41 _ (sg43 _ (sg45 _ ?_)))))))), hrun, hended, _, _, rfl, ?_, ⟨_, rfl⟩, hW, hsame.mono (by decide) (by decide)⟩
                · show Steps p.tables e below (T37.setTop (mkF m 94 #[.val (.int x0_0), .val (.int x0_1), .val (.int x0_2), .val (.int (x0_0 &&& (2147483647 : Int32))), .val (.int (x0_2 &&& (3 : Int32))), .val (.int (x0_1 &&& (2147483647 : Int32))), .val (.int (f1 (x0_0 &&& (2147483647 : Int32)) (x0_1 &&& (2147483647 : Int32))))] [(.int (f1 (x0_0 &&& (2147483647 : Int32)) (x0_1 &&& (2147483647 : Int32)))), (.int (((f1 (x0_0 &&& (2147483647 : Int32)) (x0_1 &&& (2147483647 : Int32))) / (x0_1 &&& (2147483647 : Int32))) * (x0_1 &&& (2147483647 : Int32))))])) _
                  refine XS.icmpNo X37.here hx rfl (hb hby at_94) rfl (teq hc94_46).2 ?_
                  show Steps p.tables e below (T37.setTop (mkF m 97 #[.val (.int x0_0), .val (.int x0_1), .val (.int x0_2), .val (.int (x0_0 &&& (2147483647 : Int32))), .val (.int (x0_2 &&& (3 : Int32))), .val (.int (x0_1 &&& (2147483647 : Int32))), .val (.int (f1 (x0_0 &&& (2147483647 : Int32)) (x0_1 &&& (2147483647 : Int32))))] [])) _
                  refine XS.iconst X37.here hx rfl (hb hby at_97) ?_
                  show Steps p.tables e below (T37.setTop (mkF m 98 #[.val (.int x0_0), .val (.int x0_1), .val (.int x0_2), .val (.int (x0_0 &&& (2147483647 : Int32))), .val (.int (x0_2 &&& (3 : Int32))), .val (.int (x0_1 &&& (2147483647 : Int32))), .val (.int (f1 (x0_0 &&& (2147483647 : Int32)) (x0_1 &&& (2147483647 : Int32))))] [(.int (1 : Int32))])) _
                  refine XS.goto X37.here hx rfl (pc0 := 98) (pc' := 102) rfl (hb hby at_98) (by decide) (by decide) ?_
                  show Steps p.tables e below (T37.setTop (mkF m 102 #[.val (.int x0_0), .val (.int x0_1), .val (.int x0_2), .val (.int (x0_0 &&& (2147483647 : Int32))), .val (.int (x0_2 &&& (3 : Int32))), .val (.int (x0_1 &&& (2147483647 : Int32))), .val (.int (f1 (x0_0 &&& (2147483647 : Int32)) (x0_1 &&& (2147483647 : Int32))))] [(.int (1 : Int32))])) _
                  exact retN X37 hx (t := .boolean) Bd.returns (by simp) (hb hby at_102) hr
                · exact ⟨congrArg (fun z => some (Value.int z)) (show (1 : Int32) = f0 x0_0 x0_1 x0_2 from by unfold f0; rw [if_neg hc12_2, if_neg hc24_14, if_neg hc46_26, if_neg hc62_40, if_neg hc68_42, if_pos hc79_44, if_pos hc94_46]), N37, e37⟩
              · obtain ⟨fs, hr, hrun, hended, hW, hsame⟩ := X37.leave (v := some (.int (0 : Int32))) (fun h => by rw [Bd.returns] at h; cases h)
                refine ⟨_, _, pre0 _ (sg1 _ (sg13 _ (sg25 _ (sg38 _ (sg39 _ (sg41 _ (sg43 _ (sg45 _ ?_)))))))), hrun, hended, _, _, rfl, ?_, ⟨_, rfl⟩, hW, hsame.mono (by decide) (by decide)⟩
                · show Steps p.tables e below (T37.setTop (mkF m 94 #[.val (.int x0_0), .val (.int x0_1), .val (.int x0_2), .val (.int (x0_0 &&& (2147483647 : Int32))), .val (.int (x0_2 &&& (3 : Int32))), .val (.int (x0_1 &&& (2147483647 : Int32))), .val (.int (f1 (x0_0 &&& (2147483647 : Int32)) (x0_1 &&& (2147483647 : Int32))))] [(.int (f1 (x0_0 &&& (2147483647 : Int32)) (x0_1 &&& (2147483647 : Int32)))), (.int (((f1 (x0_0 &&& (2147483647 : Int32)) (x0_1 &&& (2147483647 : Int32))) / (x0_1 &&& (2147483647 : Int32))) * (x0_1 &&& (2147483647 : Int32))))])) _
                  refine XS.icmpYes X37.here hx rfl (pc0 := 94) (pc' := 101) rfl (hb hby at_94) rfl (feq hc94_46).2 (by decide) (by decide) ?_
                  show Steps p.tables e below (T37.setTop (mkF m 101 #[.val (.int x0_0), .val (.int x0_1), .val (.int x0_2), .val (.int (x0_0 &&& (2147483647 : Int32))), .val (.int (x0_2 &&& (3 : Int32))), .val (.int (x0_1 &&& (2147483647 : Int32))), .val (.int (f1 (x0_0 &&& (2147483647 : Int32)) (x0_1 &&& (2147483647 : Int32))))] [])) _
                  refine XS.iconst X37.here hx rfl (hb hby at_101) ?_
                  show Steps p.tables e below (T37.setTop (mkF m 102 #[.val (.int x0_0), .val (.int x0_1), .val (.int x0_2), .val (.int (x0_0 &&& (2147483647 : Int32))), .val (.int (x0_2 &&& (3 : Int32))), .val (.int (x0_1 &&& (2147483647 : Int32))), .val (.int (f1 (x0_0 &&& (2147483647 : Int32)) (x0_1 &&& (2147483647 : Int32))))] [(.int (0 : Int32))])) _
                  exact retN X37 hx (t := .boolean) Bd.returns (by simp) (hb hby at_102) hr
                · exact ⟨congrArg (fun z => some (Value.int z)) (show (0 : Int32) = f0 x0_0 x0_1 x0_2 from by unfold f0; rw [if_neg hc12_2, if_neg hc24_14, if_neg hc46_26, if_neg hc62_40, if_neg hc68_42, if_pos hc79_44, if_neg hc94_46]), N37, e37⟩
            · obtain ⟨fs, hr, hrun, hended, hW, hsame⟩ := X37.leave (v := some (.int (0 : Int32))) (fun h => by rw [Bd.returns] at h; cases h)
              refine ⟨_, _, pre0 _ (sg1 _ (sg13 _ (sg25 _ (sg38 _ (sg39 _ (sg41 _ (sg43 _ ?_))))))), hrun, hended, _, _, rfl, ?_, ⟨_, rfl⟩, hW, hsame.mono (by decide) (by decide)⟩
              · show Steps p.tables e below (T37.setTop (mkF m 79 #[.val (.int x0_0), .val (.int x0_1), .val (.int x0_2), .val (.int (x0_0 &&& (2147483647 : Int32))), .val (.int (x0_2 &&& (3 : Int32))), .val (.int (x0_1 &&& (2147483647 : Int32))), .val (.int (f1 (x0_0 &&& (2147483647 : Int32)) (x0_1 &&& (2147483647 : Int32))))] [(.int (x0_1 &&& (2147483647 : Int32))), (.int ((x0_0 &&& (2147483647 : Int32)) - (f1 (x0_0 &&& (2147483647 : Int32)) (x0_1 &&& (2147483647 : Int32)))))])) _
                refine XS.icmpNo X37.here hx rfl (hb hby at_79) rfl (flt hc79_44).1 ?_
                show Steps p.tables e below (T37.setTop (mkF m 82 #[.val (.int x0_0), .val (.int x0_1), .val (.int x0_2), .val (.int (x0_0 &&& (2147483647 : Int32))), .val (.int (x0_2 &&& (3 : Int32))), .val (.int (x0_1 &&& (2147483647 : Int32))), .val (.int (f1 (x0_0 &&& (2147483647 : Int32)) (x0_1 &&& (2147483647 : Int32))))] [])) _
                refine XS.iconst X37.here hx rfl (hb hby at_82) ?_
                show Steps p.tables e below (T37.setTop (mkF m 83 #[.val (.int x0_0), .val (.int x0_1), .val (.int x0_2), .val (.int (x0_0 &&& (2147483647 : Int32))), .val (.int (x0_2 &&& (3 : Int32))), .val (.int (x0_1 &&& (2147483647 : Int32))), .val (.int (f1 (x0_0 &&& (2147483647 : Int32)) (x0_1 &&& (2147483647 : Int32))))] [(.int (0 : Int32))])) _
                exact retN X37 hx (t := .boolean) Bd.returns (by simp) (hb hby at_83) hr
              · exact ⟨congrArg (fun z => some (Value.int z)) (show (0 : Int32) = f0 x0_0 x0_1 x0_2 from by unfold f0; rw [if_neg hc12_2, if_neg hc24_14, if_neg hc46_26, if_neg hc62_40, if_neg hc68_42, if_neg hc79_44]), N37, e37⟩
theorem own_one (x0_0 x0_1 x0_2 : Int32) : f0 x0_0 x0_1 x0_2 = 1 := by
  have hr := own_mask x0_0
  have A := own_f1 _ 1 hr (by decide)
  have B := own_f1 _ _ hr (own_per0 x0_1)
  unfold f0
  by_cases hz : (x0_1 &&& (2147483647 : Int32)) = (0 : Int32)
  · simp only [hz, if_true, if_neg A.1, if_neg A.2.1, if_pos A.2.2.1, if_pos A.2.2.2, if_neg B.1, if_neg B.2.1, if_pos B.2.2.1, if_pos B.2.2.2, ite_self]
  · have hq : 1 ≤ (x0_1 &&& (2147483647 : Int32)).toInt := by
      have h := own_mask x0_1
      have : (x0_1 &&& (2147483647 : Int32)).toInt ≠ (0 : Int32).toInt := fun q => hz (Int32.toInt_inj.mp q)
      have a0 : (0 : Int32).toInt = 0 := by decide
      omega
    have C := own_f1 _ _ hr hq
    simp only [if_neg hz, if_neg A.1, if_neg A.2.1, if_pos A.2.2.1, if_pos A.2.2.2, if_neg B.1, if_neg B.2.1, if_pos B.2.2.1, if_pos B.2.2.2, if_neg C.1, if_neg C.2.1, if_pos C.2.2.1, if_pos C.2.2.2, ite_self]
set_option maxRecDepth 65536 in
set_option maxHeartbeats 40000000 in
theorem comes_1 {Post : Tables → Env → Array Value → State → Outcome → State → Prop} (hpost : ∀ tb e args s v u, (limb_1_1.after args s (.returned v) u = true ∧ limb_1_2.after args s (.returned v) u = true ∧ True) → FrameEnd s (.returned v) u (Jvm.fieldLocs frame_1_writes args s ++ Jvm.arrayLocs frame_1_arrays args s ++ Jvm.staticLocs frame_1_statics s) 0 0 → Post tb e args s (.returned v) u) :
    ArmFor flags0 classFile x code maxLocals ret World_1 tables_1 room_1 Calls_1 rest_1 Pre_1 Post := by
  intro l hfl _ _ p e ha hc hk s m args below hf hA hF happ hP
  obtain ⟨hcalls, hrest, hpre⟩ := hP
  obtain ⟨-, -, -, hnamed, -, -, -, hat⟩ := (Spec.applies_iff hf).mp happ
  obtain ⟨hg, hn⟩ := and_e (Cond.before_iff.mp (show (Jvm.Cond.and given_1 narrow_1).before args s = true from hpre))
  obtain ⟨g1, g2⟩ := and_e hg
  obtain ⟨g3, g4⟩ := and_e g2
  obtain ⟨g5, g6⟩ := and_e g4
  obtain ⟨w0, w1, w2, rfl⟩ : ∃ w0 w1 w2 : Value, args = #[w0, w1, w2] := by
    have hs : args.size = 3 := by simpa [Cond.value, given_1] using g1
    obtain ⟨L⟩ := args
    match L, hs with
    | [w0, w1, w2], _ => exact ⟨w0, w1, w2, rfl⟩
  have hw := fun d (hd : d ∈ tables_1) => atoms_spec (ws := Jvm.Cond.code x code maxLocals ret :: tables_1) hat d (List.mem_cons_of_mem _ hd)
  obtain ⟨i0, ei0⟩ := is_v g3
  obtain rfl : w0 = (.int i0) := Option.some.inj ei0
  obtain ⟨i1, ei1⟩ := is_v g5
  obtain rfl : w1 = (.int i1) := Option.some.inj ei1
  obtain ⟨i2, ei2⟩ := is_v g6
  obtain rfl : w2 = (.int i2) := Option.some.inj ei2
  obtain ⟨n, o, h1, h2, h3, _, L, rfl, ⟨rfl, N, -⟩, hq⟩ := rm0 l s _ hw tables_1 i0 i1 i2 s.heap s.heap.size (Nat.le_refl _) p e ha hc hk s m _ below hf ((Spec.applies_iff_loose hf).mp happ).1 ⟨rfl, State.Warmed39.refl s, rfl⟩ trivial
  have hone : f0 i0 i1 i2 = 1 := own_one i0 i1 i2
  rw [hone] at h3 hq
  refine ⟨n, _, h1, h2, h3, hpost _ _ _ _ _ _ ⟨Cond.after_iff.mpr rfl, Cond.after_iff.mpr (eq_i res_at (Term.int_eval (1)) rfl), trivial⟩ ⟨hq.1, hq.2.1, (hq.2.2.sift fun y hy => Or.inr (N y hy)).mono (by decide) (by decide)⟩⟩
theorem main_1_1 : Claimed_1_1 := comes_1 fun _ _ _ _ _ _ h hF => ⟨h.1, hF⟩
theorem main_1_2 : Claimed_1_2 := comes_1 fun _ _ _ _ _ _ h hF => ⟨h.2.1, hF⟩
end Jvm.Pilot.@@N@@
namespace Jvm.Pilot.@@N@@
open Jvm Jvm.ClassFile Sem Op Lib Jvm.Free Jvm.Stand Jvm.Pilot.@@N@@.Jvm.D
/-! MADE BY PROGRAM (witnessworld.py) out of the Statement's table words and the real class files: 7 classes; the members and pool entries that the words name. The judged class is class 1, her method 1. -/
namespace start1
open Jvm.ClassFile
def u (s : String) : CpInfo := .utf8 (stringToUtf16 s)
/-- a pool by its gaps: so many unusable entries, then the entry; so many at the end -/
def gap : Nat → List CpInfo → List CpInfo
  | 0, r => r
  | n + 1, r => .unusable :: gap n r
def poolList (es : List (Nat × CpInfo)) (last : Nat) : List CpInfo := es.foldr (fun e r => gap e.1 (e.2 :: r)) (gap last [])
def pool (es : List (Nat × CpInfo)) (last : Nat) : Array CpInfo := ⟨poolList es last⟩
def fileOf (pool : Array CpInfo) (this : Nat) (attrs : Array Attribute := #[]) (ms : Array MethodInfo := #[]) (fl : Nat := 33) (sup : Nat := 0) (ifs : Array Nat := #[]) (fds : Array FieldInfo := #[]) : ClassFile where
  minorVersion := 0
  majorVersion := 65
  constantPool := pool
  accessFlags := fl
  thisClass := this
  superClass := sup
  interfaces := ifs
  fields := fds
  methods := ms
  attributes := attrs
def plain (name : String) (sup : Option ClassId) : Class where
  name := name
  kind := .ordinary
  loader := none
  accessFlags := 33
  super := sup
  interfaces := #[]
  cf := none
  fields := #[]
  methods := #[]
  instanceTypes := #[]
  staticTypes := #[]
  resolved := #[]
  callSites := []
  init := .initialized
  statics := none
  mirror := none

def pool0 : Array CpInfo := pool [(5, u "<init>"), (0, u "()V"), (1, .class_ 10), (1, u "java/lang/Object")] 113

def k0m0 : Method := { name := "<init>", desc := "()V", sig := { parameters := [], returnType := none }, accessFlags := 1, code := none }
/-- java/lang/Object -/
def k0 : Class := { plain "java/lang/Object" none with
  accessFlags := 33
  interfaces := #[]
  cf := some (fileOf pool0 8 #[] #[{ accessFlags := 1, nameIndex := 5, descriptorIndex := 6, attributes := #[] }] 33 0 #[] #[])
  fields := #[]
  methods := #[k0m0]
  instanceTypes := #[]
  staticTypes := #[]
  resolved := Array.replicate 124 none
  statics := none }

def pool1 : Array CpInfo := pool [(2, .class_ 4), (1, u "java/lang/Object"), (0, u "<init>"), (0, u "()V"), (0, .integer 2147483647), (0, .methodref 9 10), (0, .class_ 11), (0, .nameAndType 12 13), (0, u "com/example/goodprefix/goodprefix/ByteMatcher"), (0, u "wholePeriods"), (0, u "(II)I"), (0, .class_ 15), (0, u "com/example/goodprefix/goodprefix/ByteMatcherWholePeriodsPinLaw"), (2, u "law"), (0, u "(III)Z")] 3

def k1m0 : Method := { name := "<init>", desc := "()V", sig := { parameters := [], returnType := none }, accessFlags := 1, code := none }
def k1c1 : Code := { maxStack := 2, maxLocals := 7, code := code, exceptionTable := #[], attributes := #[] }
def k1m1 : Method := { name := "law", desc := "(III)Z", sig := { parameters := [.int, .int, .int], returnType := some .boolean }, accessFlags := 9, code := some k1c1 }
/-- com/example/goodprefix/goodprefix/ByteMatcherWholePeriodsPinLaw -/
def k1 : Class := { plain "com/example/goodprefix/goodprefix/ByteMatcherWholePeriodsPinLaw" (some 0) with
  accessFlags := 49
  interfaces := #[]
  cf := some (fileOf pool1 14 #[] #[{ accessFlags := 1, nameIndex := 5, descriptorIndex := 6, attributes := #[] }, { accessFlags := 9, nameIndex := 18, descriptorIndex := 19, attributes := #[] }] 49 2 #[] #[])
  fields := #[]
  methods := #[k1m0, k1m1]
  instanceTypes := #[]
  staticTypes := #[]
  resolved := Array.replicate 23 none
  statics := none }

def pool2 : Array CpInfo := pool [(2, .class_ 4), (1, u "java/lang/Object"), (3, u "pattern"), (16, u "[B"), (3, .class_ 31), (1, u "com/example/goodprefix/goodprefix/ByteMatcher"), (8, u "table"), (0, u "[I"), (7, u "(II)I"), (2, u "headLength"), (0, u "I"), (4, u "head"), (0, u "J"), (4, u "headMask"), (6, u "headFirstInEachByte"), (2, u "headLastInEachByte"), (2, .class_ 78), (0, u "com/example/goodprefix/goodprefix/ByteMatcher$Scan"), (23, u "LONG_AT"), (0, u "Ljava/lang/invoke/VarHandle;"), (32, u "READ_SIZE"), (2, u "LOW_BITS"), (0, u "HIGH_BITS"), (14, u "wholePeriods")] 23

def k2c0 : Code := { maxStack := 3, maxLocals := 2, code := prog_1_method_10_code, exceptionTable := #[], attributes := #[] }
def k2m0 : Method := { name := "wholePeriods", desc := "(II)I", sig := { parameters := [.int, .int], returnType := some .int }, accessFlags := 8, code := some k2c0 }
/-- com/example/goodprefix/goodprefix/ByteMatcher -/
def k2 : Class := { plain "com/example/goodprefix/goodprefix/ByteMatcher" (some 0) with
  accessFlags := 49
  interfaces := #[]
  cf := some (fileOf pool2 29 #[.nestMembers #[77]] #[{ accessFlags := 8, nameIndex := 155, descriptorIndex := 49, attributes := #[] }] 49 2 #[] #[{ accessFlags := 26, nameIndex := 136, descriptorIndex := 53, attributes := #[] }, { accessFlags := 26, nameIndex := 102, descriptorIndex := 103, attributes := #[] }, { accessFlags := 26, nameIndex := 139, descriptorIndex := 59, attributes := #[] }, { accessFlags := 26, nameIndex := 140, descriptorIndex := 59, attributes := #[] }, { accessFlags := 18, nameIndex := 8, descriptorIndex := 25, attributes := #[] }, { accessFlags := 18, nameIndex := 40, descriptorIndex := 41, attributes := #[] }, { accessFlags := 18, nameIndex := 52, descriptorIndex := 53, attributes := #[] }, { accessFlags := 18, nameIndex := 58, descriptorIndex := 59, attributes := #[] }, { accessFlags := 18, nameIndex := 64, descriptorIndex := 59, attributes := #[] }, { accessFlags := 18, nameIndex := 71, descriptorIndex := 59, attributes := #[] }, { accessFlags := 18, nameIndex := 74, descriptorIndex := 59, attributes := #[] }])
  fields := #[{ name := "READ_SIZE", type := .int, accessFlags := 26, slot := 0, constantValue := 0 }, { name := "LONG_AT", type := (.object "java/lang/invoke/VarHandle"), accessFlags := 26, slot := 1, constantValue := 0 }, { name := "LOW_BITS", type := .long, accessFlags := 26, slot := 2, constantValue := 0 }, { name := "HIGH_BITS", type := .long, accessFlags := 26, slot := 3, constantValue := 0 }, { name := "pattern", type := (.array .byte), accessFlags := 18, slot := 0, constantValue := 0 }, { name := "table", type := (.array .int), accessFlags := 18, slot := 1, constantValue := 0 }, { name := "headLength", type := .int, accessFlags := 18, slot := 2, constantValue := 0 }, { name := "head", type := .long, accessFlags := 18, slot := 3, constantValue := 0 }, { name := "headMask", type := .long, accessFlags := 18, slot := 4, constantValue := 0 }, { name := "headFirstInEachByte", type := .long, accessFlags := 18, slot := 5, constantValue := 0 }, { name := "headLastInEachByte", type := .long, accessFlags := 18, slot := 6, constantValue := 0 }]
  methods := #[k2m0]
  instanceTypes := #[(.array .byte), (.array .int), .int, .long, .long, .long, .long]
  staticTypes := #[.int, (.object "java/lang/invoke/VarHandle"), .long, .long]
  resolved := Array.replicate 179 none
  statics := none }

def pool3 : Array CpInfo := pool [(1, u "java/lang/Cloneable"), (0, .class_ 1), (0, u "java/lang/Object"), (0, .class_ 3)] 3

/-- java/lang/Cloneable -/
def k3 : Class := { plain "java/lang/Cloneable" (some 0) with
  accessFlags := 1537
  interfaces := #[]
  cf := some (fileOf pool3 2 #[] #[] 1537 4 #[] #[])
  fields := #[]
  methods := #[]
  instanceTypes := #[]
  staticTypes := #[]
  resolved := Array.replicate 8 none
  statics := none }

def pool4 : Array CpInfo := pool [(1, u "java/io/Serializable"), (0, .class_ 1), (0, u "java/lang/Object"), (0, .class_ 3)] 3

/-- java/io/Serializable -/
def k4 : Class := { plain "java/io/Serializable" (some 0) with
  accessFlags := 1537
  interfaces := #[]
  cf := some (fileOf pool4 2 #[] #[] 1537 4 #[] #[])
  fields := #[]
  methods := #[]
  instanceTypes := #[]
  staticTypes := #[]
  resolved := Array.replicate 8 none
  statics := none }

/-- the primitive byte -/
def k5 : Class := { plain "byte" none with kind := .primitive 'B', accessFlags := 0x411 }
/-- [B -/
def k6 : Class := { plain "[B" (some 0) with kind := .array 5 .byte, interfaces := #[3, 4], accessFlags := 1041 }

def heap : Heap := #[]
def classes : Array Class := #[k0, k1, k2, k3, k4, k5, k6]
def interned : List (Array UInt16 × Addr) := []
def slotsUsed : Nat := 0
def theMethod : MethodId := ⟨1, 1⟩
def args0 : Array Value := #[.int 5, .int 300, .int 7]
def aboutOver (below : List Frame) : State where
  vm := { classes := classes, interned := interned.toArray }
  heap := heap
  slotsUsed := slotsUsed
  threads := #[{ frames := .invoking theMethod args0 :: below }]
def below0 : List Frame := [.native { method := ⟨0, 0⟩, args := #[] }]
def about1 : State := aboutOver below0
def p0 : Program := .bare "" "" ""
def e0 : Env := launch0.env 0 0 0
theorem w_frames : about1.frames = Frame.invoking theMethod args0 :: below0 := rfl
set_option maxRecDepth 65536 in
theorem w_args : argsFit about1.vm theMethod args0 = true := by decide +kernel
set_option maxRecDepth 65536 in
theorem w_heap : heapFits about1 = true := by decide +kernel
set_option maxRecDepth 65536 in
theorem w_runnable : about1.curStatus? = some .runnable := by decide +kernel
set_option maxRecDepth 65536 in
theorem w_alone : about1.alone = true := by decide +kernel
set_option maxRecDepth 65536 in
theorem w_named : about1.methodNamed? x = some theMethod := by decide +kernel
set_option maxRecDepth 65536 in
theorem w_hears : about1.hears theMethod below0 = true := by decide +kernel
set_option maxRecDepth 65536 in
theorem w_ripe : about1.ripe theMethod args0 below0 = true := by decide +kernel
theorem w_running : about1.status = .running := rfl
set_option maxRecDepth 65536 in
theorem w_room : about1.hasRoom e0.platform room_1 = true :=
  launch0.hasRoom_least _ room_1 (by decide +kernel) (by decide +kernel) (by decide +kernel) (by decide +kernel) (by decide +kernel) (by decide +kernel)
theorem allAtoms_all (ts : List Jvm.Cond) (a : Array Jvm.Value) (st : Jvm.State) : (allAtoms ts).before a st = ts.all (fun c => c.before a st) := by
  induction ts with
  | nil => rfl
  | cons c t ih =>
    show (Jvm.Cond.and c (allAtoms t)).before a st = _
    rw [Jvm.Cond.before_and, ih, List.all_cons]
def words1 : List Jvm.Cond := Jvm.Cond.code x code maxLocals ret :: tables_1
/-- a 'code' word, met by the world's own term for the bytes: nothing is compared byte by byte -/
theorem code_word {y : MethodName} {bytes : ByteArray} {mx : Nat} {rt : Option FieldType} {a : Array Value} {s : State} {m : MethodId} {meth : Method} {c : Code} (h1 : s.methodNamed? y = some m) (h2 : s.vm.method? m = some meth) (h3 : meth.code = some c) (h4 : c.code = bytes)
    (h5 : (c.maxLocals == mx && c.exceptionTable.isEmpty && decide (c.maxStack ≤ mostOperands) && decide (meth.sig.returnType = rt) && !meth.locks && decide (parseMethodDescriptor y.desc = some meth.sig)) = true) : (Jvm.Cond.code y bytes mx rt).before a s = true := by
  simp only [Bool.and_eq_true, beq_iff_eq, Bool.not_eq_true', decide_eq_true_eq] at h5
  obtain ⟨⟨⟨⟨⟨g1, g2⟩, g3⟩, g4⟩, g5⟩, g6⟩ := h5
  simp [Cond.before, Cond.holds, Cond.value, h1, h2, h3, h4, g1, g2, g3, g4, g5, g6]
def isCode : Jvm.Cond → Bool
  | .code _ _ _ _ => true
  | _ => false
theorem all_split {L : List Jvm.Cond} {P : Jvm.Cond → Bool} (h1 : L.all (fun c => isCode c || P c) = true) (h2 : ∀ c ∈ L.filter isCode, P c = true) : L.all P = true := by
  refine List.all_eq_true.mpr fun c hc => ?_
  have h := List.all_eq_true.mp h1 c hc
  rcases Bool.eq_false_or_eq_true (isCode c) with hi | hi
  · exact h2 c (List.mem_filter.mpr ⟨hc, hi⟩)
  · simpa [hi] using h
set_option maxRecDepth 65536 in
theorem w_c0 : (Jvm.Cond.code x code maxLocals ret).before args0 about1 = true := code_word (m := ⟨1, 1⟩) (meth := k1m1) (c := k1c1) (by decide +kernel) rfl rfl rfl (by decide +kernel)
set_option maxRecDepth 65536 in
theorem w_c1 : (Jvm.Cond.code ({ cls := "com/example/goodprefix/goodprefix/ByteMatcher", name := "wholePeriods", desc := "(II)I" } : Jvm.MethodName) prog_1_method_10_code (2 : Nat) (Option.some Jvm.ClassFile.FieldType.int)).before args0 about1 = true := code_word (m := ⟨2, 0⟩) (meth := k2m0) (c := k2c0) (by decide +kernel) rfl rfl rfl (by decide +kernel)
def codes1 : List Jvm.Cond := [Jvm.Cond.code x code maxLocals ret, Jvm.Cond.code ({ cls := "com/example/goodprefix/goodprefix/ByteMatcher", name := "wholePeriods", desc := "(II)I" } : Jvm.MethodName) prog_1_method_10_code (2 : Nat) (Option.some Jvm.ClassFile.FieldType.int)]
set_option maxRecDepth 65536 in
theorem codes_eq : words1.filter isCode = codes1 := rfl
theorem w_codes : ∀ c ∈ words1.filter isCode, c.before args0 about1 = true := by
  rw [codes_eq]
  intro c hc
  simp only [codes1, List.mem_cons, List.not_mem_nil, or_false] at hc
  rcases hc with rfl | rfl
  · exact w_c0
  · exact w_c1
set_option maxRecDepth 65536 in
theorem w_t1 : words1.all (fun c => isCode c || c.before args0 about1) = true := by decide +kernel
theorem w_tables : (allAtoms (Jvm.Cond.code x code maxLocals ret :: tables_1)).before args0 about1 = true := by
  rw [allAtoms_all]
  show words1.all (fun c => c.before args0 about1) = true
  refine all_split ?_ w_codes
  rw [w_t1]
set_option maxRecDepth 65536 in
theorem w_case : (Jvm.Cond.and given_1 narrow_1).before args0 about1 = true := by decide +kernel
theorem w_applies : (headSpec (Jvm.Cond.code x code maxLocals ret :: tables_1) room_1).applies x e0.platform about1 = true :=
  (Spec.applies_iff w_frames).mpr ⟨w_running, w_runnable, w_alone, w_named, w_hears, w_ripe, w_room, w_tables⟩
theorem atStart : AtStart classFile x code maxLocals ret World_1 tables_1 room_1 Calls_1 rest_1 Pre_1 launch0 p0 e0 about1 theMethod args0 below0 :=
  ⟨lists_1, trivial, launch0.admits_env _ _ _, launch0.least_env, fairChoices_fair.cas, fairChoices_fair.clock, w_frames, w_args, w_heap, w_applies, trivial, trivial, w_case⟩
end start1
theorem witness_1 : WitnessClaimed_1 := ⟨start1.p0, start1.e0, start1.about1, start1.theMethod, start1.args0, start1.below0, start1.atStart⟩
end Jvm.Pilot.@@N@@
