import JvmDerived
import JvmDerived.Pilot.@@N@@Statement
import JvmDerived.Pilot.@@N@@Code
set_option linter.unusedVariables false
set_option linter.unusedSimpArgs false
@@BLOCK:NumsL.lean.txt@@
@@BLOCK:Masks.lean.txt@@
namespace Jvm.RoadKit
open Sem ClassFile Op Lib Jvm.Stand Jvm.Free Jvm.LawKit
section New
variable {p : Program} {l : Launch} {e : Env} {R : Room} {s : State} {m : MethodId} {args : Array Value} {below : List Frame} {meth : Method} {c : Code} {T : State} {locs : List Loc} {cells slots : Nat}
theorem retI (X : Stand p l e R s m args below meth c T locs cells slots) (hx : p.tables.exec = Jvm.exec) {pc : Nat} {Ls : Array Slot} {z : Int32} {rest : List Value} (hret : meth.sig.returnType = some .int) (hd : decode c.code pc = .ok (.ireturn, 1)) {fs : List Frame}
    (hl : ∀ (f : JFrame) (acts : List Action), f.method = m → f.locked = none → f.entered = [] → (doReturn e (T.setTop f) acts (some (.int z))).1 = T.setFrames fs) : Steps p.tables e below (T.setTop (mkF m pc Ls (.int z :: rest))) (T.setFrames fs) := by
  have hm' : T.vm.method? m = some meth := X.method'
  have hn : narrow .int (.int z) = .int z := rfl
  show Steps p.tables e below (T.setTop { method := m, pc := pc, locals := Ls, stack := _ :: rest, locked := none }) _
  jvm_step X.here [X.here.top, hx, hd, hm', hret, hn]
  first | (intro acts; rw [hl _ acts rfl rfl rfl]) | rw [hl _ _ rfl rfl rfl]
  exact Steps.refl _
end New
end Jvm.RoadKit
namespace Jvm.Pilot.@@N@@
open Jvm Jvm.ClassFile Sem Op Lib Jvm.Free Jvm.Stand Jvm.LawKit Jvm.RoadKit Bundle Jvm.Pilot.@@N@@.Jvm.D
theorem own_lrem (x y : Int64) : x - (x / y) * y = x % y := Int64.toInt_inj.mp (by rw [Jvm.Kit.i64_rem, Int64.toInt_mod])
theorem lremM {p : Program} {l : Launch} {e : Env} {R : Room} {s : State} {m : MethodId} {args : Array Value} {below : List Frame} {meth : Method} {c : Code} {T : State} {locs : List Loc} {cells slots : Nat} {g : JFrame} {target : State} (X : Stand p l e R s m args below meth c T locs cells slots) (hx : p.tables.exec = Jvm.exec) (hg : g.method = m) {x y : Int64} {rest : List Value} (hd : decode c.code g.pc = .ok (.lrem, 1)) (hs : g.stack = .long y :: .long x :: rest) (hy : y ≠ 0)
    (hr : Steps p.tables e below (T.setTop { g with pc := g.pc + 1, stack := .long (x % y) :: rest }) target) : Steps p.tables e below (T.setTop g) target := by
  exact XS.lrem X.here hx hg hd hs hy (by rw [own_lrem]; exact hr)
theorem own_eqI {args : Array Value} {s : State} {t : Jvm.Term} {n : Int32} (h : (Jvm.Cond.eq t (.int n)).value args s none s [] = some true) : t.eval args s none [] s = some (.int n) := by
  obtain ⟨x, y, hx, hy, k1, k2⟩ := cmp_v (Or.inl h)
  obtain rfl : y = .int n := Option.some.inj (hy.symm.trans (Term.int_eval n))
  obtain ⟨z, rfl⟩ := k2
  have q : z = n := by simpa [Jvm.Cond.value, hx, hy] using h
  rw [hx, q]

theorem own_l0 : (0 : Int64).toInt = 0 := by decide
theorem own_l1 : (1 : Int64).toInt = 1 := by decide
theorem own_m (x : Int64) : 0 ≤ (x &&& (9223372036854775807 : Int64)).toInt := by
  have h := Jvm.Kit.i64_mask x 9223372036854775807 (k := 63) (by decide) (by decide)
  omega
theorem own_ps (x : Int64) (h0 : 0 ≤ x.toInt) (h : ¬ x = (0 : Int64)) : 0 < x.toInt := by
  have : x.toInt ≠ 0 := fun q => h (Int64.toInt_inj.mp (q.trans own_l0.symm))
  omega
theorem own_qv (s n : Int64) (hs : 0 ≤ s.toInt) (hn : 0 < n.toInt) : (s / n).toInt = s.toInt / n.toInt := by
  rw [Jvm.Kit.i64_div (by omega), Int.tdiv_eq_ediv_of_nonneg hs]
theorem own_rv (s n : Int64) (hs : 0 ≤ s.toInt) : (s % n).toInt = s.toInt % n.toInt := by
  rw [Int64.toInt_mod, Int.tmod_eq_emod_of_nonneg hs]
theorem own_q1 (s n : Int64) (h : 0 ≤ s.toInt ∧ 0 < n.toInt) : ¬ ((s / n) + (1 : Int64) = (0 : Int64)) := by
  intro q
  have e := c_ladd (s / n) 1
  rw [q, own_l0, own_l1, own_qv s n h.1 h.2] at e
  have q0 : 0 ≤ s.toInt / n.toInt := Int.ediv_nonneg h.1 (by omega)
  have b := (s / n).toInt_lt
  rw [own_qv s n h.1 h.2] at b
  omega
/-- the first rows' number: q + 1 doesn't wrap where a row is left over -/
theorem own_half (S N : Int) (hS : 0 ≤ S) (hN : 0 < N) (hr : S % N ≠ 0) : 2 * (S / N) ≤ S ∧ (S % N) * (S / N + 1) ≤ S ∧ 0 ≤ (S % N) * (S / N + 1) ∧ 0 ≤ S / N ∧ 0 < S % N ∧ S % N < N := by
  have e := Int.emod_add_mul_ediv S N
  have n1 := Int.emod_nonneg S (by omega : N ≠ 0)
  have n2 := Int.emod_lt_of_pos S hN
  have q0 : 0 ≤ S / N := Int.ediv_nonneg hS (by omega)
  have a1 : 2 * (S / N) ≤ N * (S / N) := Int.mul_le_mul_of_nonneg_right (by omega) q0
  have a2 : (S % N) * (S / N) ≤ N * (S / N) := Int.mul_le_mul_of_nonneg_right (by omega) q0
  have a3 : (S % N) * (S / N + 1) = (S % N) * (S / N) + S % N := by rw [Int.mul_add, Int.mul_one]
  have a4 : 0 ≤ (S % N) * (S / N) := Int.mul_nonneg n1 q0
  refine ⟨by omega, by omega, by omega, q0, by omega, n2⟩
theorem own_qp (s n : Int64) (hs : 0 ≤ s.toInt) (hn : 0 < n.toInt) (hr : s.toInt % n.toInt ≠ 0) : ((s / n) + (1 : Int64)).toInt = s.toInt / n.toInt + 1 := by
  have h := own_half s.toInt n.toInt hs hn hr
  have b := s.toInt_lt
  have q := own_qv s n hs hn
  rw [Jvm.Kit.i64_add (by rw [q, own_l1]; omega) (by rw [q, own_l1]; omega), q, own_l1]
theorem own_bd (s n : Int64) (hs : 0 ≤ s.toInt) (hn : 0 < n.toInt) : ((s % n) * ((s / n) + (1 : Int64))).toInt = (s.toInt % n.toInt) * (s.toInt / n.toInt + 1) := by
  have r := own_rv s n hs
  by_cases hr : s.toInt % n.toInt = 0
  · have z : s % n = 0 := Int64.toInt_inj.mp (by rw [r, hr]; decide)
    rw [z, hr, Int64.zero_mul, Int.zero_mul]; decide
  · have h := own_half s.toInt n.toInt hs hn hr
    have b := s.toInt_lt
    have q := own_qp s n hs hn hr
    rw [Jvm.Kit.i64_mul (by rw [r, q]; omega) (by rw [r, q]; omega), r, q]
theorem own_q0 (p s n : Int64) (h : 0 ≤ p.toInt ∧ p.toInt < s.toInt ∧ 0 < n.toInt) (hc : ¬ (p < ((s % n) * ((s / n) + (1 : Int64))))) : ¬ ((s / n) = (0 : Int64)) := by
  intro q
  rw [Int64.lt_iff_toInt_lt, own_bd s n (by omega) h.2.2] at hc
  have q2 := own_qv s n (by omega) h.2.2
  rw [q, own_l0] at q2
  have e := Int.emod_add_mul_ediv s.toInt n.toInt
  rw [← q2] at e hc
  rw [Int.mul_zero] at e
  rw [Int.zero_add, Int.mul_one] at hc
  omega
theorem own_rng (p s n : Int64) (hs : ¬ (s &&& (9223372036854775807 : Int64)) = (0 : Int64)) (hn : ¬ (n &&& (9223372036854775807 : Int64)) = (0 : Int64)) : 0 ≤ ((p &&& (9223372036854775807 : Int64)) % (s &&& (9223372036854775807 : Int64))).toInt ∧ ((p &&& (9223372036854775807 : Int64)) % (s &&& (9223372036854775807 : Int64))).toInt < (s &&& (9223372036854775807 : Int64)).toInt ∧ 0 < (n &&& (9223372036854775807 : Int64)).toInt := by
  have s0 := own_ps _ (own_m s) hs
  rw [own_rv _ _ (own_m p)]
  exact ⟨Int.emod_nonneg _ (by omega), Int.emod_lt_of_pos _ s0, own_ps _ (own_m n) hn⟩
theorem own_A (P q r k : Int) (hP : 0 ≤ P) (hq : 0 ≤ q) (hc : P < r * (q + 1)) (hk : k = P / (q + 1)) : 0 ≤ k ∧ k < r ∧ k * q + k ≤ P ∧ P < (k + 1) * q + (k + 1) := by
  subst hk
  have a1 := Int.ediv_mul_le P (by omega : q + 1 ≠ 0)
  have a2 := Int.lt_ediv_add_one_mul_self P (by omega : 0 < q + 1)
  have a3 := Int.ediv_lt_of_lt_mul (by omega : 0 < q + 1) hc
  have a4 : 0 ≤ P / (q + 1) := Int.ediv_nonneg hP (by omega)
  rw [Int.mul_add, Int.mul_one] at a1 a2
  exact ⟨a4, a3, a1, a2⟩
theorem own_B (P S N q r k : Int) (hPS : P < S) (hq : 0 < q) (e : r + N * q = S) (hc : ¬ P < r * (q + 1)) (hk : k = (P - r * (q + 1)) / q) : 0 ≤ k ∧ r + k < N ∧ (r + k) * q + r ≤ P ∧ P < (r + k + 1) * q + r := by
  subst hk
  have a0 : r * (q + 1) = r * q + r := by rw [Int.mul_add, Int.mul_one]
  have a1 := Int.ediv_mul_le (P - r * (q + 1)) (by omega : q ≠ 0)
  have a2 := Int.lt_ediv_add_one_mul_self (P - r * (q + 1)) hq
  have a4 : 0 ≤ (P - r * (q + 1)) / q := Int.ediv_nonneg (by omega) (by omega)
  have a5 : (N - r) * q = N * q - r * q := Int.sub_mul ..
  have a3 : (P - r * (q + 1)) / q < N - r := Int.ediv_lt_of_lt_mul hq (by omega)
  generalize (P - r * (q + 1)) / q = k at *
  have b1 : (r + k) * q = r * q + k * q := Int.add_mul ..
  have b2 : (r + k + 1) * q = r * q + (k + 1) * q := by rw [Int.add_assoc, Int.add_mul]
  refine ⟨a4, by omega, by omega, by omega⟩


theorem d1_0 : decode prog_86_method_9_code 0 = .ok (.lload_n 2, 1) := by decide +kernel
theorem d1_1 : decode prog_86_method_9_code 1 = .ok (.lload 4, 2) := by decide +kernel
theorem d1_3 : decode prog_86_method_9_code 3 = .ok (.ldiv, 1) := by decide +kernel
theorem d1_4 : decode prog_86_method_9_code 4 = .ok (.lstore 6, 2) := by decide +kernel
theorem d1_6 : decode prog_86_method_9_code 6 = .ok (.lload_n 2, 1) := by decide +kernel
theorem d1_7 : decode prog_86_method_9_code 7 = .ok (.lload 4, 2) := by decide +kernel
theorem d1_9 : decode prog_86_method_9_code 9 = .ok (.lrem, 1) := by decide +kernel
theorem d1_10 : decode prog_86_method_9_code 10 = .ok (.lstore 8, 2) := by decide +kernel
theorem d1_12 : decode prog_86_method_9_code 12 = .ok (.lload 8, 2) := by decide +kernel
theorem d1_14 : decode prog_86_method_9_code 14 = .ok (.lload 6, 2) := by decide +kernel
theorem d1_16 : decode prog_86_method_9_code 16 = .ok (.lconst 1, 1) := by decide +kernel
theorem d1_17 : decode prog_86_method_9_code 17 = .ok (.ladd, 1) := by decide +kernel
theorem d1_18 : decode prog_86_method_9_code 18 = .ok (.lmul, 1) := by decide +kernel
theorem d1_19 : decode prog_86_method_9_code 19 = .ok (.lstore 10, 2) := by decide +kernel
theorem d1_21 : decode prog_86_method_9_code 21 = .ok (.lload_n 0, 1) := by decide +kernel
theorem d1_22 : decode prog_86_method_9_code 22 = .ok (.lload 10, 2) := by decide +kernel
theorem d1_24 : decode prog_86_method_9_code 24 = .ok (.lcmp, 1) := by decide +kernel
theorem d1_25 : decode prog_86_method_9_code 25 = .ok (.ifCond .ge 14, 3) := by decide +kernel
theorem d1_28 : decode prog_86_method_9_code 28 = .ok (.lload_n 0, 1) := by decide +kernel
theorem d1_29 : decode prog_86_method_9_code 29 = .ok (.lload 6, 2) := by decide +kernel
theorem d1_31 : decode prog_86_method_9_code 31 = .ok (.lconst 1, 1) := by decide +kernel
theorem d1_32 : decode prog_86_method_9_code 32 = .ok (.ladd, 1) := by decide +kernel
theorem d1_33 : decode prog_86_method_9_code 33 = .ok (.ldiv, 1) := by decide +kernel
theorem d1_34 : decode prog_86_method_9_code 34 = .ok (.lconst 1, 1) := by decide +kernel
theorem d1_35 : decode prog_86_method_9_code 35 = .ok (.ladd, 1) := by decide +kernel
theorem d1_36 : decode prog_86_method_9_code 36 = .ok (.goto 15, 3) := by decide +kernel
theorem d1_39 : decode prog_86_method_9_code 39 = .ok (.lload 8, 2) := by decide +kernel
theorem d1_41 : decode prog_86_method_9_code 41 = .ok (.lload_n 0, 1) := by decide +kernel
theorem d1_42 : decode prog_86_method_9_code 42 = .ok (.lload 10, 2) := by decide +kernel
theorem d1_44 : decode prog_86_method_9_code 44 = .ok (.lsub, 1) := by decide +kernel
theorem d1_45 : decode prog_86_method_9_code 45 = .ok (.lload 6, 2) := by decide +kernel
theorem d1_47 : decode prog_86_method_9_code 47 = .ok (.ldiv, 1) := by decide +kernel
theorem d1_48 : decode prog_86_method_9_code 48 = .ok (.ladd, 1) := by decide +kernel
theorem d1_49 : decode prog_86_method_9_code 49 = .ok (.lconst 1, 1) := by decide +kernel
theorem d1_50 : decode prog_86_method_9_code 50 = .ok (.ladd, 1) := by decide +kernel
theorem d1_51 : decode prog_86_method_9_code 51 = .ok (.lreturn, 1) := by decide +kernel
theorem pn_0 : plainName "com/example/rollcube/rollcube/engine/Windows" = true := by first | (simp [plainName, overriddenIn]; done) | decide +kernel
theorem ef_1 (m : MethodId) (x1_0 : Int64) (x1_1 : Int64) (x1_2 : Int64) : entryFrame m #[(.long x1_0), (.long x1_1), (.long x1_2)] 12 = mkF m 0 #[.val (.long x1_0), .second, .val (.long x1_1), .second, .val (.long x1_2), .second, .unset, .unset, .unset, .unset, .unset, .unset] [] := by first | (simp [entryFrame, mkF, argsToLocals, Value.category]; done) | rfl
def f1 (x1_0 : Int64) (x1_1 : Int64) (x1_2 : Int64) : Int64 := if x1_0 < ((x1_1 % x1_2) * ((x1_1 / x1_2) + (1 : Int64))) then ((x1_0 / ((x1_1 / x1_2) + (1 : Int64))) + (1 : Int64)) else (((x1_1 % x1_2) + ((x1_0 - ((x1_1 % x1_2) * ((x1_1 / x1_2) + (1 : Int64)))) / (x1_1 / x1_2))) + (1 : Int64))
def Q1 (Z : State) (x1_0 : Int64) (x1_1 : Int64) (x1_2 : Int64) (h0 : Heap) (n0 : Nat) (v : Option Value) (h : Heap) (L : List Loc) : Prop := v = some (.long (f1 x1_0 x1_1 x1_2)) ∧ Fr n0 L ∧ h = h0
set_option maxRecDepth 65536 in
set_option maxHeartbeats 40000000 in
theorem rm1 (l : Launch) (Z : State) (a0 : Array Value) (hw : ∀ d ∈ tables_1, d.before a0 Z = true) (ws : List Jvm.Cond) (x1_0 : Int64) (x1_1 : Int64) (x1_2 : Int64) (h0 : Heap) (n0 : Nat) (Z0 : n0 ≤ h0.size) (hT : ¬ (x1_2 = (0 : Int64))) (hrng : 0 ≤ x1_0.toInt ∧ x1_0.toInt < x1_1.toInt ∧ 0 < x1_2.toInt) :
    MetFree l (⟨"com/example/rollcube/rollcube/engine/Windows", "tile", "(JJJ)J"⟩ : MethodName) (head1 (Jvm.Cond.code (⟨"com/example/rollcube/rollcube/engine/Windows", "tile", "(JJJ)J"⟩ : MethodName) prog_86_method_9_code 12 (some .long) :: ws) ({ frames := 0, cells := 0, slots := 0, locals := 0 } : Room)) (fun a U => a = #[(.long x1_0), (.long x1_1), (.long x1_2)] ∧ Z.Warmed39 U.vm ∧ U.heap = h0) (fun _ _ _ _ _ => True) (fun _ U o U' => ∃ v L, o = .returned v ∧ Q1 Z x1_0 x1_1 x1_2 h0 n0 v U'.heap L ∧ FrameEnd U o U' L ({ frames := 0, cells := 0, slots := 0, locals := 0 } : Room).cells ({ frames := 0, cells := 0, slots := 0, locals := 0 } : Room).slots) := by
  refine MetFree.of_bodySF (plainFor_of_name pn_0) hisR ?_
  intro p e s m args below meth c s₁ Bd hml0 hP hK
  obtain ⟨rfl, hZ, hh⟩ := hP
  have hx := Bd.exec
  have hby := Bd.bytes
  have hml : c.maxLocals = 12 := hml0
  have hown : s.vm.findClass "com/example/rollcube/rollcube/engine/Windows" = some m.cls := findClass_of_methodNamed Bd.named
  have hnm := (name_of_methodNamed Bd.named Bd.method).1
  have X0 : Stand p l e ({ frames := 0, cells := 0, slots := 0, locals := 0 } : Room) s m #[(.long x1_0), (.long x1_1), (.long x1_2)] below meth c s₁ [] 0 0 := Stand.of_body Bd
  have e0 : s₁.heap = h0 := by rw [← hh, Bd.state]; rfl
  have N0 := Fr.nil n0
  have pre0 : ∀ t, Steps p.tables e below (s₁.setTop (mkF m 0 #[.val (.long x1_0), .second, .val (.long x1_1), .second, .val (.long x1_2), .second, .unset, .unset, .unset, .unset, .unset, .unset] [])) t → Steps p.tables e below (s₁.setTop (entryFrame m #[(.long x1_0), (.long x1_1), (.long x1_2)] 12)) t := fun t k => castTop (ef_1 m x1_0 x1_1 x1_2) k
  have sg1 : ∀ t, Steps p.tables e below (s₁.setTop (mkF m 25 #[.val (.long x1_0), .second, .val (.long x1_1), .second, .val (.long x1_2), .second, .val (.long (x1_1 / x1_2)), .second, .val (.long (x1_1 % x1_2)), .second, .val (.long ((x1_1 % x1_2) * ((x1_1 / x1_2) + (1 : Int64)))), .second] [(.int (lcmpW x1_0 ((x1_1 % x1_2) * ((x1_1 / x1_2) + (1 : Int64)))))])) t → Steps p.tables e below (s₁.setTop (mkF m 0 #[.val (.long x1_0), .second, .val (.long x1_1), .second, .val (.long x1_2), .second, .unset, .unset, .unset, .unset, .unset, .unset] [])) t := fun t kt => by
    show Steps p.tables e below (s₁.setTop (mkF m 0 #[.val (.long x1_0), .second, .val (.long x1_1), .second, .val (.long x1_2), .second, .unset, .unset, .unset, .unset, .unset, .unset] [])) _
    refine XS.lloadN X0.here hx rfl (hb hby d1_0) rfl ?_
    show Steps p.tables e below (s₁.setTop (mkF m 1 #[.val (.long x1_0), .second, .val (.long x1_1), .second, .val (.long x1_2), .second, .unset, .unset, .unset, .unset, .unset, .unset] [(.long x1_1)])) _
    refine XS.lload X0.here hx rfl (hb hby d1_1) rfl ?_
    show Steps p.tables e below (s₁.setTop (mkF m 3 #[.val (.long x1_0), .second, .val (.long x1_1), .second, .val (.long x1_2), .second, .unset, .unset, .unset, .unset, .unset, .unset] [(.long x1_2), (.long x1_1)])) _
    refine XS.ldiv X0.here hx rfl (hb hby d1_3) rfl hT ?_
    show Steps p.tables e below (s₁.setTop (mkF m 4 #[.val (.long x1_0), .second, .val (.long x1_1), .second, .val (.long x1_2), .second, .unset, .unset, .unset, .unset, .unset, .unset] [(.long (x1_1 / x1_2))])) _
    refine XS.lstore X0.here hx rfl (hb hby d1_4) rfl (l' := #[.val (.long x1_0), .second, .val (.long x1_1), .second, .val (.long x1_2), .second, .val (.long (x1_1 / x1_2)), .second, .unset, .unset, .unset, .unset]) rfl ?_
    show Steps p.tables e below (s₁.setTop (mkF m 6 #[.val (.long x1_0), .second, .val (.long x1_1), .second, .val (.long x1_2), .second, .val (.long (x1_1 / x1_2)), .second, .unset, .unset, .unset, .unset] [])) _
    refine XS.lloadN X0.here hx rfl (hb hby d1_6) rfl ?_
    show Steps p.tables e below (s₁.setTop (mkF m 7 #[.val (.long x1_0), .second, .val (.long x1_1), .second, .val (.long x1_2), .second, .val (.long (x1_1 / x1_2)), .second, .unset, .unset, .unset, .unset] [(.long x1_1)])) _
    refine XS.lload X0.here hx rfl (hb hby d1_7) rfl ?_
    show Steps p.tables e below (s₁.setTop (mkF m 9 #[.val (.long x1_0), .second, .val (.long x1_1), .second, .val (.long x1_2), .second, .val (.long (x1_1 / x1_2)), .second, .unset, .unset, .unset, .unset] [(.long x1_2), (.long x1_1)])) _
    refine lremM X0 hx rfl (hb hby d1_9) rfl hT ?_
    show Steps p.tables e below (s₁.setTop (mkF m 10 #[.val (.long x1_0), .second, .val (.long x1_1), .second, .val (.long x1_2), .second, .val (.long (x1_1 / x1_2)), .second, .unset, .unset, .unset, .unset] [(.long (x1_1 % x1_2))])) _
    refine XS.lstore X0.here hx rfl (hb hby d1_10) rfl (l' := #[.val (.long x1_0), .second, .val (.long x1_1), .second, .val (.long x1_2), .second, .val (.long (x1_1 / x1_2)), .second, .val (.long (x1_1 % x1_2)), .second, .unset, .unset]) rfl ?_
    show Steps p.tables e below (s₁.setTop (mkF m 12 #[.val (.long x1_0), .second, .val (.long x1_1), .second, .val (.long x1_2), .second, .val (.long (x1_1 / x1_2)), .second, .val (.long (x1_1 % x1_2)), .second, .unset, .unset] [])) _
    refine XS.lload X0.here hx rfl (hb hby d1_12) rfl ?_
    show Steps p.tables e below (s₁.setTop (mkF m 14 #[.val (.long x1_0), .second, .val (.long x1_1), .second, .val (.long x1_2), .second, .val (.long (x1_1 / x1_2)), .second, .val (.long (x1_1 % x1_2)), .second, .unset, .unset] [(.long (x1_1 % x1_2))])) _
    refine XS.lload X0.here hx rfl (hb hby d1_14) rfl ?_
    show Steps p.tables e below (s₁.setTop (mkF m 16 #[.val (.long x1_0), .second, .val (.long x1_1), .second, .val (.long x1_2), .second, .val (.long (x1_1 / x1_2)), .second, .val (.long (x1_1 % x1_2)), .second, .unset, .unset] [(.long (x1_1 / x1_2)), (.long (x1_1 % x1_2))])) _
    refine XS.lconst X0.here hx rfl (hb hby d1_16) ?_
    show Steps p.tables e below (s₁.setTop (mkF m 17 #[.val (.long x1_0), .second, .val (.long x1_1), .second, .val (.long x1_2), .second, .val (.long (x1_1 / x1_2)), .second, .val (.long (x1_1 % x1_2)), .second, .unset, .unset] [(.long (1 : Int64)), (.long (x1_1 / x1_2)), (.long (x1_1 % x1_2))])) _
    refine XS.ladd X0.here hx rfl (hb hby d1_17) rfl ?_
    show Steps p.tables e below (s₁.setTop (mkF m 18 #[.val (.long x1_0), .second, .val (.long x1_1), .second, .val (.long x1_2), .second, .val (.long (x1_1 / x1_2)), .second, .val (.long (x1_1 % x1_2)), .second, .unset, .unset] [(.long ((x1_1 / x1_2) + (1 : Int64))), (.long (x1_1 % x1_2))])) _
    refine XS.lmul X0.here hx rfl (hb hby d1_18) rfl ?_
    show Steps p.tables e below (s₁.setTop (mkF m 19 #[.val (.long x1_0), .second, .val (.long x1_1), .second, .val (.long x1_2), .second, .val (.long (x1_1 / x1_2)), .second, .val (.long (x1_1 % x1_2)), .second, .unset, .unset] [(.long ((x1_1 % x1_2) * ((x1_1 / x1_2) + (1 : Int64))))])) _
    refine XS.lstore X0.here hx rfl (hb hby d1_19) rfl (l' := #[.val (.long x1_0), .second, .val (.long x1_1), .second, .val (.long x1_2), .second, .val (.long (x1_1 / x1_2)), .second, .val (.long (x1_1 % x1_2)), .second, .val (.long ((x1_1 % x1_2) * ((x1_1 / x1_2) + (1 : Int64)))), .second]) rfl ?_
    show Steps p.tables e below (s₁.setTop (mkF m 21 #[.val (.long x1_0), .second, .val (.long x1_1), .second, .val (.long x1_2), .second, .val (.long (x1_1 / x1_2)), .second, .val (.long (x1_1 % x1_2)), .second, .val (.long ((x1_1 % x1_2) * ((x1_1 / x1_2) + (1 : Int64)))), .second] [])) _
    refine XS.lloadN X0.here hx rfl (hb hby d1_21) rfl ?_
    show Steps p.tables e below (s₁.setTop (mkF m 22 #[.val (.long x1_0), .second, .val (.long x1_1), .second, .val (.long x1_2), .second, .val (.long (x1_1 / x1_2)), .second, .val (.long (x1_1 % x1_2)), .second, .val (.long ((x1_1 % x1_2) * ((x1_1 / x1_2) + (1 : Int64)))), .second] [(.long x1_0)])) _
    refine XS.lload X0.here hx rfl (hb hby d1_22) rfl ?_
    show Steps p.tables e below (s₁.setTop (mkF m 24 #[.val (.long x1_0), .second, .val (.long x1_1), .second, .val (.long x1_2), .second, .val (.long (x1_1 / x1_2)), .second, .val (.long (x1_1 % x1_2)), .second, .val (.long ((x1_1 % x1_2) * ((x1_1 / x1_2) + (1 : Int64)))), .second] [(.long ((x1_1 % x1_2) * ((x1_1 / x1_2) + (1 : Int64)))), (.long x1_0)])) _
    refine XS.lcmp X0.here hx rfl (hb hby d1_24) rfl ?_
    exact kt
  by_cases hc25_2 : x1_0 < ((x1_1 % x1_2) * ((x1_1 / x1_2) + (1 : Int64)))
  · obtain ⟨fs, hr, hrun, hended, hW, hsame⟩ := X0.leave (v := some (.long ((x1_0 / ((x1_1 / x1_2) + (1 : Int64))) + (1 : Int64)))) (fun h => by rw [Bd.returns] at h; cases h)
    refine ⟨_, _, pre0 _ (sg1 _ ?_), hrun, hended, _, _, rfl, ?_, ⟨_, rfl⟩, hW, hsame.mono (by decide) (by decide)⟩
    · show Steps p.tables e below (s₁.setTop (mkF m 25 #[.val (.long x1_0), .second, .val (.long x1_1), .second, .val (.long x1_2), .second, .val (.long (x1_1 / x1_2)), .second, .val (.long (x1_1 % x1_2)), .second, .val (.long ((x1_1 % x1_2) * ((x1_1 / x1_2) + (1 : Int64)))), .second] [(.int (lcmpW x1_0 ((x1_1 % x1_2) * ((x1_1 / x1_2) + (1 : Int64)))))])) _
      refine XS.ifNo X0.here hx rfl (hb hby d1_25) rfl ((if0 _ _).trans (tlt ((lw_lt _ _).mpr hc25_2)).2.1) ?_
      show Steps p.tables e below (s₁.setTop (mkF m 28 #[.val (.long x1_0), .second, .val (.long x1_1), .second, .val (.long x1_2), .second, .val (.long (x1_1 / x1_2)), .second, .val (.long (x1_1 % x1_2)), .second, .val (.long ((x1_1 % x1_2) * ((x1_1 / x1_2) + (1 : Int64)))), .second] [])) _
      refine XS.lloadN X0.here hx rfl (hb hby d1_28) rfl ?_
      show Steps p.tables e below (s₁.setTop (mkF m 29 #[.val (.long x1_0), .second, .val (.long x1_1), .second, .val (.long x1_2), .second, .val (.long (x1_1 / x1_2)), .second, .val (.long (x1_1 % x1_2)), .second, .val (.long ((x1_1 % x1_2) * ((x1_1 / x1_2) + (1 : Int64)))), .second] [(.long x1_0)])) _
      refine XS.lload X0.here hx rfl (hb hby d1_29) rfl ?_
      show Steps p.tables e below (s₁.setTop (mkF m 31 #[.val (.long x1_0), .second, .val (.long x1_1), .second, .val (.long x1_2), .second, .val (.long (x1_1 / x1_2)), .second, .val (.long (x1_1 % x1_2)), .second, .val (.long ((x1_1 % x1_2) * ((x1_1 / x1_2) + (1 : Int64)))), .second] [(.long (x1_1 / x1_2)), (.long x1_0)])) _
      refine XS.lconst X0.here hx rfl (hb hby d1_31) ?_
      show Steps p.tables e below (s₁.setTop (mkF m 32 #[.val (.long x1_0), .second, .val (.long x1_1), .second, .val (.long x1_2), .second, .val (.long (x1_1 / x1_2)), .second, .val (.long (x1_1 % x1_2)), .second, .val (.long ((x1_1 % x1_2) * ((x1_1 / x1_2) + (1 : Int64)))), .second] [(.long (1 : Int64)), (.long (x1_1 / x1_2)), (.long x1_0)])) _
      refine XS.ladd X0.here hx rfl (hb hby d1_32) rfl ?_
      show Steps p.tables e below (s₁.setTop (mkF m 33 #[.val (.long x1_0), .second, .val (.long x1_1), .second, .val (.long x1_2), .second, .val (.long (x1_1 / x1_2)), .second, .val (.long (x1_1 % x1_2)), .second, .val (.long ((x1_1 % x1_2) * ((x1_1 / x1_2) + (1 : Int64)))), .second] [(.long ((x1_1 / x1_2) + (1 : Int64))), (.long x1_0)])) _
      refine XS.ldiv X0.here hx rfl (hb hby d1_33) rfl (own_q1 x1_1 x1_2 ⟨Int.le_of_lt (Int.lt_of_le_of_lt hrng.1 hrng.2.1), hrng.2.2⟩) ?_
      show Steps p.tables e below (s₁.setTop (mkF m 34 #[.val (.long x1_0), .second, .val (.long x1_1), .second, .val (.long x1_2), .second, .val (.long (x1_1 / x1_2)), .second, .val (.long (x1_1 % x1_2)), .second, .val (.long ((x1_1 % x1_2) * ((x1_1 / x1_2) + (1 : Int64)))), .second] [(.long (x1_0 / ((x1_1 / x1_2) + (1 : Int64))))])) _
      refine XS.lconst X0.here hx rfl (hb hby d1_34) ?_
      show Steps p.tables e below (s₁.setTop (mkF m 35 #[.val (.long x1_0), .second, .val (.long x1_1), .second, .val (.long x1_2), .second, .val (.long (x1_1 / x1_2)), .second, .val (.long (x1_1 % x1_2)), .second, .val (.long ((x1_1 % x1_2) * ((x1_1 / x1_2) + (1 : Int64)))), .second] [(.long (1 : Int64)), (.long (x1_0 / ((x1_1 / x1_2) + (1 : Int64))))])) _
      refine XS.ladd X0.here hx rfl (hb hby d1_35) rfl ?_
      show Steps p.tables e below (s₁.setTop (mkF m 36 #[.val (.long x1_0), .second, .val (.long x1_1), .second, .val (.long x1_2), .second, .val (.long (x1_1 / x1_2)), .second, .val (.long (x1_1 % x1_2)), .second, .val (.long ((x1_1 % x1_2) * ((x1_1 / x1_2) + (1 : Int64)))), .second] [(.long ((x1_0 / ((x1_1 / x1_2) + (1 : Int64))) + (1 : Int64)))])) _
      refine XS.goto X0.here hx rfl (pc0 := 36) (pc' := 51) rfl (hb hby d1_36) (by decide) (by decide) ?_
      show Steps p.tables e below (s₁.setTop (mkF m 51 #[.val (.long x1_0), .second, .val (.long x1_1), .second, .val (.long x1_2), .second, .val (.long (x1_1 / x1_2)), .second, .val (.long (x1_1 % x1_2)), .second, .val (.long ((x1_1 % x1_2) * ((x1_1 / x1_2) + (1 : Int64)))), .second] [(.long ((x1_0 / ((x1_1 / x1_2) + (1 : Int64))) + (1 : Int64)))])) _
      exact retOut X0 hx Bd.returns rfl (Or.inr (Or.inl ⟨rfl, rfl, _, rfl⟩)) (hb hby d1_51) hr
    · exact ⟨congrArg (fun z => some (Value.long z)) (show ((x1_0 / ((x1_1 / x1_2) + (1 : Int64))) + (1 : Int64)) = f1 x1_0 x1_1 x1_2 from by unfold f1; rw [if_pos hc25_2]), N0, e0⟩
  · obtain ⟨fs, hr, hrun, hended, hW, hsame⟩ := X0.leave (v := some (.long (((x1_1 % x1_2) + ((x1_0 - ((x1_1 % x1_2) * ((x1_1 / x1_2) + (1 : Int64)))) / (x1_1 / x1_2))) + (1 : Int64)))) (fun h => by rw [Bd.returns] at h; cases h)
    refine ⟨_, _, pre0 _ (sg1 _ ?_), hrun, hended, _, _, rfl, ?_, ⟨_, rfl⟩, hW, hsame.mono (by decide) (by decide)⟩
    · show Steps p.tables e below (s₁.setTop (mkF m 25 #[.val (.long x1_0), .second, .val (.long x1_1), .second, .val (.long x1_2), .second, .val (.long (x1_1 / x1_2)), .second, .val (.long (x1_1 % x1_2)), .second, .val (.long ((x1_1 % x1_2) * ((x1_1 / x1_2) + (1 : Int64)))), .second] [(.int (lcmpW x1_0 ((x1_1 % x1_2) * ((x1_1 / x1_2) + (1 : Int64)))))])) _
      refine XS.ifYes X0.here hx rfl (pc0 := 25) (pc' := 39) rfl (hb hby d1_25) rfl ((if0 _ _).trans (flt (mt (lw_lt _ _).mp hc25_2)).2.1) (by decide) (by decide) ?_
      show Steps p.tables e below (s₁.setTop (mkF m 39 #[.val (.long x1_0), .second, .val (.long x1_1), .second, .val (.long x1_2), .second, .val (.long (x1_1 / x1_2)), .second, .val (.long (x1_1 % x1_2)), .second, .val (.long ((x1_1 % x1_2) * ((x1_1 / x1_2) + (1 : Int64)))), .second] [])) _
      refine XS.lload X0.here hx rfl (hb hby d1_39) rfl ?_
      show Steps p.tables e below (s₁.setTop (mkF m 41 #[.val (.long x1_0), .second, .val (.long x1_1), .second, .val (.long x1_2), .second, .val (.long (x1_1 / x1_2)), .second, .val (.long (x1_1 % x1_2)), .second, .val (.long ((x1_1 % x1_2) * ((x1_1 / x1_2) + (1 : Int64)))), .second] [(.long (x1_1 % x1_2))])) _
      refine XS.lloadN X0.here hx rfl (hb hby d1_41) rfl ?_
      show Steps p.tables e below (s₁.setTop (mkF m 42 #[.val (.long x1_0), .second, .val (.long x1_1), .second, .val (.long x1_2), .second, .val (.long (x1_1 / x1_2)), .second, .val (.long (x1_1 % x1_2)), .second, .val (.long ((x1_1 % x1_2) * ((x1_1 / x1_2) + (1 : Int64)))), .second] [(.long x1_0), (.long (x1_1 % x1_2))])) _
      refine XS.lload X0.here hx rfl (hb hby d1_42) rfl ?_
      show Steps p.tables e below (s₁.setTop (mkF m 44 #[.val (.long x1_0), .second, .val (.long x1_1), .second, .val (.long x1_2), .second, .val (.long (x1_1 / x1_2)), .second, .val (.long (x1_1 % x1_2)), .second, .val (.long ((x1_1 % x1_2) * ((x1_1 / x1_2) + (1 : Int64)))), .second] [(.long ((x1_1 % x1_2) * ((x1_1 / x1_2) + (1 : Int64)))), (.long x1_0), (.long (x1_1 % x1_2))])) _
      refine XS.lsub X0.here hx rfl (hb hby d1_44) rfl ?_
      show Steps p.tables e below (s₁.setTop (mkF m 45 #[.val (.long x1_0), .second, .val (.long x1_1), .second, .val (.long x1_2), .second, .val (.long (x1_1 / x1_2)), .second, .val (.long (x1_1 % x1_2)), .second, .val (.long ((x1_1 % x1_2) * ((x1_1 / x1_2) + (1 : Int64)))), .second] [(.long (x1_0 - ((x1_1 % x1_2) * ((x1_1 / x1_2) + (1 : Int64))))), (.long (x1_1 % x1_2))])) _
      refine XS.lload X0.here hx rfl (hb hby d1_45) rfl ?_
      show Steps p.tables e below (s₁.setTop (mkF m 47 #[.val (.long x1_0), .second, .val (.long x1_1), .second, .val (.long x1_2), .second, .val (.long (x1_1 / x1_2)), .second, .val (.long (x1_1 % x1_2)), .second, .val (.long ((x1_1 % x1_2) * ((x1_1 / x1_2) + (1 : Int64)))), .second] [(.long (x1_1 / x1_2)), (.long (x1_0 - ((x1_1 % x1_2) * ((x1_1 / x1_2) + (1 : Int64))))), (.long (x1_1 % x1_2))])) _
      refine XS.ldiv X0.here hx rfl (hb hby d1_47) rfl (own_q0 x1_0 x1_1 x1_2 hrng hc25_2) ?_
      show Steps p.tables e below (s₁.setTop (mkF m 48 #[.val (.long x1_0), .second, .val (.long x1_1), .second, .val (.long x1_2), .second, .val (.long (x1_1 / x1_2)), .second, .val (.long (x1_1 % x1_2)), .second, .val (.long ((x1_1 % x1_2) * ((x1_1 / x1_2) + (1 : Int64)))), .second] [(.long ((x1_0 - ((x1_1 % x1_2) * ((x1_1 / x1_2) + (1 : Int64)))) / (x1_1 / x1_2))), (.long (x1_1 % x1_2))])) _
      refine XS.ladd X0.here hx rfl (hb hby d1_48) rfl ?_
      show Steps p.tables e below (s₁.setTop (mkF m 49 #[.val (.long x1_0), .second, .val (.long x1_1), .second, .val (.long x1_2), .second, .val (.long (x1_1 / x1_2)), .second, .val (.long (x1_1 % x1_2)), .second, .val (.long ((x1_1 % x1_2) * ((x1_1 / x1_2) + (1 : Int64)))), .second] [(.long ((x1_1 % x1_2) + ((x1_0 - ((x1_1 % x1_2) * ((x1_1 / x1_2) + (1 : Int64)))) / (x1_1 / x1_2))))])) _
      refine XS.lconst X0.here hx rfl (hb hby d1_49) ?_
      show Steps p.tables e below (s₁.setTop (mkF m 50 #[.val (.long x1_0), .second, .val (.long x1_1), .second, .val (.long x1_2), .second, .val (.long (x1_1 / x1_2)), .second, .val (.long (x1_1 % x1_2)), .second, .val (.long ((x1_1 % x1_2) * ((x1_1 / x1_2) + (1 : Int64)))), .second] [(.long (1 : Int64)), (.long ((x1_1 % x1_2) + ((x1_0 - ((x1_1 % x1_2) * ((x1_1 / x1_2) + (1 : Int64)))) / (x1_1 / x1_2))))])) _
      refine XS.ladd X0.here hx rfl (hb hby d1_50) rfl ?_
      show Steps p.tables e below (s₁.setTop (mkF m 51 #[.val (.long x1_0), .second, .val (.long x1_1), .second, .val (.long x1_2), .second, .val (.long (x1_1 / x1_2)), .second, .val (.long (x1_1 % x1_2)), .second, .val (.long ((x1_1 % x1_2) * ((x1_1 / x1_2) + (1 : Int64)))), .second] [(.long (((x1_1 % x1_2) + ((x1_0 - ((x1_1 % x1_2) * ((x1_1 / x1_2) + (1 : Int64)))) / (x1_1 / x1_2))) + (1 : Int64)))])) _
      exact retOut X0 hx Bd.returns rfl (Or.inr (Or.inl ⟨rfl, rfl, _, rfl⟩)) (hb hby d1_51) hr
    · exact ⟨congrArg (fun z => some (Value.long z)) (show (((x1_1 % x1_2) + ((x1_0 - ((x1_1 % x1_2) * ((x1_1 / x1_2) + (1 : Int64)))) / (x1_1 / x1_2))) + (1 : Int64)) = f1 x1_0 x1_1 x1_2 from by unfold f1; rw [if_neg hc25_2]), N0, e0⟩
theorem d3_0 : decode jdk_29_method_70_code 0 = .ok (.lload_n 0, 1) := by decide +kernel
theorem d3_1 : decode jdk_29_method_70_code 1 = .ok (.lload_n 2, 1) := by decide +kernel
theorem d3_2 : decode jdk_29_method_70_code 2 = .ok (.lcmp, 1) := by decide +kernel
theorem d3_3 : decode jdk_29_method_70_code 3 = .ok (.ifCond .gt 7, 3) := by decide +kernel
theorem d3_6 : decode jdk_29_method_70_code 6 = .ok (.lload_n 0, 1) := by decide +kernel
theorem d3_7 : decode jdk_29_method_70_code 7 = .ok (.goto 4, 3) := by decide +kernel
theorem d3_10 : decode jdk_29_method_70_code 10 = .ok (.lload_n 2, 1) := by decide +kernel
theorem d3_11 : decode jdk_29_method_70_code 11 = .ok (.lreturn, 1) := by decide +kernel
theorem ef_3 (m : MethodId) (x3_0 : Int64) (x3_1 : Int64) : entryFrame m #[(.long x3_0), (.long x3_1)] 4 = mkF m 0 #[.val (.long x3_0), .second, .val (.long x3_1), .second] [] := by first | (simp [entryFrame, mkF, argsToLocals, Value.category]; done) | rfl
def f3 (x3_0 : Int64) (x3_1 : Int64) : Int64 := if x3_1 < x3_0 then x3_1 else x3_0
def Q3 (Z : State) (x3_0 : Int64) (x3_1 : Int64) (h0 : Heap) (n0 : Nat) (v : Option Value) (h : Heap) (L : List Loc) : Prop := v = some (.long (f3 x3_0 x3_1)) ∧ Fr n0 L ∧ h = h0
set_option maxRecDepth 65536 in
set_option maxHeartbeats 40000000 in
theorem rm3 (l : Launch) (Z : State) (a0 : Array Value) (hw : ∀ d ∈ tables_1, d.before a0 Z = true) (ws : List Jvm.Cond) (x3_0 : Int64) (x3_1 : Int64) (h0 : Heap) (n0 : Nat) (Z0 : n0 ≤ h0.size) :
    MetFree l (⟨"java/lang/Math", "min", "(JJ)J"⟩ : MethodName) (head1 (Jvm.Cond.code (⟨"java/lang/Math", "min", "(JJ)J"⟩ : MethodName) jdk_29_method_70_code 4 (some .long) :: ws) ({ frames := 0, cells := 0, slots := 0, locals := 0 } : Room)) (fun a U => a = #[(.long x3_0), (.long x3_1)] ∧ Z.Warmed39 U.vm ∧ U.heap = h0) (fun _ _ _ _ _ => True) (fun _ U o U' => ∃ v L, o = .returned v ∧ Q3 Z x3_0 x3_1 h0 n0 v U'.heap L ∧ FrameEnd U o U' L ({ frames := 0, cells := 0, slots := 0, locals := 0 } : Room).cells ({ frames := 0, cells := 0, slots := 0, locals := 0 } : Room).slots) := by
  refine MetFree.of_bodySF (Jvm.Free.JP.mathPlain rfl (by decide +kernel)) hisR ?_
  intro p e s m args below meth c s₁ Bd hml0 hP hK
  obtain ⟨rfl, hZ, hh⟩ := hP
  have hx := Bd.exec
  have hby := Bd.bytes
  have hml : c.maxLocals = 4 := hml0
  have hown : s.vm.findClass "java/lang/Math" = some m.cls := findClass_of_methodNamed Bd.named
  have hnm := (name_of_methodNamed Bd.named Bd.method).1
  have X0 : Stand p l e ({ frames := 0, cells := 0, slots := 0, locals := 0 } : Room) s m #[(.long x3_0), (.long x3_1)] below meth c s₁ [] 0 0 := Stand.of_body Bd
  have e0 : s₁.heap = h0 := by rw [← hh, Bd.state]; rfl
  have N0 := Fr.nil n0
  have pre0 : ∀ t, Steps p.tables e below (s₁.setTop (mkF m 0 #[.val (.long x3_0), .second, .val (.long x3_1), .second] [])) t → Steps p.tables e below (s₁.setTop (entryFrame m #[(.long x3_0), (.long x3_1)] 4)) t := fun t k => castTop (ef_3 m x3_0 x3_1) k
  have sg1 : ∀ t, Steps p.tables e below (s₁.setTop (mkF m 3 #[.val (.long x3_0), .second, .val (.long x3_1), .second] [(.int (lcmpW x3_0 x3_1))])) t → Steps p.tables e below (s₁.setTop (mkF m 0 #[.val (.long x3_0), .second, .val (.long x3_1), .second] [])) t := fun t kt => by
    show Steps p.tables e below (s₁.setTop (mkF m 0 #[.val (.long x3_0), .second, .val (.long x3_1), .second] [])) _
    refine XS.lloadN X0.here hx rfl (hb hby d3_0) rfl ?_
    show Steps p.tables e below (s₁.setTop (mkF m 1 #[.val (.long x3_0), .second, .val (.long x3_1), .second] [(.long x3_0)])) _
    refine XS.lloadN X0.here hx rfl (hb hby d3_1) rfl ?_
    show Steps p.tables e below (s₁.setTop (mkF m 2 #[.val (.long x3_0), .second, .val (.long x3_1), .second] [(.long x3_1), (.long x3_0)])) _
    refine XS.lcmp X0.here hx rfl (hb hby d3_2) rfl ?_
    exact kt
  by_cases hc3_2 : x3_1 < x3_0
  · obtain ⟨fs, hr, hrun, hended, hW, hsame⟩ := X0.leave (v := some (.long x3_1)) (fun h => by rw [Bd.returns] at h; cases h)
    refine ⟨_, _, pre0 _ (sg1 _ ?_), hrun, hended, _, _, rfl, ?_, ⟨_, rfl⟩, hW, hsame.mono (by decide) (by decide)⟩
    · show Steps p.tables e below (s₁.setTop (mkF m 3 #[.val (.long x3_0), .second, .val (.long x3_1), .second] [(.int (lcmpW x3_0 x3_1))])) _
      refine XS.ifYes X0.here hx rfl (pc0 := 3) (pc' := 10) rfl (hb hby d3_3) rfl ((if0 _ _).trans (tlt ((lw_gt _ _).mpr hc3_2)).2.2.1) (by decide) (by decide) ?_
      show Steps p.tables e below (s₁.setTop (mkF m 10 #[.val (.long x3_0), .second, .val (.long x3_1), .second] [])) _
      refine XS.lloadN X0.here hx rfl (hb hby d3_10) rfl ?_
      show Steps p.tables e below (s₁.setTop (mkF m 11 #[.val (.long x3_0), .second, .val (.long x3_1), .second] [(.long x3_1)])) _
      exact retOut X0 hx Bd.returns rfl (Or.inr (Or.inl ⟨rfl, rfl, _, rfl⟩)) (hb hby d3_11) hr
    · exact ⟨congrArg (fun z => some (Value.long z)) (show x3_1 = f3 x3_0 x3_1 from by unfold f3; rw [if_pos hc3_2]), N0, e0⟩
  · obtain ⟨fs, hr, hrun, hended, hW, hsame⟩ := X0.leave (v := some (.long x3_0)) (fun h => by rw [Bd.returns] at h; cases h)
    refine ⟨_, _, pre0 _ (sg1 _ ?_), hrun, hended, _, _, rfl, ?_, ⟨_, rfl⟩, hW, hsame.mono (by decide) (by decide)⟩
    · show Steps p.tables e below (s₁.setTop (mkF m 3 #[.val (.long x3_0), .second, .val (.long x3_1), .second] [(.int (lcmpW x3_0 x3_1))])) _
      refine XS.ifNo X0.here hx rfl (hb hby d3_3) rfl ((if0 _ _).trans (flt (mt (lw_gt _ _).mp hc3_2)).2.2.1) ?_
      show Steps p.tables e below (s₁.setTop (mkF m 6 #[.val (.long x3_0), .second, .val (.long x3_1), .second] [])) _
      refine XS.lloadN X0.here hx rfl (hb hby d3_6) rfl ?_
      show Steps p.tables e below (s₁.setTop (mkF m 7 #[.val (.long x3_0), .second, .val (.long x3_1), .second] [(.long x3_0)])) _
      refine XS.goto X0.here hx rfl (pc0 := 7) (pc' := 11) rfl (hb hby d3_7) (by decide) (by decide) ?_
      show Steps p.tables e below (s₁.setTop (mkF m 11 #[.val (.long x3_0), .second, .val (.long x3_1), .second] [(.long x3_0)])) _
      exact retOut X0 hx Bd.returns rfl (Or.inr (Or.inl ⟨rfl, rfl, _, rfl⟩)) (hb hby d3_11) hr
    · exact ⟨congrArg (fun z => some (Value.long z)) (show x3_0 = f3 x3_0 x3_1 from by unfold f3; rw [if_neg hc3_2]), N0, e0⟩
theorem pd_0 : parseMethodDescriptor "(JJ)J" = some ⟨[.long, .long], some .long⟩ := by decide +kernel
theorem d2_0 : decode method_2_code 0 = .ok (.lload_n 0, 1) := by decide +kernel
theorem d2_1 : decode method_2_code 1 = .ok (.lload_n 2, 1) := by decide +kernel
theorem d2_2 : decode method_2_code 2 = .ok (.lmul, 1) := by decide +kernel
theorem d2_3 : decode method_2_code 3 = .ok (.lload_n 0, 1) := by decide +kernel
theorem d2_4 : decode method_2_code 4 = .ok (.lload 4, 2) := by decide +kernel
theorem d2_6 : decode method_2_code 6 = .ok (.invokestatic 7, 3) := by decide +kernel
theorem d2_9 : decode method_2_code 9 = .ok (.ladd, 1) := by decide +kernel
theorem d2_10 : decode method_2_code 10 = .ok (.lreturn, 1) := by decide +kernel
theorem pn_1 : plainName "com/example/rollcube/rollcube/engine/WindowsTilePinLaw" = true := by first | (simp [plainName, overriddenIn]; done) | decide +kernel
theorem ef_2 (m : MethodId) (x2_0 : Int64) (x2_1 : Int64) (x2_2 : Int64) : entryFrame m #[(.long x2_0), (.long x2_1), (.long x2_2)] 6 = mkF m 0 #[.val (.long x2_0), .second, .val (.long x2_1), .second, .val (.long x2_2), .second] [] := by first | (simp [entryFrame, mkF, argsToLocals, Value.category]; done) | rfl
def f2 (x2_0 : Int64) (x2_1 : Int64) (x2_2 : Int64) : Int64 := ((x2_0 * x2_1) + (f3 x2_0 x2_2))
def Q2 (Z : State) (x2_0 : Int64) (x2_1 : Int64) (x2_2 : Int64) (h0 : Heap) (n0 : Nat) (v : Option Value) (h : Heap) (L : List Loc) : Prop := v = some (.long (f2 x2_0 x2_1 x2_2)) ∧ Fr n0 L ∧ h = h0
set_option maxRecDepth 65536 in
set_option maxHeartbeats 40000000 in
theorem rm2 (l : Launch) (Z : State) (a0 : Array Value) (hw : ∀ d ∈ tables_1, d.before a0 Z = true) (ws : List Jvm.Cond) (x2_0 : Int64) (x2_1 : Int64) (x2_2 : Int64) (h0 : Heap) (n0 : Nat) (Z0 : n0 ≤ h0.size) :
    MetFree l (⟨"com/example/rollcube/rollcube/engine/WindowsTilePinLaw", "rowsBefore", "(JJJ)J"⟩ : MethodName) (head1 (Jvm.Cond.code (⟨"com/example/rollcube/rollcube/engine/WindowsTilePinLaw", "rowsBefore", "(JJJ)J"⟩ : MethodName) method_2_code 6 (some .long) :: ws) ({ frames := 1, cells := 0, slots := 0, locals := 17 } : Room)) (fun a U => a = #[(.long x2_0), (.long x2_1), (.long x2_2)] ∧ Z.Warmed39 U.vm ∧ U.heap = h0) (fun _ _ _ _ _ => True) (fun _ U o U' => ∃ v L, o = .returned v ∧ Q2 Z x2_0 x2_1 x2_2 h0 n0 v U'.heap L ∧ FrameEnd U o U' L ({ frames := 1, cells := 0, slots := 0, locals := 17 } : Room).cells ({ frames := 1, cells := 0, slots := 0, locals := 17 } : Room).slots) := by
  refine MetFree.of_bodySF (plainFor_of_name pn_1) hisR ?_
  intro p e s m args below meth c s₁ Bd hml0 hP hK
  obtain ⟨rfl, hZ, hh⟩ := hP
  have hx := Bd.exec
  have hby := Bd.bytes
  have hml : c.maxLocals = 6 := hml0
  have hown : s.vm.findClass "com/example/rollcube/rollcube/engine/WindowsTilePinLaw" = some m.cls := findClass_of_methodNamed Bd.named
  have hnm := (name_of_methodNamed Bd.named Bd.method).1
  have X0 : Stand p l e ({ frames := 1, cells := 0, slots := 0, locals := 17 } : Room) s m #[(.long x2_0), (.long x2_1), (.long x2_2)] below meth c s₁ [] 0 0 := Stand.of_body Bd
  have e0 : s₁.heap = h0 := by rw [← hh, Bd.state]; rfl
  have N0 := Fr.nil n0
  have pre0 : ∀ t, Steps p.tables e below (s₁.setTop (mkF m 0 #[.val (.long x2_0), .second, .val (.long x2_1), .second, .val (.long x2_2), .second] [])) t → Steps p.tables e below (s₁.setTop (entryFrame m #[(.long x2_0), (.long x2_1), (.long x2_2)] 6)) t := fun t k => castTop (ef_2 m x2_0 x2_1 x2_2) k
  have sg2 : ∀ t, Steps p.tables e below (s₁.setTop (mkF m 6 #[.val (.long x2_0), .second, .val (.long x2_1), .second, .val (.long x2_2), .second] [(.long x2_2), (.long x2_0), (.long (x2_0 * x2_1))])) t → Steps p.tables e below (s₁.setTop (mkF m 0 #[.val (.long x2_0), .second, .val (.long x2_1), .second, .val (.long x2_2), .second] [])) t := fun t kt => by
    show Steps p.tables e below (s₁.setTop (mkF m 0 #[.val (.long x2_0), .second, .val (.long x2_1), .second, .val (.long x2_2), .second] [])) _
    refine XS.lloadN X0.here hx rfl (hb hby d2_0) rfl ?_
    show Steps p.tables e below (s₁.setTop (mkF m 1 #[.val (.long x2_0), .second, .val (.long x2_1), .second, .val (.long x2_2), .second] [(.long x2_0)])) _
    refine XS.lloadN X0.here hx rfl (hb hby d2_1) rfl ?_
    show Steps p.tables e below (s₁.setTop (mkF m 2 #[.val (.long x2_0), .second, .val (.long x2_1), .second, .val (.long x2_2), .second] [(.long x2_1), (.long x2_0)])) _
    refine XS.lmul X0.here hx rfl (hb hby d2_2) rfl ?_
    show Steps p.tables e below (s₁.setTop (mkF m 3 #[.val (.long x2_0), .second, .val (.long x2_1), .second, .val (.long x2_2), .second] [(.long (x2_0 * x2_1))])) _
    refine XS.lloadN X0.here hx rfl (hb hby d2_3) rfl ?_
    show Steps p.tables e below (s₁.setTop (mkF m 4 #[.val (.long x2_0), .second, .val (.long x2_1), .second, .val (.long x2_2), .second] [(.long x2_0), (.long (x2_0 * x2_1))])) _
    refine XS.lload X0.here hx rfl (hb hby d2_4) rfl ?_
    exact kt
  obtain ⟨v1, _, ⟨T1, L1, k1, n1⟩, -, X1, ⟨Lc1, hQ1, l1, y1, z1⟩, st1⟩ := Jvm.LawKit.callS X0 hx (y := (⟨"java/lang/Math", "min", "(JJ)J"⟩ : MethodName)) hown (mvT hZ (hw _ (List.mem_of_getElem? (i := 9) rfl))) (mvT hZ (hw _ (List.mem_of_getElem? (i := 10) rfl))) (mvT hZ (hw _ (List.mem_of_getElem? (i := 11) rfl))) (mvT hZ (hw _ (List.mem_of_getElem? (i := 12) rfl))) (by decide) (backOf (W := 2) (rm3 l Z a0 hw [] x2_0 x2_2 h0 n0 Z0) hZ (hw _ (List.mem_of_getElem? (i := 12) rfl)) (hw _ (List.mem_of_getElem? (i := 11) rfl)) (by decide) (by decide)) (g := (mkF m 6 #[.val (.long x2_0), .second, .val (.long x2_1), .second, .val (.long x2_2), .second] [(.long x2_2), (.long x2_0), (.long (x2_0 * x2_1))])) rfl (by rw [hml]; rfl) (argsL := [(.long x2_0), (.long x2_2)]) (rest := [(.long (x2_0 * x2_1))]) (lenOf pd_0 rfl) rfl (by show 2 * 0 + _ ≤ _; exact Nat.le_of_eq rfl) (hb hby d2_6) (fun _ _ => ⟨rfl, e0, (by decide : 0 + 0 ≤ _), (by decide : 0 + 0 ≤ _)⟩)
  dsimp only [Pt.U, Pt.locs, Pt.cells, Pt.slots] at X1 l1 y1 z1 st1 hQ1
  subst l1 y1 z1
  obtain ⟨hv1, N1q, e1⟩ := hQ1
  have N1 := Fr.app N0 N1q
  subst hv1
  obtain ⟨fs, hr, hrun, hended, hW, hsame⟩ := X1.leave (v := some (.long ((x2_0 * x2_1) + (f3 x2_0 x2_2)))) (fun h => by rw [Bd.returns] at h; cases h)
  refine ⟨_, _, pre0 _ (sg2 _ ?_), hrun, hended, _, _, rfl, ?_, ⟨_, rfl⟩, hW, hsame.mono (by decide) (by decide)⟩
  · show Steps p.tables e below (s₁.setTop (mkF m 6 #[.val (.long x2_0), .second, .val (.long x2_1), .second, .val (.long x2_2), .second] [(.long x2_2), (.long x2_0), (.long (x2_0 * x2_1))])) _
    refine st1 _ ?_
    show Steps p.tables e below (T1.setTop (mkF m 9 #[.val (.long x2_0), .second, .val (.long x2_1), .second, .val (.long x2_2), .second] [(.long (f3 x2_0 x2_2)), (.long (x2_0 * x2_1))])) _
    refine XS.ladd X1.here hx rfl (hb hby d2_9) rfl ?_
    show Steps p.tables e below (T1.setTop (mkF m 10 #[.val (.long x2_0), .second, .val (.long x2_1), .second, .val (.long x2_2), .second] [(.long ((x2_0 * x2_1) + (f3 x2_0 x2_2)))])) _
    exact retOut X1 hx Bd.returns rfl (Or.inr (Or.inl ⟨rfl, rfl, _, rfl⟩)) (hb hby d2_10) hr
  · exact ⟨rfl, N1, e1⟩
theorem pd_1 : parseMethodDescriptor "(JJJ)J" = some ⟨[.long, .long, .long], some .long⟩ := by decide +kernel
theorem ef_0 (m : MethodId) (x0_0 : Int64) (x0_1 : Int64) (x0_2 : Int64) : entryFrame m #[(.long x0_0), (.long x0_1), (.long x0_2)] maxLocals = mkF m 0 #[.val (.long x0_0), .second, .val (.long x0_1), .second, .val (.long x0_2), .second, .unset, .unset, .unset, .unset, .unset, .unset, .unset, .unset, .unset, .unset, .unset, .unset] [] := by first | (simp [entryFrame, mkF, argsToLocals, Value.category, maxLocals]; done) | rfl
def f0 (x0_0 : Int64) (x0_1 : Int64) (x0_2 : Int64) : Int32 := if (x0_1 &&& (9223372036854775807 : Int64)) = (0 : Int64) then (1 : Int32) else if (x0_2 &&& (9223372036854775807 : Int64)) = (0 : Int64) then (1 : Int32) else if (f1 ((x0_0 &&& (9223372036854775807 : Int64)) % (x0_1 &&& (9223372036854775807 : Int64))) (x0_1 &&& (9223372036854775807 : Int64)) (x0_2 &&& (9223372036854775807 : Int64))) < (1 : Int64) then (0 : Int32) else if (x0_2 &&& (9223372036854775807 : Int64)) < (f1 ((x0_0 &&& (9223372036854775807 : Int64)) % (x0_1 &&& (9223372036854775807 : Int64))) (x0_1 &&& (9223372036854775807 : Int64)) (x0_2 &&& (9223372036854775807 : Int64))) then (0 : Int32) else if ((x0_0 &&& (9223372036854775807 : Int64)) % (x0_1 &&& (9223372036854775807 : Int64))) < (f2 ((f1 ((x0_0 &&& (9223372036854775807 : Int64)) % (x0_1 &&& (9223372036854775807 : Int64))) (x0_1 &&& (9223372036854775807 : Int64)) (x0_2 &&& (9223372036854775807 : Int64))) - (1 : Int64)) ((x0_1 &&& (9223372036854775807 : Int64)) / (x0_2 &&& (9223372036854775807 : Int64))) ((x0_1 &&& (9223372036854775807 : Int64)) % (x0_2 &&& (9223372036854775807 : Int64)))) then (0 : Int32) else if ((x0_0 &&& (9223372036854775807 : Int64)) % (x0_1 &&& (9223372036854775807 : Int64))) < (f2 (f1 ((x0_0 &&& (9223372036854775807 : Int64)) % (x0_1 &&& (9223372036854775807 : Int64))) (x0_1 &&& (9223372036854775807 : Int64)) (x0_2 &&& (9223372036854775807 : Int64))) ((x0_1 &&& (9223372036854775807 : Int64)) / (x0_2 &&& (9223372036854775807 : Int64))) ((x0_1 &&& (9223372036854775807 : Int64)) % (x0_2 &&& (9223372036854775807 : Int64)))) then (1 : Int32) else (0 : Int32)
def Q0 (Z : State) (x0_0 : Int64) (x0_1 : Int64) (x0_2 : Int64) (h0 : Heap) (n0 : Nat) (v : Option Value) (h : Heap) (L : List Loc) : Prop := v = some (.int (f0 x0_0 x0_1 x0_2)) ∧ Fr n0 L ∧ h = h0
set_option maxRecDepth 65536 in
set_option maxHeartbeats 40000000 in
theorem rm0 (l : Launch) (Z : State) (a0 : Array Value) (hw : ∀ d ∈ tables_1, d.before a0 Z = true) (ws : List Jvm.Cond) (x0_0 : Int64) (x0_1 : Int64) (x0_2 : Int64) (h0 : Heap) (n0 : Nat) (Z0 : n0 ≤ h0.size) :
    MetFree l x (head1 (Jvm.Cond.code x code maxLocals ret :: ws) room_1) (fun a U => a = #[(.long x0_0), (.long x0_1), (.long x0_2)] ∧ Z.Warmed39 U.vm ∧ U.heap = h0) (fun _ _ _ _ _ => True) (fun _ U o U' => ∃ v L, o = .returned v ∧ Q0 Z x0_0 x0_1 x0_2 h0 n0 v U'.heap L ∧ FrameEnd U o U' L room_1.cells room_1.slots) := by
  refine MetFree.of_bodySF (plainFor_of_name pn_1) hisR ?_
  intro p e s m args below meth c s₁ Bd hml0 hP hK
  obtain ⟨rfl, hZ, hh⟩ := hP
  have hx := Bd.exec
  have hby := Bd.bytes
  have hml : c.maxLocals = 18 := hml0
  have hown : s.vm.findClass "com/example/rollcube/rollcube/engine/WindowsTilePinLaw" = some m.cls := findClass_of_methodNamed Bd.named
  have hnm := (name_of_methodNamed Bd.named Bd.method).1
  have X0 : Stand p l e room_1 s m #[(.long x0_0), (.long x0_1), (.long x0_2)] below meth c s₁ [] 0 0 := Stand.of_body Bd
  have e0 : s₁.heap = h0 := by rw [← hh, Bd.state]; rfl
  have N0 := Fr.nil n0
  have pre0 : ∀ t, Steps p.tables e below (s₁.setTop (mkF m 0 #[.val (.long x0_0), .second, .val (.long x0_1), .second, .val (.long x0_2), .second, .unset, .unset, .unset, .unset, .unset, .unset, .unset, .unset, .unset, .unset, .unset, .unset] [])) t → Steps p.tables e below (s₁.setTop (entryFrame m #[(.long x0_0), (.long x0_1), (.long x0_2)] maxLocals)) t := fun t k => castTop (ef_0 m x0_0 x0_1 x0_2) k
  have sg1 : ∀ t, Steps p.tables e below (s₁.setTop (mkF m 19 #[.val (.long x0_0), .second, .val (.long x0_1), .second, .val (.long x0_2), .second, .val (.long (x0_1 &&& (9223372036854775807 : Int64))), .second, .val (.long (x0_2 &&& (9223372036854775807 : Int64))), .second, .unset, .unset, .unset, .unset, .unset, .unset, .unset, .unset] [(.int (lcmpW (x0_1 &&& (9223372036854775807 : Int64)) (0 : Int64)))])) t → Steps p.tables e below (s₁.setTop (mkF m 0 #[.val (.long x0_0), .second, .val (.long x0_1), .second, .val (.long x0_2), .second, .unset, .unset, .unset, .unset, .unset, .unset, .unset, .unset, .unset, .unset, .unset, .unset] [])) t := fun t kt => by
    show Steps p.tables e below (s₁.setTop (mkF m 0 #[.val (.long x0_0), .second, .val (.long x0_1), .second, .val (.long x0_2), .second, .unset, .unset, .unset, .unset, .unset, .unset, .unset, .unset, .unset, .unset, .unset, .unset] [])) _
    refine XS.lloadN X0.here hx rfl (hb hby at_0) rfl ?_
    show Steps p.tables e below (s₁.setTop (mkF m 1 #[.val (.long x0_0), .second, .val (.long x0_1), .second, .val (.long x0_2), .second, .unset, .unset, .unset, .unset, .unset, .unset, .unset, .unset, .unset, .unset, .unset, .unset] [(.long x0_1)])) _
    refine X0.ldc2Long hx hown (mvT hZ (hw _ (List.mem_of_getElem? (i := 0) rfl))) (g := (mkF m 1 #[.val (.long x0_0), .second, .val (.long x0_1), .second, .val (.long x0_2), .second, .unset, .unset, .unset, .unset, .unset, .unset, .unset, .unset, .unset, .unset, .unset, .unset] [(.long x0_1)])) rfl (hb hby at_1) _ ?_
    show Steps p.tables e below (s₁.setTop (mkF m 4 #[.val (.long x0_0), .second, .val (.long x0_1), .second, .val (.long x0_2), .second, .unset, .unset, .unset, .unset, .unset, .unset, .unset, .unset, .unset, .unset, .unset, .unset] [(.long (9223372036854775807 : Int64)), (.long x0_1)])) _
    refine XS.land X0.here hx rfl (hb hby at_4) rfl ?_
    show Steps p.tables e below (s₁.setTop (mkF m 5 #[.val (.long x0_0), .second, .val (.long x0_1), .second, .val (.long x0_2), .second, .unset, .unset, .unset, .unset, .unset, .unset, .unset, .unset, .unset, .unset, .unset, .unset] [(.long (x0_1 &&& (9223372036854775807 : Int64)))])) _
    refine XS.lstore X0.here hx rfl (hb hby at_5) rfl (l' := #[.val (.long x0_0), .second, .val (.long x0_1), .second, .val (.long x0_2), .second, .val (.long (x0_1 &&& (9223372036854775807 : Int64))), .second, .unset, .unset, .unset, .unset, .unset, .unset, .unset, .unset, .unset, .unset]) rfl ?_
    show Steps p.tables e below (s₁.setTop (mkF m 7 #[.val (.long x0_0), .second, .val (.long x0_1), .second, .val (.long x0_2), .second, .val (.long (x0_1 &&& (9223372036854775807 : Int64))), .second, .unset, .unset, .unset, .unset, .unset, .unset, .unset, .unset, .unset, .unset] [])) _
    refine XS.lload X0.here hx rfl (hb hby at_7) rfl ?_
    show Steps p.tables e below (s₁.setTop (mkF m 9 #[.val (.long x0_0), .second, .val (.long x0_1), .second, .val (.long x0_2), .second, .val (.long (x0_1 &&& (9223372036854775807 : Int64))), .second, .unset, .unset, .unset, .unset, .unset, .unset, .unset, .unset, .unset, .unset] [(.long x0_2)])) _
    refine X0.ldc2Long hx hown (mvT hZ (hw _ (List.mem_of_getElem? (i := 0) rfl))) (g := (mkF m 9 #[.val (.long x0_0), .second, .val (.long x0_1), .second, .val (.long x0_2), .second, .val (.long (x0_1 &&& (9223372036854775807 : Int64))), .second, .unset, .unset, .unset, .unset, .unset, .unset, .unset, .unset, .unset, .unset] [(.long x0_2)])) rfl (hb hby at_9) _ ?_
    show Steps p.tables e below (s₁.setTop (mkF m 12 #[.val (.long x0_0), .second, .val (.long x0_1), .second, .val (.long x0_2), .second, .val (.long (x0_1 &&& (9223372036854775807 : Int64))), .second, .unset, .unset, .unset, .unset, .unset, .unset, .unset, .unset, .unset, .unset] [(.long (9223372036854775807 : Int64)), (.long x0_2)])) _
    refine XS.land X0.here hx rfl (hb hby at_12) rfl ?_
    show Steps p.tables e below (s₁.setTop (mkF m 13 #[.val (.long x0_0), .second, .val (.long x0_1), .second, .val (.long x0_2), .second, .val (.long (x0_1 &&& (9223372036854775807 : Int64))), .second, .unset, .unset, .unset, .unset, .unset, .unset, .unset, .unset, .unset, .unset] [(.long (x0_2 &&& (9223372036854775807 : Int64)))])) _
    refine XS.lstore X0.here hx rfl (hb hby at_13) rfl (l' := #[.val (.long x0_0), .second, .val (.long x0_1), .second, .val (.long x0_2), .second, .val (.long (x0_1 &&& (9223372036854775807 : Int64))), .second, .val (.long (x0_2 &&& (9223372036854775807 : Int64))), .second, .unset, .unset, .unset, .unset, .unset, .unset, .unset, .unset]) rfl ?_
    show Steps p.tables e below (s₁.setTop (mkF m 15 #[.val (.long x0_0), .second, .val (.long x0_1), .second, .val (.long x0_2), .second, .val (.long (x0_1 &&& (9223372036854775807 : Int64))), .second, .val (.long (x0_2 &&& (9223372036854775807 : Int64))), .second, .unset, .unset, .unset, .unset, .unset, .unset, .unset, .unset] [])) _
    refine XS.lload X0.here hx rfl (hb hby at_15) rfl ?_
    show Steps p.tables e below (s₁.setTop (mkF m 17 #[.val (.long x0_0), .second, .val (.long x0_1), .second, .val (.long x0_2), .second, .val (.long (x0_1 &&& (9223372036854775807 : Int64))), .second, .val (.long (x0_2 &&& (9223372036854775807 : Int64))), .second, .unset, .unset, .unset, .unset, .unset, .unset, .unset, .unset] [(.long (x0_1 &&& (9223372036854775807 : Int64)))])) _
    refine XS.lconst X0.here hx rfl (hb hby at_17) ?_
    show Steps p.tables e below (s₁.setTop (mkF m 18 #[.val (.long x0_0), .second, .val (.long x0_1), .second, .val (.long x0_2), .second, .val (.long (x0_1 &&& (9223372036854775807 : Int64))), .second, .val (.long (x0_2 &&& (9223372036854775807 : Int64))), .second, .unset, .unset, .unset, .unset, .unset, .unset, .unset, .unset] [(.long (0 : Int64)), (.long (x0_1 &&& (9223372036854775807 : Int64)))])) _
    refine XS.lcmp X0.here hx rfl (hb hby at_18) rfl ?_
    exact kt
  by_cases hc19_2 : (x0_1 &&& (9223372036854775807 : Int64)) = (0 : Int64)
  · obtain ⟨fs, hr, hrun, hended, hW, hsame⟩ := X0.leave (v := some (.int (1 : Int32))) (fun h => by rw [Bd.returns] at h; cases h)
    refine ⟨_, _, pre0 _ (sg1 _ ?_), hrun, hended, _, _, rfl, ?_, ⟨_, rfl⟩, hW, hsame.mono (by decide) (by decide)⟩
    · show Steps p.tables e below (s₁.setTop (mkF m 19 #[.val (.long x0_0), .second, .val (.long x0_1), .second, .val (.long x0_2), .second, .val (.long (x0_1 &&& (9223372036854775807 : Int64))), .second, .val (.long (x0_2 &&& (9223372036854775807 : Int64))), .second, .unset, .unset, .unset, .unset, .unset, .unset, .unset, .unset] [(.int (lcmpW (x0_1 &&& (9223372036854775807 : Int64)) (0 : Int64)))])) _
      refine XS.ifYes X0.here hx rfl (pc0 := 19) (pc' := 29) rfl (hb hby at_19) rfl ((if0 _ _).trans (teq ((lw_eq _ _).mpr hc19_2)).1) (by decide) (by decide) ?_
      show Steps p.tables e below (s₁.setTop (mkF m 29 #[.val (.long x0_0), .second, .val (.long x0_1), .second, .val (.long x0_2), .second, .val (.long (x0_1 &&& (9223372036854775807 : Int64))), .second, .val (.long (x0_2 &&& (9223372036854775807 : Int64))), .second, .unset, .unset, .unset, .unset, .unset, .unset, .unset, .unset] [])) _
      refine XS.iconst X0.here hx rfl (hb hby at_29) ?_
      show Steps p.tables e below (s₁.setTop (mkF m 30 #[.val (.long x0_0), .second, .val (.long x0_1), .second, .val (.long x0_2), .second, .val (.long (x0_1 &&& (9223372036854775807 : Int64))), .second, .val (.long (x0_2 &&& (9223372036854775807 : Int64))), .second, .unset, .unset, .unset, .unset, .unset, .unset, .unset, .unset] [(.int (1 : Int32))])) _
      exact retN X0 hx (t := .boolean) Bd.returns (by simp) (hb hby at_30) hr
    · exact ⟨congrArg (fun z => some (Value.int z)) (show (1 : Int32) = f0 x0_0 x0_1 x0_2 from by unfold f0; rw [if_pos hc19_2]), N0, e0⟩
  · have sg3 : ∀ t, Steps p.tables e below (s₁.setTop (mkF m 26 #[.val (.long x0_0), .second, .val (.long x0_1), .second, .val (.long x0_2), .second, .val (.long (x0_1 &&& (9223372036854775807 : Int64))), .second, .val (.long (x0_2 &&& (9223372036854775807 : Int64))), .second, .unset, .unset, .unset, .unset, .unset, .unset, .unset, .unset] [(.int (lcmpW (x0_2 &&& (9223372036854775807 : Int64)) (0 : Int64)))])) t → Steps p.tables e below (s₁.setTop (mkF m 19 #[.val (.long x0_0), .second, .val (.long x0_1), .second, .val (.long x0_2), .second, .val (.long (x0_1 &&& (9223372036854775807 : Int64))), .second, .val (.long (x0_2 &&& (9223372036854775807 : Int64))), .second, .unset, .unset, .unset, .unset, .unset, .unset, .unset, .unset] [(.int (lcmpW (x0_1 &&& (9223372036854775807 : Int64)) (0 : Int64)))])) t := fun t kt => by
      show Steps p.tables e below (s₁.setTop (mkF m 19 #[.val (.long x0_0), .second, .val (.long x0_1), .second, .val (.long x0_2), .second, .val (.long (x0_1 &&& (9223372036854775807 : Int64))), .second, .val (.long (x0_2 &&& (9223372036854775807 : Int64))), .second, .unset, .unset, .unset, .unset, .unset, .unset, .unset, .unset] [(.int (lcmpW (x0_1 &&& (9223372036854775807 : Int64)) (0 : Int64)))])) _
      refine XS.ifNo X0.here hx rfl (hb hby at_19) rfl ((if0 _ _).trans (feq (mt (lw_eq _ _).mp hc19_2)).1) ?_
      show Steps p.tables e below (s₁.setTop (mkF m 22 #[.val (.long x0_0), .second, .val (.long x0_1), .second, .val (.long x0_2), .second, .val (.long (x0_1 &&& (9223372036854775807 : Int64))), .second, .val (.long (x0_2 &&& (9223372036854775807 : Int64))), .second, .unset, .unset, .unset, .unset, .unset, .unset, .unset, .unset] [])) _
      refine XS.lload X0.here hx rfl (hb hby at_22) rfl ?_
      show Steps p.tables e below (s₁.setTop (mkF m 24 #[.val (.long x0_0), .second, .val (.long x0_1), .second, .val (.long x0_2), .second, .val (.long (x0_1 &&& (9223372036854775807 : Int64))), .second, .val (.long (x0_2 &&& (9223372036854775807 : Int64))), .second, .unset, .unset, .unset, .unset, .unset, .unset, .unset, .unset] [(.long (x0_2 &&& (9223372036854775807 : Int64)))])) _
      refine XS.lconst X0.here hx rfl (hb hby at_24) ?_
      show Steps p.tables e below (s₁.setTop (mkF m 25 #[.val (.long x0_0), .second, .val (.long x0_1), .second, .val (.long x0_2), .second, .val (.long (x0_1 &&& (9223372036854775807 : Int64))), .second, .val (.long (x0_2 &&& (9223372036854775807 : Int64))), .second, .unset, .unset, .unset, .unset, .unset, .unset, .unset, .unset] [(.long (0 : Int64)), (.long (x0_2 &&& (9223372036854775807 : Int64)))])) _
      refine XS.lcmp X0.here hx rfl (hb hby at_25) rfl ?_
      exact kt
    by_cases hc26_4 : (x0_2 &&& (9223372036854775807 : Int64)) = (0 : Int64)
    · obtain ⟨fs, hr, hrun, hended, hW, hsame⟩ := X0.leave (v := some (.int (1 : Int32))) (fun h => by rw [Bd.returns] at h; cases h)
      refine ⟨_, _, pre0 _ (sg1 _ (sg3 _ ?_)), hrun, hended, _, _, rfl, ?_, ⟨_, rfl⟩, hW, hsame.mono (by decide) (by decide)⟩
      · show Steps p.tables e below (s₁.setTop (mkF m 26 #[.val (.long x0_0), .second, .val (.long x0_1), .second, .val (.long x0_2), .second, .val (.long (x0_1 &&& (9223372036854775807 : Int64))), .second, .val (.long (x0_2 &&& (9223372036854775807 : Int64))), .second, .unset, .unset, .unset, .unset, .unset, .unset, .unset, .unset] [(.int (lcmpW (x0_2 &&& (9223372036854775807 : Int64)) (0 : Int64)))])) _
        refine XS.ifNo X0.here hx rfl (hb hby at_26) rfl ((if0 _ _).trans (teq ((lw_eq _ _).mpr hc26_4)).2) ?_
        show Steps p.tables e below (s₁.setTop (mkF m 29 #[.val (.long x0_0), .second, .val (.long x0_1), .second, .val (.long x0_2), .second, .val (.long (x0_1 &&& (9223372036854775807 : Int64))), .second, .val (.long (x0_2 &&& (9223372036854775807 : Int64))), .second, .unset, .unset, .unset, .unset, .unset, .unset, .unset, .unset] [])) _
        refine XS.iconst X0.here hx rfl (hb hby at_29) ?_
        show Steps p.tables e below (s₁.setTop (mkF m 30 #[.val (.long x0_0), .second, .val (.long x0_1), .second, .val (.long x0_2), .second, .val (.long (x0_1 &&& (9223372036854775807 : Int64))), .second, .val (.long (x0_2 &&& (9223372036854775807 : Int64))), .second, .unset, .unset, .unset, .unset, .unset, .unset, .unset, .unset] [(.int (1 : Int32))])) _
        exact retN X0 hx (t := .boolean) Bd.returns (by simp) (hb hby at_30) hr
      · exact ⟨congrArg (fun z => some (Value.int z)) (show (1 : Int32) = f0 x0_0 x0_1 x0_2 from by unfold f0; rw [if_neg hc19_2, if_pos hc26_4]), N0, e0⟩
    · have sg6 : ∀ t, Steps p.tables e below (s₁.setTop (mkF m 47 #[.val (.long x0_0), .second, .val (.long x0_1), .second, .val (.long x0_2), .second, .val (.long (x0_1 &&& (9223372036854775807 : Int64))), .second, .val (.long (x0_2 &&& (9223372036854775807 : Int64))), .second, .val (.long ((x0_0 &&& (9223372036854775807 : Int64)) % (x0_1 &&& (9223372036854775807 : Int64)))), .second, .unset, .unset, .unset, .unset, .unset, .unset] [(.long (x0_2 &&& (9223372036854775807 : Int64))), (.long (x0_1 &&& (9223372036854775807 : Int64))), (.long ((x0_0 &&& (9223372036854775807 : Int64)) % (x0_1 &&& (9223372036854775807 : Int64))))])) t → Steps p.tables e below (s₁.setTop (mkF m 26 #[.val (.long x0_0), .second, .val (.long x0_1), .second, .val (.long x0_2), .second, .val (.long (x0_1 &&& (9223372036854775807 : Int64))), .second, .val (.long (x0_2 &&& (9223372036854775807 : Int64))), .second, .unset, .unset, .unset, .unset, .unset, .unset, .unset, .unset] [(.int (lcmpW (x0_2 &&& (9223372036854775807 : Int64)) (0 : Int64)))])) t := fun t kt => by
        show Steps p.tables e below (s₁.setTop (mkF m 26 #[.val (.long x0_0), .second, .val (.long x0_1), .second, .val (.long x0_2), .second, .val (.long (x0_1 &&& (9223372036854775807 : Int64))), .second, .val (.long (x0_2 &&& (9223372036854775807 : Int64))), .second, .unset, .unset, .unset, .unset, .unset, .unset, .unset, .unset] [(.int (lcmpW (x0_2 &&& (9223372036854775807 : Int64)) (0 : Int64)))])) _
        refine XS.ifYes X0.here hx rfl (pc0 := 26) (pc' := 31) rfl (hb hby at_26) rfl ((if0 _ _).trans (feq (mt (lw_eq _ _).mp hc26_4)).2) (by decide) (by decide) ?_
        show Steps p.tables e below (s₁.setTop (mkF m 31 #[.val (.long x0_0), .second, .val (.long x0_1), .second, .val (.long x0_2), .second, .val (.long (x0_1 &&& (9223372036854775807 : Int64))), .second, .val (.long (x0_2 &&& (9223372036854775807 : Int64))), .second, .unset, .unset, .unset, .unset, .unset, .unset, .unset, .unset] [])) _
        refine XS.lloadN X0.here hx rfl (hb hby at_31) rfl ?_
        show Steps p.tables e below (s₁.setTop (mkF m 32 #[.val (.long x0_0), .second, .val (.long x0_1), .second, .val (.long x0_2), .second, .val (.long (x0_1 &&& (9223372036854775807 : Int64))), .second, .val (.long (x0_2 &&& (9223372036854775807 : Int64))), .second, .unset, .unset, .unset, .unset, .unset, .unset, .unset, .unset] [(.long x0_0)])) _
        refine X0.ldc2Long hx hown (mvT hZ (hw _ (List.mem_of_getElem? (i := 0) rfl))) (g := (mkF m 32 #[.val (.long x0_0), .second, .val (.long x0_1), .second, .val (.long x0_2), .second, .val (.long (x0_1 &&& (9223372036854775807 : Int64))), .second, .val (.long (x0_2 &&& (9223372036854775807 : Int64))), .second, .unset, .unset, .unset, .unset, .unset, .unset, .unset, .unset] [(.long x0_0)])) rfl (hb hby at_32) _ ?_
        show Steps p.tables e below (s₁.setTop (mkF m 35 #[.val (.long x0_0), .second, .val (.long x0_1), .second, .val (.long x0_2), .second, .val (.long (x0_1 &&& (9223372036854775807 : Int64))), .second, .val (.long (x0_2 &&& (9223372036854775807 : Int64))), .second, .unset, .unset, .unset, .unset, .unset, .unset, .unset, .unset] [(.long (9223372036854775807 : Int64)), (.long x0_0)])) _
        refine XS.land X0.here hx rfl (hb hby at_35) rfl ?_
        show Steps p.tables e below (s₁.setTop (mkF m 36 #[.val (.long x0_0), .second, .val (.long x0_1), .second, .val (.long x0_2), .second, .val (.long (x0_1 &&& (9223372036854775807 : Int64))), .second, .val (.long (x0_2 &&& (9223372036854775807 : Int64))), .second, .unset, .unset, .unset, .unset, .unset, .unset, .unset, .unset] [(.long (x0_0 &&& (9223372036854775807 : Int64)))])) _
        refine XS.lload X0.here hx rfl (hb hby at_36) rfl ?_
        show Steps p.tables e below (s₁.setTop (mkF m 38 #[.val (.long x0_0), .second, .val (.long x0_1), .second, .val (.long x0_2), .second, .val (.long (x0_1 &&& (9223372036854775807 : Int64))), .second, .val (.long (x0_2 &&& (9223372036854775807 : Int64))), .second, .unset, .unset, .unset, .unset, .unset, .unset, .unset, .unset] [(.long (x0_1 &&& (9223372036854775807 : Int64))), (.long (x0_0 &&& (9223372036854775807 : Int64)))])) _
        refine lremM X0 hx rfl (hb hby at_38) rfl hc19_2 ?_
        show Steps p.tables e below (s₁.setTop (mkF m 39 #[.val (.long x0_0), .second, .val (.long x0_1), .second, .val (.long x0_2), .second, .val (.long (x0_1 &&& (9223372036854775807 : Int64))), .second, .val (.long (x0_2 &&& (9223372036854775807 : Int64))), .second, .unset, .unset, .unset, .unset, .unset, .unset, .unset, .unset] [(.long ((x0_0 &&& (9223372036854775807 : Int64)) % (x0_1 &&& (9223372036854775807 : Int64))))])) _
        refine XS.lstore X0.here hx rfl (hb hby at_39) rfl (l' := #[.val (.long x0_0), .second, .val (.long x0_1), .second, .val (.long x0_2), .second, .val (.long (x0_1 &&& (9223372036854775807 : Int64))), .second, .val (.long (x0_2 &&& (9223372036854775807 : Int64))), .second, .val (.long ((x0_0 &&& (9223372036854775807 : Int64)) % (x0_1 &&& (9223372036854775807 : Int64)))), .second, .unset, .unset, .unset, .unset, .unset, .unset]) rfl ?_
        show Steps p.tables e below (s₁.setTop (mkF m 41 #[.val (.long x0_0), .second, .val (.long x0_1), .second, .val (.long x0_2), .second, .val (.long (x0_1 &&& (9223372036854775807 : Int64))), .second, .val (.long (x0_2 &&& (9223372036854775807 : Int64))), .second, .val (.long ((x0_0 &&& (9223372036854775807 : Int64)) % (x0_1 &&& (9223372036854775807 : Int64)))), .second, .unset, .unset, .unset, .unset, .unset, .unset] [])) _
        refine XS.lload X0.here hx rfl (hb hby at_41) rfl ?_
        show Steps p.tables e below (s₁.setTop (mkF m 43 #[.val (.long x0_0), .second, .val (.long x0_1), .second, .val (.long x0_2), .second, .val (.long (x0_1 &&& (9223372036854775807 : Int64))), .second, .val (.long (x0_2 &&& (9223372036854775807 : Int64))), .second, .val (.long ((x0_0 &&& (9223372036854775807 : Int64)) % (x0_1 &&& (9223372036854775807 : Int64)))), .second, .unset, .unset, .unset, .unset, .unset, .unset] [(.long ((x0_0 &&& (9223372036854775807 : Int64)) % (x0_1 &&& (9223372036854775807 : Int64))))])) _
        refine XS.lload X0.here hx rfl (hb hby at_43) rfl ?_
        show Steps p.tables e below (s₁.setTop (mkF m 45 #[.val (.long x0_0), .second, .val (.long x0_1), .second, .val (.long x0_2), .second, .val (.long (x0_1 &&& (9223372036854775807 : Int64))), .second, .val (.long (x0_2 &&& (9223372036854775807 : Int64))), .second, .val (.long ((x0_0 &&& (9223372036854775807 : Int64)) % (x0_1 &&& (9223372036854775807 : Int64)))), .second, .unset, .unset, .unset, .unset, .unset, .unset] [(.long (x0_1 &&& (9223372036854775807 : Int64))), (.long ((x0_0 &&& (9223372036854775807 : Int64)) % (x0_1 &&& (9223372036854775807 : Int64))))])) _
        refine XS.lload X0.here hx rfl (hb hby at_45) rfl ?_
        exact kt
      obtain ⟨v5, _, ⟨T5, L5, k5, n5⟩, -, X5, ⟨Lc5, hQ5, l5, y5, z5⟩, st5⟩ := Jvm.LawKit.callS X0 hx (y := (⟨"com/example/rollcube/rollcube/engine/Windows", "tile", "(JJJ)J"⟩ : MethodName)) hown (mvT hZ (hw _ (List.mem_of_getElem? (i := 1) rfl))) (mvT hZ (hw _ (List.mem_of_getElem? (i := 2) rfl))) (mvT hZ (hw _ (List.mem_of_getElem? (i := 3) rfl))) (mvT hZ (hw _ (List.mem_of_getElem? (i := 4) rfl))) (by decide) (backOf (W := 0) (rm1 l Z a0 hw [] ((x0_0 &&& (9223372036854775807 : Int64)) % (x0_1 &&& (9223372036854775807 : Int64))) (x0_1 &&& (9223372036854775807 : Int64)) (x0_2 &&& (9223372036854775807 : Int64)) h0 n0 Z0 hc26_4 (own_rng x0_0 x0_1 x0_2 hc19_2 hc26_4)) hZ (hw _ (List.mem_of_getElem? (i := 4) rfl)) (hw _ (List.mem_of_getElem? (i := 3) rfl)) (by decide) (by decide)) (g := (mkF m 47 #[.val (.long x0_0), .second, .val (.long x0_1), .second, .val (.long x0_2), .second, .val (.long (x0_1 &&& (9223372036854775807 : Int64))), .second, .val (.long (x0_2 &&& (9223372036854775807 : Int64))), .second, .val (.long ((x0_0 &&& (9223372036854775807 : Int64)) % (x0_1 &&& (9223372036854775807 : Int64)))), .second, .unset, .unset, .unset, .unset, .unset, .unset] [(.long (x0_2 &&& (9223372036854775807 : Int64))), (.long (x0_1 &&& (9223372036854775807 : Int64))), (.long ((x0_0 &&& (9223372036854775807 : Int64)) % (x0_1 &&& (9223372036854775807 : Int64))))])) rfl (by rw [hml]; rfl) (argsL := [(.long ((x0_0 &&& (9223372036854775807 : Int64)) % (x0_1 &&& (9223372036854775807 : Int64)))), (.long (x0_1 &&& (9223372036854775807 : Int64))), (.long (x0_2 &&& (9223372036854775807 : Int64)))]) (rest := []) (lenOf pd_1 rfl) rfl (by show 2 * 0 + _ ≤ _; exact Nat.le_of_eq rfl) (hb hby at_47) (fun _ _ => ⟨rfl, e0, (by decide : 0 + 0 ≤ _), (by decide : 0 + 0 ≤ _)⟩)
      dsimp only [Pt.U, Pt.locs, Pt.cells, Pt.slots] at X5 l5 y5 z5 st5 hQ5
      subst l5 y5 z5
      obtain ⟨hv5, N5q, e5⟩ := hQ5
      have N5 := Fr.app N0 N5q
      subst hv5
      have sg7 : ∀ t, Steps p.tables e below (T5.setTop (mkF m 56 #[.val (.long x0_0), .second, .val (.long x0_1), .second, .val (.long x0_2), .second, .val (.long (x0_1 &&& (9223372036854775807 : Int64))), .second, .val (.long (x0_2 &&& (9223372036854775807 : Int64))), .second, .val (.long ((x0_0 &&& (9223372036854775807 : Int64)) % (x0_1 &&& (9223372036854775807 : Int64)))), .second, .val (.long (f1 ((x0_0 &&& (9223372036854775807 : Int64)) % (x0_1 &&& (9223372036854775807 : Int64))) (x0_1 &&& (9223372036854775807 : Int64)) (x0_2 &&& (9223372036854775807 : Int64)))), .second, .unset, .unset, .unset, .unset] [(.int (lcmpW (f1 ((x0_0 &&& (9223372036854775807 : Int64)) % (x0_1 &&& (9223372036854775807 : Int64))) (x0_1 &&& (9223372036854775807 : Int64)) (x0_2 &&& (9223372036854775807 : Int64))) (1 : Int64)))])) t → Steps p.tables e below (s₁.setTop (mkF m 47 #[.val (.long x0_0), .second, .val (.long x0_1), .second, .val (.long x0_2), .second, .val (.long (x0_1 &&& (9223372036854775807 : Int64))), .second, .val (.long (x0_2 &&& (9223372036854775807 : Int64))), .second, .val (.long ((x0_0 &&& (9223372036854775807 : Int64)) % (x0_1 &&& (9223372036854775807 : Int64)))), .second, .unset, .unset, .unset, .unset, .unset, .unset] [(.long (x0_2 &&& (9223372036854775807 : Int64))), (.long (x0_1 &&& (9223372036854775807 : Int64))), (.long ((x0_0 &&& (9223372036854775807 : Int64)) % (x0_1 &&& (9223372036854775807 : Int64))))])) t := fun t kt => by
        show Steps p.tables e below (s₁.setTop (mkF m 47 #[.val (.long x0_0), .second, .val (.long x0_1), .second, .val (.long x0_2), .second, .val (.long (x0_1 &&& (9223372036854775807 : Int64))), .second, .val (.long (x0_2 &&& (9223372036854775807 : Int64))), .second, .val (.long ((x0_0 &&& (9223372036854775807 : Int64)) % (x0_1 &&& (9223372036854775807 : Int64)))), .second, .unset, .unset, .unset, .unset, .unset, .unset] [(.long (x0_2 &&& (9223372036854775807 : Int64))), (.long (x0_1 &&& (9223372036854775807 : Int64))), (.long ((x0_0 &&& (9223372036854775807 : Int64)) % (x0_1 &&& (9223372036854775807 : Int64))))])) _
        refine st5 _ ?_
        show Steps p.tables e below (T5.setTop (mkF m 50 #[.val (.long x0_0), .second, .val (.long x0_1), .second, .val (.long x0_2), .second, .val (.long (x0_1 &&& (9223372036854775807 : Int64))), .second, .val (.long (x0_2 &&& (9223372036854775807 : Int64))), .second, .val (.long ((x0_0 &&& (9223372036854775807 : Int64)) % (x0_1 &&& (9223372036854775807 : Int64)))), .second, .unset, .unset, .unset, .unset, .unset, .unset] [(.long (f1 ((x0_0 &&& (9223372036854775807 : Int64)) % (x0_1 &&& (9223372036854775807 : Int64))) (x0_1 &&& (9223372036854775807 : Int64)) (x0_2 &&& (9223372036854775807 : Int64))))])) _
        refine XS.lstore X5.here hx rfl (hb hby at_50) rfl (l' := #[.val (.long x0_0), .second, .val (.long x0_1), .second, .val (.long x0_2), .second, .val (.long (x0_1 &&& (9223372036854775807 : Int64))), .second, .val (.long (x0_2 &&& (9223372036854775807 : Int64))), .second, .val (.long ((x0_0 &&& (9223372036854775807 : Int64)) % (x0_1 &&& (9223372036854775807 : Int64)))), .second, .val (.long (f1 ((x0_0 &&& (9223372036854775807 : Int64)) % (x0_1 &&& (9223372036854775807 : Int64))) (x0_1 &&& (9223372036854775807 : Int64)) (x0_2 &&& (9223372036854775807 : Int64)))), .second, .unset, .unset, .unset, .unset]) rfl ?_
        show Steps p.tables e below (T5.setTop (mkF m 52 #[.val (.long x0_0), .second, .val (.long x0_1), .second, .val (.long x0_2), .second, .val (.long (x0_1 &&& (9223372036854775807 : Int64))), .second, .val (.long (x0_2 &&& (9223372036854775807 : Int64))), .second, .val (.long ((x0_0 &&& (9223372036854775807 : Int64)) % (x0_1 &&& (9223372036854775807 : Int64)))), .second, .val (.long (f1 ((x0_0 &&& (9223372036854775807 : Int64)) % (x0_1 &&& (9223372036854775807 : Int64))) (x0_1 &&& (9223372036854775807 : Int64)) (x0_2 &&& (9223372036854775807 : Int64)))), .second, .unset, .unset, .unset, .unset] [])) _
        refine XS.lload X5.here hx rfl (hb hby at_52) rfl ?_
        show Steps p.tables e below (T5.setTop (mkF m 54 #[.val (.long x0_0), .second, .val (.long x0_1), .second, .val (.long x0_2), .second, .val (.long (x0_1 &&& (9223372036854775807 : Int64))), .second, .val (.long (x0_2 &&& (9223372036854775807 : Int64))), .second, .val (.long ((x0_0 &&& (9223372036854775807 : Int64)) % (x0_1 &&& (9223372036854775807 : Int64)))), .second, .val (.long (f1 ((x0_0 &&& (9223372036854775807 : Int64)) % (x0_1 &&& (9223372036854775807 : Int64))) (x0_1 &&& (9223372036854775807 : Int64)) (x0_2 &&& (9223372036854775807 : Int64)))), .second, .unset, .unset, .unset, .unset] [(.long (f1 ((x0_0 &&& (9223372036854775807 : Int64)) % (x0_1 &&& (9223372036854775807 : Int64))) (x0_1 &&& (9223372036854775807 : Int64)) (x0_2 &&& (9223372036854775807 : Int64))))])) _
        refine XS.lconst X5.here hx rfl (hb hby at_54) ?_
        show Steps p.tables e below (T5.setTop (mkF m 55 #[.val (.long x0_0), .second, .val (.long x0_1), .second, .val (.long x0_2), .second, .val (.long (x0_1 &&& (9223372036854775807 : Int64))), .second, .val (.long (x0_2 &&& (9223372036854775807 : Int64))), .second, .val (.long ((x0_0 &&& (9223372036854775807 : Int64)) % (x0_1 &&& (9223372036854775807 : Int64)))), .second, .val (.long (f1 ((x0_0 &&& (9223372036854775807 : Int64)) % (x0_1 &&& (9223372036854775807 : Int64))) (x0_1 &&& (9223372036854775807 : Int64)) (x0_2 &&& (9223372036854775807 : Int64)))), .second, .unset, .unset, .unset, .unset] [(.long (1 : Int64)), (.long (f1 ((x0_0 &&& (9223372036854775807 : Int64)) % (x0_1 &&& (9223372036854775807 : Int64))) (x0_1 &&& (9223372036854775807 : Int64)) (x0_2 &&& (9223372036854775807 : Int64))))])) _
        refine XS.lcmp X5.here hx rfl (hb hby at_55) rfl ?_
        exact kt
      by_cases hc56_8 : (f1 ((x0_0 &&& (9223372036854775807 : Int64)) % (x0_1 &&& (9223372036854775807 : Int64))) (x0_1 &&& (9223372036854775807 : Int64)) (x0_2 &&& (9223372036854775807 : Int64))) < (1 : Int64)
      · obtain ⟨fs, hr, hrun, hended, hW, hsame⟩ := X5.leave (v := some (.int (0 : Int32))) (fun h => by rw [Bd.returns] at h; cases h)
        refine ⟨_, _, pre0 _ (sg1 _ (sg3 _ (sg6 _ (sg7 _ ?_)))), hrun, hended, _, _, rfl, ?_, ⟨_, rfl⟩, hW, hsame.mono (by decide) (by decide)⟩
        · show Steps p.tables e below (T5.setTop (mkF m 56 #[.val (.long x0_0), .second, .val (.long x0_1), .second, .val (.long x0_2), .second, .val (.long (x0_1 &&& (9223372036854775807 : Int64))), .second, .val (.long (x0_2 &&& (9223372036854775807 : Int64))), .second, .val (.long ((x0_0 &&& (9223372036854775807 : Int64)) % (x0_1 &&& (9223372036854775807 : Int64)))), .second, .val (.long (f1 ((x0_0 &&& (9223372036854775807 : Int64)) % (x0_1 &&& (9223372036854775807 : Int64))) (x0_1 &&& (9223372036854775807 : Int64)) (x0_2 &&& (9223372036854775807 : Int64)))), .second, .unset, .unset, .unset, .unset] [(.int (lcmpW (f1 ((x0_0 &&& (9223372036854775807 : Int64)) % (x0_1 &&& (9223372036854775807 : Int64))) (x0_1 &&& (9223372036854775807 : Int64)) (x0_2 &&& (9223372036854775807 : Int64))) (1 : Int64)))])) _
          refine XS.ifYes X5.here hx rfl (pc0 := 56) (pc' := 67) rfl (hb hby at_56) rfl ((if0 _ _).trans (tlt ((lw_lt _ _).mpr hc56_8)).1) (by decide) (by decide) ?_
          show Steps p.tables e below (T5.setTop (mkF m 67 #[.val (.long x0_0), .second, .val (.long x0_1), .second, .val (.long x0_2), .second, .val (.long (x0_1 &&& (9223372036854775807 : Int64))), .second, .val (.long (x0_2 &&& (9223372036854775807 : Int64))), .second, .val (.long ((x0_0 &&& (9223372036854775807 : Int64)) % (x0_1 &&& (9223372036854775807 : Int64)))), .second, .val (.long (f1 ((x0_0 &&& (9223372036854775807 : Int64)) % (x0_1 &&& (9223372036854775807 : Int64))) (x0_1 &&& (9223372036854775807 : Int64)) (x0_2 &&& (9223372036854775807 : Int64)))), .second, .unset, .unset, .unset, .unset] [])) _
          refine XS.iconst X5.here hx rfl (hb hby at_67) ?_
          show Steps p.tables e below (T5.setTop (mkF m 68 #[.val (.long x0_0), .second, .val (.long x0_1), .second, .val (.long x0_2), .second, .val (.long (x0_1 &&& (9223372036854775807 : Int64))), .second, .val (.long (x0_2 &&& (9223372036854775807 : Int64))), .second, .val (.long ((x0_0 &&& (9223372036854775807 : Int64)) % (x0_1 &&& (9223372036854775807 : Int64)))), .second, .val (.long (f1 ((x0_0 &&& (9223372036854775807 : Int64)) % (x0_1 &&& (9223372036854775807 : Int64))) (x0_1 &&& (9223372036854775807 : Int64)) (x0_2 &&& (9223372036854775807 : Int64)))), .second, .unset, .unset, .unset, .unset] [(.int (0 : Int32))])) _
          exact retN X5 hx (t := .boolean) Bd.returns (by simp) (hb hby at_68) hr
        · exact ⟨congrArg (fun z => some (Value.int z)) (show (0 : Int32) = f0 x0_0 x0_1 x0_2 from by unfold f0; rw [if_neg hc19_2, if_neg hc26_4, if_pos hc56_8]), N5, e5⟩
      · have sg9 : ∀ t, Steps p.tables e below (T5.setTop (mkF m 64 #[.val (.long x0_0), .second, .val (.long x0_1), .second, .val (.long x0_2), .second, .val (.long (x0_1 &&& (9223372036854775807 : Int64))), .second, .val (.long (x0_2 &&& (9223372036854775807 : Int64))), .second, .val (.long ((x0_0 &&& (9223372036854775807 : Int64)) % (x0_1 &&& (9223372036854775807 : Int64)))), .second, .val (.long (f1 ((x0_0 &&& (9223372036854775807 : Int64)) % (x0_1 &&& (9223372036854775807 : Int64))) (x0_1 &&& (9223372036854775807 : Int64)) (x0_2 &&& (9223372036854775807 : Int64)))), .second, .unset, .unset, .unset, .unset] [(.int (lcmpW (f1 ((x0_0 &&& (9223372036854775807 : Int64)) % (x0_1 &&& (9223372036854775807 : Int64))) (x0_1 &&& (9223372036854775807 : Int64)) (x0_2 &&& (9223372036854775807 : Int64))) (x0_2 &&& (9223372036854775807 : Int64))))])) t → Steps p.tables e below (T5.setTop (mkF m 56 #[.val (.long x0_0), .second, .val (.long x0_1), .second, .val (.long x0_2), .second, .val (.long (x0_1 &&& (9223372036854775807 : Int64))), .second, .val (.long (x0_2 &&& (9223372036854775807 : Int64))), .second, .val (.long ((x0_0 &&& (9223372036854775807 : Int64)) % (x0_1 &&& (9223372036854775807 : Int64)))), .second, .val (.long (f1 ((x0_0 &&& (9223372036854775807 : Int64)) % (x0_1 &&& (9223372036854775807 : Int64))) (x0_1 &&& (9223372036854775807 : Int64)) (x0_2 &&& (9223372036854775807 : Int64)))), .second, .unset, .unset, .unset, .unset] [(.int (lcmpW (f1 ((x0_0 &&& (9223372036854775807 : Int64)) % (x0_1 &&& (9223372036854775807 : Int64))) (x0_1 &&& (9223372036854775807 : Int64)) (x0_2 &&& (9223372036854775807 : Int64))) (1 : Int64)))])) t := fun t kt => by
          show Steps p.tables e below (T5.setTop (mkF m 56 #[.val (.long x0_0), .second, .val (.long x0_1), .second, .val (.long x0_2), .second, .val (.long (x0_1 &&& (9223372036854775807 : Int64))), .second, .val (.long (x0_2 &&& (9223372036854775807 : Int64))), .second, .val (.long ((x0_0 &&& (9223372036854775807 : Int64)) % (x0_1 &&& (9223372036854775807 : Int64)))), .second, .val (.long (f1 ((x0_0 &&& (9223372036854775807 : Int64)) % (x0_1 &&& (9223372036854775807 : Int64))) (x0_1 &&& (9223372036854775807 : Int64)) (x0_2 &&& (9223372036854775807 : Int64)))), .second, .unset, .unset, .unset, .unset] [(.int (lcmpW (f1 ((x0_0 &&& (9223372036854775807 : Int64)) % (x0_1 &&& (9223372036854775807 : Int64))) (x0_1 &&& (9223372036854775807 : Int64)) (x0_2 &&& (9223372036854775807 : Int64))) (1 : Int64)))])) _
          refine XS.ifNo X5.here hx rfl (hb hby at_56) rfl ((if0 _ _).trans (flt (mt (lw_lt _ _).mp hc56_8)).1) ?_
          show Steps p.tables e below (T5.setTop (mkF m 59 #[.val (.long x0_0), .second, .val (.long x0_1), .second, .val (.long x0_2), .second, .val (.long (x0_1 &&& (9223372036854775807 : Int64))), .second, .val (.long (x0_2 &&& (9223372036854775807 : Int64))), .second, .val (.long ((x0_0 &&& (9223372036854775807 : Int64)) % (x0_1 &&& (9223372036854775807 : Int64)))), .second, .val (.long (f1 ((x0_0 &&& (9223372036854775807 : Int64)) % (x0_1 &&& (9223372036854775807 : Int64))) (x0_1 &&& (9223372036854775807 : Int64)) (x0_2 &&& (9223372036854775807 : Int64)))), .second, .unset, .unset, .unset, .unset] [])) _
          refine XS.lload X5.here hx rfl (hb hby at_59) rfl ?_
          show Steps p.tables e below (T5.setTop (mkF m 61 #[.val (.long x0_0), .second, .val (.long x0_1), .second, .val (.long x0_2), .second, .val (.long (x0_1 &&& (9223372036854775807 : Int64))), .second, .val (.long (x0_2 &&& (9223372036854775807 : Int64))), .second, .val (.long ((x0_0 &&& (9223372036854775807 : Int64)) % (x0_1 &&& (9223372036854775807 : Int64)))), .second, .val (.long (f1 ((x0_0 &&& (9223372036854775807 : Int64)) % (x0_1 &&& (9223372036854775807 : Int64))) (x0_1 &&& (9223372036854775807 : Int64)) (x0_2 &&& (9223372036854775807 : Int64)))), .second, .unset, .unset, .unset, .unset] [(.long (f1 ((x0_0 &&& (9223372036854775807 : Int64)) % (x0_1 &&& (9223372036854775807 : Int64))) (x0_1 &&& (9223372036854775807 : Int64)) (x0_2 &&& (9223372036854775807 : Int64))))])) _
          refine XS.lload X5.here hx rfl (hb hby at_61) rfl ?_
          show Steps p.tables e below (T5.setTop (mkF m 63 #[.val (.long x0_0), .second, .val (.long x0_1), .second, .val (.long x0_2), .second, .val (.long (x0_1 &&& (9223372036854775807 : Int64))), .second, .val (.long (x0_2 &&& (9223372036854775807 : Int64))), .second, .val (.long ((x0_0 &&& (9223372036854775807 : Int64)) % (x0_1 &&& (9223372036854775807 : Int64)))), .second, .val (.long (f1 ((x0_0 &&& (9223372036854775807 : Int64)) % (x0_1 &&& (9223372036854775807 : Int64))) (x0_1 &&& (9223372036854775807 : Int64)) (x0_2 &&& (9223372036854775807 : Int64)))), .second, .unset, .unset, .unset, .unset] [(.long (x0_2 &&& (9223372036854775807 : Int64))), (.long (f1 ((x0_0 &&& (9223372036854775807 : Int64)) % (x0_1 &&& (9223372036854775807 : Int64))) (x0_1 &&& (9223372036854775807 : Int64)) (x0_2 &&& (9223372036854775807 : Int64))))])) _
          refine XS.lcmp X5.here hx rfl (hb hby at_63) rfl ?_
          exact kt
        by_cases hc64_10 : (x0_2 &&& (9223372036854775807 : Int64)) < (f1 ((x0_0 &&& (9223372036854775807 : Int64)) % (x0_1 &&& (9223372036854775807 : Int64))) (x0_1 &&& (9223372036854775807 : Int64)) (x0_2 &&& (9223372036854775807 : Int64)))
        · obtain ⟨fs, hr, hrun, hended, hW, hsame⟩ := X5.leave (v := some (.int (0 : Int32))) (fun h => by rw [Bd.returns] at h; cases h)
          refine ⟨_, _, pre0 _ (sg1 _ (sg3 _ (sg6 _ (sg7 _ (sg9 _ ?_))))), hrun, hended, _, _, rfl, ?_, ⟨_, rfl⟩, hW, hsame.mono (by decide) (by decide)⟩
          · show Steps p.tables e below (T5.setTop (mkF m 64 #[.val (.long x0_0), .second, .val (.long x0_1), .second, .val (.long x0_2), .second, .val (.long (x0_1 &&& (9223372036854775807 : Int64))), .second, .val (.long (x0_2 &&& (9223372036854775807 : Int64))), .second, .val (.long ((x0_0 &&& (9223372036854775807 : Int64)) % (x0_1 &&& (9223372036854775807 : Int64)))), .second, .val (.long (f1 ((x0_0 &&& (9223372036854775807 : Int64)) % (x0_1 &&& (9223372036854775807 : Int64))) (x0_1 &&& (9223372036854775807 : Int64)) (x0_2 &&& (9223372036854775807 : Int64)))), .second, .unset, .unset, .unset, .unset] [(.int (lcmpW (f1 ((x0_0 &&& (9223372036854775807 : Int64)) % (x0_1 &&& (9223372036854775807 : Int64))) (x0_1 &&& (9223372036854775807 : Int64)) (x0_2 &&& (9223372036854775807 : Int64))) (x0_2 &&& (9223372036854775807 : Int64))))])) _
            refine XS.ifNo X5.here hx rfl (hb hby at_64) rfl ((if0 _ _).trans (tlt ((lw_gt _ _).mpr hc64_10)).2.2.2) ?_
            show Steps p.tables e below (T5.setTop (mkF m 67 #[.val (.long x0_0), .second, .val (.long x0_1), .second, .val (.long x0_2), .second, .val (.long (x0_1 &&& (9223372036854775807 : Int64))), .second, .val (.long (x0_2 &&& (9223372036854775807 : Int64))), .second, .val (.long ((x0_0 &&& (9223372036854775807 : Int64)) % (x0_1 &&& (9223372036854775807 : Int64)))), .second, .val (.long (f1 ((x0_0 &&& (9223372036854775807 : Int64)) % (x0_1 &&& (9223372036854775807 : Int64))) (x0_1 &&& (9223372036854775807 : Int64)) (x0_2 &&& (9223372036854775807 : Int64)))), .second, .unset, .unset, .unset, .unset] [])) _
            refine XS.iconst X5.here hx rfl (hb hby at_67) ?_
            show Steps p.tables e below (T5.setTop (mkF m 68 #[.val (.long x0_0), .second, .val (.long x0_1), .second, .val (.long x0_2), .second, .val (.long (x0_1 &&& (9223372036854775807 : Int64))), .second, .val (.long (x0_2 &&& (9223372036854775807 : Int64))), .second, .val (.long ((x0_0 &&& (9223372036854775807 : Int64)) % (x0_1 &&& (9223372036854775807 : Int64)))), .second, .val (.long (f1 ((x0_0 &&& (9223372036854775807 : Int64)) % (x0_1 &&& (9223372036854775807 : Int64))) (x0_1 &&& (9223372036854775807 : Int64)) (x0_2 &&& (9223372036854775807 : Int64)))), .second, .unset, .unset, .unset, .unset] [(.int (0 : Int32))])) _
            exact retN X5 hx (t := .boolean) Bd.returns (by simp) (hb hby at_68) hr
          · exact ⟨congrArg (fun z => some (Value.int z)) (show (0 : Int32) = f0 x0_0 x0_1 x0_2 from by unfold f0; rw [if_neg hc19_2, if_neg hc26_4, if_neg hc56_8, if_pos hc64_10]), N5, e5⟩
        · have sg12 : ∀ t, Steps p.tables e below (T5.setTop (mkF m 91 #[.val (.long x0_0), .second, .val (.long x0_1), .second, .val (.long x0_2), .second, .val (.long (x0_1 &&& (9223372036854775807 : Int64))), .second, .val (.long (x0_2 &&& (9223372036854775807 : Int64))), .second, .val (.long ((x0_0 &&& (9223372036854775807 : Int64)) % (x0_1 &&& (9223372036854775807 : Int64)))), .second, .val (.long (f1 ((x0_0 &&& (9223372036854775807 : Int64)) % (x0_1 &&& (9223372036854775807 : Int64))) (x0_1 &&& (9223372036854775807 : Int64)) (x0_2 &&& (9223372036854775807 : Int64)))), .second, .val (.long ((x0_1 &&& (9223372036854775807 : Int64)) / (x0_2 &&& (9223372036854775807 : Int64)))), .second, .val (.long ((x0_1 &&& (9223372036854775807 : Int64)) % (x0_2 &&& (9223372036854775807 : Int64)))), .second] [(.long ((x0_1 &&& (9223372036854775807 : Int64)) % (x0_2 &&& (9223372036854775807 : Int64)))), (.long ((x0_1 &&& (9223372036854775807 : Int64)) / (x0_2 &&& (9223372036854775807 : Int64)))), (.long ((f1 ((x0_0 &&& (9223372036854775807 : Int64)) % (x0_1 &&& (9223372036854775807 : Int64))) (x0_1 &&& (9223372036854775807 : Int64)) (x0_2 &&& (9223372036854775807 : Int64))) - (1 : Int64)))])) t → Steps p.tables e below (T5.setTop (mkF m 64 #[.val (.long x0_0), .second, .val (.long x0_1), .second, .val (.long x0_2), .second, .val (.long (x0_1 &&& (9223372036854775807 : Int64))), .second, .val (.long (x0_2 &&& (9223372036854775807 : Int64))), .second, .val (.long ((x0_0 &&& (9223372036854775807 : Int64)) % (x0_1 &&& (9223372036854775807 : Int64)))), .second, .val (.long (f1 ((x0_0 &&& (9223372036854775807 : Int64)) % (x0_1 &&& (9223372036854775807 : Int64))) (x0_1 &&& (9223372036854775807 : Int64)) (x0_2 &&& (9223372036854775807 : Int64)))), .second, .unset, .unset, .unset, .unset] [(.int (lcmpW (f1 ((x0_0 &&& (9223372036854775807 : Int64)) % (x0_1 &&& (9223372036854775807 : Int64))) (x0_1 &&& (9223372036854775807 : Int64)) (x0_2 &&& (9223372036854775807 : Int64))) (x0_2 &&& (9223372036854775807 : Int64))))])) t := fun t kt => by
            show Steps p.tables e below (T5.setTop (mkF m 64 #[.val (.long x0_0), .second, .val (.long x0_1), .second, .val (.long x0_2), .second, .val (.long (x0_1 &&& (9223372036854775807 : Int64))), .second, .val (.long (x0_2 &&& (9223372036854775807 : Int64))), .second, .val (.long ((x0_0 &&& (9223372036854775807 : Int64)) % (x0_1 &&& (9223372036854775807 : Int64)))), .second, .val (.long (f1 ((x0_0 &&& (9223372036854775807 : Int64)) % (x0_1 &&& (9223372036854775807 : Int64))) (x0_1 &&& (9223372036854775807 : Int64)) (x0_2 &&& (9223372036854775807 : Int64)))), .second, .unset, .unset, .unset, .unset] [(.int (lcmpW (f1 ((x0_0 &&& (9223372036854775807 : Int64)) % (x0_1 &&& (9223372036854775807 : Int64))) (x0_1 &&& (9223372036854775807 : Int64)) (x0_2 &&& (9223372036854775807 : Int64))) (x0_2 &&& (9223372036854775807 : Int64))))])) _
            refine XS.ifYes X5.here hx rfl (pc0 := 64) (pc' := 69) rfl (hb hby at_64) rfl ((if0 _ _).trans (flt (mt (lw_gt _ _).mp hc64_10)).2.2.2) (by decide) (by decide) ?_
            show Steps p.tables e below (T5.setTop (mkF m 69 #[.val (.long x0_0), .second, .val (.long x0_1), .second, .val (.long x0_2), .second, .val (.long (x0_1 &&& (9223372036854775807 : Int64))), .second, .val (.long (x0_2 &&& (9223372036854775807 : Int64))), .second, .val (.long ((x0_0 &&& (9223372036854775807 : Int64)) % (x0_1 &&& (9223372036854775807 : Int64)))), .second, .val (.long (f1 ((x0_0 &&& (9223372036854775807 : Int64)) % (x0_1 &&& (9223372036854775807 : Int64))) (x0_1 &&& (9223372036854775807 : Int64)) (x0_2 &&& (9223372036854775807 : Int64)))), .second, .unset, .unset, .unset, .unset] [])) _
            refine XS.lload X5.here hx rfl (hb hby at_69) rfl ?_
            show Steps p.tables e below (T5.setTop (mkF m 71 #[.val (.long x0_0), .second, .val (.long x0_1), .second, .val (.long x0_2), .second, .val (.long (x0_1 &&& (9223372036854775807 : Int64))), .second, .val (.long (x0_2 &&& (9223372036854775807 : Int64))), .second, .val (.long ((x0_0 &&& (9223372036854775807 : Int64)) % (x0_1 &&& (9223372036854775807 : Int64)))), .second, .val (.long (f1 ((x0_0 &&& (9223372036854775807 : Int64)) % (x0_1 &&& (9223372036854775807 : Int64))) (x0_1 &&& (9223372036854775807 : Int64)) (x0_2 &&& (9223372036854775807 : Int64)))), .second, .unset, .unset, .unset, .unset] [(.long (x0_1 &&& (9223372036854775807 : Int64)))])) _
            refine XS.lload X5.here hx rfl (hb hby at_71) rfl ?_
            show Steps p.tables e below (T5.setTop (mkF m 73 #[.val (.long x0_0), .second, .val (.long x0_1), .second, .val (.long x0_2), .second, .val (.long (x0_1 &&& (9223372036854775807 : Int64))), .second, .val (.long (x0_2 &&& (9223372036854775807 : Int64))), .second, .val (.long ((x0_0 &&& (9223372036854775807 : Int64)) % (x0_1 &&& (9223372036854775807 : Int64)))), .second, .val (.long (f1 ((x0_0 &&& (9223372036854775807 : Int64)) % (x0_1 &&& (9223372036854775807 : Int64))) (x0_1 &&& (9223372036854775807 : Int64)) (x0_2 &&& (9223372036854775807 : Int64)))), .second, .unset, .unset, .unset, .unset] [(.long (x0_2 &&& (9223372036854775807 : Int64))), (.long (x0_1 &&& (9223372036854775807 : Int64)))])) _
            refine XS.ldiv X5.here hx rfl (hb hby at_73) rfl hc26_4 ?_
            show Steps p.tables e below (T5.setTop (mkF m 74 #[.val (.long x0_0), .second, .val (.long x0_1), .second, .val (.long x0_2), .second, .val (.long (x0_1 &&& (9223372036854775807 : Int64))), .second, .val (.long (x0_2 &&& (9223372036854775807 : Int64))), .second, .val (.long ((x0_0 &&& (9223372036854775807 : Int64)) % (x0_1 &&& (9223372036854775807 : Int64)))), .second, .val (.long (f1 ((x0_0 &&& (9223372036854775807 : Int64)) % (x0_1 &&& (9223372036854775807 : Int64))) (x0_1 &&& (9223372036854775807 : Int64)) (x0_2 &&& (9223372036854775807 : Int64)))), .second, .unset, .unset, .unset, .unset] [(.long ((x0_1 &&& (9223372036854775807 : Int64)) / (x0_2 &&& (9223372036854775807 : Int64))))])) _
            refine XS.lstore X5.here hx rfl (hb hby at_74) rfl (l' := #[.val (.long x0_0), .second, .val (.long x0_1), .second, .val (.long x0_2), .second, .val (.long (x0_1 &&& (9223372036854775807 : Int64))), .second, .val (.long (x0_2 &&& (9223372036854775807 : Int64))), .second, .val (.long ((x0_0 &&& (9223372036854775807 : Int64)) % (x0_1 &&& (9223372036854775807 : Int64)))), .second, .val (.long (f1 ((x0_0 &&& (9223372036854775807 : Int64)) % (x0_1 &&& (9223372036854775807 : Int64))) (x0_1 &&& (9223372036854775807 : Int64)) (x0_2 &&& (9223372036854775807 : Int64)))), .second, .val (.long ((x0_1 &&& (9223372036854775807 : Int64)) / (x0_2 &&& (9223372036854775807 : Int64)))), .second, .unset, .unset]) rfl ?_
            show Steps p.tables e below (T5.setTop (mkF m 76 #[.val (.long x0_0), .second, .val (.long x0_1), .second, .val (.long x0_2), .second, .val (.long (x0_1 &&& (9223372036854775807 : Int64))), .second, .val (.long (x0_2 &&& (9223372036854775807 : Int64))), .second, .val (.long ((x0_0 &&& (9223372036854775807 : Int64)) % (x0_1 &&& (9223372036854775807 : Int64)))), .second, .val (.long (f1 ((x0_0 &&& (9223372036854775807 : Int64)) % (x0_1 &&& (9223372036854775807 : Int64))) (x0_1 &&& (9223372036854775807 : Int64)) (x0_2 &&& (9223372036854775807 : Int64)))), .second, .val (.long ((x0_1 &&& (9223372036854775807 : Int64)) / (x0_2 &&& (9223372036854775807 : Int64)))), .second, .unset, .unset] [])) _
            refine XS.lload X5.here hx rfl (hb hby at_76) rfl ?_
            show Steps p.tables e below (T5.setTop (mkF m 78 #[.val (.long x0_0), .second, .val (.long x0_1), .second, .val (.long x0_2), .second, .val (.long (x0_1 &&& (9223372036854775807 : Int64))), .second, .val (.long (x0_2 &&& (9223372036854775807 : Int64))), .second, .val (.long ((x0_0 &&& (9223372036854775807 : Int64)) % (x0_1 &&& (9223372036854775807 : Int64)))), .second, .val (.long (f1 ((x0_0 &&& (9223372036854775807 : Int64)) % (x0_1 &&& (9223372036854775807 : Int64))) (x0_1 &&& (9223372036854775807 : Int64)) (x0_2 &&& (9223372036854775807 : Int64)))), .second, .val (.long ((x0_1 &&& (9223372036854775807 : Int64)) / (x0_2 &&& (9223372036854775807 : Int64)))), .second, .unset, .unset] [(.long (x0_1 &&& (9223372036854775807 : Int64)))])) _
            refine XS.lload X5.here hx rfl (hb hby at_78) rfl ?_
            show Steps p.tables e below (T5.setTop (mkF m 80 #[.val (.long x0_0), .second, .val (.long x0_1), .second, .val (.long x0_2), .second, .val (.long (x0_1 &&& (9223372036854775807 : Int64))), .second, .val (.long (x0_2 &&& (9223372036854775807 : Int64))), .second, .val (.long ((x0_0 &&& (9223372036854775807 : Int64)) % (x0_1 &&& (9223372036854775807 : Int64)))), .second, .val (.long (f1 ((x0_0 &&& (9223372036854775807 : Int64)) % (x0_1 &&& (9223372036854775807 : Int64))) (x0_1 &&& (9223372036854775807 : Int64)) (x0_2 &&& (9223372036854775807 : Int64)))), .second, .val (.long ((x0_1 &&& (9223372036854775807 : Int64)) / (x0_2 &&& (9223372036854775807 : Int64)))), .second, .unset, .unset] [(.long (x0_2 &&& (9223372036854775807 : Int64))), (.long (x0_1 &&& (9223372036854775807 : Int64)))])) _
            refine lremM X5 hx rfl (hb hby at_80) rfl hc26_4 ?_
            show Steps p.tables e below (T5.setTop (mkF m 81 #[.val (.long x0_0), .second, .val (.long x0_1), .second, .val (.long x0_2), .second, .val (.long (x0_1 &&& (9223372036854775807 : Int64))), .second, .val (.long (x0_2 &&& (9223372036854775807 : Int64))), .second, .val (.long ((x0_0 &&& (9223372036854775807 : Int64)) % (x0_1 &&& (9223372036854775807 : Int64)))), .second, .val (.long (f1 ((x0_0 &&& (9223372036854775807 : Int64)) % (x0_1 &&& (9223372036854775807 : Int64))) (x0_1 &&& (9223372036854775807 : Int64)) (x0_2 &&& (9223372036854775807 : Int64)))), .second, .val (.long ((x0_1 &&& (9223372036854775807 : Int64)) / (x0_2 &&& (9223372036854775807 : Int64)))), .second, .unset, .unset] [(.long ((x0_1 &&& (9223372036854775807 : Int64)) % (x0_2 &&& (9223372036854775807 : Int64))))])) _
            refine XS.lstore X5.here hx rfl (hb hby at_81) rfl (l' := #[.val (.long x0_0), .second, .val (.long x0_1), .second, .val (.long x0_2), .second, .val (.long (x0_1 &&& (9223372036854775807 : Int64))), .second, .val (.long (x0_2 &&& (9223372036854775807 : Int64))), .second, .val (.long ((x0_0 &&& (9223372036854775807 : Int64)) % (x0_1 &&& (9223372036854775807 : Int64)))), .second, .val (.long (f1 ((x0_0 &&& (9223372036854775807 : Int64)) % (x0_1 &&& (9223372036854775807 : Int64))) (x0_1 &&& (9223372036854775807 : Int64)) (x0_2 &&& (9223372036854775807 : Int64)))), .second, .val (.long ((x0_1 &&& (9223372036854775807 : Int64)) / (x0_2 &&& (9223372036854775807 : Int64)))), .second, .val (.long ((x0_1 &&& (9223372036854775807 : Int64)) % (x0_2 &&& (9223372036854775807 : Int64)))), .second]) rfl ?_
            show Steps p.tables e below (T5.setTop (mkF m 83 #[.val (.long x0_0), .second, .val (.long x0_1), .second, .val (.long x0_2), .second, .val (.long (x0_1 &&& (9223372036854775807 : Int64))), .second, .val (.long (x0_2 &&& (9223372036854775807 : Int64))), .second, .val (.long ((x0_0 &&& (9223372036854775807 : Int64)) % (x0_1 &&& (9223372036854775807 : Int64)))), .second, .val (.long (f1 ((x0_0 &&& (9223372036854775807 : Int64)) % (x0_1 &&& (9223372036854775807 : Int64))) (x0_1 &&& (9223372036854775807 : Int64)) (x0_2 &&& (9223372036854775807 : Int64)))), .second, .val (.long ((x0_1 &&& (9223372036854775807 : Int64)) / (x0_2 &&& (9223372036854775807 : Int64)))), .second, .val (.long ((x0_1 &&& (9223372036854775807 : Int64)) % (x0_2 &&& (9223372036854775807 : Int64)))), .second] [])) _
            refine XS.lload X5.here hx rfl (hb hby at_83) rfl ?_
            show Steps p.tables e below (T5.setTop (mkF m 85 #[.val (.long x0_0), .second, .val (.long x0_1), .second, .val (.long x0_2), .second, .val (.long (x0_1 &&& (9223372036854775807 : Int64))), .second, .val (.long (x0_2 &&& (9223372036854775807 : Int64))), .second, .val (.long ((x0_0 &&& (9223372036854775807 : Int64)) % (x0_1 &&& (9223372036854775807 : Int64)))), .second, .val (.long (f1 ((x0_0 &&& (9223372036854775807 : Int64)) % (x0_1 &&& (9223372036854775807 : Int64))) (x0_1 &&& (9223372036854775807 : Int64)) (x0_2 &&& (9223372036854775807 : Int64)))), .second, .val (.long ((x0_1 &&& (9223372036854775807 : Int64)) / (x0_2 &&& (9223372036854775807 : Int64)))), .second, .val (.long ((x0_1 &&& (9223372036854775807 : Int64)) % (x0_2 &&& (9223372036854775807 : Int64)))), .second] [(.long (f1 ((x0_0 &&& (9223372036854775807 : Int64)) % (x0_1 &&& (9223372036854775807 : Int64))) (x0_1 &&& (9223372036854775807 : Int64)) (x0_2 &&& (9223372036854775807 : Int64))))])) _
            refine XS.lconst X5.here hx rfl (hb hby at_85) ?_
            show Steps p.tables e below (T5.setTop (mkF m 86 #[.val (.long x0_0), .second, .val (.long x0_1), .second, .val (.long x0_2), .second, .val (.long (x0_1 &&& (9223372036854775807 : Int64))), .second, .val (.long (x0_2 &&& (9223372036854775807 : Int64))), .second, .val (.long ((x0_0 &&& (9223372036854775807 : Int64)) % (x0_1 &&& (9223372036854775807 : Int64)))), .second, .val (.long (f1 ((x0_0 &&& (9223372036854775807 : Int64)) % (x0_1 &&& (9223372036854775807 : Int64))) (x0_1 &&& (9223372036854775807 : Int64)) (x0_2 &&& (9223372036854775807 : Int64)))), .second, .val (.long ((x0_1 &&& (9223372036854775807 : Int64)) / (x0_2 &&& (9223372036854775807 : Int64)))), .second, .val (.long ((x0_1 &&& (9223372036854775807 : Int64)) % (x0_2 &&& (9223372036854775807 : Int64)))), .second] [(.long (1 : Int64)), (.long (f1 ((x0_0 &&& (9223372036854775807 : Int64)) % (x0_1 &&& (9223372036854775807 : Int64))) (x0_1 &&& (9223372036854775807 : Int64)) (x0_2 &&& (9223372036854775807 : Int64))))])) _
            refine XS.lsub X5.here hx rfl (hb hby at_86) rfl ?_
            show Steps p.tables e below (T5.setTop (mkF m 87 #[.val (.long x0_0), .second, .val (.long x0_1), .second, .val (.long x0_2), .second, .val (.long (x0_1 &&& (9223372036854775807 : Int64))), .second, .val (.long (x0_2 &&& (9223372036854775807 : Int64))), .second, .val (.long ((x0_0 &&& (9223372036854775807 : Int64)) % (x0_1 &&& (9223372036854775807 : Int64)))), .second, .val (.long (f1 ((x0_0 &&& (9223372036854775807 : Int64)) % (x0_1 &&& (9223372036854775807 : Int64))) (x0_1 &&& (9223372036854775807 : Int64)) (x0_2 &&& (9223372036854775807 : Int64)))), .second, .val (.long ((x0_1 &&& (9223372036854775807 : Int64)) / (x0_2 &&& (9223372036854775807 : Int64)))), .second, .val (.long ((x0_1 &&& (9223372036854775807 : Int64)) % (x0_2 &&& (9223372036854775807 : Int64)))), .second] [(.long ((f1 ((x0_0 &&& (9223372036854775807 : Int64)) % (x0_1 &&& (9223372036854775807 : Int64))) (x0_1 &&& (9223372036854775807 : Int64)) (x0_2 &&& (9223372036854775807 : Int64))) - (1 : Int64)))])) _
            refine XS.lload X5.here hx rfl (hb hby at_87) rfl ?_
            show Steps p.tables e below (T5.setTop (mkF m 89 #[.val (.long x0_0), .second, .val (.long x0_1), .second, .val (.long x0_2), .second, .val (.long (x0_1 &&& (9223372036854775807 : Int64))), .second, .val (.long (x0_2 &&& (9223372036854775807 : Int64))), .second, .val (.long ((x0_0 &&& (9223372036854775807 : Int64)) % (x0_1 &&& (9223372036854775807 : Int64)))), .second, .val (.long (f1 ((x0_0 &&& (9223372036854775807 : Int64)) % (x0_1 &&& (9223372036854775807 : Int64))) (x0_1 &&& (9223372036854775807 : Int64)) (x0_2 &&& (9223372036854775807 : Int64)))), .second, .val (.long ((x0_1 &&& (9223372036854775807 : Int64)) / (x0_2 &&& (9223372036854775807 : Int64)))), .second, .val (.long ((x0_1 &&& (9223372036854775807 : Int64)) % (x0_2 &&& (9223372036854775807 : Int64)))), .second] [(.long ((x0_1 &&& (9223372036854775807 : Int64)) / (x0_2 &&& (9223372036854775807 : Int64)))), (.long ((f1 ((x0_0 &&& (9223372036854775807 : Int64)) % (x0_1 &&& (9223372036854775807 : Int64))) (x0_1 &&& (9223372036854775807 : Int64)) (x0_2 &&& (9223372036854775807 : Int64))) - (1 : Int64)))])) _
            refine XS.lload X5.here hx rfl (hb hby at_89) rfl ?_
            exact kt
          obtain ⟨v11, _, ⟨T11, L11, k11, n11⟩, -, X11, ⟨Lc11, hQ11, l11, y11, z11⟩, st11⟩ := Jvm.LawKit.callS X5 hx (y := (⟨"com/example/rollcube/rollcube/engine/WindowsTilePinLaw", "rowsBefore", "(JJJ)J"⟩ : MethodName)) hown (mvT hZ (hw _ (List.mem_of_getElem? (i := 5) rfl))) (mvT hZ (hw _ (List.mem_of_getElem? (i := 6) rfl))) (mvT hZ (hw _ (List.mem_of_getElem? (i := 7) rfl))) (mvT hZ (hw _ (List.mem_of_getElem? (i := 8) rfl))) (by decide) (backOf (W := 0) (rm2 l Z a0 hw [] ((f1 ((x0_0 &&& (9223372036854775807 : Int64)) % (x0_1 &&& (9223372036854775807 : Int64))) (x0_1 &&& (9223372036854775807 : Int64)) (x0_2 &&& (9223372036854775807 : Int64))) - (1 : Int64)) ((x0_1 &&& (9223372036854775807 : Int64)) / (x0_2 &&& (9223372036854775807 : Int64))) ((x0_1 &&& (9223372036854775807 : Int64)) % (x0_2 &&& (9223372036854775807 : Int64))) h0 n0 Z0) hZ (hw _ (List.mem_of_getElem? (i := 8) rfl)) (hw _ (List.mem_of_getElem? (i := 7) rfl)) (by decide) (by decide)) (g := (mkF m 91 #[.val (.long x0_0), .second, .val (.long x0_1), .second, .val (.long x0_2), .second, .val (.long (x0_1 &&& (9223372036854775807 : Int64))), .second, .val (.long (x0_2 &&& (9223372036854775807 : Int64))), .second, .val (.long ((x0_0 &&& (9223372036854775807 : Int64)) % (x0_1 &&& (9223372036854775807 : Int64)))), .second, .val (.long (f1 ((x0_0 &&& (9223372036854775807 : Int64)) % (x0_1 &&& (9223372036854775807 : Int64))) (x0_1 &&& (9223372036854775807 : Int64)) (x0_2 &&& (9223372036854775807 : Int64)))), .second, .val (.long ((x0_1 &&& (9223372036854775807 : Int64)) / (x0_2 &&& (9223372036854775807 : Int64)))), .second, .val (.long ((x0_1 &&& (9223372036854775807 : Int64)) % (x0_2 &&& (9223372036854775807 : Int64)))), .second] [(.long ((x0_1 &&& (9223372036854775807 : Int64)) % (x0_2 &&& (9223372036854775807 : Int64)))), (.long ((x0_1 &&& (9223372036854775807 : Int64)) / (x0_2 &&& (9223372036854775807 : Int64)))), (.long ((f1 ((x0_0 &&& (9223372036854775807 : Int64)) % (x0_1 &&& (9223372036854775807 : Int64))) (x0_1 &&& (9223372036854775807 : Int64)) (x0_2 &&& (9223372036854775807 : Int64))) - (1 : Int64)))])) rfl (by rw [hml]; rfl) (argsL := [(.long ((f1 ((x0_0 &&& (9223372036854775807 : Int64)) % (x0_1 &&& (9223372036854775807 : Int64))) (x0_1 &&& (9223372036854775807 : Int64)) (x0_2 &&& (9223372036854775807 : Int64))) - (1 : Int64))), (.long ((x0_1 &&& (9223372036854775807 : Int64)) / (x0_2 &&& (9223372036854775807 : Int64)))), (.long ((x0_1 &&& (9223372036854775807 : Int64)) % (x0_2 &&& (9223372036854775807 : Int64))))]) (rest := []) (lenOf pd_1 rfl) rfl (by show 2 * 0 + _ ≤ _; exact Nat.le_of_eq rfl) (hb hby at_91) (fun _ _ => ⟨rfl, e5, (by decide : 0 + 0 ≤ _), (by decide : 0 + 0 ≤ _)⟩)
          dsimp only [Pt.U, Pt.locs, Pt.cells, Pt.slots] at X11 l11 y11 z11 st11 hQ11
          subst l11 y11 z11
          obtain ⟨hv11, N11q, e11⟩ := hQ11
          have N11 := Fr.app N5 N11q
          subst hv11
          have sg13 : ∀ t, Steps p.tables e below (T11.setTop (mkF m 97 #[.val (.long x0_0), .second, .val (.long x0_1), .second, .val (.long x0_2), .second, .val (.long (x0_1 &&& (9223372036854775807 : Int64))), .second, .val (.long (x0_2 &&& (9223372036854775807 : Int64))), .second, .val (.long ((x0_0 &&& (9223372036854775807 : Int64)) % (x0_1 &&& (9223372036854775807 : Int64)))), .second, .val (.long (f1 ((x0_0 &&& (9223372036854775807 : Int64)) % (x0_1 &&& (9223372036854775807 : Int64))) (x0_1 &&& (9223372036854775807 : Int64)) (x0_2 &&& (9223372036854775807 : Int64)))), .second, .val (.long ((x0_1 &&& (9223372036854775807 : Int64)) / (x0_2 &&& (9223372036854775807 : Int64)))), .second, .val (.long ((x0_1 &&& (9223372036854775807 : Int64)) % (x0_2 &&& (9223372036854775807 : Int64)))), .second] [(.int (lcmpW (f2 ((f1 ((x0_0 &&& (9223372036854775807 : Int64)) % (x0_1 &&& (9223372036854775807 : Int64))) (x0_1 &&& (9223372036854775807 : Int64)) (x0_2 &&& (9223372036854775807 : Int64))) - (1 : Int64)) ((x0_1 &&& (9223372036854775807 : Int64)) / (x0_2 &&& (9223372036854775807 : Int64))) ((x0_1 &&& (9223372036854775807 : Int64)) % (x0_2 &&& (9223372036854775807 : Int64)))) ((x0_0 &&& (9223372036854775807 : Int64)) % (x0_1 &&& (9223372036854775807 : Int64)))))])) t → Steps p.tables e below (T5.setTop (mkF m 91 #[.val (.long x0_0), .second, .val (.long x0_1), .second, .val (.long x0_2), .second, .val (.long (x0_1 &&& (9223372036854775807 : Int64))), .second, .val (.long (x0_2 &&& (9223372036854775807 : Int64))), .second, .val (.long ((x0_0 &&& (9223372036854775807 : Int64)) % (x0_1 &&& (9223372036854775807 : Int64)))), .second, .val (.long (f1 ((x0_0 &&& (9223372036854775807 : Int64)) % (x0_1 &&& (9223372036854775807 : Int64))) (x0_1 &&& (9223372036854775807 : Int64)) (x0_2 &&& (9223372036854775807 : Int64)))), .second, .val (.long ((x0_1 &&& (9223372036854775807 : Int64)) / (x0_2 &&& (9223372036854775807 : Int64)))), .second, .val (.long ((x0_1 &&& (9223372036854775807 : Int64)) % (x0_2 &&& (9223372036854775807 : Int64)))), .second] [(.long ((x0_1 &&& (9223372036854775807 : Int64)) % (x0_2 &&& (9223372036854775807 : Int64)))), (.long ((x0_1 &&& (9223372036854775807 : Int64)) / (x0_2 &&& (9223372036854775807 : Int64)))), (.long ((f1 ((x0_0 &&& (9223372036854775807 : Int64)) % (x0_1 &&& (9223372036854775807 : Int64))) (x0_1 &&& (9223372036854775807 : Int64)) (x0_2 &&& (9223372036854775807 : Int64))) - (1 : Int64)))])) t := fun t kt => by
            show Steps p.tables e below (T5.setTop (mkF m 91 #[.val (.long x0_0), .second, .val (.long x0_1), .second, .val (.long x0_2), .second, .val (.long (x0_1 &&& (9223372036854775807 : Int64))), .second, .val (.long (x0_2 &&& (9223372036854775807 : Int64))), .second, .val (.long ((x0_0 &&& (9223372036854775807 : Int64)) % (x0_1 &&& (9223372036854775807 : Int64)))), .second, .val (.long (f1 ((x0_0 &&& (9223372036854775807 : Int64)) % (x0_1 &&& (9223372036854775807 : Int64))) (x0_1 &&& (9223372036854775807 : Int64)) (x0_2 &&& (9223372036854775807 : Int64)))), .second, .val (.long ((x0_1 &&& (9223372036854775807 : Int64)) / (x0_2 &&& (9223372036854775807 : Int64)))), .second, .val (.long ((x0_1 &&& (9223372036854775807 : Int64)) % (x0_2 &&& (9223372036854775807 : Int64)))), .second] [(.long ((x0_1 &&& (9223372036854775807 : Int64)) % (x0_2 &&& (9223372036854775807 : Int64)))), (.long ((x0_1 &&& (9223372036854775807 : Int64)) / (x0_2 &&& (9223372036854775807 : Int64)))), (.long ((f1 ((x0_0 &&& (9223372036854775807 : Int64)) % (x0_1 &&& (9223372036854775807 : Int64))) (x0_1 &&& (9223372036854775807 : Int64)) (x0_2 &&& (9223372036854775807 : Int64))) - (1 : Int64)))])) _
            refine st11 _ ?_
            show Steps p.tables e below (T11.setTop (mkF m 94 #[.val (.long x0_0), .second, .val (.long x0_1), .second, .val (.long x0_2), .second, .val (.long (x0_1 &&& (9223372036854775807 : Int64))), .second, .val (.long (x0_2 &&& (9223372036854775807 : Int64))), .second, .val (.long ((x0_0 &&& (9223372036854775807 : Int64)) % (x0_1 &&& (9223372036854775807 : Int64)))), .second, .val (.long (f1 ((x0_0 &&& (9223372036854775807 : Int64)) % (x0_1 &&& (9223372036854775807 : Int64))) (x0_1 &&& (9223372036854775807 : Int64)) (x0_2 &&& (9223372036854775807 : Int64)))), .second, .val (.long ((x0_1 &&& (9223372036854775807 : Int64)) / (x0_2 &&& (9223372036854775807 : Int64)))), .second, .val (.long ((x0_1 &&& (9223372036854775807 : Int64)) % (x0_2 &&& (9223372036854775807 : Int64)))), .second] [(.long (f2 ((f1 ((x0_0 &&& (9223372036854775807 : Int64)) % (x0_1 &&& (9223372036854775807 : Int64))) (x0_1 &&& (9223372036854775807 : Int64)) (x0_2 &&& (9223372036854775807 : Int64))) - (1 : Int64)) ((x0_1 &&& (9223372036854775807 : Int64)) / (x0_2 &&& (9223372036854775807 : Int64))) ((x0_1 &&& (9223372036854775807 : Int64)) % (x0_2 &&& (9223372036854775807 : Int64)))))])) _
            refine XS.lload X11.here hx rfl (hb hby at_94) rfl ?_
            show Steps p.tables e below (T11.setTop (mkF m 96 #[.val (.long x0_0), .second, .val (.long x0_1), .second, .val (.long x0_2), .second, .val (.long (x0_1 &&& (9223372036854775807 : Int64))), .second, .val (.long (x0_2 &&& (9223372036854775807 : Int64))), .second, .val (.long ((x0_0 &&& (9223372036854775807 : Int64)) % (x0_1 &&& (9223372036854775807 : Int64)))), .second, .val (.long (f1 ((x0_0 &&& (9223372036854775807 : Int64)) % (x0_1 &&& (9223372036854775807 : Int64))) (x0_1 &&& (9223372036854775807 : Int64)) (x0_2 &&& (9223372036854775807 : Int64)))), .second, .val (.long ((x0_1 &&& (9223372036854775807 : Int64)) / (x0_2 &&& (9223372036854775807 : Int64)))), .second, .val (.long ((x0_1 &&& (9223372036854775807 : Int64)) % (x0_2 &&& (9223372036854775807 : Int64)))), .second] [(.long ((x0_0 &&& (9223372036854775807 : Int64)) % (x0_1 &&& (9223372036854775807 : Int64)))), (.long (f2 ((f1 ((x0_0 &&& (9223372036854775807 : Int64)) % (x0_1 &&& (9223372036854775807 : Int64))) (x0_1 &&& (9223372036854775807 : Int64)) (x0_2 &&& (9223372036854775807 : Int64))) - (1 : Int64)) ((x0_1 &&& (9223372036854775807 : Int64)) / (x0_2 &&& (9223372036854775807 : Int64))) ((x0_1 &&& (9223372036854775807 : Int64)) % (x0_2 &&& (9223372036854775807 : Int64)))))])) _
            refine XS.lcmp X11.here hx rfl (hb hby at_96) rfl ?_
            exact kt
          by_cases hc97_14 : ((x0_0 &&& (9223372036854775807 : Int64)) % (x0_1 &&& (9223372036854775807 : Int64))) < (f2 ((f1 ((x0_0 &&& (9223372036854775807 : Int64)) % (x0_1 &&& (9223372036854775807 : Int64))) (x0_1 &&& (9223372036854775807 : Int64)) (x0_2 &&& (9223372036854775807 : Int64))) - (1 : Int64)) ((x0_1 &&& (9223372036854775807 : Int64)) / (x0_2 &&& (9223372036854775807 : Int64))) ((x0_1 &&& (9223372036854775807 : Int64)) % (x0_2 &&& (9223372036854775807 : Int64))))
          · obtain ⟨fs, hr, hrun, hended, hW, hsame⟩ := X11.leave (v := some (.int (0 : Int32))) (fun h => by rw [Bd.returns] at h; cases h)
            refine ⟨_, _, pre0 _ (sg1 _ (sg3 _ (sg6 _ (sg7 _ (sg9 _ (sg12 _ (sg13 _ ?_))))))), hrun, hended, _, _, rfl, ?_, ⟨_, rfl⟩, hW, hsame.mono (by decide) (by decide)⟩
            · show Steps p.tables e below (T11.setTop (mkF m 97 #[.val (.long x0_0), .second, .val (.long x0_1), .second, .val (.long x0_2), .second, .val (.long (x0_1 &&& (9223372036854775807 : Int64))), .second, .val (.long (x0_2 &&& (9223372036854775807 : Int64))), .second, .val (.long ((x0_0 &&& (9223372036854775807 : Int64)) % (x0_1 &&& (9223372036854775807 : Int64)))), .second, .val (.long (f1 ((x0_0 &&& (9223372036854775807 : Int64)) % (x0_1 &&& (9223372036854775807 : Int64))) (x0_1 &&& (9223372036854775807 : Int64)) (x0_2 &&& (9223372036854775807 : Int64)))), .second, .val (.long ((x0_1 &&& (9223372036854775807 : Int64)) / (x0_2 &&& (9223372036854775807 : Int64)))), .second, .val (.long ((x0_1 &&& (9223372036854775807 : Int64)) % (x0_2 &&& (9223372036854775807 : Int64)))), .second] [(.int (lcmpW (f2 ((f1 ((x0_0 &&& (9223372036854775807 : Int64)) % (x0_1 &&& (9223372036854775807 : Int64))) (x0_1 &&& (9223372036854775807 : Int64)) (x0_2 &&& (9223372036854775807 : Int64))) - (1 : Int64)) ((x0_1 &&& (9223372036854775807 : Int64)) / (x0_2 &&& (9223372036854775807 : Int64))) ((x0_1 &&& (9223372036854775807 : Int64)) % (x0_2 &&& (9223372036854775807 : Int64)))) ((x0_0 &&& (9223372036854775807 : Int64)) % (x0_1 &&& (9223372036854775807 : Int64)))))])) _
              refine XS.ifYes X11.here hx rfl (pc0 := 97) (pc' := 119) rfl (hb hby at_97) rfl ((if0 _ _).trans (tlt ((lw_gt _ _).mpr hc97_14)).2.2.1) (by decide) (by decide) ?_
              show Steps p.tables e below (T11.setTop (mkF m 119 #[.val (.long x0_0), .second, .val (.long x0_1), .second, .val (.long x0_2), .second, .val (.long (x0_1 &&& (9223372036854775807 : Int64))), .second, .val (.long (x0_2 &&& (9223372036854775807 : Int64))), .second, .val (.long ((x0_0 &&& (9223372036854775807 : Int64)) % (x0_1 &&& (9223372036854775807 : Int64)))), .second, .val (.long (f1 ((x0_0 &&& (9223372036854775807 : Int64)) % (x0_1 &&& (9223372036854775807 : Int64))) (x0_1 &&& (9223372036854775807 : Int64)) (x0_2 &&& (9223372036854775807 : Int64)))), .second, .val (.long ((x0_1 &&& (9223372036854775807 : Int64)) / (x0_2 &&& (9223372036854775807 : Int64)))), .second, .val (.long ((x0_1 &&& (9223372036854775807 : Int64)) % (x0_2 &&& (9223372036854775807 : Int64)))), .second] [])) _
              refine XS.iconst X11.here hx rfl (hb hby at_119) ?_
              show Steps p.tables e below (T11.setTop (mkF m 120 #[.val (.long x0_0), .second, .val (.long x0_1), .second, .val (.long x0_2), .second, .val (.long (x0_1 &&& (9223372036854775807 : Int64))), .second, .val (.long (x0_2 &&& (9223372036854775807 : Int64))), .second, .val (.long ((x0_0 &&& (9223372036854775807 : Int64)) % (x0_1 &&& (9223372036854775807 : Int64)))), .second, .val (.long (f1 ((x0_0 &&& (9223372036854775807 : Int64)) % (x0_1 &&& (9223372036854775807 : Int64))) (x0_1 &&& (9223372036854775807 : Int64)) (x0_2 &&& (9223372036854775807 : Int64)))), .second, .val (.long ((x0_1 &&& (9223372036854775807 : Int64)) / (x0_2 &&& (9223372036854775807 : Int64)))), .second, .val (.long ((x0_1 &&& (9223372036854775807 : Int64)) % (x0_2 &&& (9223372036854775807 : Int64)))), .second] [(.int (0 : Int32))])) _
              exact retN X11 hx (t := .boolean) Bd.returns (by simp) (hb hby at_120) hr
            · exact ⟨congrArg (fun z => some (Value.int z)) (show (0 : Int32) = f0 x0_0 x0_1 x0_2 from by unfold f0; rw [if_neg hc19_2, if_neg hc26_4, if_neg hc56_8, if_neg hc64_10, if_pos hc97_14]), N11, e11⟩
          · have sg16 : ∀ t, Steps p.tables e below (T11.setTop (mkF m 108 #[.val (.long x0_0), .second, .val (.long x0_1), .second, .val (.long x0_2), .second, .val (.long (x0_1 &&& (9223372036854775807 : Int64))), .second, .val (.long (x0_2 &&& (9223372036854775807 : Int64))), .second, .val (.long ((x0_0 &&& (9223372036854775807 : Int64)) % (x0_1 &&& (9223372036854775807 : Int64)))), .second, .val (.long (f1 ((x0_0 &&& (9223372036854775807 : Int64)) % (x0_1 &&& (9223372036854775807 : Int64))) (x0_1 &&& (9223372036854775807 : Int64)) (x0_2 &&& (9223372036854775807 : Int64)))), .second, .val (.long ((x0_1 &&& (9223372036854775807 : Int64)) / (x0_2 &&& (9223372036854775807 : Int64)))), .second, .val (.long ((x0_1 &&& (9223372036854775807 : Int64)) % (x0_2 &&& (9223372036854775807 : Int64)))), .second] [(.long ((x0_1 &&& (9223372036854775807 : Int64)) % (x0_2 &&& (9223372036854775807 : Int64)))), (.long ((x0_1 &&& (9223372036854775807 : Int64)) / (x0_2 &&& (9223372036854775807 : Int64)))), (.long (f1 ((x0_0 &&& (9223372036854775807 : Int64)) % (x0_1 &&& (9223372036854775807 : Int64))) (x0_1 &&& (9223372036854775807 : Int64)) (x0_2 &&& (9223372036854775807 : Int64)))), (.long ((x0_0 &&& (9223372036854775807 : Int64)) % (x0_1 &&& (9223372036854775807 : Int64))))])) t → Steps p.tables e below (T11.setTop (mkF m 97 #[.val (.long x0_0), .second, .val (.long x0_1), .second, .val (.long x0_2), .second, .val (.long (x0_1 &&& (9223372036854775807 : Int64))), .second, .val (.long (x0_2 &&& (9223372036854775807 : Int64))), .second, .val (.long ((x0_0 &&& (9223372036854775807 : Int64)) % (x0_1 &&& (9223372036854775807 : Int64)))), .second, .val (.long (f1 ((x0_0 &&& (9223372036854775807 : Int64)) % (x0_1 &&& (9223372036854775807 : Int64))) (x0_1 &&& (9223372036854775807 : Int64)) (x0_2 &&& (9223372036854775807 : Int64)))), .second, .val (.long ((x0_1 &&& (9223372036854775807 : Int64)) / (x0_2 &&& (9223372036854775807 : Int64)))), .second, .val (.long ((x0_1 &&& (9223372036854775807 : Int64)) % (x0_2 &&& (9223372036854775807 : Int64)))), .second] [(.int (lcmpW (f2 ((f1 ((x0_0 &&& (9223372036854775807 : Int64)) % (x0_1 &&& (9223372036854775807 : Int64))) (x0_1 &&& (9223372036854775807 : Int64)) (x0_2 &&& (9223372036854775807 : Int64))) - (1 : Int64)) ((x0_1 &&& (9223372036854775807 : Int64)) / (x0_2 &&& (9223372036854775807 : Int64))) ((x0_1 &&& (9223372036854775807 : Int64)) % (x0_2 &&& (9223372036854775807 : Int64)))) ((x0_0 &&& (9223372036854775807 : Int64)) % (x0_1 &&& (9223372036854775807 : Int64)))))])) t := fun t kt => by
              show Steps p.tables e below (T11.setTop (mkF m 97 #[.val (.long x0_0), .second, .val (.long x0_1), .second, .val (.long x0_2), .second, .val (.long (x0_1 &&& (9223372036854775807 : Int64))), .second, .val (.long (x0_2 &&& (9223372036854775807 : Int64))), .second, .val (.long ((x0_0 &&& (9223372036854775807 : Int64)) % (x0_1 &&& (9223372036854775807 : Int64)))), .second, .val (.long (f1 ((x0_0 &&& (9223372036854775807 : Int64)) % (x0_1 &&& (9223372036854775807 : Int64))) (x0_1 &&& (9223372036854775807 : Int64)) (x0_2 &&& (9223372036854775807 : Int64)))), .second, .val (.long ((x0_1 &&& (9223372036854775807 : Int64)) / (x0_2 &&& (9223372036854775807 : Int64)))), .second, .val (.long ((x0_1 &&& (9223372036854775807 : Int64)) % (x0_2 &&& (9223372036854775807 : Int64)))), .second] [(.int (lcmpW (f2 ((f1 ((x0_0 &&& (9223372036854775807 : Int64)) % (x0_1 &&& (9223372036854775807 : Int64))) (x0_1 &&& (9223372036854775807 : Int64)) (x0_2 &&& (9223372036854775807 : Int64))) - (1 : Int64)) ((x0_1 &&& (9223372036854775807 : Int64)) / (x0_2 &&& (9223372036854775807 : Int64))) ((x0_1 &&& (9223372036854775807 : Int64)) % (x0_2 &&& (9223372036854775807 : Int64)))) ((x0_0 &&& (9223372036854775807 : Int64)) % (x0_1 &&& (9223372036854775807 : Int64)))))])) _
              refine XS.ifNo X11.here hx rfl (hb hby at_97) rfl ((if0 _ _).trans (flt (mt (lw_gt _ _).mp hc97_14)).2.2.1) ?_
              show Steps p.tables e below (T11.setTop (mkF m 100 #[.val (.long x0_0), .second, .val (.long x0_1), .second, .val (.long x0_2), .second, .val (.long (x0_1 &&& (9223372036854775807 : Int64))), .second, .val (.long (x0_2 &&& (9223372036854775807 : Int64))), .second, .val (.long ((x0_0 &&& (9223372036854775807 : Int64)) % (x0_1 &&& (9223372036854775807 : Int64)))), .second, .val (.long (f1 ((x0_0 &&& (9223372036854775807 : Int64)) % (x0_1 &&& (9223372036854775807 : Int64))) (x0_1 &&& (9223372036854775807 : Int64)) (x0_2 &&& (9223372036854775807 : Int64)))), .second, .val (.long ((x0_1 &&& (9223372036854775807 : Int64)) / (x0_2 &&& (9223372036854775807 : Int64)))), .second, .val (.long ((x0_1 &&& (9223372036854775807 : Int64)) % (x0_2 &&& (9223372036854775807 : Int64)))), .second] [])) _
              refine XS.lload X11.here hx rfl (hb hby at_100) rfl ?_
              show Steps p.tables e below (T11.setTop (mkF m 102 #[.val (.long x0_0), .second, .val (.long x0_1), .second, .val (.long x0_2), .second, .val (.long (x0_1 &&& (9223372036854775807 : Int64))), .second, .val (.long (x0_2 &&& (9223372036854775807 : Int64))), .second, .val (.long ((x0_0 &&& (9223372036854775807 : Int64)) % (x0_1 &&& (9223372036854775807 : Int64)))), .second, .val (.long (f1 ((x0_0 &&& (9223372036854775807 : Int64)) % (x0_1 &&& (9223372036854775807 : Int64))) (x0_1 &&& (9223372036854775807 : Int64)) (x0_2 &&& (9223372036854775807 : Int64)))), .second, .val (.long ((x0_1 &&& (9223372036854775807 : Int64)) / (x0_2 &&& (9223372036854775807 : Int64)))), .second, .val (.long ((x0_1 &&& (9223372036854775807 : Int64)) % (x0_2 &&& (9223372036854775807 : Int64)))), .second] [(.long ((x0_0 &&& (9223372036854775807 : Int64)) % (x0_1 &&& (9223372036854775807 : Int64))))])) _
              refine XS.lload X11.here hx rfl (hb hby at_102) rfl ?_
              show Steps p.tables e below (T11.setTop (mkF m 104 #[.val (.long x0_0), .second, .val (.long x0_1), .second, .val (.long x0_2), .second, .val (.long (x0_1 &&& (9223372036854775807 : Int64))), .second, .val (.long (x0_2 &&& (9223372036854775807 : Int64))), .second, .val (.long ((x0_0 &&& (9223372036854775807 : Int64)) % (x0_1 &&& (9223372036854775807 : Int64)))), .second, .val (.long (f1 ((x0_0 &&& (9223372036854775807 : Int64)) % (x0_1 &&& (9223372036854775807 : Int64))) (x0_1 &&& (9223372036854775807 : Int64)) (x0_2 &&& (9223372036854775807 : Int64)))), .second, .val (.long ((x0_1 &&& (9223372036854775807 : Int64)) / (x0_2 &&& (9223372036854775807 : Int64)))), .second, .val (.long ((x0_1 &&& (9223372036854775807 : Int64)) % (x0_2 &&& (9223372036854775807 : Int64)))), .second] [(.long (f1 ((x0_0 &&& (9223372036854775807 : Int64)) % (x0_1 &&& (9223372036854775807 : Int64))) (x0_1 &&& (9223372036854775807 : Int64)) (x0_2 &&& (9223372036854775807 : Int64)))), (.long ((x0_0 &&& (9223372036854775807 : Int64)) % (x0_1 &&& (9223372036854775807 : Int64))))])) _
              refine XS.lload X11.here hx rfl (hb hby at_104) rfl ?_
              show Steps p.tables e below (T11.setTop (mkF m 106 #[.val (.long x0_0), .second, .val (.long x0_1), .second, .val (.long x0_2), .second, .val (.long (x0_1 &&& (9223372036854775807 : Int64))), .second, .val (.long (x0_2 &&& (9223372036854775807 : Int64))), .second, .val (.long ((x0_0 &&& (9223372036854775807 : Int64)) % (x0_1 &&& (9223372036854775807 : Int64)))), .second, .val (.long (f1 ((x0_0 &&& (9223372036854775807 : Int64)) % (x0_1 &&& (9223372036854775807 : Int64))) (x0_1 &&& (9223372036854775807 : Int64)) (x0_2 &&& (9223372036854775807 : Int64)))), .second, .val (.long ((x0_1 &&& (9223372036854775807 : Int64)) / (x0_2 &&& (9223372036854775807 : Int64)))), .second, .val (.long ((x0_1 &&& (9223372036854775807 : Int64)) % (x0_2 &&& (9223372036854775807 : Int64)))), .second] [(.long ((x0_1 &&& (9223372036854775807 : Int64)) / (x0_2 &&& (9223372036854775807 : Int64)))), (.long (f1 ((x0_0 &&& (9223372036854775807 : Int64)) % (x0_1 &&& (9223372036854775807 : Int64))) (x0_1 &&& (9223372036854775807 : Int64)) (x0_2 &&& (9223372036854775807 : Int64)))), (.long ((x0_0 &&& (9223372036854775807 : Int64)) % (x0_1 &&& (9223372036854775807 : Int64))))])) _
              refine XS.lload X11.here hx rfl (hb hby at_106) rfl ?_
              exact kt
            obtain ⟨v15, _, ⟨T15, L15, k15, n15⟩, -, X15, ⟨Lc15, hQ15, l15, y15, z15⟩, st15⟩ := Jvm.LawKit.callS X11 hx (y := (⟨"com/example/rollcube/rollcube/engine/WindowsTilePinLaw", "rowsBefore", "(JJJ)J"⟩ : MethodName)) hown (mvT hZ (hw _ (List.mem_of_getElem? (i := 5) rfl))) (mvT hZ (hw _ (List.mem_of_getElem? (i := 6) rfl))) (mvT hZ (hw _ (List.mem_of_getElem? (i := 7) rfl))) (mvT hZ (hw _ (List.mem_of_getElem? (i := 8) rfl))) (by decide) (backOf (W := 2) (rm2 l Z a0 hw [] (f1 ((x0_0 &&& (9223372036854775807 : Int64)) % (x0_1 &&& (9223372036854775807 : Int64))) (x0_1 &&& (9223372036854775807 : Int64)) (x0_2 &&& (9223372036854775807 : Int64))) ((x0_1 &&& (9223372036854775807 : Int64)) / (x0_2 &&& (9223372036854775807 : Int64))) ((x0_1 &&& (9223372036854775807 : Int64)) % (x0_2 &&& (9223372036854775807 : Int64))) h0 n0 Z0) hZ (hw _ (List.mem_of_getElem? (i := 8) rfl)) (hw _ (List.mem_of_getElem? (i := 7) rfl)) (by decide) (by decide)) (g := (mkF m 108 #[.val (.long x0_0), .second, .val (.long x0_1), .second, .val (.long x0_2), .second, .val (.long (x0_1 &&& (9223372036854775807 : Int64))), .second, .val (.long (x0_2 &&& (9223372036854775807 : Int64))), .second, .val (.long ((x0_0 &&& (9223372036854775807 : Int64)) % (x0_1 &&& (9223372036854775807 : Int64)))), .second, .val (.long (f1 ((x0_0 &&& (9223372036854775807 : Int64)) % (x0_1 &&& (9223372036854775807 : Int64))) (x0_1 &&& (9223372036854775807 : Int64)) (x0_2 &&& (9223372036854775807 : Int64)))), .second, .val (.long ((x0_1 &&& (9223372036854775807 : Int64)) / (x0_2 &&& (9223372036854775807 : Int64)))), .second, .val (.long ((x0_1 &&& (9223372036854775807 : Int64)) % (x0_2 &&& (9223372036854775807 : Int64)))), .second] [(.long ((x0_1 &&& (9223372036854775807 : Int64)) % (x0_2 &&& (9223372036854775807 : Int64)))), (.long ((x0_1 &&& (9223372036854775807 : Int64)) / (x0_2 &&& (9223372036854775807 : Int64)))), (.long (f1 ((x0_0 &&& (9223372036854775807 : Int64)) % (x0_1 &&& (9223372036854775807 : Int64))) (x0_1 &&& (9223372036854775807 : Int64)) (x0_2 &&& (9223372036854775807 : Int64)))), (.long ((x0_0 &&& (9223372036854775807 : Int64)) % (x0_1 &&& (9223372036854775807 : Int64))))])) rfl (by rw [hml]; rfl) (argsL := [(.long (f1 ((x0_0 &&& (9223372036854775807 : Int64)) % (x0_1 &&& (9223372036854775807 : Int64))) (x0_1 &&& (9223372036854775807 : Int64)) (x0_2 &&& (9223372036854775807 : Int64)))), (.long ((x0_1 &&& (9223372036854775807 : Int64)) / (x0_2 &&& (9223372036854775807 : Int64)))), (.long ((x0_1 &&& (9223372036854775807 : Int64)) % (x0_2 &&& (9223372036854775807 : Int64))))]) (rest := [(.long ((x0_0 &&& (9223372036854775807 : Int64)) % (x0_1 &&& (9223372036854775807 : Int64))))]) (lenOf pd_1 rfl) rfl (by show 2 * 0 + _ ≤ _; exact Nat.le_of_eq rfl) (hb hby at_108) (fun _ _ => ⟨rfl, e11, (by decide : 0 + 0 ≤ _), (by decide : 0 + 0 ≤ _)⟩)
            dsimp only [Pt.U, Pt.locs, Pt.cells, Pt.slots] at X15 l15 y15 z15 st15 hQ15
            subst l15 y15 z15
            obtain ⟨hv15, N15q, e15⟩ := hQ15
            have N15 := Fr.app N11 N15q
            subst hv15
            have sg17 : ∀ t, Steps p.tables e below (T15.setTop (mkF m 112 #[.val (.long x0_0), .second, .val (.long x0_1), .second, .val (.long x0_2), .second, .val (.long (x0_1 &&& (9223372036854775807 : Int64))), .second, .val (.long (x0_2 &&& (9223372036854775807 : Int64))), .second, .val (.long ((x0_0 &&& (9223372036854775807 : Int64)) % (x0_1 &&& (9223372036854775807 : Int64)))), .second, .val (.long (f1 ((x0_0 &&& (9223372036854775807 : Int64)) % (x0_1 &&& (9223372036854775807 : Int64))) (x0_1 &&& (9223372036854775807 : Int64)) (x0_2 &&& (9223372036854775807 : Int64)))), .second, .val (.long ((x0_1 &&& (9223372036854775807 : Int64)) / (x0_2 &&& (9223372036854775807 : Int64)))), .second, .val (.long ((x0_1 &&& (9223372036854775807 : Int64)) % (x0_2 &&& (9223372036854775807 : Int64)))), .second] [(.int (lcmpW ((x0_0 &&& (9223372036854775807 : Int64)) % (x0_1 &&& (9223372036854775807 : Int64))) (f2 (f1 ((x0_0 &&& (9223372036854775807 : Int64)) % (x0_1 &&& (9223372036854775807 : Int64))) (x0_1 &&& (9223372036854775807 : Int64)) (x0_2 &&& (9223372036854775807 : Int64))) ((x0_1 &&& (9223372036854775807 : Int64)) / (x0_2 &&& (9223372036854775807 : Int64))) ((x0_1 &&& (9223372036854775807 : Int64)) % (x0_2 &&& (9223372036854775807 : Int64))))))])) t → Steps p.tables e below (T11.setTop (mkF m 108 #[.val (.long x0_0), .second, .val (.long x0_1), .second, .val (.long x0_2), .second, .val (.long (x0_1 &&& (9223372036854775807 : Int64))), .second, .val (.long (x0_2 &&& (9223372036854775807 : Int64))), .second, .val (.long ((x0_0 &&& (9223372036854775807 : Int64)) % (x0_1 &&& (9223372036854775807 : Int64)))), .second, .val (.long (f1 ((x0_0 &&& (9223372036854775807 : Int64)) % (x0_1 &&& (9223372036854775807 : Int64))) (x0_1 &&& (9223372036854775807 : Int64)) (x0_2 &&& (9223372036854775807 : Int64)))), .second, .val (.long ((x0_1 &&& (9223372036854775807 : Int64)) / (x0_2 &&& (9223372036854775807 : Int64)))), .second, .val (.long ((x0_1 &&& (9223372036854775807 : Int64)) % (x0_2 &&& (9223372036854775807 : Int64)))), .second] [(.long ((x0_1 &&& (9223372036854775807 : Int64)) % (x0_2 &&& (9223372036854775807 : Int64)))), (.long ((x0_1 &&& (9223372036854775807 : Int64)) / (x0_2 &&& (9223372036854775807 : Int64)))), (.long (f1 ((x0_0 &&& (9223372036854775807 : Int64)) % (x0_1 &&& (9223372036854775807 : Int64))) (x0_1 &&& (9223372036854775807 : Int64)) (x0_2 &&& (9223372036854775807 : Int64)))), (.long ((x0_0 &&& (9223372036854775807 : Int64)) % (x0_1 &&& (9223372036854775807 : Int64))))])) t := fun t kt => by
              show Steps p.tables e below (T11.setTop (mkF m 108 #[.val (.long x0_0), .second, .val (.long x0_1), .second, .val (.long x0_2), .second, .val (.long (x0_1 &&& (9223372036854775807 : Int64))), .second, .val (.long (x0_2 &&& (9223372036854775807 : Int64))), .second, .val (.long ((x0_0 &&& (9223372036854775807 : Int64)) % (x0_1 &&& (9223372036854775807 : Int64)))), .second, .val (.long (f1 ((x0_0 &&& (9223372036854775807 : Int64)) % (x0_1 &&& (9223372036854775807 : Int64))) (x0_1 &&& (9223372036854775807 : Int64)) (x0_2 &&& (9223372036854775807 : Int64)))), .second, .val (.long ((x0_1 &&& (9223372036854775807 : Int64)) / (x0_2 &&& (9223372036854775807 : Int64)))), .second, .val (.long ((x0_1 &&& (9223372036854775807 : Int64)) % (x0_2 &&& (9223372036854775807 : Int64)))), .second] [(.long ((x0_1 &&& (9223372036854775807 : Int64)) % (x0_2 &&& (9223372036854775807 : Int64)))), (.long ((x0_1 &&& (9223372036854775807 : Int64)) / (x0_2 &&& (9223372036854775807 : Int64)))), (.long (f1 ((x0_0 &&& (9223372036854775807 : Int64)) % (x0_1 &&& (9223372036854775807 : Int64))) (x0_1 &&& (9223372036854775807 : Int64)) (x0_2 &&& (9223372036854775807 : Int64)))), (.long ((x0_0 &&& (9223372036854775807 : Int64)) % (x0_1 &&& (9223372036854775807 : Int64))))])) _
              refine st15 _ ?_
              show Steps p.tables e below (T15.setTop (mkF m 111 #[.val (.long x0_0), .second, .val (.long x0_1), .second, .val (.long x0_2), .second, .val (.long (x0_1 &&& (9223372036854775807 : Int64))), .second, .val (.long (x0_2 &&& (9223372036854775807 : Int64))), .second, .val (.long ((x0_0 &&& (9223372036854775807 : Int64)) % (x0_1 &&& (9223372036854775807 : Int64)))), .second, .val (.long (f1 ((x0_0 &&& (9223372036854775807 : Int64)) % (x0_1 &&& (9223372036854775807 : Int64))) (x0_1 &&& (9223372036854775807 : Int64)) (x0_2 &&& (9223372036854775807 : Int64)))), .second, .val (.long ((x0_1 &&& (9223372036854775807 : Int64)) / (x0_2 &&& (9223372036854775807 : Int64)))), .second, .val (.long ((x0_1 &&& (9223372036854775807 : Int64)) % (x0_2 &&& (9223372036854775807 : Int64)))), .second] [(.long (f2 (f1 ((x0_0 &&& (9223372036854775807 : Int64)) % (x0_1 &&& (9223372036854775807 : Int64))) (x0_1 &&& (9223372036854775807 : Int64)) (x0_2 &&& (9223372036854775807 : Int64))) ((x0_1 &&& (9223372036854775807 : Int64)) / (x0_2 &&& (9223372036854775807 : Int64))) ((x0_1 &&& (9223372036854775807 : Int64)) % (x0_2 &&& (9223372036854775807 : Int64))))), (.long ((x0_0 &&& (9223372036854775807 : Int64)) % (x0_1 &&& (9223372036854775807 : Int64))))])) _
              refine XS.lcmp X15.here hx rfl (hb hby at_111) rfl ?_
              exact kt
            by_cases hc112_18 : ((x0_0 &&& (9223372036854775807 : Int64)) % (x0_1 &&& (9223372036854775807 : Int64))) < (f2 (f1 ((x0_0 &&& (9223372036854775807 : Int64)) % (x0_1 &&& (9223372036854775807 : Int64))) (x0_1 &&& (9223372036854775807 : Int64)) (x0_2 &&& (9223372036854775807 : Int64))) ((x0_1 &&& (9223372036854775807 : Int64)) / (x0_2 &&& (9223372036854775807 : Int64))) ((x0_1 &&& (9223372036854775807 : Int64)) % (x0_2 &&& (9223372036854775807 : Int64))))
            · obtain ⟨fs, hr, hrun, hended, hW, hsame⟩ := X15.leave (v := some (.int (1 : Int32))) (fun h => by rw [Bd.returns] at h; cases h)
              refine ⟨_, _, pre0 _ (sg1 _ (sg3 _ (sg6 _ (sg7 _ (sg9 _ (sg12 _ (sg13 _ (sg16 _ (sg17 _ ?_))))))))), hrun, hended, _, _, rfl, ?_, ⟨_, rfl⟩, hW, hsame.mono (by decide) (by decide)⟩
              · show Steps p.tables e below (T15.setTop (mkF m 112 #[.val (.long x0_0), .second, .val (.long x0_1), .second, .val (.long x0_2), .second, .val (.long (x0_1 &&& (9223372036854775807 : Int64))), .second, .val (.long (x0_2 &&& (9223372036854775807 : Int64))), .second, .val (.long ((x0_0 &&& (9223372036854775807 : Int64)) % (x0_1 &&& (9223372036854775807 : Int64)))), .second, .val (.long (f1 ((x0_0 &&& (9223372036854775807 : Int64)) % (x0_1 &&& (9223372036854775807 : Int64))) (x0_1 &&& (9223372036854775807 : Int64)) (x0_2 &&& (9223372036854775807 : Int64)))), .second, .val (.long ((x0_1 &&& (9223372036854775807 : Int64)) / (x0_2 &&& (9223372036854775807 : Int64)))), .second, .val (.long ((x0_1 &&& (9223372036854775807 : Int64)) % (x0_2 &&& (9223372036854775807 : Int64)))), .second] [(.int (lcmpW ((x0_0 &&& (9223372036854775807 : Int64)) % (x0_1 &&& (9223372036854775807 : Int64))) (f2 (f1 ((x0_0 &&& (9223372036854775807 : Int64)) % (x0_1 &&& (9223372036854775807 : Int64))) (x0_1 &&& (9223372036854775807 : Int64)) (x0_2 &&& (9223372036854775807 : Int64))) ((x0_1 &&& (9223372036854775807 : Int64)) / (x0_2 &&& (9223372036854775807 : Int64))) ((x0_1 &&& (9223372036854775807 : Int64)) % (x0_2 &&& (9223372036854775807 : Int64))))))])) _
                refine XS.ifNo X15.here hx rfl (hb hby at_112) rfl ((if0 _ _).trans (tlt ((lw_lt _ _).mpr hc112_18)).2.1) ?_
                show Steps p.tables e below (T15.setTop (mkF m 115 #[.val (.long x0_0), .second, .val (.long x0_1), .second, .val (.long x0_2), .second, .val (.long (x0_1 &&& (9223372036854775807 : Int64))), .second, .val (.long (x0_2 &&& (9223372036854775807 : Int64))), .second, .val (.long ((x0_0 &&& (9223372036854775807 : Int64)) % (x0_1 &&& (9223372036854775807 : Int64)))), .second, .val (.long (f1 ((x0_0 &&& (9223372036854775807 : Int64)) % (x0_1 &&& (9223372036854775807 : Int64))) (x0_1 &&& (9223372036854775807 : Int64)) (x0_2 &&& (9223372036854775807 : Int64)))), .second, .val (.long ((x0_1 &&& (9223372036854775807 : Int64)) / (x0_2 &&& (9223372036854775807 : Int64)))), .second, .val (.long ((x0_1 &&& (9223372036854775807 : Int64)) % (x0_2 &&& (9223372036854775807 : Int64)))), .second] [])) _
                refine XS.iconst X15.here hx rfl (hb hby at_115) ?_
                show Steps p.tables e below (T15.setTop (mkF m 116 #[.val (.long x0_0), .second, .val (.long x0_1), .second, .val (.long x0_2), .second, .val (.long (x0_1 &&& (9223372036854775807 : Int64))), .second, .val (.long (x0_2 &&& (9223372036854775807 : Int64))), .second, .val (.long ((x0_0 &&& (9223372036854775807 : Int64)) % (x0_1 &&& (9223372036854775807 : Int64)))), .second, .val (.long (f1 ((x0_0 &&& (9223372036854775807 : Int64)) % (x0_1 &&& (9223372036854775807 : Int64))) (x0_1 &&& (9223372036854775807 : Int64)) (x0_2 &&& (9223372036854775807 : Int64)))), .second, .val (.long ((x0_1 &&& (9223372036854775807 : Int64)) / (x0_2 &&& (9223372036854775807 : Int64)))), .second, .val (.long ((x0_1 &&& (9223372036854775807 : Int64)) % (x0_2 &&& (9223372036854775807 : Int64)))), .second] [(.int (1 : Int32))])) _
                refine XS.goto X15.here hx rfl (pc0 := 116) (pc' := 120) rfl (hb hby at_116) (by decide) (by decide) ?_
                show Steps p.tables e below (T15.setTop (mkF m 120 #[.val (.long x0_0), .second, .val (.long x0_1), .second, .val (.long x0_2), .second, .val (.long (x0_1 &&& (9223372036854775807 : Int64))), .second, .val (.long (x0_2 &&& (9223372036854775807 : Int64))), .second, .val (.long ((x0_0 &&& (9223372036854775807 : Int64)) % (x0_1 &&& (9223372036854775807 : Int64)))), .second, .val (.long (f1 ((x0_0 &&& (9223372036854775807 : Int64)) % (x0_1 &&& (9223372036854775807 : Int64))) (x0_1 &&& (9223372036854775807 : Int64)) (x0_2 &&& (9223372036854775807 : Int64)))), .second, .val (.long ((x0_1 &&& (9223372036854775807 : Int64)) / (x0_2 &&& (9223372036854775807 : Int64)))), .second, .val (.long ((x0_1 &&& (9223372036854775807 : Int64)) % (x0_2 &&& (9223372036854775807 : Int64)))), .second] [(.int (1 : Int32))])) _
                exact retN X15 hx (t := .boolean) Bd.returns (by simp) (hb hby at_120) hr
              · exact ⟨congrArg (fun z => some (Value.int z)) (show (1 : Int32) = f0 x0_0 x0_1 x0_2 from by unfold f0; rw [if_neg hc19_2, if_neg hc26_4, if_neg hc56_8, if_neg hc64_10, if_neg hc97_14, if_pos hc112_18]), N15, e15⟩
            · obtain ⟨fs, hr, hrun, hended, hW, hsame⟩ := X15.leave (v := some (.int (0 : Int32))) (fun h => by rw [Bd.returns] at h; cases h)
              refine ⟨_, _, pre0 _ (sg1 _ (sg3 _ (sg6 _ (sg7 _ (sg9 _ (sg12 _ (sg13 _ (sg16 _ (sg17 _ ?_))))))))), hrun, hended, _, _, rfl, ?_, ⟨_, rfl⟩, hW, hsame.mono (by decide) (by decide)⟩
              · show Steps p.tables e below (T15.setTop (mkF m 112 #[.val (.long x0_0), .second, .val (.long x0_1), .second, .val (.long x0_2), .second, .val (.long (x0_1 &&& (9223372036854775807 : Int64))), .second, .val (.long (x0_2 &&& (9223372036854775807 : Int64))), .second, .val (.long ((x0_0 &&& (9223372036854775807 : Int64)) % (x0_1 &&& (9223372036854775807 : Int64)))), .second, .val (.long (f1 ((x0_0 &&& (9223372036854775807 : Int64)) % (x0_1 &&& (9223372036854775807 : Int64))) (x0_1 &&& (9223372036854775807 : Int64)) (x0_2 &&& (9223372036854775807 : Int64)))), .second, .val (.long ((x0_1 &&& (9223372036854775807 : Int64)) / (x0_2 &&& (9223372036854775807 : Int64)))), .second, .val (.long ((x0_1 &&& (9223372036854775807 : Int64)) % (x0_2 &&& (9223372036854775807 : Int64)))), .second] [(.int (lcmpW ((x0_0 &&& (9223372036854775807 : Int64)) % (x0_1 &&& (9223372036854775807 : Int64))) (f2 (f1 ((x0_0 &&& (9223372036854775807 : Int64)) % (x0_1 &&& (9223372036854775807 : Int64))) (x0_1 &&& (9223372036854775807 : Int64)) (x0_2 &&& (9223372036854775807 : Int64))) ((x0_1 &&& (9223372036854775807 : Int64)) / (x0_2 &&& (9223372036854775807 : Int64))) ((x0_1 &&& (9223372036854775807 : Int64)) % (x0_2 &&& (9223372036854775807 : Int64))))))])) _
                refine XS.ifYes X15.here hx rfl (pc0 := 112) (pc' := 119) rfl (hb hby at_112) rfl ((if0 _ _).trans (flt (mt (lw_lt _ _).mp hc112_18)).2.1) (by decide) (by decide) ?_
                show Steps p.tables e below (T15.setTop (mkF m 119 #[.val (.long x0_0), .second, .val (.long x0_1), .second, .val (.long x0_2), .second, .val (.long (x0_1 &&& (9223372036854775807 : Int64))), .second, .val (.long (x0_2 &&& (9223372036854775807 : Int64))), .second, .val (.long ((x0_0 &&& (9223372036854775807 : Int64)) % (x0_1 &&& (9223372036854775807 : Int64)))), .second, .val (.long (f1 ((x0_0 &&& (9223372036854775807 : Int64)) % (x0_1 &&& (9223372036854775807 : Int64))) (x0_1 &&& (9223372036854775807 : Int64)) (x0_2 &&& (9223372036854775807 : Int64)))), .second, .val (.long ((x0_1 &&& (9223372036854775807 : Int64)) / (x0_2 &&& (9223372036854775807 : Int64)))), .second, .val (.long ((x0_1 &&& (9223372036854775807 : Int64)) % (x0_2 &&& (9223372036854775807 : Int64)))), .second] [])) _
                refine XS.iconst X15.here hx rfl (hb hby at_119) ?_
                show Steps p.tables e below (T15.setTop (mkF m 120 #[.val (.long x0_0), .second, .val (.long x0_1), .second, .val (.long x0_2), .second, .val (.long (x0_1 &&& (9223372036854775807 : Int64))), .second, .val (.long (x0_2 &&& (9223372036854775807 : Int64))), .second, .val (.long ((x0_0 &&& (9223372036854775807 : Int64)) % (x0_1 &&& (9223372036854775807 : Int64)))), .second, .val (.long (f1 ((x0_0 &&& (9223372036854775807 : Int64)) % (x0_1 &&& (9223372036854775807 : Int64))) (x0_1 &&& (9223372036854775807 : Int64)) (x0_2 &&& (9223372036854775807 : Int64)))), .second, .val (.long ((x0_1 &&& (9223372036854775807 : Int64)) / (x0_2 &&& (9223372036854775807 : Int64)))), .second, .val (.long ((x0_1 &&& (9223372036854775807 : Int64)) % (x0_2 &&& (9223372036854775807 : Int64)))), .second] [(.int (0 : Int32))])) _
                exact retN X15 hx (t := .boolean) Bd.returns (by simp) (hb hby at_120) hr
              · exact ⟨congrArg (fun z => some (Value.int z)) (show (0 : Int32) = f0 x0_0 x0_1 x0_2 from by unfold f0; rw [if_neg hc19_2, if_neg hc26_4, if_neg hc56_8, if_neg hc64_10, if_neg hc97_14, if_neg hc112_18]), N15, e15⟩
/-- what the k first groups hold, as a number -/
theorem own_f2 (a q r : Int64) (A Q R : Int) (ha : a.toInt = A) (hq : q.toInt = Q) (hr : r.toInt = R) (h1 : 0 ≤ A * Q) (h2 : A * Q < 2 ^ 63) (M : Int) (hM : M = if R < A then R else A) (h3 : 0 ≤ A * Q + M) (h4 : A * Q + M < 2 ^ 63) : (f2 a q r).toInt = A * Q + M := by
  unfold f2 f3
  have m1 : (a * q).toInt = A * Q := by rw [Jvm.Kit.i64_mul (by rw [ha, hq]; omega) (by rw [ha, hq]; omega), ha, hq]
  by_cases h : r < a
  · have h' : R < A := by rw [Int64.lt_iff_toInt_lt, ha, hr] at h; exact h
    rw [if_pos h'] at hM
    rw [if_pos h, Jvm.Kit.i64_add (by rw [m1, hr]; omega) (by rw [m1, hr]; omega), m1, hr, hM]
  · have h' : ¬ R < A := by rw [Int64.lt_iff_toInt_lt, ha, hr] at h; exact h
    rw [if_neg h'] at hM
    rw [if_neg h, Jvm.Kit.i64_add (by rw [m1, ha]; omega) (by rw [m1, ha]; omega), m1, ha, hM]
theorem own_law (p s n : Int64) (h : 0 ≤ p.toInt ∧ p.toInt < s.toInt ∧ 0 < n.toInt) : ¬ (f1 p s n < (1 : Int64)) ∧ ¬ (n < f1 p s n) ∧ ¬ (p < f2 (f1 p s n - (1 : Int64)) (s / n) (s % n)) ∧ p < f2 (f1 p s n) (s / n) (s % n) := by
  obtain ⟨hP, hPS, hN⟩ := h
  have hS : 0 ≤ s.toInt := by omega
  have bs := s.toInt_lt
  have bn := n.toInt_lt
  have qv := own_qv s n hS hN
  have rv := own_rv s n hS
  have bd := own_bd s n hS hN
  have e := Int.emod_add_mul_ediv s.toInt n.toInt
  have n1 := Int.emod_nonneg s.toInt (by omega : n.toInt ≠ 0)
  have n2 := Int.emod_lt_of_pos s.toInt hN
  have q0 : 0 ≤ s.toInt / n.toInt := Int.ediv_nonneg hS (by omega)
  simp only [Int64.lt_iff_toInt_lt, own_l1]
  by_cases hc : p < ((s % n) * ((s / n) + (1 : Int64)))
  · have hc' : p.toInt < (s.toInt % n.toInt) * (s.toInt / n.toInt + 1) := by rw [Int64.lt_iff_toInt_lt, bd] at hc; exact hc
    have hr : s.toInt % n.toInt ≠ 0 := fun z => by rw [z, Int.zero_mul] at hc'; omega
    have hh := own_half s.toInt n.toInt hS hN hr
    have qp := own_qp s n hS hN hr
    have ka := own_A p.toInt (s.toInt / n.toInt) (s.toInt % n.toInt) (p.toInt / (s.toInt / n.toInt + 1)) hP q0 hc' rfl
    have dv : (p / ((s / n) + (1 : Int64))).toInt = p.toInt / (s.toInt / n.toInt + 1) := by rw [own_qv _ _ hP (by rw [qp]; omega), qp]
    generalize p.toInt / (s.toInt / n.toInt + 1) = k at ka dv
    obtain ⟨k0, k1, k2, k3⟩ := ka
    have t1 : (f1 p s n).toInt = k + 1 := by
      unfold f1
      rw [if_pos hc, Jvm.Kit.i64_add (by rw [dv, own_l1]; omega) (by rw [dv, own_l1]; omega), dv, own_l1]
    have t2 : (f1 p s n - (1 : Int64)).toInt = k := by rw [Jvm.Kit.i64_sub (by rw [t1, own_l1]; omega) (by rw [t1, own_l1]; omega), t1, own_l1]; omega
    generalize s.toInt / n.toInt = q at *
    generalize s.toInt % n.toInt = r at *
    have g1 : 0 ≤ k * q := Int.mul_nonneg k0 q0
    have g2 : 0 ≤ (k + 1) * q := Int.mul_nonneg (by omega) q0
    have g3 : (k + 1) * q ≤ r * q := Int.mul_le_mul_of_nonneg_right (by omega) q0
    have g4 : r * (q + 1) = r * q + r := by rw [Int.mul_add, Int.mul_one]
    have u1 := own_f2 (f1 p s n - 1) (s / n) (s % n) k q r t2 qv rv g1 (by omega) k (by rw [if_neg (by omega)]) (by omega) (by omega)
    have u2 := own_f2 (f1 p s n) (s / n) (s % n) (k + 1) q r t1 qv rv g2 (by omega) (k + 1) (by rw [if_neg (by omega)]) (by omega) (by omega)
    rw [t1, u1, u2]
    refine ⟨by omega, by omega, by omega, by omega⟩
  · have hc' : ¬ p.toInt < (s.toInt % n.toInt) * (s.toInt / n.toInt + 1) := by rw [Int64.lt_iff_toInt_lt, bd] at hc; exact hc
    have hq : 0 < s.toInt / n.toInt := by
      have z : s.toInt / n.toInt ≠ 0 := fun z => own_q0 p s n ⟨hP, hPS, hN⟩ hc (Int64.toInt_inj.mp (by rw [qv, z]; decide))
      omega
    have kb := own_B p.toInt s.toInt n.toInt (s.toInt / n.toInt) (s.toInt % n.toInt) ((p.toInt - (s.toInt % n.toInt) * (s.toInt / n.toInt + 1)) / (s.toInt / n.toInt)) hPS hq e hc' rfl
    have g0 : 0 ≤ (s.toInt % n.toInt) * (s.toInt / n.toInt + 1) := Int.mul_nonneg n1 (by omega)
    have df : (p - ((s % n) * ((s / n) + (1 : Int64)))).toInt = p.toInt - (s.toInt % n.toInt) * (s.toInt / n.toInt + 1) := by rw [Jvm.Kit.i64_sub (by rw [bd]; omega) (by rw [bd]; omega), bd]
    have dv : ((p - ((s % n) * ((s / n) + (1 : Int64)))) / (s / n)).toInt = (p.toInt - (s.toInt % n.toInt) * (s.toInt / n.toInt + 1)) / (s.toInt / n.toInt) := by rw [own_qv _ _ (by rw [df]; omega) (by rw [qv]; omega), df, qv]
    generalize (p.toInt - (s.toInt % n.toInt) * (s.toInt / n.toInt + 1)) / (s.toInt / n.toInt) = k at kb dv
    obtain ⟨k0, k1, k2, k3⟩ := kb
    have t0 : ((s % n) + ((p - ((s % n) * ((s / n) + (1 : Int64)))) / (s / n))).toInt = s.toInt % n.toInt + k := by rw [Jvm.Kit.i64_add (by rw [rv, dv]; omega) (by rw [rv, dv]; omega), rv, dv]
    have t1 : (f1 p s n).toInt = s.toInt % n.toInt + k + 1 := by
      unfold f1
      rw [if_neg hc, Jvm.Kit.i64_add (by rw [t0, own_l1]; omega) (by rw [t0, own_l1]; omega), t0, own_l1]
    have t2 : (f1 p s n - (1 : Int64)).toInt = s.toInt % n.toInt + k := by rw [Jvm.Kit.i64_sub (by rw [t1, own_l1]; omega) (by rw [t1, own_l1]; omega), t1, own_l1]; omega
    generalize s.toInt / n.toInt = q at *
    generalize s.toInt % n.toInt = r at *
    have g1 : 0 ≤ (r + k) * q := Int.mul_nonneg (by omega) (by omega)
    have g2 : 0 ≤ (r + k + 1) * q := Int.mul_nonneg (by omega) (by omega)
    have g3 : (r + k + 1) * q ≤ n.toInt * q := Int.mul_le_mul_of_nonneg_right (by omega) (by omega)
    have hM1 : r = if r < r + k then r else r + k := by
      by_cases z : r < r + k
      · rw [if_pos z]
      · rw [if_neg z]; omega
    have u1 := own_f2 (f1 p s n - 1) (s / n) (s % n) (r + k) q r t2 qv rv g1 (by omega) r hM1 (by omega) (by omega)
    have u2 := own_f2 (f1 p s n) (s / n) (s % n) (r + k + 1) q r t1 qv rv g2 (by omega) r (by rw [if_pos (by omega)]) (by omega) (by omega)
    rw [t1, u1, u2]
    refine ⟨by omega, by omega, by omega, by omega⟩
theorem own_one (x0_0 x0_1 x0_2 : Int64) : f0 x0_0 x0_1 x0_2 = 1 := by
  unfold f0
  by_cases hs : (x0_1 &&& (9223372036854775807 : Int64)) = (0 : Int64)
  · rw [if_pos hs]
  · by_cases hn : (x0_2 &&& (9223372036854775807 : Int64)) = (0 : Int64)
    · rw [if_neg hs, if_pos hn]
    · have h := own_law _ _ _ (own_rng x0_0 x0_1 x0_2 hs hn)
      rw [if_neg hs, if_neg hn, if_neg h.1, if_neg h.2.1, if_neg h.2.2.1, if_pos h.2.2.2]
set_option maxRecDepth 65536 in
set_option maxHeartbeats 40000000 in
theorem comes_1 {Post : Tables → Env → Array Value → State → Outcome → State → Prop} (hpost : ∀ tb e args s v u, (limb_1_1.after args s (.returned v) u = true ∧ limb_1_2.after args s (.returned v) u = true ∧ True) → FrameEnd s (.returned v) u (Jvm.fieldLocs frame_1_writes args s ++ Jvm.arrayLocs frame_1_arrays args s ++ Jvm.staticLocs frame_1_statics s) 0 0 → Post tb e args s (.returned v) u) :
    ArmFor flags0 classFile x code maxLocals ret World_1 tables_1 room_1 Calls_1 rest_1 Pre_1 Post := by
  intro l hfl _ _ p e ha hc hk s m args below hf hA hF happ hP
  obtain ⟨hcalls, hrest, hpre⟩ := hP
  obtain ⟨-, -, -, hnamed, -, -, -, hat⟩ := (Spec.applies_iff hf).mp happ
  obtain ⟨hg, hn⟩ := and_e (Cond.before_iff.mp (show (Jvm.Cond.and given_1 narrow_1).before args s = true from hpre))
  obtain ⟨g1, g2⟩ := and_e hg
  obtain ⟨g3, g4⟩ := and_e g2
  obtain ⟨g5, g6⟩ := and_e g4
  obtain ⟨w0, w1, w2, rfl⟩ : ∃ w0 w1 w2 : Value, args = #[w0, w1, w2] := by
    have hs : args.size = 3 := by simpa [Cond.value, given_1] using g1
    obtain ⟨L⟩ := args
    match L, hs with
    | [w0, w1, w2], _ => exact ⟨w0, w1, w2, rfl⟩
  have hw := fun d (hd : d ∈ tables_1) => atoms_spec (ws := Jvm.Cond.code x code maxLocals ret :: tables_1) hat d (List.mem_cons_of_mem _ hd)
  obtain ⟨i0, ei0⟩ := isL_v g3
  obtain rfl : w0 = (.long i0) := Option.some.inj ei0
  obtain ⟨i1, ei1⟩ := isL_v g5
  obtain rfl : w1 = (.long i1) := Option.some.inj ei1
  obtain ⟨i2, ei2⟩ := isL_v g6
  obtain rfl : w2 = (.long i2) := Option.some.inj ei2
  obtain ⟨n, o, h1, h2, h3, _, L, rfl, ⟨rfl, N, -⟩, hq⟩ := rm0 l s _ hw tables_1 i0 i1 i2 s.heap s.heap.size (Nat.le_refl _) p e ha hc hk s m _ below hf ((Spec.applies_iff_loose hf).mp happ).1 ⟨rfl, State.Warmed39.refl s, rfl⟩ trivial
  have hone : f0 i0 i1 i2 = 1 := own_one i0 i1 i2
  rw [hone] at h3 hq
  refine ⟨n, _, h1, h2, h3, hpost _ _ _ _ _ _ ⟨Cond.after_iff.mpr rfl, Cond.after_iff.mpr (eq_i res_at (Term.int_eval (1)) rfl), trivial⟩ ⟨hq.1, hq.2.1, (hq.2.2.sift fun y hy => Or.inr (N y hy)).mono (by decide) (by decide)⟩⟩
theorem main_1_1 : Claimed_1_1 := comes_1 fun _ _ _ _ _ _ h hF => ⟨h.1, hF⟩
theorem main_1_2 : Claimed_1_2 := comes_1 fun _ _ _ _ _ _ h hF => ⟨h.2.1, hF⟩
end Jvm.Pilot.@@N@@
namespace Jvm.Pilot.@@N@@
open Jvm Jvm.ClassFile Sem Op Lib Jvm.Free Jvm.Stand Jvm.Pilot.@@N@@.Jvm.D
/-! MADE BY PROGRAM (witnessworld.py) out of the Statement's table words and the real class files: 10 classes; the members and pool entries that the words name. The judged class is class 1, her method 2. -/
namespace start1
open Jvm.ClassFile
def u (s : String) : CpInfo := .utf8 (stringToUtf16 s)
/-- a pool by its gaps: so many unusable entries, then the entry; so many at the end -/
def gap : Nat → List CpInfo → List CpInfo
  | 0, r => r
  | n + 1, r => .unusable :: gap n r
def poolList (es : List (Nat × CpInfo)) (last : Nat) : List CpInfo := es.foldr (fun e r => gap e.1 (e.2 :: r)) (gap last [])
def pool (es : List (Nat × CpInfo)) (last : Nat) : Array CpInfo := ⟨poolList es last⟩
def fileOf (pool : Array CpInfo) (this : Nat) (attrs : Array Attribute := #[]) (ms : Array MethodInfo := #[]) (fl : Nat := 33) (sup : Nat := 0) (ifs : Array Nat := #[]) (fds : Array FieldInfo := #[]) : ClassFile where
  minorVersion := 0
  majorVersion := 65
  constantPool := pool
  accessFlags := fl
  thisClass := this
  superClass := sup
  interfaces := ifs
  fields := fds
  methods := ms
  attributes := attrs
def plain (name : String) (sup : Option ClassId) : Class where
  name := name
  kind := .ordinary
  loader := none
  accessFlags := 33
  super := sup
  interfaces := #[]
  cf := none
  fields := #[]
  methods := #[]
  instanceTypes := #[]
  staticTypes := #[]
  resolved := #[]
  callSites := []
  init := .initialized
  statics := none
  mirror := none

def pool0 : Array CpInfo := pool [(5, u "<init>"), (0, u "()V"), (1, .class_ 10), (1, u "java/lang/Object")] 113

def k0m0 : Method := { name := "<init>", desc := "()V", sig := { parameters := [], returnType := none }, accessFlags := 1, code := none }
/-- java/lang/Object -/
def k0 : Class := { plain "java/lang/Object" none with
  accessFlags := 33
  interfaces := #[]
  cf := some (fileOf pool0 8 #[] #[{ accessFlags := 1, nameIndex := 5, descriptorIndex := 6, attributes := #[] }] 33 0 #[] #[])
  fields := #[]
  methods := #[k0m0]
  instanceTypes := #[]
  staticTypes := #[]
  resolved := Array.replicate 124 none
  statics := none }

def pool1 : Array CpInfo := pool [(2, .class_ 4), (1, u "java/lang/Object"), (0, u "<init>"), (0, u "()V"), (0, .methodref 8 9), (0, .class_ 10), (0, .nameAndType 11 12), (0, u "java/lang/Math"), (0, u "min"), (0, u "(JJ)J"), (2, .long 9223372036854775807), (1, .methodref 18 19), (0, .class_ 20), (0, .nameAndType 21 22), (0, u "com/example/rollcube/rollcube/engine/Windows"), (0, u "tile"), (0, u "(JJJ)J"), (0, .methodref 24 25), (0, .class_ 26), (0, .nameAndType 27 22), (0, u "com/example/rollcube/rollcube/engine/WindowsTilePinLaw"), (0, u "rowsBefore"), (2, u "law"), (0, u "(JJJ)Z")] 3

def k1m0 : Method := { name := "<init>", desc := "()V", sig := { parameters := [], returnType := none }, accessFlags := 2, code := none }
def k1c1 : Code := { maxStack := 6, maxLocals := 6, code := method_2_code, exceptionTable := #[], attributes := #[] }
def k1m1 : Method := { name := "rowsBefore", desc := "(JJJ)J", sig := { parameters := [.long, .long, .long], returnType := some .long }, accessFlags := 10, code := some k1c1 }
def k1c2 : Code := { maxStack := 8, maxLocals := 18, code := code, exceptionTable := #[], attributes := #[] }
def k1m2 : Method := { name := "law", desc := "(JJJ)Z", sig := { parameters := [.long, .long, .long], returnType := some .boolean }, accessFlags := 9, code := some k1c2 }
/-- com/example/rollcube/rollcube/engine/WindowsTilePinLaw -/
def k1 : Class := { plain "com/example/rollcube/rollcube/engine/WindowsTilePinLaw" (some 0) with
  accessFlags := 49
  interfaces := #[]
  cf := some (fileOf pool1 24 #[] #[{ accessFlags := 2, nameIndex := 5, descriptorIndex := 6, attributes := #[] }, { accessFlags := 10, nameIndex := 27, descriptorIndex := 22, attributes := #[] }, { accessFlags := 9, nameIndex := 30, descriptorIndex := 31, attributes := #[] }] 49 2 #[] #[])
  fields := #[]
  methods := #[k1m0, k1m1, k1m2]
  instanceTypes := #[]
  staticTypes := #[]
  resolved := Array.replicate 35 none
  statics := none }

def pool2 : Array CpInfo := pool [(2, .class_ 4), (1, u "java/lang/Object"), (0, u "<init>"), (0, u "()V"), (44, .class_ 53), (1, u "com/example/rollcube/rollcube/engine/Windows"), (43, .class_ 98), (0, u "com/example/rollcube/rollcube/engine/Windows$Member"), (152, .class_ 253), (1, u "com/example/rollcube/rollcube/engine/Windows$1"), (35, u "tile"), (0, u "(JJJ)J")] 78

def k2m0 : Method := { name := "<init>", desc := "()V", sig := { parameters := [], returnType := none }, accessFlags := 2, code := none }
def k2c1 : Code := { maxStack := 6, maxLocals := 12, code := prog_86_method_9_code, exceptionTable := #[], attributes := #[] }
def k2m1 : Method := { name := "tile", desc := "(JJJ)J", sig := { parameters := [.long, .long, .long], returnType := some .long }, accessFlags := 8, code := some k2c1 }
/-- com/example/rollcube/rollcube/engine/Windows -/
def k2 : Class := { plain "com/example/rollcube/rollcube/engine/Windows" (some 0) with
  accessFlags := 48
  interfaces := #[]
  cf := some (fileOf pool2 51 #[.nestMembers #[251, 97]] #[{ accessFlags := 2, nameIndex := 5, descriptorIndex := 6, attributes := #[] }, { accessFlags := 8, nameIndex := 289, descriptorIndex := 290, attributes := #[] }] 48 2 #[] #[])
  fields := #[]
  methods := #[k2m0, k2m1]
  instanceTypes := #[]
  staticTypes := #[]
  resolved := Array.replicate 369 none
  statics := none }

def pool3 : Array CpInfo := pool [(1, .class_ 2), (0, u "java/lang/Math"), (1, .class_ 6), (1, u "java/lang/Object"), (0, u "<init>"), (0, u "()V"), (89, .class_ 100), (1, u "java/lang/Math$RandomNumberGeneratorHolder"), (20, u "(JJ)J"), (50, u "negativeZeroFloatBits"), (0, u "J"), (2, u "negativeZeroDoubleBits"), (24, u "min"), (43, u "$assertionsDisabled"), (0, u "Z"), (91, u "twoToTheDoubleScaleDown"), (0, u "D"), (4, u "twoToTheDoubleScaleUp"), (9, u "E"), (3, u "PI"), (2, u "TAU"), (2, u "DEGREES_TO_RADIANS"), (0, u "RADIANS_TO_DEGREES")] 94

def k3m0 : Method := { name := "<init>", desc := "()V", sig := { parameters := [], returnType := none }, accessFlags := 2, code := none }
def k3c1 : Code := { maxStack := 4, maxLocals := 4, code := jdk_29_method_70_code, exceptionTable := #[], attributes := #[] }
def k3m1 : Method := { name := "min", desc := "(JJ)J", sig := { parameters := [.long, .long], returnType := some .long }, accessFlags := 9, code := some k3c1 }
/-- java/lang/Math -/
def k3 : Class := { plain "java/lang/Math" (some 0) with
  accessFlags := 49
  interfaces := #[]
  cf := some (fileOf pool3 1 #[.nestMembers #[98]] #[{ accessFlags := 2, nameIndex := 7, descriptorIndex := 8, attributes := #[] }, { accessFlags := 9, nameIndex := 201, descriptorIndex := 121, attributes := #[] }] 49 4 #[] #[{ accessFlags := 25, nameIndex := 354, descriptorIndex := 339, attributes := #[] }, { accessFlags := 25, nameIndex := 358, descriptorIndex := 339, attributes := #[] }, { accessFlags := 25, nameIndex := 361, descriptorIndex := 339, attributes := #[] }, { accessFlags := 26, nameIndex := 364, descriptorIndex := 339, attributes := #[] }, { accessFlags := 26, nameIndex := 365, descriptorIndex := 339, attributes := #[] }, { accessFlags := 26, nameIndex := 172, descriptorIndex := 173, attributes := #[] }, { accessFlags := 26, nameIndex := 176, descriptorIndex := 173, attributes := #[] }, { accessFlags := 8, nameIndex := 344, descriptorIndex := 339, attributes := #[] }, { accessFlags := 8, nameIndex := 338, descriptorIndex := 339, attributes := #[] }, { accessFlags := 4120, nameIndex := 245, descriptorIndex := 246, attributes := #[] }])
  fields := #[{ name := "E", type := .double, accessFlags := 25, slot := 0, constantValue := 0 }, { name := "PI", type := .double, accessFlags := 25, slot := 1, constantValue := 0 }, { name := "TAU", type := .double, accessFlags := 25, slot := 2, constantValue := 0 }, { name := "DEGREES_TO_RADIANS", type := .double, accessFlags := 26, slot := 3, constantValue := 0 }, { name := "RADIANS_TO_DEGREES", type := .double, accessFlags := 26, slot := 4, constantValue := 0 }, { name := "negativeZeroFloatBits", type := .long, accessFlags := 26, slot := 5, constantValue := 0 }, { name := "negativeZeroDoubleBits", type := .long, accessFlags := 26, slot := 6, constantValue := 0 }, { name := "twoToTheDoubleScaleUp", type := .double, accessFlags := 8, slot := 7, constantValue := 0 }, { name := "twoToTheDoubleScaleDown", type := .double, accessFlags := 8, slot := 8, constantValue := 0 }, { name := "$assertionsDisabled", type := .boolean, accessFlags := 4120, slot := 9, constantValue := 0 }]
  methods := #[k3m0, k3m1]
  instanceTypes := #[]
  staticTypes := #[.double, .double, .double, .double, .double, .long, .long, .double, .double, .boolean]
  resolved := Array.replicate 460 none
  statics := none }

def pool4 : Array CpInfo := pool [(1, u "java/lang/Cloneable"), (0, .class_ 1), (0, u "java/lang/Object"), (0, .class_ 3)] 3

/-- java/lang/Cloneable -/
def k4 : Class := { plain "java/lang/Cloneable" (some 0) with
  accessFlags := 1537
  interfaces := #[]
  cf := some (fileOf pool4 2 #[] #[] 1537 4 #[] #[])
  fields := #[]
  methods := #[]
  instanceTypes := #[]
  staticTypes := #[]
  resolved := Array.replicate 8 none
  statics := none }

def pool5 : Array CpInfo := pool [(1, u "java/io/Serializable"), (0, .class_ 1), (0, u "java/lang/Object"), (0, .class_ 3)] 3

/-- java/io/Serializable -/
def k5 : Class := { plain "java/io/Serializable" (some 0) with
  accessFlags := 1537
  interfaces := #[]
  cf := some (fileOf pool5 2 #[] #[] 1537 4 #[] #[])
  fields := #[]
  methods := #[]
  instanceTypes := #[]
  staticTypes := #[]
  resolved := Array.replicate 8 none
  statics := none }

/-- the primitive byte -/
def k6 : Class := { plain "byte" none with kind := .primitive 'B', accessFlags := 0x411 }
/-- [B -/
def k7 : Class := { plain "[B" (some 0) with kind := .array 6 .byte, interfaces := #[4, 5], accessFlags := 1041 }

/-- the primitive int -/
def k8 : Class := { plain "int" none with kind := .primitive 'I', accessFlags := 0x411 }
/-- [I -/
def k9 : Class := { plain "[I" (some 0) with kind := .array 8 .int, interfaces := #[4, 5], accessFlags := 1041 }

def heap : Heap := #[]
def classes : Array Class := #[k0, k1, k2, k3, k4, k5, k6, k7, k8, k9]
def interned : List (Array UInt16 × Addr) := []
def slotsUsed : Nat := 0
def theMethod : MethodId := ⟨1, 2⟩
def args0 : Array Value := #[.long 5, .long 7, .long 3]
def aboutOver (below : List Frame) : State where
  vm := { classes := classes, interned := interned.toArray }
  heap := heap
  slotsUsed := slotsUsed
  threads := #[{ frames := .invoking theMethod args0 :: below }]
def below0 : List Frame := [.native { method := ⟨0, 0⟩, args := #[] }]
def about1 : State := aboutOver below0
def p0 : Program := .bare "" "" ""
def e0 : Env := launch0.env 0 0 0
theorem w_frames : about1.frames = Frame.invoking theMethod args0 :: below0 := rfl
set_option maxRecDepth 65536 in
theorem w_args : argsFit about1.vm theMethod args0 = true := by decide +kernel
set_option maxRecDepth 65536 in
theorem w_heap : heapFits about1 = true := by decide +kernel
set_option maxRecDepth 65536 in
theorem w_runnable : about1.curStatus? = some .runnable := by decide +kernel
set_option maxRecDepth 65536 in
theorem w_alone : about1.alone = true := by decide +kernel
set_option maxRecDepth 65536 in
theorem w_named : about1.methodNamed? x = some theMethod := by decide +kernel
set_option maxRecDepth 65536 in
theorem w_hears : about1.hears theMethod below0 = true := by decide +kernel
set_option maxRecDepth 65536 in
theorem w_ripe : about1.ripe theMethod args0 below0 = true := by decide +kernel
theorem w_running : about1.status = .running := rfl
set_option maxRecDepth 65536 in
theorem w_room : about1.hasRoom e0.platform room_1 = true :=
  launch0.hasRoom_least _ room_1 (by decide +kernel) (by decide +kernel) (by decide +kernel) (by decide +kernel) (by decide +kernel) (by decide +kernel)
theorem allAtoms_all (ts : List Jvm.Cond) (a : Array Jvm.Value) (st : Jvm.State) : (allAtoms ts).before a st = ts.all (fun c => c.before a st) := by
  induction ts with
  | nil => rfl
  | cons c t ih =>
    show (Jvm.Cond.and c (allAtoms t)).before a st = _
    rw [Jvm.Cond.before_and, ih, List.all_cons]
def words1 : List Jvm.Cond := Jvm.Cond.code x code maxLocals ret :: tables_1
/-- a 'code' word, met by the world's own term for the bytes: nothing is compared byte by byte -/
theorem code_word {y : MethodName} {bytes : ByteArray} {mx : Nat} {rt : Option FieldType} {a : Array Value} {s : State} {m : MethodId} {meth : Method} {c : Code} (h1 : s.methodNamed? y = some m) (h2 : s.vm.method? m = some meth) (h3 : meth.code = some c) (h4 : c.code = bytes)
    (h5 : (c.maxLocals == mx && c.exceptionTable.isEmpty && decide (c.maxStack ≤ mostOperands) && decide (meth.sig.returnType = rt) && !meth.locks && decide (parseMethodDescriptor y.desc = some meth.sig)) = true) : (Jvm.Cond.code y bytes mx rt).before a s = true := by
  simp only [Bool.and_eq_true, beq_iff_eq, Bool.not_eq_true', decide_eq_true_eq] at h5
  obtain ⟨⟨⟨⟨⟨g1, g2⟩, g3⟩, g4⟩, g5⟩, g6⟩ := h5
  simp [Cond.before, Cond.holds, Cond.value, h1, h2, h3, h4, g1, g2, g3, g4, g5, g6]
def isCode : Jvm.Cond → Bool
  | .code _ _ _ _ => true
  | _ => false
theorem all_split {L : List Jvm.Cond} {P : Jvm.Cond → Bool} (h1 : L.all (fun c => isCode c || P c) = true) (h2 : ∀ c ∈ L.filter isCode, P c = true) : L.all P = true := by
  refine List.all_eq_true.mpr fun c hc => ?_
  have h := List.all_eq_true.mp h1 c hc
  rcases Bool.eq_false_or_eq_true (isCode c) with hi | hi
  · exact h2 c (List.mem_filter.mpr ⟨hc, hi⟩)
  · simpa [hi] using h
set_option maxRecDepth 65536 in
theorem w_c0 : (Jvm.Cond.code x code maxLocals ret).before args0 about1 = true := code_word (m := ⟨1, 2⟩) (meth := k1m2) (c := k1c2) (by decide +kernel) rfl rfl rfl (by decide +kernel)
set_option maxRecDepth 65536 in
theorem w_c1 : (Jvm.Cond.code ({ cls := "com/example/rollcube/rollcube/engine/Windows", name := "tile", desc := "(JJJ)J" } : Jvm.MethodName) prog_86_method_9_code (12 : Nat) (Option.some Jvm.ClassFile.FieldType.long)).before args0 about1 = true := code_word (m := ⟨2, 1⟩) (meth := k2m1) (c := k2c1) (by decide +kernel) rfl rfl rfl (by decide +kernel)
set_option maxRecDepth 65536 in
theorem w_c2 : (Jvm.Cond.code ({ cls := "com/example/rollcube/rollcube/engine/WindowsTilePinLaw", name := "rowsBefore", desc := "(JJJ)J" } : Jvm.MethodName) method_2_code (6 : Nat) (Option.some Jvm.ClassFile.FieldType.long)).before args0 about1 = true := code_word (m := ⟨1, 1⟩) (meth := k1m1) (c := k1c1) (by decide +kernel) rfl rfl rfl (by decide +kernel)
set_option maxRecDepth 65536 in
theorem w_c3 : (Jvm.Cond.code ({ cls := "java/lang/Math", name := "min", desc := "(JJ)J" } : Jvm.MethodName) jdk_29_method_70_code (4 : Nat) (Option.some Jvm.ClassFile.FieldType.long)).before args0 about1 = true := code_word (m := ⟨3, 1⟩) (meth := k3m1) (c := k3c1) (by decide +kernel) rfl rfl rfl (by decide +kernel)
def codes1 : List Jvm.Cond := [Jvm.Cond.code x code maxLocals ret, Jvm.Cond.code ({ cls := "com/example/rollcube/rollcube/engine/Windows", name := "tile", desc := "(JJJ)J" } : Jvm.MethodName) prog_86_method_9_code (12 : Nat) (Option.some Jvm.ClassFile.FieldType.long), Jvm.Cond.code ({ cls := "com/example/rollcube/rollcube/engine/WindowsTilePinLaw", name := "rowsBefore", desc := "(JJJ)J" } : Jvm.MethodName) method_2_code (6 : Nat) (Option.some Jvm.ClassFile.FieldType.long), Jvm.Cond.code ({ cls := "java/lang/Math", name := "min", desc := "(JJ)J" } : Jvm.MethodName) jdk_29_method_70_code (4 : Nat) (Option.some Jvm.ClassFile.FieldType.long)]
set_option maxRecDepth 65536 in
theorem codes_eq : words1.filter isCode = codes1 := rfl
theorem w_codes : ∀ c ∈ words1.filter isCode, c.before args0 about1 = true := by
  rw [codes_eq]
  intro c hc
  simp only [codes1, List.mem_cons, List.not_mem_nil, or_false] at hc
  rcases hc with rfl | rfl | rfl | rfl
  · exact w_c0
  · exact w_c1
  · exact w_c2
  · exact w_c3
set_option maxRecDepth 65536 in
theorem w_t1 : words1.all (fun c => isCode c || c.before args0 about1) = true := by decide +kernel
theorem w_tables : (allAtoms (Jvm.Cond.code x code maxLocals ret :: tables_1)).before args0 about1 = true := by
  rw [allAtoms_all]
  show words1.all (fun c => c.before args0 about1) = true
  refine all_split ?_ w_codes
  rw [w_t1]
set_option maxRecDepth 65536 in
theorem w_case : (Jvm.Cond.and given_1 narrow_1).before args0 about1 = true := by decide +kernel
theorem w_applies : (headSpec (Jvm.Cond.code x code maxLocals ret :: tables_1) room_1).applies x e0.platform about1 = true :=
  (Spec.applies_iff w_frames).mpr ⟨w_running, w_runnable, w_alone, w_named, w_hears, w_ripe, w_room, w_tables⟩
theorem atStart : AtStart classFile x code maxLocals ret World_1 tables_1 room_1 Calls_1 rest_1 Pre_1 launch0 p0 e0 about1 theMethod args0 below0 :=
  ⟨lists_1, trivial, launch0.admits_env _ _ _, launch0.least_env, fairChoices_fair.cas, fairChoices_fair.clock, w_frames, w_args, w_heap, w_applies, trivial, trivial, w_case⟩
end start1
theorem witness_1 : WitnessClaimed_1 := ⟨start1.p0, start1.e0, start1.about1, start1.theMethod, start1.args0, start1.below0, start1.atStart⟩
end Jvm.Pilot.@@N@@
