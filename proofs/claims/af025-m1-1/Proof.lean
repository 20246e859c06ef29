import JvmDerived
import JvmDerived.Pilot.@@N@@Statement
import JvmDerived.Pilot.@@N@@Code
set_option linter.unusedVariables false
set_option linter.unusedSimpArgs false
@@BLOCK:NumsL.lean.txt@@
@@BLOCK:Masks.lean.txt@@
namespace Jvm.RoadKit
open Sem ClassFile Op Lib Jvm.Stand Jvm.Free Jvm.LawKit
section New
variable {p : Program} {l : Launch} {e : Env} {R : Room} {s : State} {m : MethodId} {args : Array Value} {below : List Frame} {meth : Method} {c : Code} {T : State} {locs : List Loc} {cells slots : Nat}
theorem retI (X : Stand p l e R s m args below meth c T locs cells slots) (hx : p.tables.exec = Jvm.exec) {pc : Nat} {Ls : Array Slot} {z : Int32} {rest : List Value} (hret : meth.sig.returnType = some .int) (hd : decode c.code pc = .ok (.ireturn, 1)) {fs : List Frame}
    (hl : ∀ (f : JFrame) (acts : List Action), f.method = m → f.locked = none → f.entered = [] → (doReturn e (T.setTop f) acts (some (.int z))).1 = T.setFrames fs) : Steps p.tables e below (T.setTop (mkF m pc Ls (.int z :: rest))) (T.setFrames fs) := by
  have hm' : T.vm.method? m = some meth := X.method'
  have hn : narrow .int (.int z) = .int z := rfl
  show Steps p.tables e below (T.setTop { method := m, pc := pc, locals := Ls, stack := _ :: rest, locked := none }) _
  jvm_step X.here [X.here.top, hx, hd, hm', hret, hn]
  first | (intro acts; rw [hl _ acts rfl rfl rfl]) | rw [hl _ _ rfl rfl rfl]
  exact Steps.refl _
end New
end Jvm.RoadKit
namespace Jvm.Pilot.@@N@@
open Jvm Jvm.ClassFile Sem Op Lib Jvm.Free Jvm.Stand Jvm.LawKit Jvm.RoadKit Bundle Jvm.Pilot.@@N@@.Jvm.D
theorem own_lrem (x y : Int64) : x - (x / y) * y = x % y := Int64.toInt_inj.mp (by rw [Jvm.Kit.i64_rem, Int64.toInt_mod])
theorem lremM {p : Program} {l : Launch} {e : Env} {R : Room} {s : State} {m : MethodId} {args : Array Value} {below : List Frame} {meth : Method} {c : Code} {T : State} {locs : List Loc} {cells slots : Nat} {g : JFrame} {target : State} (X : Stand p l e R s m args below meth c T locs cells slots) (hx : p.tables.exec = Jvm.exec) (hg : g.method = m) {x y : Int64} {rest : List Value} (hd : decode c.code g.pc = .ok (.lrem, 1)) (hs : g.stack = .long y :: .long x :: rest) (hy : y ≠ 0)
    (hr : Steps p.tables e below (T.setTop { g with pc := g.pc + 1, stack := .long (x % y) :: rest }) target) : Steps p.tables e below (T.setTop g) target := by
  exact XS.lrem X.here hx hg hd hs hy (by rw [own_lrem]; exact hr)
theorem own_eqI {args : Array Value} {s : State} {t : Jvm.Term} {n : Int32} (h : (Jvm.Cond.eq t (.int n)).value args s none s [] = some true) : t.eval args s none [] s = some (.int n) := by
  obtain ⟨x, y, hx, hy, k1, k2⟩ := cmp_v (Or.inl h)
  obtain rfl : y = .int n := Option.some.inj (hy.symm.trans (Term.int_eval n))
  obtain ⟨z, rfl⟩ := k2
  have q : z = n := by simpa [Jvm.Cond.value, hx, hy] using h
  rw [hx, q]

theorem own_nsroot {Z : State} {a0 : Array Value} {O K : String} {n : Nat} (w : (Jvm.Cond.noSuperclass O).before a0 Z = true) (wi : (Jvm.Cond.instantiable K n).before a0 Z = true) (hn : O ≠ K) : NS Z O K := by
  obtain ⟨c, k, h1, h2, h3, -, -⟩ := Cond.noSuperclass_spec w
  obtain ⟨t, kt, g1, -⟩ := Cond.instantiable_spec wi
  have ne := ids_ne h1 g1 hn
  refine ⟨c, t, h1, g1, fun fuel => ?_⟩
  cases fuel with
  | zero => rfl
  | succ f => simp [Vm.isSubclassAux, ne, h2, h3]
theorem own_no {Z : State} {a0 : Array Value} {C S K : String} {n : Nat} (w : (Jvm.Cond.superclass C S).before a0 Z = true) (wi : (Jvm.Cond.instantiable K n).before a0 Z = true) (N : NS Z C K) (hn : C ≠ K) : ∃ c t, Z.vm.findClass C = some c ∧ Z.vm.findClass K = some t ∧ Z.vm.assignable c t = false := by
  obtain ⟨c, t, h0, g0, n3⟩ := N
  obtain ⟨p, k, kp, h1, h2, h3, h4, h5, -, h7⟩ := Cond.superclass_spec h0 w
  obtain ⟨t', k', g1, g2, g3, g4, -⟩ := Cond.instantiable_spec wi
  cases g0.symm.trans g1
  have ne := ids_ne h0 g0 hn
  have g5 : k'.isInterface = false := by revert g4; cases k'.isInterface <;> simp
  refine ⟨c, t, h0, g0, ?_⟩
  show Z.vm.assignableAux (255 + 1) c t = false
  simp [Vm.assignableAux, ne, h2, g2, h5, g3, g5, Vm.isSubclass, n3]

theorem own_jI (x : Int32) (h1 : ¬ (x < (-128 : Int32))) (h2 : ¬ ((127 : Int32) < x)) : ¬ (x + (128 : Int32)) < 0 ∧ (x + (128 : Int32)) < 256 := by
  rw [Int32.lt_iff_toInt_lt] at h1 h2
  rw [Int32.lt_iff_toInt_lt, Int32.lt_iff_toInt_lt]
  have e := c_iadd x 128
  have r := rng32 (x + 128)
  have a1 : (-128 : Int32).toInt = -128 := by decide
  have a2 : (127 : Int32).toInt = 127 := by decide
  have a3 : (128 : Int32).toInt = 128 := by decide
  have a4 : (0 : Int32).toInt = 0 := by decide
  have a5 : (256 : Int32).toInt = 256 := by decide
  omega

theorem own_len {args : Array Value} {s : State} {t : Jvm.Term} {a : Addr} {cl : Cell} {ty : FieldType} {n : Int32} (ev : t.eval args s none [] s = some (.ref a)) (A : Arr s s.heap a cl ty) (h : (Jvm.Term.length t).eval args s none [] s = some (.int n)) : cl.slots.size < 2 ^ 31 ∧ cl.slots.size.toInt32 = n := by
  have q := A.fin (Vm.Alike.refl _)
  by_cases hs : cl.slots.size < 2 ^ 31
  · exact ⟨hs, Value.int.inj (Option.some.inj ((len_f ev q hs).symm.trans h))⟩
  · exfalso
    simp [Jvm.Term.eval, ev, q, hs] at h
theorem own_sub {args : Array Value} {s : State} {j : Int32} (hj : ¬ j < 0) : (Jvm.Term.sub (.index 0) (.int 128)).eval args s none [j.toNatClampNeg] s = some (.int (j - 128)) := by
  simp [Jvm.Term.eval, (back32 hj).1]

def pR (p : Int32) : Prop := 0 ≤ p.toInt ∧ p.toInt ≤ 2147483646
theorem own_M : (2147483647 : Int32).toInt = 2147483647 := by decide
theorem own_i0 : (0 : Int32).toInt = 0 := by decide
theorem own_i1 : (1 : Int32).toInt = 1 := by decide
theorem own_mk (x : Int32) : 0 ≤ (x &&& (2147483647 : Int32)).toInt := by
  have h := Jvm.Kit.i32_mask x 2147483647 (k := 31) (by decide) (by decide)
  omega
theorem own_p (x v : Int32) (h : v = (x &&& (2147483647 : Int32)) % (2147483647 : Int32)) : pR v := by
  have m := own_mk x
  have r := Jvm.Kit.i32_rem_nonneg (x := x &&& (2147483647 : Int32)) (y := (2147483647 : Int32)) m
  rw [← h, own_M] at r
  have n1 := Int.emod_nonneg (x &&& (2147483647 : Int32)).toInt (by decide : (2147483647 : Int) ≠ 0)
  have n2 := Int.emod_lt_of_pos (x &&& (2147483647 : Int32)).toInt (by decide : (0 : Int) < 2147483647)
  exact ⟨by omega, by omega⟩
theorem own_d (p : Int32) (h : pR p) : ((2147483647 : Int32) - p).toInt = 2147483647 - p.toInt := by
  obtain ⟨h1, h2⟩ := h
  rw [Jvm.Kit.i32_sub (by rw [own_M]; omega) (by rw [own_M]; omega), own_M]
theorem own_nz (p : Int32) (h : pR p) : ¬ ((2147483647 : Int32) - p = (0 : Int32)) := by
  intro q
  have d := own_d p h
  obtain ⟨h1, h2⟩ := h
  rw [q, own_i0] at d
  omega
theorem own_t (p x v : Int32) (h : pR p) (hv : v = (p + (1 : Int32)) + ((x &&& (2147483647 : Int32)) % ((2147483647 : Int32) - p))) : p.toInt < v.toInt := by
  have m := own_mk x
  have d := own_d p h
  obtain ⟨h1, h2⟩ := h
  have r := Jvm.Kit.i32_rem_nonneg (x := x &&& (2147483647 : Int32)) (y := (2147483647 : Int32) - p) m
  have n1 := Int.emod_nonneg (x &&& (2147483647 : Int32)).toInt (by omega : ((2147483647 : Int32) - p).toInt ≠ 0)
  have n2 := Int.emod_lt_of_pos (x &&& (2147483647 : Int32)).toInt (by omega : 0 < ((2147483647 : Int32) - p).toInt)
  have e1 : (p + (1 : Int32)).toInt = p.toInt + 1 := by rw [Jvm.Kit.i32_add (by rw [own_i1]; omega) (by rw [own_i1]; omega), own_i1]
  rw [hv, Jvm.Kit.i32_add (by rw [e1, r]; omega) (by rw [e1, r]; omega), e1, r]
  omega
theorem own_tnz (p t : Int32) (h : pR p) (ht : p.toInt < t.toInt) : ¬ (t = (0 : Int32)) := by
  intro q
  obtain ⟨h1, h2⟩ := h
  rw [q, own_i0] at ht
  omega
theorem own_p2 (p t s d v : Int32) (h : pR p) (ht : p.toInt < t.toInt) (hv : v = if (s &&& (4 : Int32)) = (0 : Int32) then ((d &&& (2147483647 : Int32)) % t) else p) : pR v ∧ v.toInt < t.toInt := by
  obtain ⟨h1, h2⟩ := h
  by_cases c : (s &&& (4 : Int32)) = (0 : Int32)
  · rw [if_pos c] at hv
    have m := own_mk d
    have r := Jvm.Kit.i32_rem_nonneg (x := d &&& (2147483647 : Int32)) (y := t) m
    have n1 := Int.emod_nonneg (d &&& (2147483647 : Int32)).toInt (by omega : t.toInt ≠ 0)
    have n2 := Int.emod_lt_of_pos (d &&& (2147483647 : Int32)).toInt (by omega : 0 < t.toInt)
    have b := t.toInt_lt
    rw [← hv] at r
    exact ⟨⟨by omega, by omega⟩, by omega⟩
  · rw [if_neg c] at hv
    rw [hv]
    exact ⟨⟨h1, h2⟩, ht⟩
theorem own_t2 (p t s d q v : Int32) (hq : pR q ∧ q.toInt < t.toInt) (hv : v = if (s &&& (8 : Int32)) = (0 : Int32) then ((q + (1 : Int32)) + (((d.toUInt32 >>> ((1 : Int32) &&& 31).toUInt32).toInt32) % ((2147483647 : Int32) - q))) else t) : q.toInt < v.toInt := by
  obtain ⟨hp, ht⟩ := hq
  by_cases c : (s &&& (8 : Int32)) = (0 : Int32)
  · rw [if_pos c] at hv
    have m : 0 ≤ ((d.toUInt32 >>> ((1 : Int32) &&& 31).toUInt32).toInt32).toInt := Jvm.Kit.i32_nonneg.mp (Jvm.Kit.i32_iushr_nonneg d (k := 1) (by decide) (by decide) (by decide))
    have dd := own_d q hp
    obtain ⟨h1, h2⟩ := hp
    generalize (d.toUInt32 >>> ((1 : Int32) &&& 31).toUInt32).toInt32 = y at *
    have r := Jvm.Kit.i32_rem_nonneg (x := y) (y := (2147483647 : Int32) - q) m
    have n1 := Int.emod_nonneg y.toInt (by omega : ((2147483647 : Int32) - q).toInt ≠ 0)
    have n2 := Int.emod_lt_of_pos y.toInt (by omega : 0 < ((2147483647 : Int32) - q).toInt)
    have e1 : (q + (1 : Int32)).toInt = q.toInt + 1 := by rw [Jvm.Kit.i32_add (by rw [own_i1]; omega) (by rw [own_i1]; omega), own_i1]
    rw [hv, Jvm.Kit.i32_add (by rw [e1, r]; omega) (by rw [e1, r]; omega), e1, r]
    omega
  · rw [if_neg c] at hv
    rw [hv]
    exact ht
theorem own_lo (p : Int32) (h : pR p) : ¬ (p < (0 : Int32)) := by
  obtain ⟨h1, h2⟩ := h
  rw [Int32.lt_iff_toInt_lt, own_i0]
  omega


theorem d1_0 : decode prog_48_method_1_code 0 = .ok (.aload_n 0, 1) := by decide +kernel
theorem d1_1 : decode prog_48_method_1_code 1 = .ok (.invokespecial 1, 3) := by decide +kernel
theorem d1_4 : decode prog_48_method_1_code 4 = .ok (.iload 4, 2) := by decide +kernel
theorem d1_6 : decode prog_48_method_1_code 6 = .ok (.ifCond .lt 10, 3) := by decide +kernel
theorem d1_9 : decode prog_48_method_1_code 9 = .ok (.iload 4, 2) := by decide +kernel
theorem d1_11 : decode prog_48_method_1_code 11 = .ok (.iload 5, 2) := by decide +kernel
theorem d1_13 : decode prog_48_method_1_code 13 = .ok (.if_icmp .lt 20, 3) := by decide +kernel
theorem d1_33 : decode prog_48_method_1_code 33 = .ok (.aload_n 0, 1) := by decide +kernel
theorem d1_34 : decode prog_48_method_1_code 34 = .ok (.iload_n 1, 1) := by decide +kernel
theorem d1_35 : decode prog_48_method_1_code 35 = .ok (.putfield 16, 3) := by decide +kernel
theorem d1_38 : decode prog_48_method_1_code 38 = .ok (.aload_n 0, 1) := by decide +kernel
theorem d1_39 : decode prog_48_method_1_code 39 = .ok (.lload_n 2, 1) := by decide +kernel
theorem d1_40 : decode prog_48_method_1_code 40 = .ok (.putfield 22, 3) := by decide +kernel
theorem d1_43 : decode prog_48_method_1_code 43 = .ok (.aload_n 0, 1) := by decide +kernel
theorem d1_44 : decode prog_48_method_1_code 44 = .ok (.iload 4, 2) := by decide +kernel
theorem d1_46 : decode prog_48_method_1_code 46 = .ok (.putfield 26, 3) := by decide +kernel
theorem d1_49 : decode prog_48_method_1_code 49 = .ok (.aload_n 0, 1) := by decide +kernel
theorem d1_50 : decode prog_48_method_1_code 50 = .ok (.iload 5, 2) := by decide +kernel
theorem d1_52 : decode prog_48_method_1_code 52 = .ok (.putfield 29, 3) := by decide +kernel
theorem d1_55 : decode prog_48_method_1_code 55 = .ok (.return_, 1) := by decide +kernel
theorem pn_0 : plainName "com/example/libdmutex/libdmutex/core/SplitToken$Waiter" = true := by first | (simp [plainName, overriddenIn]; done) | decide +kernel
theorem ef_1 (m : MethodId) (x1_0 : Addr) (x1_1 : Int32) (x1_2 : Int64) (x1_3 : Int32) (x1_4 : Int32) : entryFrame m #[(.ref x1_0), (.int x1_1), (.long x1_2), (.int x1_3), (.int x1_4)] 6 = mkF m 0 #[.val (.ref x1_0), .val (.int x1_1), .val (.long x1_2), .second, .val (.int x1_3), .val (.int x1_4)] [] := by first | (simp [entryFrame, mkF, argsToLocals, Value.category]; done) | rfl
def Q1 (Z : State) (x1_0 : Addr) (x1_1 : Int32) (x1_2 : Int64) (x1_3 : Int32) (x1_4 : Int32) (h0 : Heap) (n0 : Nat) (v : Option Value) (h : Heap) (L : List Loc) : Prop := v = none ∧ Fr n0 L ∧ Keep h0 h [x1_0] ∧ Exa Z h x1_0 "com/example/libdmutex/libdmutex/core/SplitToken$Waiter" ∧ Fld Z h x1_0 "com/example/libdmutex/libdmutex/core/SplitToken$Waiter" "peer" "I" (.int x1_1) ∧ Fld Z h x1_0 "com/example/libdmutex/libdmutex/core/SplitToken$Waiter" "ticket" "J" (.long x1_2) ∧ Fld Z h x1_0 "com/example/libdmutex/libdmutex/core/SplitToken$Waiter" "position" "I" (.int x1_3) ∧ Fld Z h x1_0 "com/example/libdmutex/libdmutex/core/SplitToken$Waiter" "to" "I" (.int x1_4)
set_option maxRecDepth 65536 in
set_option maxHeartbeats 40000000 in
theorem rm1 (l : Launch) (Z : State) (a0 : Array Value) (hw : ∀ d ∈ tables_1, d.before a0 Z = true) (ws : List Jvm.Cond) (x1_0 : Addr) (x1_1 : Int32) (x1_2 : Int64) (x1_3 : Int32) (x1_4 : Int32) (h0 : Heap) (n0 : Nat) (Z0 : n0 ≤ h0.size) (Exa0 : Exa Z h0 x1_0 "com/example/libdmutex/libdmutex/core/SplitToken$Waiter") (g_x1_0 : n0 ≤ x1_0) (Fo_peer : Fld Z h0 x1_0 "com/example/libdmutex/libdmutex/core/SplitToken$Waiter" "peer" "I" (.int (0 : Int32))) (Fo_ticket : Fld Z h0 x1_0 "com/example/libdmutex/libdmutex/core/SplitToken$Waiter" "ticket" "J" (.long (0 : Int64))) (Fo_position : Fld Z h0 x1_0 "com/example/libdmutex/libdmutex/core/SplitToken$Waiter" "position" "I" (.int (0 : Int32))) (Fo_to : Fld Z h0 x1_0 "com/example/libdmutex/libdmutex/core/SplitToken$Waiter" "to" "I" (.int (0 : Int32))) (hlo : ¬ (x1_3 < (0 : Int32))) (hlt : x1_3 < x1_4) :
    MetFree l (⟨"com/example/libdmutex/libdmutex/core/SplitToken$Waiter", "<init>", "(IJII)V"⟩ : MethodName) (head1 (Jvm.Cond.code (⟨"com/example/libdmutex/libdmutex/core/SplitToken$Waiter", "<init>", "(IJII)V"⟩ : MethodName) prog_48_method_1_code 6 none :: ws) ({ frames := 1, cells := 0, slots := 0, locals := 12 } : Room)) (fun a U => a = #[(.ref x1_0), (.int x1_1), (.long x1_2), (.int x1_3), (.int x1_4)] ∧ Z.Warmed39 U.vm ∧ U.heap = h0) (fun _ _ _ _ _ => True) (fun _ U o U' => ∃ v L, o = .returned v ∧ Q1 Z x1_0 x1_1 x1_2 x1_3 x1_4 h0 n0 v U'.heap L ∧ FrameEnd U o U' L ({ frames := 1, cells := 0, slots := 0, locals := 12 } : Room).cells ({ frames := 1, cells := 0, slots := 0, locals := 12 } : Room).slots) := by
  refine MetFree.of_bodySF (plainFor_of_name pn_0) hisR ?_
  intro p e s m args below meth c s₁ Bd hml0 hP hK
  obtain ⟨rfl, hZ, hh⟩ := hP
  have hx := Bd.exec
  have hby := Bd.bytes
  have hml : c.maxLocals = 6 := hml0
  have hown : s.vm.findClass "com/example/libdmutex/libdmutex/core/SplitToken$Waiter" = some m.cls := findClass_of_methodNamed Bd.named
  have hnm := (name_of_methodNamed Bd.named Bd.method).1
  have X0 : Stand p l e ({ frames := 1, cells := 0, slots := 0, locals := 12 } : Room) s m #[(.ref x1_0), (.int x1_1), (.long x1_2), (.int x1_3), (.int x1_4)] below meth c s₁ [] 0 0 := Stand.of_body Bd
  have e0 : s₁.heap = h0 := by rw [← hh, Bd.state]; rfl
  have N0 := Fr.nil n0
  have pre0 : ∀ t, Steps p.tables e below (s₁.setTop (mkF m 0 #[.val (.ref x1_0), .val (.int x1_1), .val (.long x1_2), .second, .val (.int x1_3), .val (.int x1_4)] [])) t → Steps p.tables e below (s₁.setTop (entryFrame m #[(.ref x1_0), (.int x1_1), (.long x1_2), (.int x1_3), (.int x1_4)] 6)) t := fun t k => castTop (ef_1 m x1_0 x1_1 x1_2 x1_3 x1_4) k
  obtain ⟨T1, X1, e1, st1⟩ := initO X0 hx hZ hown (hw _ (List.mem_of_getElem? (i := 7) rfl)) (hw _ (List.mem_of_getElem? (i := 8) rfl)) (hw _ (List.mem_of_getElem? (i := 9) rfl)) e0 (g := (mkF m 1 #[.val (.ref x1_0), .val (.int x1_1), .val (.long x1_2), .second, .val (.int x1_3), .val (.int x1_4)] [(.ref x1_0)])) rfl (by rw [hml]; rfl) rfl (hb hby d1_1) (by decide) (W := 0) (by show 2 * 0 + _ ≤ _; exact Nat.le_of_eq rfl) (by decide)
  obtain ⟨T2, h2, X2, e2, W2, st2⟩ := putF X1 hx hZ hown (host := "") (Or.inl (hw _ (List.mem_of_getElem? (i := 10) rfl))) Via.refl e1 Fo_peer Exa0 (Or.inr ⟨(hw _ (List.mem_of_getElem? (i := 11) rfl)), rfl, hnm⟩) (hw _ (List.mem_of_getElem? (i := 2) rfl)) (ty := .int) (by decide) rfl rfl (g := (mkF m 35 #[.val (.ref x1_0), .val (.int x1_1), .val (.long x1_2), .second, .val (.int x1_3), .val (.int x1_4)] [(.int x1_1), (.ref x1_0)])) rfl rfl (hb hby d1_35)
  have Fw2 := Fld.same W2 Fo_peer
  have N2 := Fr.snoc X2 N0 g_x1_0
  have Zs2 : n0 ≤ h2.size := Nat.le_trans Z0 (Keep.of_wr W2).1
  have KC2 : Keep h0 h2 [x1_0] := (Keep.refl h0 [x1_0]).wr W2 (Or.inl (List.mem_of_getElem? (i := 0) rfl))
  have c3 := (Fld.other W2 Fo_ticket (Or.inr (slot_ne (Or.inr (hw _ (List.mem_of_getElem? (i := 13) rfl))) (Or.inr (hw _ (List.mem_of_getElem? (i := 11) rfl))) (by decide) (t := .long) (t' := .int) (by decide) (by decide))))
  have c4 := (Exa.wr W2 Exa0)
  obtain ⟨T5, h5, X5, e5, W5, st5⟩ := putF X2 hx hZ hown (host := "") (Or.inl (hw _ (List.mem_of_getElem? (i := 12) rfl))) Via.refl e2 c3 c4 (Or.inr ⟨(hw _ (List.mem_of_getElem? (i := 13) rfl)), rfl, hnm⟩) (hw _ (List.mem_of_getElem? (i := 2) rfl)) (ty := .long) (by decide) rfl rfl (g := (mkF m 40 #[.val (.ref x1_0), .val (.int x1_1), .val (.long x1_2), .second, .val (.int x1_3), .val (.int x1_4)] [(.long x1_2), (.ref x1_0)])) rfl rfl (hb hby d1_40)
  have Fw5 := Fld.same W5 c3
  have N5 := Fr.snoc X5 N2 g_x1_0
  have Zs5 : n0 ≤ h5.size := Nat.le_trans Zs2 (Keep.of_wr W5).1
  have KC5 : Keep h0 h5 [x1_0] := (KC2).wr W5 (Or.inl (List.mem_of_getElem? (i := 0) rfl))
  have c6 := (Fld.other W5 (Fld.other W2 Fo_position (Or.inr (slot_ne (Or.inr (hw _ (List.mem_of_getElem? (i := 15) rfl))) (Or.inr (hw _ (List.mem_of_getElem? (i := 11) rfl))) (by decide) (t := .int) (t' := .int) (by decide) (by decide)))) (Or.inr (slot_ne (Or.inr (hw _ (List.mem_of_getElem? (i := 15) rfl))) (Or.inr (hw _ (List.mem_of_getElem? (i := 13) rfl))) (by decide) (t := .int) (t' := .long) (by decide) (by decide))))
  have c7 := (Exa.wr W5 c4)
  obtain ⟨T8, h8, X8, e8, W8, st8⟩ := putF X5 hx hZ hown (host := "") (Or.inl (hw _ (List.mem_of_getElem? (i := 14) rfl))) Via.refl e5 c6 c7 (Or.inr ⟨(hw _ (List.mem_of_getElem? (i := 15) rfl)), rfl, hnm⟩) (hw _ (List.mem_of_getElem? (i := 2) rfl)) (ty := .int) (by decide) rfl rfl (g := (mkF m 46 #[.val (.ref x1_0), .val (.int x1_1), .val (.long x1_2), .second, .val (.int x1_3), .val (.int x1_4)] [(.int x1_3), (.ref x1_0)])) rfl rfl (hb hby d1_46)
  have Fw8 := Fld.same W8 c6
  have N8 := Fr.snoc X8 N5 g_x1_0
  have Zs8 : n0 ≤ h8.size := Nat.le_trans Zs5 (Keep.of_wr W8).1
  have KC8 : Keep h0 h8 [x1_0] := (KC5).wr W8 (Or.inl (List.mem_of_getElem? (i := 0) rfl))
  have c9 := (Fld.other W8 (Fld.other W5 (Fld.other W2 Fo_to (Or.inr (slot_ne (Or.inr (hw _ (List.mem_of_getElem? (i := 17) rfl))) (Or.inr (hw _ (List.mem_of_getElem? (i := 11) rfl))) (by decide) (t := .int) (t' := .int) (by decide) (by decide)))) (Or.inr (slot_ne (Or.inr (hw _ (List.mem_of_getElem? (i := 17) rfl))) (Or.inr (hw _ (List.mem_of_getElem? (i := 13) rfl))) (by decide) (t := .int) (t' := .long) (by decide) (by decide)))) (Or.inr (slot_ne (Or.inr (hw _ (List.mem_of_getElem? (i := 17) rfl))) (Or.inr (hw _ (List.mem_of_getElem? (i := 15) rfl))) (by decide) (t := .int) (t' := .int) (by decide) (by decide))))
  have c10 := (Exa.wr W8 c7)
  obtain ⟨T11, h11, X11, e11, W11, st11⟩ := putF X8 hx hZ hown (host := "") (Or.inl (hw _ (List.mem_of_getElem? (i := 16) rfl))) Via.refl e8 c9 c10 (Or.inr ⟨(hw _ (List.mem_of_getElem? (i := 17) rfl)), rfl, hnm⟩) (hw _ (List.mem_of_getElem? (i := 2) rfl)) (ty := .int) (by decide) rfl rfl (g := (mkF m 52 #[.val (.ref x1_0), .val (.int x1_1), .val (.long x1_2), .second, .val (.int x1_3), .val (.int x1_4)] [(.int x1_4), (.ref x1_0)])) rfl rfl (hb hby d1_52)
  have Fw11 := Fld.same W11 c9
  have N11 := Fr.snoc X11 N8 g_x1_0
  have Zs11 : n0 ≤ h11.size := Nat.le_trans Zs8 (Keep.of_wr W11).1
  have KC11 : Keep h0 h11 [x1_0] := (KC8).wr W11 (Or.inl (List.mem_of_getElem? (i := 0) rfl))
  have c12 := (Exa.wr W11 c10)
  have c13 := (Fld.other W11 (Fld.other W8 (Fld.other W5 Fw2 (Or.inr (slot_ne (Or.inr (hw _ (List.mem_of_getElem? (i := 11) rfl))) (Or.inr (hw _ (List.mem_of_getElem? (i := 13) rfl))) (by decide) (t := .int) (t' := .long) (by decide) (by decide)))) (Or.inr (slot_ne (Or.inr (hw _ (List.mem_of_getElem? (i := 11) rfl))) (Or.inr (hw _ (List.mem_of_getElem? (i := 15) rfl))) (by decide) (t := .int) (t' := .int) (by decide) (by decide)))) (Or.inr (slot_ne (Or.inr (hw _ (List.mem_of_getElem? (i := 11) rfl))) (Or.inr (hw _ (List.mem_of_getElem? (i := 17) rfl))) (by decide) (t := .int) (t' := .int) (by decide) (by decide))))
  have c14 := (Fld.other W11 (Fld.other W8 Fw5 (Or.inr (slot_ne (Or.inr (hw _ (List.mem_of_getElem? (i := 13) rfl))) (Or.inr (hw _ (List.mem_of_getElem? (i := 15) rfl))) (by decide) (t := .long) (t' := .int) (by decide) (by decide)))) (Or.inr (slot_ne (Or.inr (hw _ (List.mem_of_getElem? (i := 13) rfl))) (Or.inr (hw _ (List.mem_of_getElem? (i := 17) rfl))) (by decide) (t := .long) (t' := .int) (by decide) (by decide))))
  have c15 := (Fld.other W11 Fw8 (Or.inr (slot_ne (Or.inr (hw _ (List.mem_of_getElem? (i := 15) rfl))) (Or.inr (hw _ (List.mem_of_getElem? (i := 17) rfl))) (by decide) (t := .int) (t' := .int) (by decide) (by decide))))
  obtain ⟨fs, hr, hrun, hended, hW, hsame⟩ := X11.leave (v := none) (fun _ => rfl)
  refine ⟨_, _, pre0 _ (?_), hrun, hended, _, _, rfl, ?_, ⟨_, rfl⟩, hW, hsame.mono (by decide) (by decide)⟩
  · show Steps p.tables e below (s₁.setTop (mkF m 0 #[.val (.ref x1_0), .val (.int x1_1), .val (.long x1_2), .second, .val (.int x1_3), .val (.int x1_4)] [])) _
    refine XS.aloadN X0.here hx rfl (hb hby d1_0) rfl rfl ?_
    show Steps p.tables e below (s₁.setTop (mkF m 1 #[.val (.ref x1_0), .val (.int x1_1), .val (.long x1_2), .second, .val (.int x1_3), .val (.int x1_4)] [(.ref x1_0)])) _
    refine st1 _ ?_
    show Steps p.tables e below (T1.setTop (mkF m 4 #[.val (.ref x1_0), .val (.int x1_1), .val (.long x1_2), .second, .val (.int x1_3), .val (.int x1_4)] [])) _
    refine XS.iload X1.here hx rfl (hb hby d1_4) rfl ?_
    show Steps p.tables e below (T1.setTop (mkF m 6 #[.val (.ref x1_0), .val (.int x1_1), .val (.long x1_2), .second, .val (.int x1_3), .val (.int x1_4)] [(.int x1_3)])) _
    refine XS.ifNo X1.here hx rfl (hb hby d1_6) rfl ((if0 _ _).trans (flt hlo).1) ?_
    show Steps p.tables e below (T1.setTop (mkF m 9 #[.val (.ref x1_0), .val (.int x1_1), .val (.long x1_2), .second, .val (.int x1_3), .val (.int x1_4)] [])) _
    refine XS.iload X1.here hx rfl (hb hby d1_9) rfl ?_
    show Steps p.tables e below (T1.setTop (mkF m 11 #[.val (.ref x1_0), .val (.int x1_1), .val (.long x1_2), .second, .val (.int x1_3), .val (.int x1_4)] [(.int x1_3)])) _
    refine XS.iload X1.here hx rfl (hb hby d1_11) rfl ?_
    show Steps p.tables e below (T1.setTop (mkF m 13 #[.val (.ref x1_0), .val (.int x1_1), .val (.long x1_2), .second, .val (.int x1_3), .val (.int x1_4)] [(.int x1_4), (.int x1_3)])) _
    refine XS.icmpYes X1.here hx rfl (pc0 := 13) (pc' := 33) rfl (hb hby d1_13) rfl (tlt hlt).1 (by decide) (by decide) ?_
    show Steps p.tables e below (T1.setTop (mkF m 33 #[.val (.ref x1_0), .val (.int x1_1), .val (.long x1_2), .second, .val (.int x1_3), .val (.int x1_4)] [])) _
    refine XS.aloadN X1.here hx rfl (hb hby d1_33) rfl rfl ?_
    show Steps p.tables e below (T1.setTop (mkF m 34 #[.val (.ref x1_0), .val (.int x1_1), .val (.long x1_2), .second, .val (.int x1_3), .val (.int x1_4)] [(.ref x1_0)])) _
    refine XS.iloadN X1.here hx rfl (hb hby d1_34) rfl ?_
    show Steps p.tables e below (T1.setTop (mkF m 35 #[.val (.ref x1_0), .val (.int x1_1), .val (.long x1_2), .second, .val (.int x1_3), .val (.int x1_4)] [(.int x1_1), (.ref x1_0)])) _
    refine st2 _ ?_
    show Steps p.tables e below (T2.setTop (mkF m 38 #[.val (.ref x1_0), .val (.int x1_1), .val (.long x1_2), .second, .val (.int x1_3), .val (.int x1_4)] [])) _
    refine XS.aloadN X2.here hx rfl (hb hby d1_38) rfl rfl ?_
    show Steps p.tables e below (T2.setTop (mkF m 39 #[.val (.ref x1_0), .val (.int x1_1), .val (.long x1_2), .second, .val (.int x1_3), .val (.int x1_4)] [(.ref x1_0)])) _
    refine XS.lloadN X2.here hx rfl (hb hby d1_39) rfl ?_
    show Steps p.tables e below (T2.setTop (mkF m 40 #[.val (.ref x1_0), .val (.int x1_1), .val (.long x1_2), .second, .val (.int x1_3), .val (.int x1_4)] [(.long x1_2), (.ref x1_0)])) _
    refine st5 _ ?_
    show Steps p.tables e below (T5.setTop (mkF m 43 #[.val (.ref x1_0), .val (.int x1_1), .val (.long x1_2), .second, .val (.int x1_3), .val (.int x1_4)] [])) _
    refine XS.aloadN X5.here hx rfl (hb hby d1_43) rfl rfl ?_
    show Steps p.tables e below (T5.setTop (mkF m 44 #[.val (.ref x1_0), .val (.int x1_1), .val (.long x1_2), .second, .val (.int x1_3), .val (.int x1_4)] [(.ref x1_0)])) _
    refine XS.iload X5.here hx rfl (hb hby d1_44) rfl ?_
    show Steps p.tables e below (T5.setTop (mkF m 46 #[.val (.ref x1_0), .val (.int x1_1), .val (.long x1_2), .second, .val (.int x1_3), .val (.int x1_4)] [(.int x1_3), (.ref x1_0)])) _
    refine st8 _ ?_
    show Steps p.tables e below (T8.setTop (mkF m 49 #[.val (.ref x1_0), .val (.int x1_1), .val (.long x1_2), .second, .val (.int x1_3), .val (.int x1_4)] [])) _
    refine XS.aloadN X8.here hx rfl (hb hby d1_49) rfl rfl ?_
    show Steps p.tables e below (T8.setTop (mkF m 50 #[.val (.ref x1_0), .val (.int x1_1), .val (.long x1_2), .second, .val (.int x1_3), .val (.int x1_4)] [(.ref x1_0)])) _
    refine XS.iload X8.here hx rfl (hb hby d1_50) rfl ?_
    show Steps p.tables e below (T8.setTop (mkF m 52 #[.val (.ref x1_0), .val (.int x1_1), .val (.long x1_2), .second, .val (.int x1_3), .val (.int x1_4)] [(.int x1_4), (.ref x1_0)])) _
    refine st11 _ ?_
    show Steps p.tables e below (T11.setTop (mkF m 55 #[.val (.ref x1_0), .val (.int x1_1), .val (.long x1_2), .second, .val (.int x1_3), .val (.int x1_4)] [])) _
    exact X11.returnOut hx Bd.returns (hb hby d1_55) hr
  · show Q1 Z x1_0 x1_1 x1_2 x1_3 x1_4 h0 n0 _ T11.heap _
    rw [e11]
    exact ⟨rfl, N11, KC11, c12, c13, c14, c15, Fw11⟩
theorem d3o_0 : decode prog_48_method_6_code 0 = .ok (.aload_n 1, 1) := by decide +kernel
theorem d3o_1 : decode prog_48_method_6_code 1 = .ok (.instanceof 17, 3) := by decide +kernel
theorem d3o_4 : decode prog_48_method_6_code 4 = .ok (.ifCond .eq 57, 3) := by decide +kernel
theorem d3o_7 : decode prog_48_method_6_code 7 = .ok (.aload_n 1, 1) := by decide +kernel
theorem d3o_8 : decode prog_48_method_6_code 8 = .ok (.checkcast 17, 3) := by decide +kernel
theorem d3o_11 : decode prog_48_method_6_code 11 = .ok (.astore_n 2, 1) := by decide +kernel
theorem d3o_12 : decode prog_48_method_6_code 12 = .ok (.aload_n 0, 1) := by decide +kernel
theorem d3o_13 : decode prog_48_method_6_code 13 = .ok (.getfield 16, 3) := by decide +kernel
theorem d3o_16 : decode prog_48_method_6_code 16 = .ok (.aload_n 2, 1) := by decide +kernel
theorem d3o_17 : decode prog_48_method_6_code 17 = .ok (.getfield 16, 3) := by decide +kernel
theorem d3o_20 : decode prog_48_method_6_code 20 = .ok (.if_icmp .ne 41, 3) := by decide +kernel
theorem d3o_23 : decode prog_48_method_6_code 23 = .ok (.aload_n 0, 1) := by decide +kernel
theorem d3o_24 : decode prog_48_method_6_code 24 = .ok (.getfield 22, 3) := by decide +kernel
theorem d3o_27 : decode prog_48_method_6_code 27 = .ok (.aload_n 2, 1) := by decide +kernel
theorem d3o_28 : decode prog_48_method_6_code 28 = .ok (.getfield 22, 3) := by decide +kernel
theorem d3o_31 : decode prog_48_method_6_code 31 = .ok (.lcmp, 1) := by decide +kernel
theorem d3o_32 : decode prog_48_method_6_code 32 = .ok (.ifCond .ne 29, 3) := by decide +kernel
theorem d3o_35 : decode prog_48_method_6_code 35 = .ok (.aload_n 0, 1) := by decide +kernel
theorem d3o_36 : decode prog_48_method_6_code 36 = .ok (.getfield 26, 3) := by decide +kernel
theorem d3o_39 : decode prog_48_method_6_code 39 = .ok (.aload_n 2, 1) := by decide +kernel
theorem d3o_40 : decode prog_48_method_6_code 40 = .ok (.getfield 26, 3) := by decide +kernel
theorem d3o_43 : decode prog_48_method_6_code 43 = .ok (.if_icmp .ne 18, 3) := by decide +kernel
theorem d3o_46 : decode prog_48_method_6_code 46 = .ok (.aload_n 0, 1) := by decide +kernel
theorem d3o_47 : decode prog_48_method_6_code 47 = .ok (.getfield 29, 3) := by decide +kernel
theorem d3o_50 : decode prog_48_method_6_code 50 = .ok (.aload_n 2, 1) := by decide +kernel
theorem d3o_51 : decode prog_48_method_6_code 51 = .ok (.getfield 29, 3) := by decide +kernel
theorem d3o_54 : decode prog_48_method_6_code 54 = .ok (.if_icmp .ne 7, 3) := by decide +kernel
theorem d3o_57 : decode prog_48_method_6_code 57 = .ok (.iconst 1, 1) := by decide +kernel
theorem d3o_58 : decode prog_48_method_6_code 58 = .ok (.goto 4, 3) := by decide +kernel
theorem d3o_61 : decode prog_48_method_6_code 61 = .ok (.iconst 0, 1) := by decide +kernel
theorem d3o_62 : decode prog_48_method_6_code 62 = .ok (.ireturn, 1) := by decide +kernel
theorem ef_3o (m : MethodId) (x3o_0 : Addr) (x3o_1 : Addr) : entryFrame m #[(.ref x3o_0), (.ref x3o_1)] 3 = mkF m 0 #[.val (.ref x3o_0), .val (.ref x3o_1), .unset] [] := by first | (simp [entryFrame, mkF, argsToLocals, Value.category]; done) | rfl
def f3o (x3o_0 : Addr) (x3o_1 : Addr) (u0_peer : Int32) (u0_ticket : Int64) (u0_position : Int32) (u0_to : Int32) (u1_peer : Int32) (u1_ticket : Int64) (u1_position : Int32) (u1_to : Int32) : Int32 := if u0_peer = u1_peer then (if u0_ticket = u1_ticket then (if u0_position = u1_position then (if u0_to = u1_to then (1 : Int32) else (0 : Int32)) else (0 : Int32)) else (0 : Int32)) else (0 : Int32)
def Q3o (Z : State) (x3o_0 : Addr) (x3o_1 : Addr) (u0_peer : Int32) (u0_ticket : Int64) (u0_position : Int32) (u0_to : Int32) (u1_peer : Int32) (u1_ticket : Int64) (u1_position : Int32) (u1_to : Int32) (h0 : Heap) (n0 : Nat) (v : Option Value) (h : Heap) (L : List Loc) : Prop := v = some (.int (f3o x3o_0 x3o_1 u0_peer u0_ticket u0_position u0_to u1_peer u1_ticket u1_position u1_to)) ∧ Fr n0 L ∧ h = h0
set_option maxRecDepth 65536 in
set_option maxHeartbeats 40000000 in
theorem rm3o (l : Launch) (Z : State) (a0 : Array Value) (hw : ∀ d ∈ tables_1, d.before a0 Z = true) (ws : List Jvm.Cond) (x3o_0 : Addr) (x3o_1 : Addr) (u0_peer : Int32) (u0_ticket : Int64) (u0_position : Int32) (u0_to : Int32) (u1_peer : Int32) (u1_ticket : Int64) (u1_position : Int32) (u1_to : Int32) (h0 : Heap) (n0 : Nat) (Z0 : n0 ≤ h0.size) (Exa0 : Exa Z h0 x3o_0 "com/example/libdmutex/libdmutex/core/SplitToken$Waiter") (Exa1 : Exa Z h0 x3o_1 "com/example/libdmutex/libdmutex/core/SplitToken$Waiter") (Fl0_peer : Fld Z h0 x3o_0 "com/example/libdmutex/libdmutex/core/SplitToken$Waiter" "peer" "I" (.int u0_peer)) (Fl0_ticket : Fld Z h0 x3o_0 "com/example/libdmutex/libdmutex/core/SplitToken$Waiter" "ticket" "J" (.long u0_ticket)) (Fl0_position : Fld Z h0 x3o_0 "com/example/libdmutex/libdmutex/core/SplitToken$Waiter" "position" "I" (.int u0_position)) (Fl0_to : Fld Z h0 x3o_0 "com/example/libdmutex/libdmutex/core/SplitToken$Waiter" "to" "I" (.int u0_to)) (Fl1_peer : Fld Z h0 x3o_1 "com/example/libdmutex/libdmutex/core/SplitToken$Waiter" "peer" "I" (.int u1_peer)) (Fl1_ticket : Fld Z h0 x3o_1 "com/example/libdmutex/libdmutex/core/SplitToken$Waiter" "ticket" "J" (.long u1_ticket)) (Fl1_position : Fld Z h0 x3o_1 "com/example/libdmutex/libdmutex/core/SplitToken$Waiter" "position" "I" (.int u1_position)) (Fl1_to : Fld Z h0 x3o_1 "com/example/libdmutex/libdmutex/core/SplitToken$Waiter" "to" "I" (.int u1_to)) :
    MetFree l (⟨"com/example/libdmutex/libdmutex/core/SplitToken$Waiter", "equals", "(Ljava/lang/Object;)Z"⟩ : MethodName) (head1 (Jvm.Cond.code (⟨"com/example/libdmutex/libdmutex/core/SplitToken$Waiter", "equals", "(Ljava/lang/Object;)Z"⟩ : MethodName) prog_48_method_6_code 3 (some .boolean) :: ws) ({ frames := 0, cells := 0, slots := 0, locals := 0 } : Room)) (fun a U => a = #[(.ref x3o_0), (.ref x3o_1)] ∧ Z.Warmed39 U.vm ∧ U.heap = h0) (fun _ _ _ _ _ => True) (fun _ U o U' => ∃ v L, o = .returned v ∧ Q3o Z x3o_0 x3o_1 u0_peer u0_ticket u0_position u0_to u1_peer u1_ticket u1_position u1_to h0 n0 v U'.heap L ∧ FrameEnd U o U' L ({ frames := 0, cells := 0, slots := 0, locals := 0 } : Room).cells ({ frames := 0, cells := 0, slots := 0, locals := 0 } : Room).slots) := by
  refine MetFree.of_bodySF (plainFor_of_name pn_0) hisR ?_
  intro p e s m args below meth c s₁ Bd hml0 hP hK
  obtain ⟨rfl, hZ, hh⟩ := hP
  have hx := Bd.exec
  have hby := Bd.bytes
  have hml : c.maxLocals = 3 := hml0
  have hown : s.vm.findClass "com/example/libdmutex/libdmutex/core/SplitToken$Waiter" = some m.cls := findClass_of_methodNamed Bd.named
  have hnm := (name_of_methodNamed Bd.named Bd.method).1
  have X0 : Stand p l e ({ frames := 0, cells := 0, slots := 0, locals := 0 } : Room) s m #[(.ref x3o_0), (.ref x3o_1)] below meth c s₁ [] 0 0 := Stand.of_body Bd
  have e0 : s₁.heap = h0 := by rw [← hh, Bd.state]; rfl
  have N0 := Fr.nil n0
  have pre0 : ∀ t, Steps p.tables e below (s₁.setTop (mkF m 0 #[.val (.ref x3o_0), .val (.ref x3o_1), .unset] [])) t → Steps p.tables e below (s₁.setTop (entryFrame m #[(.ref x3o_0), (.ref x3o_1)] 3)) t := fun t k => castTop (ef_3o m x3o_0 x3o_1) k
  obtain ⟨T1, X1, e1, st1⟩ := instY X0 hx hZ hown (hw _ (List.mem_of_getElem? (i := 23) rfl)) e0 (Ins.self Exa1) (g := (mkF m 1 #[.val (.ref x3o_0), .val (.ref x3o_1), .unset] [(.ref x3o_1)])) rfl rfl (hb hby d3o_1)
  obtain ⟨T2, X2, e2, st2⟩ := castY X1 hx hZ hown (hw _ (List.mem_of_getElem? (i := 23) rfl)) e1 (Ins.self Exa1) (g := (mkF m 8 #[.val (.ref x3o_0), .val (.ref x3o_1), .unset] [(.ref x3o_1)])) rfl rfl (hb hby d3o_8)
  obtain ⟨T3, X3, e3, st3⟩ := getF X2 hx hZ hown (host := "") (Or.inl (hw _ (List.mem_of_getElem? (i := 10) rfl))) Via.refl e2 Fl0_peer (g := (mkF m 13 #[.val (.ref x3o_0), .val (.ref x3o_1), .val (.ref x3o_1)] [(.ref x3o_0)])) rfl rfl (hb hby d3o_13)
  obtain ⟨T4, X4, e4, st4⟩ := getF X3 hx hZ hown (host := "") (Or.inl (hw _ (List.mem_of_getElem? (i := 10) rfl))) Via.refl e3 Fl1_peer (g := (mkF m 17 #[.val (.ref x3o_0), .val (.ref x3o_1), .val (.ref x3o_1)] [(.ref x3o_1), (.int u0_peer)])) rfl rfl (hb hby d3o_17)
  have sg5 : ∀ t, Steps p.tables e below (T4.setTop (mkF m 20 #[.val (.ref x3o_0), .val (.ref x3o_1), .val (.ref x3o_1)] [(.int u1_peer), (.int u0_peer)])) t → Steps p.tables e below (s₁.setTop (mkF m 0 #[.val (.ref x3o_0), .val (.ref x3o_1), .unset] [])) t := fun t kt => by
    show Steps p.tables e below (s₁.setTop (mkF m 0 #[.val (.ref x3o_0), .val (.ref x3o_1), .unset] [])) _
    refine XS.aloadN X0.here hx rfl (hb hby d3o_0) rfl rfl ?_
    show Steps p.tables e below (s₁.setTop (mkF m 1 #[.val (.ref x3o_0), .val (.ref x3o_1), .unset] [(.ref x3o_1)])) _
    refine st1 _ ?_
    show Steps p.tables e below (T1.setTop (mkF m 4 #[.val (.ref x3o_0), .val (.ref x3o_1), .unset] [(.int (1 : Int32))])) _
    refine XS.ifNo X1.here hx rfl (hb hby d3o_4) rfl ((if0 _ _).trans (feq (by decide : ¬ ((1 : Int32) = (0 : Int32)))).1) ?_
    show Steps p.tables e below (T1.setTop (mkF m 7 #[.val (.ref x3o_0), .val (.ref x3o_1), .unset] [])) _
    refine XS.aloadN X1.here hx rfl (hb hby d3o_7) rfl rfl ?_
    show Steps p.tables e below (T1.setTop (mkF m 8 #[.val (.ref x3o_0), .val (.ref x3o_1), .unset] [(.ref x3o_1)])) _
    refine st2 _ ?_
    show Steps p.tables e below (T2.setTop (mkF m 11 #[.val (.ref x3o_0), .val (.ref x3o_1), .unset] [(.ref x3o_1)])) _
    refine XS.astoreN X2.here hx rfl (hb hby d3o_11) rfl rfl (l' := #[.val (.ref x3o_0), .val (.ref x3o_1), .val (.ref x3o_1)]) rfl ?_
    show Steps p.tables e below (T2.setTop (mkF m 12 #[.val (.ref x3o_0), .val (.ref x3o_1), .val (.ref x3o_1)] [])) _
    refine XS.aloadN X2.here hx rfl (hb hby d3o_12) rfl rfl ?_
    show Steps p.tables e below (T2.setTop (mkF m 13 #[.val (.ref x3o_0), .val (.ref x3o_1), .val (.ref x3o_1)] [(.ref x3o_0)])) _
    refine st3 _ ?_
    show Steps p.tables e below (T3.setTop (mkF m 16 #[.val (.ref x3o_0), .val (.ref x3o_1), .val (.ref x3o_1)] [(.int u0_peer)])) _
    refine XS.aloadN X3.here hx rfl (hb hby d3o_16) rfl rfl ?_
    show Steps p.tables e below (T3.setTop (mkF m 17 #[.val (.ref x3o_0), .val (.ref x3o_1), .val (.ref x3o_1)] [(.ref x3o_1), (.int u0_peer)])) _
    refine st4 _ ?_
    exact kt
  by_cases hc20_6 : u0_peer = u1_peer
  · obtain ⟨T7, X7, e7, st7⟩ := getF X4 hx hZ hown (host := "") (Or.inl (hw _ (List.mem_of_getElem? (i := 12) rfl))) Via.refl e4 Fl0_ticket (g := (mkF m 24 #[.val (.ref x3o_0), .val (.ref x3o_1), .val (.ref x3o_1)] [(.ref x3o_0)])) rfl rfl (hb hby d3o_24)
    obtain ⟨T8, X8, e8, st8⟩ := getF X7 hx hZ hown (host := "") (Or.inl (hw _ (List.mem_of_getElem? (i := 12) rfl))) Via.refl e7 Fl1_ticket (g := (mkF m 28 #[.val (.ref x3o_0), .val (.ref x3o_1), .val (.ref x3o_1)] [(.ref x3o_1), (.long u0_ticket)])) rfl rfl (hb hby d3o_28)
    have sg9 : ∀ t, Steps p.tables e below (T8.setTop (mkF m 32 #[.val (.ref x3o_0), .val (.ref x3o_1), .val (.ref x3o_1)] [(.int (lcmpW u0_ticket u1_ticket))])) t → Steps p.tables e below (T4.setTop (mkF m 20 #[.val (.ref x3o_0), .val (.ref x3o_1), .val (.ref x3o_1)] [(.int u1_peer), (.int u0_peer)])) t := fun t kt => by
      show Steps p.tables e below (T4.setTop (mkF m 20 #[.val (.ref x3o_0), .val (.ref x3o_1), .val (.ref x3o_1)] [(.int u1_peer), (.int u0_peer)])) _
      refine XS.icmpNo X4.here hx rfl (hb hby d3o_20) rfl (teq hc20_6).2 ?_
      show Steps p.tables e below (T4.setTop (mkF m 23 #[.val (.ref x3o_0), .val (.ref x3o_1), .val (.ref x3o_1)] [])) _
      refine XS.aloadN X4.here hx rfl (hb hby d3o_23) rfl rfl ?_
      show Steps p.tables e below (T4.setTop (mkF m 24 #[.val (.ref x3o_0), .val (.ref x3o_1), .val (.ref x3o_1)] [(.ref x3o_0)])) _
      refine st7 _ ?_
      show Steps p.tables e below (T7.setTop (mkF m 27 #[.val (.ref x3o_0), .val (.ref x3o_1), .val (.ref x3o_1)] [(.long u0_ticket)])) _
      refine XS.aloadN X7.here hx rfl (hb hby d3o_27) rfl rfl ?_
      show Steps p.tables e below (T7.setTop (mkF m 28 #[.val (.ref x3o_0), .val (.ref x3o_1), .val (.ref x3o_1)] [(.ref x3o_1), (.long u0_ticket)])) _
      refine st8 _ ?_
      show Steps p.tables e below (T8.setTop (mkF m 31 #[.val (.ref x3o_0), .val (.ref x3o_1), .val (.ref x3o_1)] [(.long u1_ticket), (.long u0_ticket)])) _
      refine XS.lcmp X8.here hx rfl (hb hby d3o_31) rfl ?_
      exact kt
    by_cases hc32_10 : u0_ticket = u1_ticket
    · obtain ⟨T11, X11, e11, st11⟩ := getF X8 hx hZ hown (host := "") (Or.inl (hw _ (List.mem_of_getElem? (i := 14) rfl))) Via.refl e8 Fl0_position (g := (mkF m 36 #[.val (.ref x3o_0), .val (.ref x3o_1), .val (.ref x3o_1)] [(.ref x3o_0)])) rfl rfl (hb hby d3o_36)
      obtain ⟨T12, X12, e12, st12⟩ := getF X11 hx hZ hown (host := "") (Or.inl (hw _ (List.mem_of_getElem? (i := 14) rfl))) Via.refl e11 Fl1_position (g := (mkF m 40 #[.val (.ref x3o_0), .val (.ref x3o_1), .val (.ref x3o_1)] [(.ref x3o_1), (.int u0_position)])) rfl rfl (hb hby d3o_40)
      have sg13 : ∀ t, Steps p.tables e below (T12.setTop (mkF m 43 #[.val (.ref x3o_0), .val (.ref x3o_1), .val (.ref x3o_1)] [(.int u1_position), (.int u0_position)])) t → Steps p.tables e below (T8.setTop (mkF m 32 #[.val (.ref x3o_0), .val (.ref x3o_1), .val (.ref x3o_1)] [(.int (lcmpW u0_ticket u1_ticket))])) t := fun t kt => by
        show Steps p.tables e below (T8.setTop (mkF m 32 #[.val (.ref x3o_0), .val (.ref x3o_1), .val (.ref x3o_1)] [(.int (lcmpW u0_ticket u1_ticket))])) _
        refine XS.ifNo X8.here hx rfl (hb hby d3o_32) rfl ((if0 _ _).trans (teq ((lw_eq _ _).mpr hc32_10)).2) ?_
        show Steps p.tables e below (T8.setTop (mkF m 35 #[.val (.ref x3o_0), .val (.ref x3o_1), .val (.ref x3o_1)] [])) _
        refine XS.aloadN X8.here hx rfl (hb hby d3o_35) rfl rfl ?_
        show Steps p.tables e below (T8.setTop (mkF m 36 #[.val (.ref x3o_0), .val (.ref x3o_1), .val (.ref x3o_1)] [(.ref x3o_0)])) _
        refine st11 _ ?_
        show Steps p.tables e below (T11.setTop (mkF m 39 #[.val (.ref x3o_0), .val (.ref x3o_1), .val (.ref x3o_1)] [(.int u0_position)])) _
        refine XS.aloadN X11.here hx rfl (hb hby d3o_39) rfl rfl ?_
        show Steps p.tables e below (T11.setTop (mkF m 40 #[.val (.ref x3o_0), .val (.ref x3o_1), .val (.ref x3o_1)] [(.ref x3o_1), (.int u0_position)])) _
        refine st12 _ ?_
        exact kt
      by_cases hc43_14 : u0_position = u1_position
      · obtain ⟨T15, X15, e15, st15⟩ := getF X12 hx hZ hown (host := "") (Or.inl (hw _ (List.mem_of_getElem? (i := 16) rfl))) Via.refl e12 Fl0_to (g := (mkF m 47 #[.val (.ref x3o_0), .val (.ref x3o_1), .val (.ref x3o_1)] [(.ref x3o_0)])) rfl rfl (hb hby d3o_47)
        obtain ⟨T16, X16, e16, st16⟩ := getF X15 hx hZ hown (host := "") (Or.inl (hw _ (List.mem_of_getElem? (i := 16) rfl))) Via.refl e15 Fl1_to (g := (mkF m 51 #[.val (.ref x3o_0), .val (.ref x3o_1), .val (.ref x3o_1)] [(.ref x3o_1), (.int u0_to)])) rfl rfl (hb hby d3o_51)
        have sg17 : ∀ t, Steps p.tables e below (T16.setTop (mkF m 54 #[.val (.ref x3o_0), .val (.ref x3o_1), .val (.ref x3o_1)] [(.int u1_to), (.int u0_to)])) t → Steps p.tables e below (T12.setTop (mkF m 43 #[.val (.ref x3o_0), .val (.ref x3o_1), .val (.ref x3o_1)] [(.int u1_position), (.int u0_position)])) t := fun t kt => by
          show Steps p.tables e below (T12.setTop (mkF m 43 #[.val (.ref x3o_0), .val (.ref x3o_1), .val (.ref x3o_1)] [(.int u1_position), (.int u0_position)])) _
          refine XS.icmpNo X12.here hx rfl (hb hby d3o_43) rfl (teq hc43_14).2 ?_
          show Steps p.tables e below (T12.setTop (mkF m 46 #[.val (.ref x3o_0), .val (.ref x3o_1), .val (.ref x3o_1)] [])) _
          refine XS.aloadN X12.here hx rfl (hb hby d3o_46) rfl rfl ?_
          show Steps p.tables e below (T12.setTop (mkF m 47 #[.val (.ref x3o_0), .val (.ref x3o_1), .val (.ref x3o_1)] [(.ref x3o_0)])) _
          refine st15 _ ?_
          show Steps p.tables e below (T15.setTop (mkF m 50 #[.val (.ref x3o_0), .val (.ref x3o_1), .val (.ref x3o_1)] [(.int u0_to)])) _
          refine XS.aloadN X15.here hx rfl (hb hby d3o_50) rfl rfl ?_
          show Steps p.tables e below (T15.setTop (mkF m 51 #[.val (.ref x3o_0), .val (.ref x3o_1), .val (.ref x3o_1)] [(.ref x3o_1), (.int u0_to)])) _
          refine st16 _ ?_
          exact kt
        by_cases hc54_18 : u0_to = u1_to
        · obtain ⟨fs, hr, hrun, hended, hW, hsame⟩ := X16.leave (v := some (.int (1 : Int32))) (fun h => by rw [Bd.returns] at h; cases h)
          refine ⟨_, _, pre0 _ (sg5 _ (sg9 _ (sg13 _ (sg17 _ ?_)))), hrun, hended, _, _, rfl, ?_, ⟨_, rfl⟩, hW, hsame.mono (by decide) (by decide)⟩
          · show Steps p.tables e below (T16.setTop (mkF m 54 #[.val (.ref x3o_0), .val (.ref x3o_1), .val (.ref x3o_1)] [(.int u1_to), (.int u0_to)])) _
            refine XS.icmpNo X16.here hx rfl (hb hby d3o_54) rfl (teq hc54_18).2 ?_
            show Steps p.tables e below (T16.setTop (mkF m 57 #[.val (.ref x3o_0), .val (.ref x3o_1), .val (.ref x3o_1)] [])) _
            refine XS.iconst X16.here hx rfl (hb hby d3o_57) ?_
            show Steps p.tables e below (T16.setTop (mkF m 58 #[.val (.ref x3o_0), .val (.ref x3o_1), .val (.ref x3o_1)] [(.int (1 : Int32))])) _
            refine XS.goto X16.here hx rfl (pc0 := 58) (pc' := 62) rfl (hb hby d3o_58) (by decide) (by decide) ?_
            show Steps p.tables e below (T16.setTop (mkF m 62 #[.val (.ref x3o_0), .val (.ref x3o_1), .val (.ref x3o_1)] [(.int (1 : Int32))])) _
            exact retN X16 hx (t := .boolean) Bd.returns (by simp) (hb hby d3o_62) hr
          · exact ⟨congrArg (fun z => some (Value.int z)) (show (1 : Int32) = f3o x3o_0 x3o_1 u0_peer u0_ticket u0_position u0_to u1_peer u1_ticket u1_position u1_to from by unfold f3o; rw [if_pos hc20_6, if_pos hc32_10, if_pos hc43_14, if_pos hc54_18]), N0, e16⟩
        · obtain ⟨fs, hr, hrun, hended, hW, hsame⟩ := X16.leave (v := some (.int (0 : Int32))) (fun h => by rw [Bd.returns] at h; cases h)
          refine ⟨_, _, pre0 _ (sg5 _ (sg9 _ (sg13 _ (sg17 _ ?_)))), hrun, hended, _, _, rfl, ?_, ⟨_, rfl⟩, hW, hsame.mono (by decide) (by decide)⟩
          · show Steps p.tables e below (T16.setTop (mkF m 54 #[.val (.ref x3o_0), .val (.ref x3o_1), .val (.ref x3o_1)] [(.int u1_to), (.int u0_to)])) _
            refine XS.icmpYes X16.here hx rfl (pc0 := 54) (pc' := 61) rfl (hb hby d3o_54) rfl (feq hc54_18).2 (by decide) (by decide) ?_
            show Steps p.tables e below (T16.setTop (mkF m 61 #[.val (.ref x3o_0), .val (.ref x3o_1), .val (.ref x3o_1)] [])) _
            refine XS.iconst X16.here hx rfl (hb hby d3o_61) ?_
            show Steps p.tables e below (T16.setTop (mkF m 62 #[.val (.ref x3o_0), .val (.ref x3o_1), .val (.ref x3o_1)] [(.int (0 : Int32))])) _
            exact retN X16 hx (t := .boolean) Bd.returns (by simp) (hb hby d3o_62) hr
          · exact ⟨congrArg (fun z => some (Value.int z)) (show (0 : Int32) = f3o x3o_0 x3o_1 u0_peer u0_ticket u0_position u0_to u1_peer u1_ticket u1_position u1_to from by unfold f3o; rw [if_pos hc20_6, if_pos hc32_10, if_pos hc43_14, if_neg hc54_18]), N0, e16⟩
      · obtain ⟨fs, hr, hrun, hended, hW, hsame⟩ := X12.leave (v := some (.int (0 : Int32))) (fun h => by rw [Bd.returns] at h; cases h)
        refine ⟨_, _, pre0 _ (sg5 _ (sg9 _ (sg13 _ ?_))), hrun, hended, _, _, rfl, ?_, ⟨_, rfl⟩, hW, hsame.mono (by decide) (by decide)⟩
        · show Steps p.tables e below (T12.setTop (mkF m 43 #[.val (.ref x3o_0), .val (.ref x3o_1), .val (.ref x3o_1)] [(.int u1_position), (.int u0_position)])) _
          refine XS.icmpYes X12.here hx rfl (pc0 := 43) (pc' := 61) rfl (hb hby d3o_43) rfl (feq hc43_14).2 (by decide) (by decide) ?_
          show Steps p.tables e below (T12.setTop (mkF m 61 #[.val (.ref x3o_0), .val (.ref x3o_1), .val (.ref x3o_1)] [])) _
          refine XS.iconst X12.here hx rfl (hb hby d3o_61) ?_
          show Steps p.tables e below (T12.setTop (mkF m 62 #[.val (.ref x3o_0), .val (.ref x3o_1), .val (.ref x3o_1)] [(.int (0 : Int32))])) _
          exact retN X12 hx (t := .boolean) Bd.returns (by simp) (hb hby d3o_62) hr
        · exact ⟨congrArg (fun z => some (Value.int z)) (show (0 : Int32) = f3o x3o_0 x3o_1 u0_peer u0_ticket u0_position u0_to u1_peer u1_ticket u1_position u1_to from by unfold f3o; rw [if_pos hc20_6, if_pos hc32_10, if_neg hc43_14]), N0, e12⟩
    · obtain ⟨fs, hr, hrun, hended, hW, hsame⟩ := X8.leave (v := some (.int (0 : Int32))) (fun h => by rw [Bd.returns] at h; cases h)
      refine ⟨_, _, pre0 _ (sg5 _ (sg9 _ ?_)), hrun, hended, _, _, rfl, ?_, ⟨_, rfl⟩, hW, hsame.mono (by decide) (by decide)⟩
      · show Steps p.tables e below (T8.setTop (mkF m 32 #[.val (.ref x3o_0), .val (.ref x3o_1), .val (.ref x3o_1)] [(.int (lcmpW u0_ticket u1_ticket))])) _
        refine XS.ifYes X8.here hx rfl (pc0 := 32) (pc' := 61) rfl (hb hby d3o_32) rfl ((if0 _ _).trans (feq (mt (lw_eq _ _).mp hc32_10)).2) (by decide) (by decide) ?_
        show Steps p.tables e below (T8.setTop (mkF m 61 #[.val (.ref x3o_0), .val (.ref x3o_1), .val (.ref x3o_1)] [])) _
        refine XS.iconst X8.here hx rfl (hb hby d3o_61) ?_
        show Steps p.tables e below (T8.setTop (mkF m 62 #[.val (.ref x3o_0), .val (.ref x3o_1), .val (.ref x3o_1)] [(.int (0 : Int32))])) _
        exact retN X8 hx (t := .boolean) Bd.returns (by simp) (hb hby d3o_62) hr
      · exact ⟨congrArg (fun z => some (Value.int z)) (show (0 : Int32) = f3o x3o_0 x3o_1 u0_peer u0_ticket u0_position u0_to u1_peer u1_ticket u1_position u1_to from by unfold f3o; rw [if_pos hc20_6, if_neg hc32_10]), N0, e8⟩
  · obtain ⟨fs, hr, hrun, hended, hW, hsame⟩ := X4.leave (v := some (.int (0 : Int32))) (fun h => by rw [Bd.returns] at h; cases h)
    refine ⟨_, _, pre0 _ (sg5 _ ?_), hrun, hended, _, _, rfl, ?_, ⟨_, rfl⟩, hW, hsame.mono (by decide) (by decide)⟩
    · show Steps p.tables e below (T4.setTop (mkF m 20 #[.val (.ref x3o_0), .val (.ref x3o_1), .val (.ref x3o_1)] [(.int u1_peer), (.int u0_peer)])) _
      refine XS.icmpYes X4.here hx rfl (pc0 := 20) (pc' := 61) rfl (hb hby d3o_20) rfl (feq hc20_6).2 (by decide) (by decide) ?_
      show Steps p.tables e below (T4.setTop (mkF m 61 #[.val (.ref x3o_0), .val (.ref x3o_1), .val (.ref x3o_1)] [])) _
      refine XS.iconst X4.here hx rfl (hb hby d3o_61) ?_
      show Steps p.tables e below (T4.setTop (mkF m 62 #[.val (.ref x3o_0), .val (.ref x3o_1), .val (.ref x3o_1)] [(.int (0 : Int32))])) _
      exact retN X4 hx (t := .boolean) Bd.returns (by simp) (hb hby d3o_62) hr
    · exact ⟨congrArg (fun z => some (Value.int z)) (show (0 : Int32) = f3o x3o_0 x3o_1 u0_peer u0_ticket u0_position u0_to u1_peer u1_ticket u1_position u1_to from by unfold f3o; rw [if_neg hc20_6]), N0, e4⟩
theorem d3n_0 : decode prog_48_method_6_code 0 = .ok (.aload_n 1, 1) := by decide +kernel
theorem d3n_1 : decode prog_48_method_6_code 1 = .ok (.instanceof 17, 3) := by decide +kernel
theorem d3n_4 : decode prog_48_method_6_code 4 = .ok (.ifCond .eq 57, 3) := by decide +kernel
theorem d3n_61 : decode prog_48_method_6_code 61 = .ok (.iconst 0, 1) := by decide +kernel
theorem d3n_62 : decode prog_48_method_6_code 62 = .ok (.ireturn, 1) := by decide +kernel
theorem ef_3n (m : MethodId) (x3n_0 : Addr) : entryFrame m #[(.ref x3n_0), .null] 3 = mkF m 0 #[.val (.ref x3n_0), .val .null, .unset] [] := by first | (simp [entryFrame, mkF, argsToLocals, Value.category]; done) | rfl
def f3n (x3n_0 : Addr) : Int32 := (0 : Int32)
def Q3n (Z : State) (x3n_0 : Addr) (h0 : Heap) (n0 : Nat) (v : Option Value) (h : Heap) (L : List Loc) : Prop := v = some (.int (f3n x3n_0)) ∧ Fr n0 L ∧ h = h0
set_option maxRecDepth 65536 in
set_option maxHeartbeats 40000000 in
theorem rm3n (l : Launch) (Z : State) (a0 : Array Value) (hw : ∀ d ∈ tables_1, d.before a0 Z = true) (ws : List Jvm.Cond) (x3n_0 : Addr) (h0 : Heap) (n0 : Nat) (Z0 : n0 ≤ h0.size) (Exa0 : Exa Z h0 x3n_0 "com/example/libdmutex/libdmutex/core/SplitToken$Waiter") :
    MetFree l (⟨"com/example/libdmutex/libdmutex/core/SplitToken$Waiter", "equals", "(Ljava/lang/Object;)Z"⟩ : MethodName) (head1 (Jvm.Cond.code (⟨"com/example/libdmutex/libdmutex/core/SplitToken$Waiter", "equals", "(Ljava/lang/Object;)Z"⟩ : MethodName) prog_48_method_6_code 3 (some .boolean) :: ws) ({ frames := 0, cells := 0, slots := 0, locals := 0 } : Room)) (fun a U => a = #[(.ref x3n_0), .null] ∧ Z.Warmed39 U.vm ∧ U.heap = h0) (fun _ _ _ _ _ => True) (fun _ U o U' => ∃ v L, o = .returned v ∧ Q3n Z x3n_0 h0 n0 v U'.heap L ∧ FrameEnd U o U' L ({ frames := 0, cells := 0, slots := 0, locals := 0 } : Room).cells ({ frames := 0, cells := 0, slots := 0, locals := 0 } : Room).slots) := by
  refine MetFree.of_bodySF (plainFor_of_name pn_0) hisR ?_
  intro p e s m args below meth c s₁ Bd hml0 hP hK
  obtain ⟨rfl, hZ, hh⟩ := hP
  have hx := Bd.exec
  have hby := Bd.bytes
  have hml : c.maxLocals = 3 := hml0
  have hown : s.vm.findClass "com/example/libdmutex/libdmutex/core/SplitToken$Waiter" = some m.cls := findClass_of_methodNamed Bd.named
  have hnm := (name_of_methodNamed Bd.named Bd.method).1
  have X0 : Stand p l e ({ frames := 0, cells := 0, slots := 0, locals := 0 } : Room) s m #[(.ref x3n_0), .null] below meth c s₁ [] 0 0 := Stand.of_body Bd
  have e0 : s₁.heap = h0 := by rw [← hh, Bd.state]; rfl
  have N0 := Fr.nil n0
  have pre0 : ∀ t, Steps p.tables e below (s₁.setTop (mkF m 0 #[.val (.ref x3n_0), .val .null, .unset] [])) t → Steps p.tables e below (s₁.setTop (entryFrame m #[(.ref x3n_0), .null] 3)) t := fun t k => castTop (ef_3n m x3n_0) k
  obtain ⟨fs, hr, hrun, hended, hW, hsame⟩ := X0.leave (v := some (.int (0 : Int32))) (fun h => by rw [Bd.returns] at h; cases h)
  refine ⟨_, _, pre0 _ (?_), hrun, hended, _, _, rfl, ?_, ⟨_, rfl⟩, hW, hsame.mono (by decide) (by decide)⟩
  · show Steps p.tables e below (s₁.setTop (mkF m 0 #[.val (.ref x3n_0), .val .null, .unset] [])) _
    refine XS.aloadN X0.here hx rfl (hb hby d3n_0) rfl rfl ?_
    show Steps p.tables e below (s₁.setTop (mkF m 1 #[.val (.ref x3n_0), .val .null, .unset] [.null])) _
    refine X0.instanceofNull hx (g := (mkF m 1 #[.val (.ref x3n_0), .val .null, .unset] [.null])) rfl rfl (hb hby d3n_1) _ ?_
    show Steps p.tables e below (s₁.setTop (mkF m 4 #[.val (.ref x3n_0), .val .null, .unset] [(.int (0 : Int32))])) _
    refine XS.ifYes X0.here hx rfl (pc0 := 4) (pc' := 61) rfl (hb hby d3n_4) rfl ((if0 _ _).trans (teq (by decide : ((0 : Int32) = (0 : Int32)))).1) (by decide) (by decide) ?_
    show Steps p.tables e below (s₁.setTop (mkF m 61 #[.val (.ref x3n_0), .val .null, .unset] [])) _
    refine XS.iconst X0.here hx rfl (hb hby d3n_61) ?_
    show Steps p.tables e below (s₁.setTop (mkF m 62 #[.val (.ref x3n_0), .val .null, .unset] [(.int (0 : Int32))])) _
    exact retN X0 hx (t := .boolean) Bd.returns (by simp) (hb hby d3n_62) hr
  · exact ⟨rfl, N0, e0⟩
theorem d3i_0 : decode prog_48_method_6_code 0 = .ok (.aload_n 1, 1) := by decide +kernel
theorem d3i_1 : decode prog_48_method_6_code 1 = .ok (.instanceof 17, 3) := by decide +kernel
theorem d3i_4 : decode prog_48_method_6_code 4 = .ok (.ifCond .eq 57, 3) := by decide +kernel
theorem d3i_61 : decode prog_48_method_6_code 61 = .ok (.iconst 0, 1) := by decide +kernel
theorem d3i_62 : decode prog_48_method_6_code 62 = .ok (.ireturn, 1) := by decide +kernel
theorem ef_3i (m : MethodId) (x3i_0 : Addr) (x3i_1 : Addr) : entryFrame m #[(.ref x3i_0), (.ref x3i_1)] 3 = mkF m 0 #[.val (.ref x3i_0), .val (.ref x3i_1), .unset] [] := by first | (simp [entryFrame, mkF, argsToLocals, Value.category]; done) | rfl
def f3i (x3i_0 : Addr) (x3i_1 : Addr) : Int32 := (0 : Int32)
def Q3i (Z : State) (x3i_0 : Addr) (x3i_1 : Addr) (h0 : Heap) (n0 : Nat) (v : Option Value) (h : Heap) (L : List Loc) : Prop := v = some (.int (f3i x3i_0 x3i_1)) ∧ Fr n0 L ∧ h = h0
set_option maxRecDepth 65536 in
set_option maxHeartbeats 40000000 in
theorem rm3i (l : Launch) (Z : State) (a0 : Array Value) (hw : ∀ d ∈ tables_1, d.before a0 Z = true) (ws : List Jvm.Cond) (x3i_0 : Addr) (x3i_1 : Addr) (h0 : Heap) (n0 : Nat) (Z0 : n0 ≤ h0.size) (Exa1 : Exa Z h0 x3i_1 "java/lang/Integer") :
    MetFree l (⟨"com/example/libdmutex/libdmutex/core/SplitToken$Waiter", "equals", "(Ljava/lang/Object;)Z"⟩ : MethodName) (head1 (Jvm.Cond.code (⟨"com/example/libdmutex/libdmutex/core/SplitToken$Waiter", "equals", "(Ljava/lang/Object;)Z"⟩ : MethodName) prog_48_method_6_code 3 (some .boolean) :: ws) ({ frames := 0, cells := 0, slots := 0, locals := 0 } : Room)) (fun a U => a = #[(.ref x3i_0), (.ref x3i_1)] ∧ Z.Warmed39 U.vm ∧ U.heap = h0) (fun _ _ _ _ _ => True) (fun _ U o U' => ∃ v L, o = .returned v ∧ Q3i Z x3i_0 x3i_1 h0 n0 v U'.heap L ∧ FrameEnd U o U' L ({ frames := 0, cells := 0, slots := 0, locals := 0 } : Room).cells ({ frames := 0, cells := 0, slots := 0, locals := 0 } : Room).slots) := by
  refine MetFree.of_bodySF (plainFor_of_name pn_0) hisR ?_
  intro p e s m args below meth c s₁ Bd hml0 hP hK
  obtain ⟨rfl, hZ, hh⟩ := hP
  have hx := Bd.exec
  have hby := Bd.bytes
  have hml : c.maxLocals = 3 := hml0
  have hown : s.vm.findClass "com/example/libdmutex/libdmutex/core/SplitToken$Waiter" = some m.cls := findClass_of_methodNamed Bd.named
  have hnm := (name_of_methodNamed Bd.named Bd.method).1
  have X0 : Stand p l e ({ frames := 0, cells := 0, slots := 0, locals := 0 } : Room) s m #[(.ref x3i_0), (.ref x3i_1)] below meth c s₁ [] 0 0 := Stand.of_body Bd
  have e0 : s₁.heap = h0 := by rw [← hh, Bd.state]; rfl
  have N0 := Fr.nil n0
  have pre0 : ∀ t, Steps p.tables e below (s₁.setTop (mkF m 0 #[.val (.ref x3i_0), .val (.ref x3i_1), .unset] [])) t → Steps p.tables e below (s₁.setTop (entryFrame m #[(.ref x3i_0), (.ref x3i_1)] 3)) t := fun t k => castTop (ef_3i m x3i_0 x3i_1) k
  obtain ⟨T1, X1, e1, st1⟩ := instNo X0 hx hZ hown (hw _ (List.mem_of_getElem? (i := 23) rfl)) e0 Exa1 (own_no (hw _ (List.mem_of_getElem? (i := 32) rfl)) (hw _ (List.mem_of_getElem? (i := 2) rfl)) (NS.step (hw _ (List.mem_of_getElem? (i := 32) rfl)) (NS.step (hw _ (List.mem_of_getElem? (i := 33) rfl)) (own_nsroot (hw _ (List.mem_of_getElem? (i := 34) rfl)) (hw _ (List.mem_of_getElem? (i := 2) rfl)) (by decide)) (by decide)) (by decide)) (by decide)) (g := (mkF m 1 #[.val (.ref x3i_0), .val (.ref x3i_1), .unset] [(.ref x3i_1)])) rfl rfl (hb hby d3i_1)
  obtain ⟨fs, hr, hrun, hended, hW, hsame⟩ := X1.leave (v := some (.int (0 : Int32))) (fun h => by rw [Bd.returns] at h; cases h)
  refine ⟨_, _, pre0 _ (?_), hrun, hended, _, _, rfl, ?_, ⟨_, rfl⟩, hW, hsame.mono (by decide) (by decide)⟩
  · show Steps p.tables e below (s₁.setTop (mkF m 0 #[.val (.ref x3i_0), .val (.ref x3i_1), .unset] [])) _
    refine XS.aloadN X0.here hx rfl (hb hby d3i_0) rfl rfl ?_
    show Steps p.tables e below (s₁.setTop (mkF m 1 #[.val (.ref x3i_0), .val (.ref x3i_1), .unset] [(.ref x3i_1)])) _
    refine st1 _ ?_
    show Steps p.tables e below (T1.setTop (mkF m 4 #[.val (.ref x3i_0), .val (.ref x3i_1), .unset] [(.int (0 : Int32))])) _
    refine XS.ifYes X1.here hx rfl (pc0 := 4) (pc' := 61) rfl (hb hby d3i_4) rfl ((if0 _ _).trans (teq (by decide : ((0 : Int32) = (0 : Int32)))).1) (by decide) (by decide) ?_
    show Steps p.tables e below (T1.setTop (mkF m 61 #[.val (.ref x3i_0), .val (.ref x3i_1), .unset] [])) _
    refine XS.iconst X1.here hx rfl (hb hby d3i_61) ?_
    show Steps p.tables e below (T1.setTop (mkF m 62 #[.val (.ref x3i_0), .val (.ref x3i_1), .unset] [(.int (0 : Int32))])) _
    exact retN X1 hx (t := .boolean) Bd.returns (by simp) (hb hby d3i_62) hr
  · exact ⟨rfl, N0, e1⟩
theorem d6_0 : decode jdk_18_method_1_code 0 = .ok (.aload_n 0, 1) := by decide +kernel
theorem d6_1 : decode jdk_18_method_1_code 1 = .ok (.invokespecial 1, 3) := by decide +kernel
theorem d6_4 : decode jdk_18_method_1_code 4 = .ok (.return_, 1) := by decide +kernel
theorem pn_1 : plainName "java/lang/Number" = true := by first | (simp [plainName, overriddenIn]; done) | decide +kernel
theorem ef_6 (m : MethodId) (x6_0 : Addr) : entryFrame m #[(.ref x6_0)] 1 = mkF m 0 #[.val (.ref x6_0)] [] := by first | (simp [entryFrame, mkF, argsToLocals, Value.category]; done) | rfl
def Q6 (Z : State) (x6_0 : Addr) (h0 : Heap) (n0 : Nat) (v : Option Value) (h : Heap) (L : List Loc) : Prop := v = none ∧ Fr n0 L ∧ h = h0
set_option maxRecDepth 65536 in
set_option maxHeartbeats 40000000 in
theorem rm6 (l : Launch) (Z : State) (a0 : Array Value) (hw : ∀ d ∈ tables_1, d.before a0 Z = true) (ws : List Jvm.Cond) (x6_0 : Addr) (h0 : Heap) (n0 : Nat) (Z0 : n0 ≤ h0.size) :
    MetFree l (⟨"java/lang/Number", "<init>", "()V"⟩ : MethodName) (head1 (Jvm.Cond.code (⟨"java/lang/Number", "<init>", "()V"⟩ : MethodName) jdk_18_method_1_code 1 none :: ws) ({ frames := 1, cells := 0, slots := 0, locals := 12 } : Room)) (fun a U => a = #[(.ref x6_0)] ∧ Z.Warmed39 U.vm ∧ U.heap = h0) (fun _ _ _ _ _ => True) (fun _ U o U' => ∃ v L, o = .returned v ∧ Q6 Z x6_0 h0 n0 v U'.heap L ∧ FrameEnd U o U' L ({ frames := 1, cells := 0, slots := 0, locals := 12 } : Room).cells ({ frames := 1, cells := 0, slots := 0, locals := 12 } : Room).slots) := by
  refine MetFree.of_bodySF (plainFor_of_name pn_1) hisR ?_
  intro p e s m args below meth c s₁ Bd hml0 hP hK
  obtain ⟨rfl, hZ, hh⟩ := hP
  have hx := Bd.exec
  have hby := Bd.bytes
  have hml : c.maxLocals = 1 := hml0
  have hown : s.vm.findClass "java/lang/Number" = some m.cls := findClass_of_methodNamed Bd.named
  have hnm := (name_of_methodNamed Bd.named Bd.method).1
  have X0 : Stand p l e ({ frames := 1, cells := 0, slots := 0, locals := 12 } : Room) s m #[(.ref x6_0)] below meth c s₁ [] 0 0 := Stand.of_body Bd
  have e0 : s₁.heap = h0 := by rw [← hh, Bd.state]; rfl
  have N0 := Fr.nil n0
  have pre0 : ∀ t, Steps p.tables e below (s₁.setTop (mkF m 0 #[.val (.ref x6_0)] [])) t → Steps p.tables e below (s₁.setTop (entryFrame m #[(.ref x6_0)] 1)) t := fun t k => castTop (ef_6 m x6_0) k
  obtain ⟨T1, X1, e1, st1⟩ := initO X0 hx hZ hown (hw _ (List.mem_of_getElem? (i := 47) rfl)) (hw _ (List.mem_of_getElem? (i := 8) rfl)) (hw _ (List.mem_of_getElem? (i := 9) rfl)) e0 (g := (mkF m 1 #[.val (.ref x6_0)] [(.ref x6_0)])) rfl (by rw [hml]; rfl) rfl (hb hby d6_1) (by decide) (W := 0) (by show 2 * 0 + _ ≤ _; exact Nat.le_of_eq rfl) (by decide)
  obtain ⟨fs, hr, hrun, hended, hW, hsame⟩ := X1.leave (v := none) (fun _ => rfl)
  refine ⟨_, _, pre0 _ (?_), hrun, hended, _, _, rfl, ?_, ⟨_, rfl⟩, hW, hsame.mono (by decide) (by decide)⟩
  · show Steps p.tables e below (s₁.setTop (mkF m 0 #[.val (.ref x6_0)] [])) _
    refine XS.aloadN X0.here hx rfl (hb hby d6_0) rfl rfl ?_
    show Steps p.tables e below (s₁.setTop (mkF m 1 #[.val (.ref x6_0)] [(.ref x6_0)])) _
    refine st1 _ ?_
    show Steps p.tables e below (T1.setTop (mkF m 4 #[.val (.ref x6_0)] [])) _
    exact X1.returnOut hx Bd.returns (hb hby d6_4) hr
  · exact ⟨rfl, N0, e1⟩
theorem pd_0 : parseMethodDescriptor "()V" = some ⟨[], none⟩ := by decide +kernel
theorem d5_0 : decode jdk_33_method_23_code 0 = .ok (.aload_n 0, 1) := by decide +kernel
theorem d5_1 : decode jdk_33_method_23_code 1 = .ok (.invokespecial 202, 3) := by decide +kernel
theorem d5_4 : decode jdk_33_method_23_code 4 = .ok (.aload_n 0, 1) := by decide +kernel
theorem d5_5 : decode jdk_33_method_23_code 5 = .ok (.iload_n 1, 1) := by decide +kernel
theorem d5_6 : decode jdk_33_method_23_code 6 = .ok (.putfield 205, 3) := by decide +kernel
theorem d5_9 : decode jdk_33_method_23_code 9 = .ok (.return_, 1) := by decide +kernel
theorem pn_2 : plainName "java/lang/Integer" = true := by first | (simp [plainName, overriddenIn]; done) | decide +kernel
theorem ef_5 (m : MethodId) (x5_0 : Addr) (x5_1 : Int32) : entryFrame m #[(.ref x5_0), (.int x5_1)] 2 = mkF m 0 #[.val (.ref x5_0), .val (.int x5_1)] [] := by first | (simp [entryFrame, mkF, argsToLocals, Value.category]; done) | rfl
def Q5 (Z : State) (x5_0 : Addr) (x5_1 : Int32) (h0 : Heap) (n0 : Nat) (v : Option Value) (h : Heap) (L : List Loc) : Prop := v = none ∧ Fr n0 L ∧ Keep h0 h [x5_0] ∧ Exa Z h x5_0 "java/lang/Integer" ∧ Fld Z h x5_0 "java/lang/Integer" "value" "I" (.int x5_1)
set_option maxRecDepth 65536 in
set_option maxHeartbeats 40000000 in
theorem rm5 (l : Launch) (Z : State) (a0 : Array Value) (hw : ∀ d ∈ tables_1, d.before a0 Z = true) (ws : List Jvm.Cond) (x5_0 : Addr) (x5_1 : Int32) (h0 : Heap) (n0 : Nat) (Z0 : n0 ≤ h0.size) (Exa0 : Exa Z h0 x5_0 "java/lang/Integer") (g_x5_0 : n0 ≤ x5_0) (Fo_value : Fld Z h0 x5_0 "java/lang/Integer" "value" "I" (.int (0 : Int32))) :
    MetFree l (⟨"java/lang/Integer", "<init>", "(I)V"⟩ : MethodName) (head1 (Jvm.Cond.code (⟨"java/lang/Integer", "<init>", "(I)V"⟩ : MethodName) jdk_33_method_23_code 2 none :: ws) ({ frames := 2, cells := 0, slots := 0, locals := 24 } : Room)) (fun a U => a = #[(.ref x5_0), (.int x5_1)] ∧ Z.Warmed39 U.vm ∧ U.heap = h0) (fun _ _ _ _ _ => True) (fun _ U o U' => ∃ v L, o = .returned v ∧ Q5 Z x5_0 x5_1 h0 n0 v U'.heap L ∧ FrameEnd U o U' L ({ frames := 2, cells := 0, slots := 0, locals := 24 } : Room).cells ({ frames := 2, cells := 0, slots := 0, locals := 24 } : Room).slots) := by
  refine MetFree.of_bodySF (plainFor_of_name pn_2) hisR ?_
  intro p e s m args below meth c s₁ Bd hml0 hP hK
  obtain ⟨rfl, hZ, hh⟩ := hP
  have hx := Bd.exec
  have hby := Bd.bytes
  have hml : c.maxLocals = 2 := hml0
  have hown : s.vm.findClass "java/lang/Integer" = some m.cls := findClass_of_methodNamed Bd.named
  have hnm := (name_of_methodNamed Bd.named Bd.method).1
  have X0 : Stand p l e ({ frames := 2, cells := 0, slots := 0, locals := 24 } : Room) s m #[(.ref x5_0), (.int x5_1)] below meth c s₁ [] 0 0 := Stand.of_body Bd
  have e0 : s₁.heap = h0 := by rw [← hh, Bd.state]; rfl
  have N0 := Fr.nil n0
  have pre0 : ∀ t, Steps p.tables e below (s₁.setTop (mkF m 0 #[.val (.ref x5_0), .val (.int x5_1)] [])) t → Steps p.tables e below (s₁.setTop (entryFrame m #[(.ref x5_0), (.int x5_1)] 2)) t := fun t k => castTop (ef_5 m x5_0 x5_1) k
  have sg2 : ∀ t, Steps p.tables e below (s₁.setTop (mkF m 1 #[.val (.ref x5_0), .val (.int x5_1)] [(.ref x5_0)])) t → Steps p.tables e below (s₁.setTop (mkF m 0 #[.val (.ref x5_0), .val (.int x5_1)] [])) t := fun t kt => by
    show Steps p.tables e below (s₁.setTop (mkF m 0 #[.val (.ref x5_0), .val (.int x5_1)] [])) _
    refine XS.aloadN X0.here hx rfl (hb hby d5_0) rfl rfl ?_
    exact kt
  obtain ⟨v1, _, ⟨T1, L1, k1, n1⟩, -, X1, ⟨Lc1, hQ1, l1, y1, z1⟩, st1⟩ := X0.specialBack hx (y := (⟨"java/lang/Number", "<init>", "()V"⟩ : MethodName)) rfl hown (mvT hZ (hw _ (List.mem_of_getElem? (i := 41) rfl))) (mvT hZ (hw _ (List.mem_of_getElem? (i := 42) rfl))) (mvT hZ (hw _ (List.mem_of_getElem? (i := 46) rfl))) (by decide) (backOf (W := 0) (rm6 l Z a0 hw [] x5_0 h0 n0 Z0) hZ (hw _ (List.mem_of_getElem? (i := 46) rfl)) (hw _ (List.mem_of_getElem? (i := 45) rfl)) (by decide) (by decide)) (g := (mkF m 1 #[.val (.ref x5_0), .val (.int x5_1)] [(.ref x5_0)])) rfl (by rw [hml]; rfl) (Steps.refl _) (a := x5_0) (argsL := []) (rest := []) (lenOf pd_0 rfl) rfl (by show 2 * 0 + _ ≤ _; exact Nat.le_of_eq rfl) (hb hby d5_1) (fun _ _ => ⟨rfl, e0, (by decide : 0 + 0 ≤ _), (by decide : 0 + 0 ≤ _)⟩)
  dsimp only [Pt.U, Pt.locs, Pt.cells, Pt.slots] at X1 l1 y1 z1 st1 hQ1
  subst l1 y1 z1
  obtain ⟨hv1, N1q, e1⟩ := hQ1
  have N1 := Fr.app N0 N1q
  subst hv1
  obtain ⟨T3, h3, X3, e3, W3, st3⟩ := putF X1 hx hZ hown (host := "") (Or.inl (hw _ (List.mem_of_getElem? (i := 48) rfl))) Via.refl e1 Fo_value Exa0 (Or.inr ⟨(hw _ (List.mem_of_getElem? (i := 49) rfl)), rfl, hnm⟩) (hw _ (List.mem_of_getElem? (i := 36) rfl)) (ty := .int) (by decide) rfl rfl (g := (mkF m 6 #[.val (.ref x5_0), .val (.int x5_1)] [(.int x5_1), (.ref x5_0)])) rfl rfl (hb hby d5_6)
  have Fw3 := Fld.same W3 Fo_value
  have N3 := Fr.snoc X3 N1 g_x5_0
  have Zs3 : n0 ≤ h3.size := Nat.le_trans Z0 (Keep.of_wr W3).1
  have KC3 : Keep h0 h3 [x5_0] := (Keep.refl h0 [x5_0]).wr W3 (Or.inl (List.mem_of_getElem? (i := 0) rfl))
  have c4 := (Exa.wr W3 Exa0)
  obtain ⟨fs, hr, hrun, hended, hW, hsame⟩ := X3.leave (v := none) (fun _ => rfl)
  refine ⟨_, _, pre0 _ (sg2 _ ?_), hrun, hended, _, _, rfl, ?_, ⟨_, rfl⟩, hW, hsame.mono (by decide) (by decide)⟩
  · show Steps p.tables e below (s₁.setTop (mkF m 1 #[.val (.ref x5_0), .val (.int x5_1)] [(.ref x5_0)])) _
    refine st1.trans ?_
    show Steps p.tables e below (T1.setTop (mkF m 4 #[.val (.ref x5_0), .val (.int x5_1)] [])) _
    refine XS.aloadN X1.here hx rfl (hb hby d5_4) rfl rfl ?_
    show Steps p.tables e below (T1.setTop (mkF m 5 #[.val (.ref x5_0), .val (.int x5_1)] [(.ref x5_0)])) _
    refine XS.iloadN X1.here hx rfl (hb hby d5_5) rfl ?_
    show Steps p.tables e below (T1.setTop (mkF m 6 #[.val (.ref x5_0), .val (.int x5_1)] [(.int x5_1), (.ref x5_0)])) _
    refine st3 _ ?_
    show Steps p.tables e below (T3.setTop (mkF m 9 #[.val (.ref x5_0), .val (.int x5_1)] [])) _
    exact X3.returnOut hx Bd.returns (hb hby d5_9) hr
  · show Q5 Z x5_0 x5_1 h0 n0 _ T3.heap _
    rw [e3]
    exact ⟨rfl, N3, KC3, c4, Fw3⟩
theorem pd_1 : parseMethodDescriptor "(I)V" = some ⟨[.int], none⟩ := by decide +kernel
theorem d4_0 : decode jdk_33_method_22_code 0 = .ok (.iload_n 0, 1) := by decide +kernel
theorem d4_1 : decode jdk_33_method_22_code 1 = .ok (.bipush (-128), 2) := by decide +kernel
theorem d4_3 : decode jdk_33_method_22_code 3 = .ok (.if_icmp .lt 20, 3) := by decide +kernel
theorem d4_6 : decode jdk_33_method_22_code 6 = .ok (.iload_n 0, 1) := by decide +kernel
theorem d4_7 : decode jdk_33_method_22_code 7 = .ok (.getstatic 191, 3) := by decide +kernel
theorem d4_10 : decode jdk_33_method_22_code 10 = .ok (.if_icmp .gt 13, 3) := by decide +kernel
theorem d4_13 : decode jdk_33_method_22_code 13 = .ok (.getstatic 195, 3) := by decide +kernel
theorem d4_16 : decode jdk_33_method_22_code 16 = .ok (.iload_n 0, 1) := by decide +kernel
theorem d4_17 : decode jdk_33_method_22_code 17 = .ok (.sipush 128, 3) := by decide +kernel
theorem d4_20 : decode jdk_33_method_22_code 20 = .ok (.iadd, 1) := by decide +kernel
theorem d4_21 : decode jdk_33_method_22_code 21 = .ok (.aaload, 1) := by decide +kernel
theorem d4_22 : decode jdk_33_method_22_code 22 = .ok (.areturn, 1) := by decide +kernel
theorem d4_23 : decode jdk_33_method_22_code 23 = .ok (.new 1, 3) := by decide +kernel
theorem d4_26 : decode jdk_33_method_22_code 26 = .ok (.dup, 1) := by decide +kernel
theorem d4_27 : decode jdk_33_method_22_code 27 = .ok (.iload_n 0, 1) := by decide +kernel
theorem d4_28 : decode jdk_33_method_22_code 28 = .ok (.invokespecial 199, 3) := by decide +kernel
theorem d4_31 : decode jdk_33_method_22_code 31 = .ok (.areturn, 1) := by decide +kernel
theorem ef_4 (m : MethodId) (x4_0 : Int32) : entryFrame m #[(.int x4_0)] 1 = mkF m 0 #[.val (.int x4_0)] [] := by first | (simp [entryFrame, mkF, argsToLocals, Value.category]; done) | rfl
def Q4 (Z : State) (x4_0 : Int32) (cA : Addr) (cl : Cell) (h0 : Heap) (n0 : Nat) (v : Option Value) (h : Heap) (L : List Loc) : Prop := ∃ r, v = some (.ref r) ∧ Fr n0 L ∧ Keep h0 h [] ∧ Exa Z h r "java/lang/Integer"
set_option maxRecDepth 65536 in
set_option maxHeartbeats 40000000 in
theorem rm4 (l : Launch) (Z : State) (a0 : Array Value) (hw : ∀ d ∈ tables_1, d.before a0 Z = true) (ws : List Jvm.Cond) (x4_0 : Int32) (cA : Addr) (cl : Cell) (h0 : Heap) (n0 : Nat) (Z0 : n0 ≤ h0.size) (O0 : Old Z n0 h0) (JC : Bxs Z cA cl "java/lang/Integer" "I" 256 (fun j => .int (j - 128))) (SC : Sta Z Z.heap "java/lang/Integer$IntegerCache" "cache" "[Ljava/lang/Integer;" (.ref cA)) (SH : Sta Z Z.heap "java/lang/Integer$IntegerCache" "high" "I" (.int (127 : Int32))) :
    MetFree l (⟨"java/lang/Integer", "valueOf", "(I)Ljava/lang/Integer;"⟩ : MethodName) (head1 (Jvm.Cond.code (⟨"java/lang/Integer", "valueOf", "(I)Ljava/lang/Integer;"⟩ : MethodName) jdk_33_method_22_code 1 (some (.object "java/lang/Integer")) :: ws) ({ frames := 3, cells := 1, slots := 1, locals := 38 } : Room)) (fun a U => a = #[(.int x4_0)] ∧ Z.Warmed39 U.vm ∧ U.heap = h0) (fun _ _ _ _ _ => True) (fun _ U o U' => ∃ v L, o = .returned v ∧ Q4 Z x4_0 cA cl h0 n0 v U'.heap L ∧ FrameEnd U o U' L ({ frames := 3, cells := 1, slots := 1, locals := 38 } : Room).cells ({ frames := 3, cells := 1, slots := 1, locals := 38 } : Room).slots) := by
  refine MetFree.of_bodySF (plainFor_of_name pn_2) hisR ?_
  intro p e s m args below meth c s₁ Bd hml0 hP hK
  obtain ⟨rfl, hZ, hh⟩ := hP
  have hx := Bd.exec
  have hby := Bd.bytes
  have hml : c.maxLocals = 1 := hml0
  have hown : s.vm.findClass "java/lang/Integer" = some m.cls := findClass_of_methodNamed Bd.named
  have hnm := (name_of_methodNamed Bd.named Bd.method).1
  have X0 : Stand p l e ({ frames := 3, cells := 1, slots := 1, locals := 38 } : Room) s m #[(.int x4_0)] below meth c s₁ [] 0 0 := Stand.of_body Bd
  have e0 : s₁.heap = h0 := by rw [← hh, Bd.state]; rfl
  have N0 := Fr.nil n0
  have pre0 : ∀ t, Steps p.tables e below (s₁.setTop (mkF m 0 #[.val (.int x4_0)] [])) t → Steps p.tables e below (s₁.setTop (entryFrame m #[(.int x4_0)] 1)) t := fun t k => castTop (ef_4 m x4_0) k
  have sg1 : ∀ t, Steps p.tables e below (s₁.setTop (mkF m 3 #[.val (.int x4_0)] [(.int (-128 : Int32)), (.int x4_0)])) t → Steps p.tables e below (s₁.setTop (mkF m 0 #[.val (.int x4_0)] [])) t := fun t kt => by
    show Steps p.tables e below (s₁.setTop (mkF m 0 #[.val (.int x4_0)] [])) _
    refine XS.iloadN X0.here hx rfl (hb hby d4_0) rfl ?_
    show Steps p.tables e below (s₁.setTop (mkF m 1 #[.val (.int x4_0)] [(.int x4_0)])) _
    refine XS.bipush X0.here hx rfl (hb hby d4_1) ?_
    exact kt
  by_cases hc3_2 : x4_0 < (-128 : Int32)
  · obtain ⟨T3, h3, X3, e3, E3, A3, D3, -, st3⟩ := newO X0 hx hZ hown (hw _ (List.mem_of_getElem? (i := 35) rfl)) (hw _ (List.mem_of_getElem? (i := 36) rfl)) (hw _ (List.mem_of_getElem? (i := 27) rfl)) e0 (g := (mkF m 23 #[.val (.int x4_0)] [])) rfl (hb hby d4_23) (by decide) (by decide)
    obtain ⟨b3, g3⟩ : ∃ z, z = h0.size := ⟨_, rfl⟩
    rw [← g3] at A3 D3 st3
    have g_b3 : n0 ≤ b3 := Nat.le_trans Z0 (Nat.le_of_eq g3.symm)
    have sz_b3 : h0.size ≤ b3 := Nat.le_trans (Keep.refl h0 []).1 (Nat.le_of_eq g3.symm)
    have Zs3 : n0 ≤ h3.size := Nat.le_trans Z0 E3.1
    have KC3 : Keep h0 h3 [] := (Keep.refl h0 []).ext E3
    have Ol3 : Old Z n0 h3 := (O0).ext E3
    have F_value_b3 : Fld Z h3 b3 "java/lang/Integer" "value" "I" (.int (0 : Int32)) := D3 (Or.inr (hw _ (List.mem_of_getElem? (i := 49) rfl))) (ty := .int) (by decide)
    have sg5 : ∀ t, Steps p.tables e below (T3.setTop (mkF m 28 #[.val (.int x4_0)] [(.int x4_0), (.ref b3), (.ref b3)])) t → Steps p.tables e below (s₁.setTop (mkF m 3 #[.val (.int x4_0)] [(.int (-128 : Int32)), (.int x4_0)])) t := fun t kt => by
      show Steps p.tables e below (s₁.setTop (mkF m 3 #[.val (.int x4_0)] [(.int (-128 : Int32)), (.int x4_0)])) _
      refine XS.icmpYes X0.here hx rfl (pc0 := 3) (pc' := 23) rfl (hb hby d4_3) rfl (tlt hc3_2).1 (by decide) (by decide) ?_
      show Steps p.tables e below (s₁.setTop (mkF m 23 #[.val (.int x4_0)] [])) _
      refine st3 _ ?_
      show Steps p.tables e below (T3.setTop (mkF m 26 #[.val (.int x4_0)] [(.ref b3)])) _
      refine XS.dup X3.here hx rfl (hb hby d4_26) rfl rfl ?_
      show Steps p.tables e below (T3.setTop (mkF m 27 #[.val (.int x4_0)] [(.ref b3), (.ref b3)])) _
      refine XS.iloadN X3.here hx rfl (hb hby d4_27) rfl ?_
      exact kt
    obtain ⟨v4, _, ⟨T4, L4, k4, n4⟩, -, X4, ⟨Lc4, hQ4, l4, y4, z4⟩, st4⟩ := X3.specialBack hx (y := (⟨"java/lang/Integer", "<init>", "(I)V"⟩ : MethodName)) rfl hown (mvT hZ (hw _ (List.mem_of_getElem? (i := 37) rfl))) (mvT hZ (hw _ (List.mem_of_getElem? (i := 38) rfl))) (mvT hZ (hw _ (List.mem_of_getElem? (i := 40) rfl))) (by decide) (backOf (W := 1) (rm5 l Z a0 hw [] b3 x4_0 h3 n0 Zs3 A3 g_b3 F_value_b3) hZ (hw _ (List.mem_of_getElem? (i := 40) rfl)) (hw _ (List.mem_of_getElem? (i := 27) rfl)) (by decide) (by decide)) (g := (mkF m 28 #[.val (.int x4_0)] [(.int x4_0), (.ref b3), (.ref b3)])) rfl (by rw [hml]; rfl) (Steps.refl _) (a := b3) (argsL := [(.int x4_0)]) (rest := [(.ref b3)]) (lenOf pd_1 rfl) rfl (by show 2 * 0 + _ ≤ _; exact Nat.le_of_eq rfl) (hb hby d4_28) (fun _ _ => ⟨rfl, e3, (by decide : 1 + 0 ≤ _), (by decide : 1 + 0 ≤ _)⟩)
    dsimp only [Pt.U, Pt.locs, Pt.cells, Pt.slots] at X4 l4 y4 z4 st4 hQ4
    subst l4 y4 z4
    obtain ⟨rfl, N4q, K4, Ex4, Fq4_value⟩ := hQ4
    have N4 := Fr.app N0 N4q
    have Zs4 : n0 ≤ T4.heap.size := Nat.le_trans Zs3 K4.1
    have KC4 : Keep h0 T4.heap [] := (KC3).trans K4 (allS (Or.inr sz_b3) all0)
    have Ol4 : Old Z n0 T4.heap := (Ol3).keep K4 (allS g_b3 all0)
    obtain ⟨fs, hr, hrun, hended, hW, hsame⟩ := X4.leave (v := some (.ref b3)) (fun h => by rw [Bd.returns] at h; cases h)
    refine ⟨_, _, pre0 _ (sg1 _ (sg5 _ ?_)), hrun, hended, _, _, rfl, ?_, ⟨_, rfl⟩, hW, hsame.mono (by decide) (by decide)⟩
    · show Steps p.tables e below (T3.setTop (mkF m 28 #[.val (.int x4_0)] [(.int x4_0), (.ref b3), (.ref b3)])) _
      refine st4.trans ?_
      show Steps p.tables e below (T4.setTop (mkF m 31 #[.val (.int x4_0)] [(.ref b3)])) _
      exact retOut X4 hx Bd.returns rfl (Or.inr (Or.inr (Or.inr (Or.inr ⟨rfl, rfl, rfl⟩)))) (hb hby d4_31) hr
    · show Q4 Z x4_0 cA cl h0 n0 _ T4.heap _
      exact ⟨b3, rfl, N4, KC4, Ex4⟩
  · obtain ⟨T6, X6, e6, st6⟩ := getS2 X0 hx hZ hown (host := "") (Or.inl (hw _ (List.mem_of_getElem? (i := 29) rfl))) Via.refl e0 (Sta.ext O0.2 SH) (g := (mkF m 7 #[.val (.int x4_0)] [(.int x4_0)])) rfl (hb hby d4_7)
    have sg7 : ∀ t, Steps p.tables e below (T6.setTop (mkF m 10 #[.val (.int x4_0)] [(.int (127 : Int32)), (.int x4_0)])) t → Steps p.tables e below (s₁.setTop (mkF m 3 #[.val (.int x4_0)] [(.int (-128 : Int32)), (.int x4_0)])) t := fun t kt => by
      show Steps p.tables e below (s₁.setTop (mkF m 3 #[.val (.int x4_0)] [(.int (-128 : Int32)), (.int x4_0)])) _
      refine XS.icmpNo X0.here hx rfl (hb hby d4_3) rfl (flt hc3_2).1 ?_
      show Steps p.tables e below (s₁.setTop (mkF m 6 #[.val (.int x4_0)] [])) _
      refine XS.iloadN X0.here hx rfl (hb hby d4_6) rfl ?_
      show Steps p.tables e below (s₁.setTop (mkF m 7 #[.val (.int x4_0)] [(.int x4_0)])) _
      refine st6 _ ?_
      exact kt
    by_cases hc10_8 : (127 : Int32) < x4_0
    · obtain ⟨T9, h9, X9, e9, E9, A9, D9, -, st9⟩ := newO X6 hx hZ hown (hw _ (List.mem_of_getElem? (i := 35) rfl)) (hw _ (List.mem_of_getElem? (i := 36) rfl)) (hw _ (List.mem_of_getElem? (i := 27) rfl)) e6 (g := (mkF m 23 #[.val (.int x4_0)] [])) rfl (hb hby d4_23) (by decide) (by decide)
      obtain ⟨b9, g9⟩ : ∃ z, z = h0.size := ⟨_, rfl⟩
      rw [← g9] at A9 D9 st9
      have g_b9 : n0 ≤ b9 := Nat.le_trans Z0 (Nat.le_of_eq g9.symm)
      have sz_b9 : h0.size ≤ b9 := Nat.le_trans (Keep.refl h0 []).1 (Nat.le_of_eq g9.symm)
      have Zs9 : n0 ≤ h9.size := Nat.le_trans Z0 E9.1
      have KC9 : Keep h0 h9 [] := (Keep.refl h0 []).ext E9
      have Ol9 : Old Z n0 h9 := (O0).ext E9
      have F_value_b9 : Fld Z h9 b9 "java/lang/Integer" "value" "I" (.int (0 : Int32)) := D9 (Or.inr (hw _ (List.mem_of_getElem? (i := 49) rfl))) (ty := .int) (by decide)
      have sg11 : ∀ t, Steps p.tables e below (T9.setTop (mkF m 28 #[.val (.int x4_0)] [(.int x4_0), (.ref b9), (.ref b9)])) t → Steps p.tables e below (T6.setTop (mkF m 10 #[.val (.int x4_0)] [(.int (127 : Int32)), (.int x4_0)])) t := fun t kt => by
        show Steps p.tables e below (T6.setTop (mkF m 10 #[.val (.int x4_0)] [(.int (127 : Int32)), (.int x4_0)])) _
        refine XS.icmpYes X6.here hx rfl (pc0 := 10) (pc' := 23) rfl (hb hby d4_10) rfl (tlt hc10_8).2.2.1 (by decide) (by decide) ?_
        show Steps p.tables e below (T6.setTop (mkF m 23 #[.val (.int x4_0)] [])) _
        refine st9 _ ?_
        show Steps p.tables e below (T9.setTop (mkF m 26 #[.val (.int x4_0)] [(.ref b9)])) _
        refine XS.dup X9.here hx rfl (hb hby d4_26) rfl rfl ?_
        show Steps p.tables e below (T9.setTop (mkF m 27 #[.val (.int x4_0)] [(.ref b9), (.ref b9)])) _
        refine XS.iloadN X9.here hx rfl (hb hby d4_27) rfl ?_
        exact kt
      obtain ⟨v10, _, ⟨T10, L10, k10, n10⟩, -, X10, ⟨Lc10, hQ10, l10, y10, z10⟩, st10⟩ := X9.specialBack hx (y := (⟨"java/lang/Integer", "<init>", "(I)V"⟩ : MethodName)) rfl hown (mvT hZ (hw _ (List.mem_of_getElem? (i := 37) rfl))) (mvT hZ (hw _ (List.mem_of_getElem? (i := 38) rfl))) (mvT hZ (hw _ (List.mem_of_getElem? (i := 40) rfl))) (by decide) (backOf (W := 1) (rm5 l Z a0 hw [] b9 x4_0 h9 n0 Zs9 A9 g_b9 F_value_b9) hZ (hw _ (List.mem_of_getElem? (i := 40) rfl)) (hw _ (List.mem_of_getElem? (i := 27) rfl)) (by decide) (by decide)) (g := (mkF m 28 #[.val (.int x4_0)] [(.int x4_0), (.ref b9), (.ref b9)])) rfl (by rw [hml]; rfl) (Steps.refl _) (a := b9) (argsL := [(.int x4_0)]) (rest := [(.ref b9)]) (lenOf pd_1 rfl) rfl (by show 2 * 0 + _ ≤ _; exact Nat.le_of_eq rfl) (hb hby d4_28) (fun _ _ => ⟨rfl, e9, (by decide : 1 + 0 ≤ _), (by decide : 1 + 0 ≤ _)⟩)
      dsimp only [Pt.U, Pt.locs, Pt.cells, Pt.slots] at X10 l10 y10 z10 st10 hQ10
      subst l10 y10 z10
      obtain ⟨rfl, N10q, K10, Ex10, Fq10_value⟩ := hQ10
      have N10 := Fr.app N0 N10q
      have Zs10 : n0 ≤ T10.heap.size := Nat.le_trans Zs9 K10.1
      have KC10 : Keep h0 T10.heap [] := (KC9).trans K10 (allS (Or.inr sz_b9) all0)
      have Ol10 : Old Z n0 T10.heap := (Ol9).keep K10 (allS g_b9 all0)
      obtain ⟨fs, hr, hrun, hended, hW, hsame⟩ := X10.leave (v := some (.ref b9)) (fun h => by rw [Bd.returns] at h; cases h)
      refine ⟨_, _, pre0 _ (sg1 _ (sg7 _ (sg11 _ ?_))), hrun, hended, _, _, rfl, ?_, ⟨_, rfl⟩, hW, hsame.mono (by decide) (by decide)⟩
      · show Steps p.tables e below (T9.setTop (mkF m 28 #[.val (.int x4_0)] [(.int x4_0), (.ref b9), (.ref b9)])) _
        refine st10.trans ?_
        show Steps p.tables e below (T10.setTop (mkF m 31 #[.val (.int x4_0)] [(.ref b9)])) _
        exact retOut X10 hx Bd.returns rfl (Or.inr (Or.inr (Or.inr (Or.inr ⟨rfl, rfl, rfl⟩)))) (hb hby d4_31) hr
      · show Q4 Z x4_0 cA cl h0 n0 _ T10.heap _
        exact ⟨b9, rfl, N10, KC10, Ex10⟩
    · obtain ⟨T12, X12, e12, st12⟩ := getS2 X6 hx hZ hown (host := "") (Or.inl (hw _ (List.mem_of_getElem? (i := 31) rfl))) Via.refl e6 (Sta.ext O0.2 SC) (g := (mkF m 13 #[.val (.int x4_0)] [])) rfl (hb hby d4_13)
      have hin := inb_of JC.2.1 (own_jI x4_0 hc3_2 hc10_8)
      obtain ⟨r, hsl, hE, hF⟩ := JC.2.2.2 _ hin
      obtain ⟨fs, hr, hrun, hended, hW, hsame⟩ := X12.leave (v := some (.ref r)) (fun h => by rw [Bd.returns] at h; cases h)
      refine ⟨_, _, pre0 _ (sg1 _ (sg7 _ ?_)), hrun, hended, _, _, rfl, ?_, ⟨_, rfl⟩, hW, hsame.mono (by decide) (by decide)⟩
      · show Steps p.tables e below (T6.setTop (mkF m 10 #[.val (.int x4_0)] [(.int (127 : Int32)), (.int x4_0)])) _
        refine XS.icmpNo X6.here hx rfl (hb hby d4_10) rfl (flt hc10_8).2.2.1 ?_
        show Steps p.tables e below (T6.setTop (mkF m 13 #[.val (.int x4_0)] [])) _
        refine st12 _ ?_
        show Steps p.tables e below (T12.setTop (mkF m 16 #[.val (.int x4_0)] [(.ref cA)])) _
        refine XS.iloadN X12.here hx rfl (hb hby d4_16) rfl ?_
        show Steps p.tables e below (T12.setTop (mkF m 17 #[.val (.int x4_0)] [(.int x4_0), (.ref cA)])) _
        refine XS.sipush X12.here hx rfl (hb hby d4_17) ?_
        show Steps p.tables e below (T12.setTop (mkF m 20 #[.val (.int x4_0)] [(.int (128 : Int32)), (.int x4_0), (.ref cA)])) _
        refine XS.iadd X12.here hx rfl (hb hby d4_20) rfl ?_
        show Steps p.tables e below (T12.setTop (mkF m 21 #[.val (.int x4_0)] [(.int (x4_0 + (128 : Int32))), (.ref cA)])) _
        refine X12.aaload hx (j := (x4_0 + (128 : Int32))) (v := (.ref r)) (by rw [e12]; exact (Arr.ext O0.2 JC.1).1) (State.isArrayOf_alike hZ.alike JC.1.2.1) rfl JC.1.2.2 hin hsl (g := (mkF m 21 #[.val (.int x4_0)] [(.int (x4_0 + (128 : Int32))), (.ref cA)])) rfl rfl (hb hby d4_21) _ ?_
        show Steps p.tables e below (T12.setTop (mkF m 22 #[.val (.int x4_0)] [(.ref r)])) _
        exact retOut X12 hx Bd.returns rfl (Or.inr (Or.inr (Or.inr (Or.inr ⟨rfl, rfl, rfl⟩)))) (hb hby d4_22) hr
      · show Q4 Z x4_0 cA cl h0 n0 _ T12.heap _
        rw [e12]
        exact ⟨r, rfl, N0, Keep.refl h0 [], (Exa.ext O0.2 hE)⟩
theorem pd_2 : parseMethodDescriptor "(IJII)V" = some ⟨[.int, .long, .int, .int], none⟩ := by decide +kernel
theorem pd_3 : parseMethodDescriptor "(Ljava/lang/Object;)Z" = some ⟨[(.object "java/lang/Object")], some .boolean⟩ := by decide +kernel
theorem pd_4 : parseMethodDescriptor "(I)Ljava/lang/Integer;" = some ⟨[.int], some (.object "java/lang/Integer")⟩ := by decide +kernel
theorem pn_3 : plainName "com/example/libdmutex/libdmutex/core/WaiterEqualsPinLaw" = true := by first | (simp [plainName, overriddenIn]; done) | decide +kernel
theorem ef_0 (m : MethodId) (x0_0 : Int32) (x0_1 : Int64) (x0_2 : Int32) (x0_3 : Int32) (x0_4 : Int32) (x0_5 : Int32) : entryFrame m #[(.int x0_0), (.long x0_1), (.int x0_2), (.int x0_3), (.int x0_4), (.int x0_5)] maxLocals = mkF m 0 #[.val (.int x0_0), .val (.long x0_1), .second, .val (.int x0_2), .val (.int x0_3), .val (.int x0_4), .val (.int x0_5), .unset, .unset, .unset, .unset, .unset, .unset, .unset, .unset, .unset, .unset, .unset] [] := by first | (simp [entryFrame, mkF, argsToLocals, Value.category, maxLocals]; done) | rfl
def Q0 (Z : State) (x0_0 : Int32) (x0_1 : Int64) (x0_2 : Int32) (x0_3 : Int32) (x0_4 : Int32) (x0_5 : Int32) (cA : Addr) (cl : Cell) (h0 : Heap) (n0 : Nat) (v : Option Value) (h : Heap) (L : List Loc) : Prop := v = some (.int 1) ∧ Fr n0 L
set_option maxRecDepth 65536 in
set_option maxHeartbeats 40000000 in
theorem rm0 (l : Launch) (Z : State) (a0 : Array Value) (hw : ∀ d ∈ tables_1, d.before a0 Z = true) (ws : List Jvm.Cond) (x0_0 : Int32) (x0_1 : Int64) (x0_2 : Int32) (x0_3 : Int32) (x0_4 : Int32) (x0_5 : Int32) (cA : Addr) (cl : Cell) (h0 : Heap) (n0 : Nat) (Z0 : n0 ≤ h0.size) (O0 : Old Z n0 h0) (JC : Bxs Z cA cl "java/lang/Integer" "I" 256 (fun j => .int (j - 128))) (SC : Sta Z Z.heap "java/lang/Integer$IntegerCache" "cache" "[Ljava/lang/Integer;" (.ref cA)) (SH : Sta Z Z.heap "java/lang/Integer$IntegerCache" "high" "I" (.int (127 : Int32))) :
    MetFree l x (head1 (Jvm.Cond.code x code maxLocals ret :: ws) room_1) (fun a U => a = #[(.int x0_0), (.long x0_1), (.int x0_2), (.int x0_3), (.int x0_4), (.int x0_5)] ∧ Z.Warmed39 U.vm ∧ U.heap = h0) (fun _ _ _ _ _ => True) (fun _ U o U' => ∃ v L, o = .returned v ∧ Q0 Z x0_0 x0_1 x0_2 x0_3 x0_4 x0_5 cA cl h0 n0 v U'.heap L ∧ FrameEnd U o U' L room_1.cells room_1.slots) := by
  refine MetFree.of_bodySF (plainFor_of_name pn_3) hisR ?_
  intro p e s m args below meth c s₁ Bd hml0 hP hK
  obtain ⟨rfl, hZ, hh⟩ := hP
  have hx := Bd.exec
  have hby := Bd.bytes
  have hml : c.maxLocals = 18 := hml0
  have hown : s.vm.findClass "com/example/libdmutex/libdmutex/core/WaiterEqualsPinLaw" = some m.cls := findClass_of_methodNamed Bd.named
  have hnm := (name_of_methodNamed Bd.named Bd.method).1
  have X0 : Stand p l e room_1 s m #[(.int x0_0), (.long x0_1), (.int x0_2), (.int x0_3), (.int x0_4), (.int x0_5)] below meth c s₁ [] 0 0 := Stand.of_body Bd
  have e0 : s₁.heap = h0 := by rw [← hh, Bd.state]; rfl
  have N0 := Fr.nil n0
  have pre0 : ∀ t, Steps p.tables e below (s₁.setTop (mkF m 0 #[.val (.int x0_0), .val (.long x0_1), .second, .val (.int x0_2), .val (.int x0_3), .val (.int x0_4), .val (.int x0_5), .unset, .unset, .unset, .unset, .unset, .unset, .unset, .unset, .unset, .unset, .unset] [])) t → Steps p.tables e below (s₁.setTop (entryFrame m #[(.int x0_0), (.long x0_1), (.int x0_2), (.int x0_3), (.int x0_4), (.int x0_5)] maxLocals)) t := fun t k => castTop (ef_0 m x0_0 x0_1 x0_2 x0_3 x0_4 x0_5) k
  have sg1 : ∀ t, Steps p.tables e below (s₁.setTop (mkF m 9 #[.val (.int x0_0), .val (.long x0_1), .second, .val (.int x0_2), .val (.int x0_3), .val (.int x0_4), .val (.int x0_5), .val (.int ((x0_2 &&& (2147483647 : Int32)) % (2147483647 : Int32))), .unset, .unset, .unset, .unset, .unset, .unset, .unset, .unset, .unset, .unset] [])) t → Steps p.tables e below (s₁.setTop (mkF m 0 #[.val (.int x0_0), .val (.long x0_1), .second, .val (.int x0_2), .val (.int x0_3), .val (.int x0_4), .val (.int x0_5), .unset, .unset, .unset, .unset, .unset, .unset, .unset, .unset, .unset, .unset, .unset] [])) t := fun t kt => by
    show Steps p.tables e below (s₁.setTop (mkF m 0 #[.val (.int x0_0), .val (.long x0_1), .second, .val (.int x0_2), .val (.int x0_3), .val (.int x0_4), .val (.int x0_5), .unset, .unset, .unset, .unset, .unset, .unset, .unset, .unset, .unset, .unset, .unset] [])) _
    refine XS.iloadN X0.here hx rfl (hb hby at_0) rfl ?_
    show Steps p.tables e below (s₁.setTop (mkF m 1 #[.val (.int x0_0), .val (.long x0_1), .second, .val (.int x0_2), .val (.int x0_3), .val (.int x0_4), .val (.int x0_5), .unset, .unset, .unset, .unset, .unset, .unset, .unset, .unset, .unset, .unset, .unset] [(.int x0_2)])) _
    refine X0.ldcInt hx hown (mvT hZ (hw _ (List.mem_of_getElem? (i := 0) rfl))) (g := (mkF m 1 #[.val (.int x0_0), .val (.long x0_1), .second, .val (.int x0_2), .val (.int x0_3), .val (.int x0_4), .val (.int x0_5), .unset, .unset, .unset, .unset, .unset, .unset, .unset, .unset, .unset, .unset, .unset] [(.int x0_2)])) rfl (hb hby at_1) _ ?_
    show Steps p.tables e below (s₁.setTop (mkF m 3 #[.val (.int x0_0), .val (.long x0_1), .second, .val (.int x0_2), .val (.int x0_3), .val (.int x0_4), .val (.int x0_5), .unset, .unset, .unset, .unset, .unset, .unset, .unset, .unset, .unset, .unset, .unset] [(.int (2147483647 : Int32)), (.int x0_2)])) _
    refine XS.iand X0.here hx rfl (hb hby at_3) rfl ?_
    show Steps p.tables e below (s₁.setTop (mkF m 4 #[.val (.int x0_0), .val (.long x0_1), .second, .val (.int x0_2), .val (.int x0_3), .val (.int x0_4), .val (.int x0_5), .unset, .unset, .unset, .unset, .unset, .unset, .unset, .unset, .unset, .unset, .unset] [(.int (x0_2 &&& (2147483647 : Int32)))])) _
    refine X0.ldcInt hx hown (mvT hZ (hw _ (List.mem_of_getElem? (i := 0) rfl))) (g := (mkF m 4 #[.val (.int x0_0), .val (.long x0_1), .second, .val (.int x0_2), .val (.int x0_3), .val (.int x0_4), .val (.int x0_5), .unset, .unset, .unset, .unset, .unset, .unset, .unset, .unset, .unset, .unset, .unset] [(.int (x0_2 &&& (2147483647 : Int32)))])) rfl (hb hby at_4) _ ?_
    show Steps p.tables e below (s₁.setTop (mkF m 6 #[.val (.int x0_0), .val (.long x0_1), .second, .val (.int x0_2), .val (.int x0_3), .val (.int x0_4), .val (.int x0_5), .unset, .unset, .unset, .unset, .unset, .unset, .unset, .unset, .unset, .unset, .unset] [(.int (2147483647 : Int32)), (.int (x0_2 &&& (2147483647 : Int32)))])) _
    refine iremM X0 hx rfl (hb hby at_6) rfl (by decide : ¬ ((2147483647 : Int32) = (0 : Int32))) ?_
    show Steps p.tables e below (s₁.setTop (mkF m 7 #[.val (.int x0_0), .val (.long x0_1), .second, .val (.int x0_2), .val (.int x0_3), .val (.int x0_4), .val (.int x0_5), .unset, .unset, .unset, .unset, .unset, .unset, .unset, .unset, .unset, .unset, .unset] [(.int ((x0_2 &&& (2147483647 : Int32)) % (2147483647 : Int32)))])) _
    refine XS.istore X0.here hx rfl (hb hby at_7) rfl (l' := #[.val (.int x0_0), .val (.long x0_1), .second, .val (.int x0_2), .val (.int x0_3), .val (.int x0_4), .val (.int x0_5), .val (.int ((x0_2 &&& (2147483647 : Int32)) % (2147483647 : Int32))), .unset, .unset, .unset, .unset, .unset, .unset, .unset, .unset, .unset, .unset]) rfl ?_
    exact kt
  obtain ⟨v7, hv7⟩ : ∃ z, z = ((x0_2 &&& (2147483647 : Int32)) % (2147483647 : Int32)) := ⟨_, rfl⟩
  rw [← hv7] at sg1
  have hp := own_p _ _ hv7
  have sg2 : ∀ t, Steps p.tables e below (s₁.setTop (mkF m 27 #[.val (.int x0_0), .val (.long x0_1), .second, .val (.int x0_2), .val (.int x0_3), .val (.int x0_4), .val (.int x0_5), .val (.int v7), .val (.int ((v7 + (1 : Int32)) + ((x0_3 &&& (2147483647 : Int32)) % ((2147483647 : Int32) - v7)))), .unset, .unset, .unset, .unset, .unset, .unset, .unset, .unset, .unset] [])) t → Steps p.tables e below (s₁.setTop (mkF m 9 #[.val (.int x0_0), .val (.long x0_1), .second, .val (.int x0_2), .val (.int x0_3), .val (.int x0_4), .val (.int x0_5), .val (.int v7), .unset, .unset, .unset, .unset, .unset, .unset, .unset, .unset, .unset, .unset] [])) t := fun t kt => by
    show Steps p.tables e below (s₁.setTop (mkF m 9 #[.val (.int x0_0), .val (.long x0_1), .second, .val (.int x0_2), .val (.int x0_3), .val (.int x0_4), .val (.int x0_5), .val (.int v7), .unset, .unset, .unset, .unset, .unset, .unset, .unset, .unset, .unset, .unset] [])) _
    refine XS.iload X0.here hx rfl (hb hby at_9) rfl ?_
    show Steps p.tables e below (s₁.setTop (mkF m 11 #[.val (.int x0_0), .val (.long x0_1), .second, .val (.int x0_2), .val (.int x0_3), .val (.int x0_4), .val (.int x0_5), .val (.int v7), .unset, .unset, .unset, .unset, .unset, .unset, .unset, .unset, .unset, .unset] [(.int v7)])) _
    refine XS.iconst X0.here hx rfl (hb hby at_11) ?_
    show Steps p.tables e below (s₁.setTop (mkF m 12 #[.val (.int x0_0), .val (.long x0_1), .second, .val (.int x0_2), .val (.int x0_3), .val (.int x0_4), .val (.int x0_5), .val (.int v7), .unset, .unset, .unset, .unset, .unset, .unset, .unset, .unset, .unset, .unset] [(.int (1 : Int32)), (.int v7)])) _
    refine XS.iadd X0.here hx rfl (hb hby at_12) rfl ?_
    show Steps p.tables e below (s₁.setTop (mkF m 13 #[.val (.int x0_0), .val (.long x0_1), .second, .val (.int x0_2), .val (.int x0_3), .val (.int x0_4), .val (.int x0_5), .val (.int v7), .unset, .unset, .unset, .unset, .unset, .unset, .unset, .unset, .unset, .unset] [(.int (v7 + (1 : Int32)))])) _
    refine XS.iload X0.here hx rfl (hb hby at_13) rfl ?_
    show Steps p.tables e below (s₁.setTop (mkF m 15 #[.val (.int x0_0), .val (.long x0_1), .second, .val (.int x0_2), .val (.int x0_3), .val (.int x0_4), .val (.int x0_5), .val (.int v7), .unset, .unset, .unset, .unset, .unset, .unset, .unset, .unset, .unset, .unset] [(.int x0_3), (.int (v7 + (1 : Int32)))])) _
    refine X0.ldcInt hx hown (mvT hZ (hw _ (List.mem_of_getElem? (i := 0) rfl))) (g := (mkF m 15 #[.val (.int x0_0), .val (.long x0_1), .second, .val (.int x0_2), .val (.int x0_3), .val (.int x0_4), .val (.int x0_5), .val (.int v7), .unset, .unset, .unset, .unset, .unset, .unset, .unset, .unset, .unset, .unset] [(.int x0_3), (.int (v7 + (1 : Int32)))])) rfl (hb hby at_15) _ ?_
    show Steps p.tables e below (s₁.setTop (mkF m 17 #[.val (.int x0_0), .val (.long x0_1), .second, .val (.int x0_2), .val (.int x0_3), .val (.int x0_4), .val (.int x0_5), .val (.int v7), .unset, .unset, .unset, .unset, .unset, .unset, .unset, .unset, .unset, .unset] [(.int (2147483647 : Int32)), (.int x0_3), (.int (v7 + (1 : Int32)))])) _
    refine XS.iand X0.here hx rfl (hb hby at_17) rfl ?_
    show Steps p.tables e below (s₁.setTop (mkF m 18 #[.val (.int x0_0), .val (.long x0_1), .second, .val (.int x0_2), .val (.int x0_3), .val (.int x0_4), .val (.int x0_5), .val (.int v7), .unset, .unset, .unset, .unset, .unset, .unset, .unset, .unset, .unset, .unset] [(.int (x0_3 &&& (2147483647 : Int32))), (.int (v7 + (1 : Int32)))])) _
    refine X0.ldcInt hx hown (mvT hZ (hw _ (List.mem_of_getElem? (i := 0) rfl))) (g := (mkF m 18 #[.val (.int x0_0), .val (.long x0_1), .second, .val (.int x0_2), .val (.int x0_3), .val (.int x0_4), .val (.int x0_5), .val (.int v7), .unset, .unset, .unset, .unset, .unset, .unset, .unset, .unset, .unset, .unset] [(.int (x0_3 &&& (2147483647 : Int32))), (.int (v7 + (1 : Int32)))])) rfl (hb hby at_18) _ ?_
    show Steps p.tables e below (s₁.setTop (mkF m 20 #[.val (.int x0_0), .val (.long x0_1), .second, .val (.int x0_2), .val (.int x0_3), .val (.int x0_4), .val (.int x0_5), .val (.int v7), .unset, .unset, .unset, .unset, .unset, .unset, .unset, .unset, .unset, .unset] [(.int (2147483647 : Int32)), (.int (x0_3 &&& (2147483647 : Int32))), (.int (v7 + (1 : Int32)))])) _
    refine XS.iload X0.here hx rfl (hb hby at_20) rfl ?_
    show Steps p.tables e below (s₁.setTop (mkF m 22 #[.val (.int x0_0), .val (.long x0_1), .second, .val (.int x0_2), .val (.int x0_3), .val (.int x0_4), .val (.int x0_5), .val (.int v7), .unset, .unset, .unset, .unset, .unset, .unset, .unset, .unset, .unset, .unset] [(.int v7), (.int (2147483647 : Int32)), (.int (x0_3 &&& (2147483647 : Int32))), (.int (v7 + (1 : Int32)))])) _
    refine XS.isub X0.here hx rfl (hb hby at_22) rfl ?_
    show Steps p.tables e below (s₁.setTop (mkF m 23 #[.val (.int x0_0), .val (.long x0_1), .second, .val (.int x0_2), .val (.int x0_3), .val (.int x0_4), .val (.int x0_5), .val (.int v7), .unset, .unset, .unset, .unset, .unset, .unset, .unset, .unset, .unset, .unset] [(.int ((2147483647 : Int32) - v7)), (.int (x0_3 &&& (2147483647 : Int32))), (.int (v7 + (1 : Int32)))])) _
    refine iremM X0 hx rfl (hb hby at_23) rfl (own_nz v7 hp) ?_
    show Steps p.tables e below (s₁.setTop (mkF m 24 #[.val (.int x0_0), .val (.long x0_1), .second, .val (.int x0_2), .val (.int x0_3), .val (.int x0_4), .val (.int x0_5), .val (.int v7), .unset, .unset, .unset, .unset, .unset, .unset, .unset, .unset, .unset, .unset] [(.int ((x0_3 &&& (2147483647 : Int32)) % ((2147483647 : Int32) - v7))), (.int (v7 + (1 : Int32)))])) _
    refine XS.iadd X0.here hx rfl (hb hby at_24) rfl ?_
    show Steps p.tables e below (s₁.setTop (mkF m 25 #[.val (.int x0_0), .val (.long x0_1), .second, .val (.int x0_2), .val (.int x0_3), .val (.int x0_4), .val (.int x0_5), .val (.int v7), .unset, .unset, .unset, .unset, .unset, .unset, .unset, .unset, .unset, .unset] [(.int ((v7 + (1 : Int32)) + ((x0_3 &&& (2147483647 : Int32)) % ((2147483647 : Int32) - v7))))])) _
    refine XS.istore X0.here hx rfl (hb hby at_25) rfl (l' := #[.val (.int x0_0), .val (.long x0_1), .second, .val (.int x0_2), .val (.int x0_3), .val (.int x0_4), .val (.int x0_5), .val (.int v7), .val (.int ((v7 + (1 : Int32)) + ((x0_3 &&& (2147483647 : Int32)) % ((2147483647 : Int32) - v7)))), .unset, .unset, .unset, .unset, .unset, .unset, .unset, .unset, .unset]) rfl ?_
    exact kt
  obtain ⟨v25, hv25⟩ : ∃ z, z = ((v7 + (1 : Int32)) + ((x0_3 &&& (2147483647 : Int32)) % ((2147483647 : Int32) - v7))) := ⟨_, rfl⟩
  rw [← hv25] at sg2
  have ht := own_t _ _ _ hp hv25
  have sg3 : ∀ t, Steps p.tables e below (s₁.setTop (mkF m 31 #[.val (.int x0_0), .val (.long x0_1), .second, .val (.int x0_2), .val (.int x0_3), .val (.int x0_4), .val (.int x0_5), .val (.int v7), .val (.int v25), .unset, .unset, .unset, .unset, .unset, .unset, .unset, .unset, .unset] [(.int (x0_5 &&& (1 : Int32)))])) t → Steps p.tables e below (s₁.setTop (mkF m 27 #[.val (.int x0_0), .val (.long x0_1), .second, .val (.int x0_2), .val (.int x0_3), .val (.int x0_4), .val (.int x0_5), .val (.int v7), .val (.int v25), .unset, .unset, .unset, .unset, .unset, .unset, .unset, .unset, .unset] [])) t := fun t kt => by
    show Steps p.tables e below (s₁.setTop (mkF m 27 #[.val (.int x0_0), .val (.long x0_1), .second, .val (.int x0_2), .val (.int x0_3), .val (.int x0_4), .val (.int x0_5), .val (.int v7), .val (.int v25), .unset, .unset, .unset, .unset, .unset, .unset, .unset, .unset, .unset] [])) _
    refine XS.iload X0.here hx rfl (hb hby at_27) rfl ?_
    show Steps p.tables e below (s₁.setTop (mkF m 29 #[.val (.int x0_0), .val (.long x0_1), .second, .val (.int x0_2), .val (.int x0_3), .val (.int x0_4), .val (.int x0_5), .val (.int v7), .val (.int v25), .unset, .unset, .unset, .unset, .unset, .unset, .unset, .unset, .unset] [(.int x0_5)])) _
    refine XS.iconst X0.here hx rfl (hb hby at_29) ?_
    show Steps p.tables e below (s₁.setTop (mkF m 30 #[.val (.int x0_0), .val (.long x0_1), .second, .val (.int x0_2), .val (.int x0_3), .val (.int x0_4), .val (.int x0_5), .val (.int v7), .val (.int v25), .unset, .unset, .unset, .unset, .unset, .unset, .unset, .unset, .unset] [(.int (1 : Int32)), (.int x0_5)])) _
    refine XS.iand X0.here hx rfl (hb hby at_30) rfl ?_
    exact kt
  have sg4 : ∀ t, Steps p.tables e below (s₁.setTop (mkF m 40 #[.val (.int x0_0), .val (.long x0_1), .second, .val (.int x0_2), .val (.int x0_3), .val (.int x0_4), .val (.int x0_5), .val (.int v7), .val (.int v25), .unset, .unset, .unset, .unset, .unset, .unset, .unset, .unset, .unset] [(.int (if (x0_5 &&& (1 : Int32)) = (0 : Int32) then x0_4 else x0_0))])) t → Steps p.tables e below (s₁.setTop (mkF m 31 #[.val (.int x0_0), .val (.long x0_1), .second, .val (.int x0_2), .val (.int x0_3), .val (.int x0_4), .val (.int x0_5), .val (.int v7), .val (.int v25), .unset, .unset, .unset, .unset, .unset, .unset, .unset, .unset, .unset] [(.int (x0_5 &&& (1 : Int32)))])) t := fun t kt => by
    by_cases hm : (x0_5 &&& (1 : Int32)) = (0 : Int32)
    · rw [if_pos hm] at kt
      show Steps p.tables e below (s₁.setTop (mkF m 31 #[.val (.int x0_0), .val (.long x0_1), .second, .val (.int x0_2), .val (.int x0_3), .val (.int x0_4), .val (.int x0_5), .val (.int v7), .val (.int v25), .unset, .unset, .unset, .unset, .unset, .unset, .unset, .unset, .unset] [(.int (x0_5 &&& (1 : Int32)))])) _
      refine XS.ifYes X0.here hx rfl (pc0 := 31) (pc' := 38) rfl (hb hby at_31) rfl ((if0 _ _).trans (teq hm).1) (by decide) (by decide) ?_
      show Steps p.tables e below (s₁.setTop (mkF m 38 #[.val (.int x0_0), .val (.long x0_1), .second, .val (.int x0_2), .val (.int x0_3), .val (.int x0_4), .val (.int x0_5), .val (.int v7), .val (.int v25), .unset, .unset, .unset, .unset, .unset, .unset, .unset, .unset, .unset] [])) _
      refine XS.iload X0.here hx rfl (hb hby at_38) rfl ?_
      exact kt
    · rw [if_neg hm] at kt
      show Steps p.tables e below (s₁.setTop (mkF m 31 #[.val (.int x0_0), .val (.long x0_1), .second, .val (.int x0_2), .val (.int x0_3), .val (.int x0_4), .val (.int x0_5), .val (.int v7), .val (.int v25), .unset, .unset, .unset, .unset, .unset, .unset, .unset, .unset, .unset] [(.int (x0_5 &&& (1 : Int32)))])) _
      refine XS.ifNo X0.here hx rfl (hb hby at_31) rfl ((if0 _ _).trans (feq hm).1) ?_
      show Steps p.tables e below (s₁.setTop (mkF m 34 #[.val (.int x0_0), .val (.long x0_1), .second, .val (.int x0_2), .val (.int x0_3), .val (.int x0_4), .val (.int x0_5), .val (.int v7), .val (.int v25), .unset, .unset, .unset, .unset, .unset, .unset, .unset, .unset, .unset] [])) _
      refine XS.iloadN X0.here hx rfl (hb hby at_34) rfl ?_
      show Steps p.tables e below (s₁.setTop (mkF m 35 #[.val (.int x0_0), .val (.long x0_1), .second, .val (.int x0_2), .val (.int x0_3), .val (.int x0_4), .val (.int x0_5), .val (.int v7), .val (.int v25), .unset, .unset, .unset, .unset, .unset, .unset, .unset, .unset, .unset] [(.int x0_0)])) _
      refine XS.goto X0.here hx rfl (pc0 := 35) (pc' := 40) rfl (hb hby at_35) (by decide) (by decide) ?_
      exact kt
  have sg5 : ∀ t, Steps p.tables e below (s₁.setTop (mkF m 42 #[.val (.int x0_0), .val (.long x0_1), .second, .val (.int x0_2), .val (.int x0_3), .val (.int x0_4), .val (.int x0_5), .val (.int v7), .val (.int v25), .val (.int (if (x0_5 &&& (1 : Int32)) = (0 : Int32) then x0_4 else x0_0)), .unset, .unset, .unset, .unset, .unset, .unset, .unset, .unset] [])) t → Steps p.tables e below (s₁.setTop (mkF m 40 #[.val (.int x0_0), .val (.long x0_1), .second, .val (.int x0_2), .val (.int x0_3), .val (.int x0_4), .val (.int x0_5), .val (.int v7), .val (.int v25), .unset, .unset, .unset, .unset, .unset, .unset, .unset, .unset, .unset] [(.int (if (x0_5 &&& (1 : Int32)) = (0 : Int32) then x0_4 else x0_0))])) t := fun t kt => by
    show Steps p.tables e below (s₁.setTop (mkF m 40 #[.val (.int x0_0), .val (.long x0_1), .second, .val (.int x0_2), .val (.int x0_3), .val (.int x0_4), .val (.int x0_5), .val (.int v7), .val (.int v25), .unset, .unset, .unset, .unset, .unset, .unset, .unset, .unset, .unset] [(.int (if (x0_5 &&& (1 : Int32)) = (0 : Int32) then x0_4 else x0_0))])) _
    refine XS.istore X0.here hx rfl (hb hby at_40) rfl (l' := #[.val (.int x0_0), .val (.long x0_1), .second, .val (.int x0_2), .val (.int x0_3), .val (.int x0_4), .val (.int x0_5), .val (.int v7), .val (.int v25), .val (.int (if (x0_5 &&& (1 : Int32)) = (0 : Int32) then x0_4 else x0_0)), .unset, .unset, .unset, .unset, .unset, .unset, .unset, .unset]) rfl ?_
    exact kt
  obtain ⟨v40, hv40⟩ : ∃ z, z = (if (x0_5 &&& (1 : Int32)) = (0 : Int32) then x0_4 else x0_0) := ⟨_, rfl⟩
  rw [← hv40] at sg4 sg5
  have sg6 : ∀ t, Steps p.tables e below (s₁.setTop (mkF m 46 #[.val (.int x0_0), .val (.long x0_1), .second, .val (.int x0_2), .val (.int x0_3), .val (.int x0_4), .val (.int x0_5), .val (.int v7), .val (.int v25), .val (.int v40), .unset, .unset, .unset, .unset, .unset, .unset, .unset, .unset] [(.int (x0_5 &&& (2 : Int32)))])) t → Steps p.tables e below (s₁.setTop (mkF m 42 #[.val (.int x0_0), .val (.long x0_1), .second, .val (.int x0_2), .val (.int x0_3), .val (.int x0_4), .val (.int x0_5), .val (.int v7), .val (.int v25), .val (.int v40), .unset, .unset, .unset, .unset, .unset, .unset, .unset, .unset] [])) t := fun t kt => by
    show Steps p.tables e below (s₁.setTop (mkF m 42 #[.val (.int x0_0), .val (.long x0_1), .second, .val (.int x0_2), .val (.int x0_3), .val (.int x0_4), .val (.int x0_5), .val (.int v7), .val (.int v25), .val (.int v40), .unset, .unset, .unset, .unset, .unset, .unset, .unset, .unset] [])) _
    refine XS.iload X0.here hx rfl (hb hby at_42) rfl ?_
    show Steps p.tables e below (s₁.setTop (mkF m 44 #[.val (.int x0_0), .val (.long x0_1), .second, .val (.int x0_2), .val (.int x0_3), .val (.int x0_4), .val (.int x0_5), .val (.int v7), .val (.int v25), .val (.int v40), .unset, .unset, .unset, .unset, .unset, .unset, .unset, .unset] [(.int x0_5)])) _
    refine XS.iconst X0.here hx rfl (hb hby at_44) ?_
    show Steps p.tables e below (s₁.setTop (mkF m 45 #[.val (.int x0_0), .val (.long x0_1), .second, .val (.int x0_2), .val (.int x0_3), .val (.int x0_4), .val (.int x0_5), .val (.int v7), .val (.int v25), .val (.int v40), .unset, .unset, .unset, .unset, .unset, .unset, .unset, .unset] [(.int (2 : Int32)), (.int x0_5)])) _
    refine XS.iand X0.here hx rfl (hb hby at_45) rfl ?_
    exact kt
  have sg7 : ∀ t, Steps p.tables e below (s₁.setTop (mkF m 67 #[.val (.int x0_0), .val (.long x0_1), .second, .val (.int x0_2), .val (.int x0_3), .val (.int x0_4), .val (.int x0_5), .val (.int v7), .val (.int v25), .val (.int v40), .unset, .unset, .unset, .unset, .unset, .unset, .unset, .unset] [(.long (if (x0_5 &&& (2 : Int32)) = (0 : Int32) then (x0_1 ^^^ ((x0_4.toInt64) <<< ((((x0_5.toUInt32 >>> ((8 : Int32) &&& 31).toUInt32).toInt32) &&& (63 : Int32)) &&& 0x3f).toInt64)) else x0_1))])) t → Steps p.tables e below (s₁.setTop (mkF m 46 #[.val (.int x0_0), .val (.long x0_1), .second, .val (.int x0_2), .val (.int x0_3), .val (.int x0_4), .val (.int x0_5), .val (.int v7), .val (.int v25), .val (.int v40), .unset, .unset, .unset, .unset, .unset, .unset, .unset, .unset] [(.int (x0_5 &&& (2 : Int32)))])) t := fun t kt => by
    by_cases hm : (x0_5 &&& (2 : Int32)) = (0 : Int32)
    · rw [if_pos hm] at kt
      show Steps p.tables e below (s₁.setTop (mkF m 46 #[.val (.int x0_0), .val (.long x0_1), .second, .val (.int x0_2), .val (.int x0_3), .val (.int x0_4), .val (.int x0_5), .val (.int v7), .val (.int v25), .val (.int v40), .unset, .unset, .unset, .unset, .unset, .unset, .unset, .unset] [(.int (x0_5 &&& (2 : Int32)))])) _
      refine XS.ifYes X0.here hx rfl (pc0 := 46) (pc' := 53) rfl (hb hby at_46) rfl ((if0 _ _).trans (teq hm).1) (by decide) (by decide) ?_
      show Steps p.tables e below (s₁.setTop (mkF m 53 #[.val (.int x0_0), .val (.long x0_1), .second, .val (.int x0_2), .val (.int x0_3), .val (.int x0_4), .val (.int x0_5), .val (.int v7), .val (.int v25), .val (.int v40), .unset, .unset, .unset, .unset, .unset, .unset, .unset, .unset] [])) _
      refine XS.lloadN X0.here hx rfl (hb hby at_53) rfl ?_
      show Steps p.tables e below (s₁.setTop (mkF m 54 #[.val (.int x0_0), .val (.long x0_1), .second, .val (.int x0_2), .val (.int x0_3), .val (.int x0_4), .val (.int x0_5), .val (.int v7), .val (.int v25), .val (.int v40), .unset, .unset, .unset, .unset, .unset, .unset, .unset, .unset] [(.long x0_1)])) _
      refine XS.iload X0.here hx rfl (hb hby at_54) rfl ?_
      show Steps p.tables e below (s₁.setTop (mkF m 56 #[.val (.int x0_0), .val (.long x0_1), .second, .val (.int x0_2), .val (.int x0_3), .val (.int x0_4), .val (.int x0_5), .val (.int v7), .val (.int v25), .val (.int v40), .unset, .unset, .unset, .unset, .unset, .unset, .unset, .unset] [(.int x0_4), (.long x0_1)])) _
      refine XS.i2l X0.here hx rfl (hb hby at_56) rfl ?_
      show Steps p.tables e below (s₁.setTop (mkF m 57 #[.val (.int x0_0), .val (.long x0_1), .second, .val (.int x0_2), .val (.int x0_3), .val (.int x0_4), .val (.int x0_5), .val (.int v7), .val (.int v25), .val (.int v40), .unset, .unset, .unset, .unset, .unset, .unset, .unset, .unset] [(.long (x0_4.toInt64)), (.long x0_1)])) _
      refine XS.iload X0.here hx rfl (hb hby at_57) rfl ?_
      show Steps p.tables e below (s₁.setTop (mkF m 59 #[.val (.int x0_0), .val (.long x0_1), .second, .val (.int x0_2), .val (.int x0_3), .val (.int x0_4), .val (.int x0_5), .val (.int v7), .val (.int v25), .val (.int v40), .unset, .unset, .unset, .unset, .unset, .unset, .unset, .unset] [(.int x0_5), (.long (x0_4.toInt64)), (.long x0_1)])) _
      refine XS.bipush X0.here hx rfl (hb hby at_59) ?_
      show Steps p.tables e below (s₁.setTop (mkF m 61 #[.val (.int x0_0), .val (.long x0_1), .second, .val (.int x0_2), .val (.int x0_3), .val (.int x0_4), .val (.int x0_5), .val (.int v7), .val (.int v25), .val (.int v40), .unset, .unset, .unset, .unset, .unset, .unset, .unset, .unset] [(.int (8 : Int32)), (.int x0_5), (.long (x0_4.toInt64)), (.long x0_1)])) _
      refine XS.iushr X0.here hx rfl (hb hby at_61) rfl ?_
      show Steps p.tables e below (s₁.setTop (mkF m 62 #[.val (.int x0_0), .val (.long x0_1), .second, .val (.int x0_2), .val (.int x0_3), .val (.int x0_4), .val (.int x0_5), .val (.int v7), .val (.int v25), .val (.int v40), .unset, .unset, .unset, .unset, .unset, .unset, .unset, .unset] [(.int ((x0_5.toUInt32 >>> ((8 : Int32) &&& 31).toUInt32).toInt32)), (.long (x0_4.toInt64)), (.long x0_1)])) _
      refine XS.bipush X0.here hx rfl (hb hby at_62) ?_
      show Steps p.tables e below (s₁.setTop (mkF m 64 #[.val (.int x0_0), .val (.long x0_1), .second, .val (.int x0_2), .val (.int x0_3), .val (.int x0_4), .val (.int x0_5), .val (.int v7), .val (.int v25), .val (.int v40), .unset, .unset, .unset, .unset, .unset, .unset, .unset, .unset] [(.int (63 : Int32)), (.int ((x0_5.toUInt32 >>> ((8 : Int32) &&& 31).toUInt32).toInt32)), (.long (x0_4.toInt64)), (.long x0_1)])) _
      refine XS.iand X0.here hx rfl (hb hby at_64) rfl ?_
      show Steps p.tables e below (s₁.setTop (mkF m 65 #[.val (.int x0_0), .val (.long x0_1), .second, .val (.int x0_2), .val (.int x0_3), .val (.int x0_4), .val (.int x0_5), .val (.int v7), .val (.int v25), .val (.int v40), .unset, .unset, .unset, .unset, .unset, .unset, .unset, .unset] [(.int (((x0_5.toUInt32 >>> ((8 : Int32) &&& 31).toUInt32).toInt32) &&& (63 : Int32))), (.long (x0_4.toInt64)), (.long x0_1)])) _
      refine XS.lshl X0.here hx rfl (hb hby at_65) rfl ?_
      show Steps p.tables e below (s₁.setTop (mkF m 66 #[.val (.int x0_0), .val (.long x0_1), .second, .val (.int x0_2), .val (.int x0_3), .val (.int x0_4), .val (.int x0_5), .val (.int v7), .val (.int v25), .val (.int v40), .unset, .unset, .unset, .unset, .unset, .unset, .unset, .unset] [(.long ((x0_4.toInt64) <<< ((((x0_5.toUInt32 >>> ((8 : Int32) &&& 31).toUInt32).toInt32) &&& (63 : Int32)) &&& 0x3f).toInt64)), (.long x0_1)])) _
      refine XS.lxor X0.here hx rfl (hb hby at_66) rfl ?_
      exact kt
    · rw [if_neg hm] at kt
      show Steps p.tables e below (s₁.setTop (mkF m 46 #[.val (.int x0_0), .val (.long x0_1), .second, .val (.int x0_2), .val (.int x0_3), .val (.int x0_4), .val (.int x0_5), .val (.int v7), .val (.int v25), .val (.int v40), .unset, .unset, .unset, .unset, .unset, .unset, .unset, .unset] [(.int (x0_5 &&& (2 : Int32)))])) _
      refine XS.ifNo X0.here hx rfl (hb hby at_46) rfl ((if0 _ _).trans (feq hm).1) ?_
      show Steps p.tables e below (s₁.setTop (mkF m 49 #[.val (.int x0_0), .val (.long x0_1), .second, .val (.int x0_2), .val (.int x0_3), .val (.int x0_4), .val (.int x0_5), .val (.int v7), .val (.int v25), .val (.int v40), .unset, .unset, .unset, .unset, .unset, .unset, .unset, .unset] [])) _
      refine XS.lloadN X0.here hx rfl (hb hby at_49) rfl ?_
      show Steps p.tables e below (s₁.setTop (mkF m 50 #[.val (.int x0_0), .val (.long x0_1), .second, .val (.int x0_2), .val (.int x0_3), .val (.int x0_4), .val (.int x0_5), .val (.int v7), .val (.int v25), .val (.int v40), .unset, .unset, .unset, .unset, .unset, .unset, .unset, .unset] [(.long x0_1)])) _
      refine XS.goto X0.here hx rfl (pc0 := 50) (pc' := 67) rfl (hb hby at_50) (by decide) (by decide) ?_
      exact kt
  have sg8 : ∀ t, Steps p.tables e below (s₁.setTop (mkF m 69 #[.val (.int x0_0), .val (.long x0_1), .second, .val (.int x0_2), .val (.int x0_3), .val (.int x0_4), .val (.int x0_5), .val (.int v7), .val (.int v25), .val (.int v40), .val (.long (if (x0_5 &&& (2 : Int32)) = (0 : Int32) then (x0_1 ^^^ ((x0_4.toInt64) <<< ((((x0_5.toUInt32 >>> ((8 : Int32) &&& 31).toUInt32).toInt32) &&& (63 : Int32)) &&& 0x3f).toInt64)) else x0_1)), .second, .unset, .unset, .unset, .unset, .unset, .unset] [])) t → Steps p.tables e below (s₁.setTop (mkF m 67 #[.val (.int x0_0), .val (.long x0_1), .second, .val (.int x0_2), .val (.int x0_3), .val (.int x0_4), .val (.int x0_5), .val (.int v7), .val (.int v25), .val (.int v40), .unset, .unset, .unset, .unset, .unset, .unset, .unset, .unset] [(.long (if (x0_5 &&& (2 : Int32)) = (0 : Int32) then (x0_1 ^^^ ((x0_4.toInt64) <<< ((((x0_5.toUInt32 >>> ((8 : Int32) &&& 31).toUInt32).toInt32) &&& (63 : Int32)) &&& 0x3f).toInt64)) else x0_1))])) t := fun t kt => by
    show Steps p.tables e below (s₁.setTop (mkF m 67 #[.val (.int x0_0), .val (.long x0_1), .second, .val (.int x0_2), .val (.int x0_3), .val (.int x0_4), .val (.int x0_5), .val (.int v7), .val (.int v25), .val (.int v40), .unset, .unset, .unset, .unset, .unset, .unset, .unset, .unset] [(.long (if (x0_5 &&& (2 : Int32)) = (0 : Int32) then (x0_1 ^^^ ((x0_4.toInt64) <<< ((((x0_5.toUInt32 >>> ((8 : Int32) &&& 31).toUInt32).toInt32) &&& (63 : Int32)) &&& 0x3f).toInt64)) else x0_1))])) _
    refine XS.lstore X0.here hx rfl (hb hby at_67) rfl (l' := #[.val (.int x0_0), .val (.long x0_1), .second, .val (.int x0_2), .val (.int x0_3), .val (.int x0_4), .val (.int x0_5), .val (.int v7), .val (.int v25), .val (.int v40), .val (.long (if (x0_5 &&& (2 : Int32)) = (0 : Int32) then (x0_1 ^^^ ((x0_4.toInt64) <<< ((((x0_5.toUInt32 >>> ((8 : Int32) &&& 31).toUInt32).toInt32) &&& (63 : Int32)) &&& 0x3f).toInt64)) else x0_1)), .second, .unset, .unset, .unset, .unset, .unset, .unset]) rfl ?_
    exact kt
  obtain ⟨v67, hv67⟩ : ∃ z, z = (if (x0_5 &&& (2 : Int32)) = (0 : Int32) then (x0_1 ^^^ ((x0_4.toInt64) <<< ((((x0_5.toUInt32 >>> ((8 : Int32) &&& 31).toUInt32).toInt32) &&& (63 : Int32)) &&& 0x3f).toInt64)) else x0_1) := ⟨_, rfl⟩
  rw [← hv67] at sg7 sg8
  have sg9 : ∀ t, Steps p.tables e below (s₁.setTop (mkF m 73 #[.val (.int x0_0), .val (.long x0_1), .second, .val (.int x0_2), .val (.int x0_3), .val (.int x0_4), .val (.int x0_5), .val (.int v7), .val (.int v25), .val (.int v40), .val (.long v67), .second, .unset, .unset, .unset, .unset, .unset, .unset] [(.int (x0_5 &&& (4 : Int32)))])) t → Steps p.tables e below (s₁.setTop (mkF m 69 #[.val (.int x0_0), .val (.long x0_1), .second, .val (.int x0_2), .val (.int x0_3), .val (.int x0_4), .val (.int x0_5), .val (.int v7), .val (.int v25), .val (.int v40), .val (.long v67), .second, .unset, .unset, .unset, .unset, .unset, .unset] [])) t := fun t kt => by
    show Steps p.tables e below (s₁.setTop (mkF m 69 #[.val (.int x0_0), .val (.long x0_1), .second, .val (.int x0_2), .val (.int x0_3), .val (.int x0_4), .val (.int x0_5), .val (.int v7), .val (.int v25), .val (.int v40), .val (.long v67), .second, .unset, .unset, .unset, .unset, .unset, .unset] [])) _
    refine XS.iload X0.here hx rfl (hb hby at_69) rfl ?_
    show Steps p.tables e below (s₁.setTop (mkF m 71 #[.val (.int x0_0), .val (.long x0_1), .second, .val (.int x0_2), .val (.int x0_3), .val (.int x0_4), .val (.int x0_5), .val (.int v7), .val (.int v25), .val (.int v40), .val (.long v67), .second, .unset, .unset, .unset, .unset, .unset, .unset] [(.int x0_5)])) _
    refine XS.iconst X0.here hx rfl (hb hby at_71) ?_
    show Steps p.tables e below (s₁.setTop (mkF m 72 #[.val (.int x0_0), .val (.long x0_1), .second, .val (.int x0_2), .val (.int x0_3), .val (.int x0_4), .val (.int x0_5), .val (.int v7), .val (.int v25), .val (.int v40), .val (.long v67), .second, .unset, .unset, .unset, .unset, .unset, .unset] [(.int (4 : Int32)), (.int x0_5)])) _
    refine XS.iand X0.here hx rfl (hb hby at_72) rfl ?_
    exact kt
  have sg10 : ∀ t, Steps p.tables e below (s₁.setTop (mkF m 89 #[.val (.int x0_0), .val (.long x0_1), .second, .val (.int x0_2), .val (.int x0_3), .val (.int x0_4), .val (.int x0_5), .val (.int v7), .val (.int v25), .val (.int v40), .val (.long v67), .second, .unset, .unset, .unset, .unset, .unset, .unset] [(.int (if (x0_5 &&& (4 : Int32)) = (0 : Int32) then ((x0_4 &&& (2147483647 : Int32)) % v25) else v7))])) t → Steps p.tables e below (s₁.setTop (mkF m 73 #[.val (.int x0_0), .val (.long x0_1), .second, .val (.int x0_2), .val (.int x0_3), .val (.int x0_4), .val (.int x0_5), .val (.int v7), .val (.int v25), .val (.int v40), .val (.long v67), .second, .unset, .unset, .unset, .unset, .unset, .unset] [(.int (x0_5 &&& (4 : Int32)))])) t := fun t kt => by
    by_cases hm : (x0_5 &&& (4 : Int32)) = (0 : Int32)
    · rw [if_pos hm] at kt
      show Steps p.tables e below (s₁.setTop (mkF m 73 #[.val (.int x0_0), .val (.long x0_1), .second, .val (.int x0_2), .val (.int x0_3), .val (.int x0_4), .val (.int x0_5), .val (.int v7), .val (.int v25), .val (.int v40), .val (.long v67), .second, .unset, .unset, .unset, .unset, .unset, .unset] [(.int (x0_5 &&& (4 : Int32)))])) _
      refine XS.ifYes X0.here hx rfl (pc0 := 73) (pc' := 81) rfl (hb hby at_73) rfl ((if0 _ _).trans (teq hm).1) (by decide) (by decide) ?_
      show Steps p.tables e below (s₁.setTop (mkF m 81 #[.val (.int x0_0), .val (.long x0_1), .second, .val (.int x0_2), .val (.int x0_3), .val (.int x0_4), .val (.int x0_5), .val (.int v7), .val (.int v25), .val (.int v40), .val (.long v67), .second, .unset, .unset, .unset, .unset, .unset, .unset] [])) _
      refine XS.iload X0.here hx rfl (hb hby at_81) rfl ?_
      show Steps p.tables e below (s₁.setTop (mkF m 83 #[.val (.int x0_0), .val (.long x0_1), .second, .val (.int x0_2), .val (.int x0_3), .val (.int x0_4), .val (.int x0_5), .val (.int v7), .val (.int v25), .val (.int v40), .val (.long v67), .second, .unset, .unset, .unset, .unset, .unset, .unset] [(.int x0_4)])) _
      refine X0.ldcInt hx hown (mvT hZ (hw _ (List.mem_of_getElem? (i := 0) rfl))) (g := (mkF m 83 #[.val (.int x0_0), .val (.long x0_1), .second, .val (.int x0_2), .val (.int x0_3), .val (.int x0_4), .val (.int x0_5), .val (.int v7), .val (.int v25), .val (.int v40), .val (.long v67), .second, .unset, .unset, .unset, .unset, .unset, .unset] [(.int x0_4)])) rfl (hb hby at_83) _ ?_
      show Steps p.tables e below (s₁.setTop (mkF m 85 #[.val (.int x0_0), .val (.long x0_1), .second, .val (.int x0_2), .val (.int x0_3), .val (.int x0_4), .val (.int x0_5), .val (.int v7), .val (.int v25), .val (.int v40), .val (.long v67), .second, .unset, .unset, .unset, .unset, .unset, .unset] [(.int (2147483647 : Int32)), (.int x0_4)])) _
      refine XS.iand X0.here hx rfl (hb hby at_85) rfl ?_
      show Steps p.tables e below (s₁.setTop (mkF m 86 #[.val (.int x0_0), .val (.long x0_1), .second, .val (.int x0_2), .val (.int x0_3), .val (.int x0_4), .val (.int x0_5), .val (.int v7), .val (.int v25), .val (.int v40), .val (.long v67), .second, .unset, .unset, .unset, .unset, .unset, .unset] [(.int (x0_4 &&& (2147483647 : Int32)))])) _
      refine XS.iload X0.here hx rfl (hb hby at_86) rfl ?_
      show Steps p.tables e below (s₁.setTop (mkF m 88 #[.val (.int x0_0), .val (.long x0_1), .second, .val (.int x0_2), .val (.int x0_3), .val (.int x0_4), .val (.int x0_5), .val (.int v7), .val (.int v25), .val (.int v40), .val (.long v67), .second, .unset, .unset, .unset, .unset, .unset, .unset] [(.int v25), (.int (x0_4 &&& (2147483647 : Int32)))])) _
      refine iremM X0 hx rfl (hb hby at_88) rfl (own_tnz v7 v25 hp ht) ?_
      exact kt
    · rw [if_neg hm] at kt
      show Steps p.tables e below (s₁.setTop (mkF m 73 #[.val (.int x0_0), .val (.long x0_1), .second, .val (.int x0_2), .val (.int x0_3), .val (.int x0_4), .val (.int x0_5), .val (.int v7), .val (.int v25), .val (.int v40), .val (.long v67), .second, .unset, .unset, .unset, .unset, .unset, .unset] [(.int (x0_5 &&& (4 : Int32)))])) _
      refine XS.ifNo X0.here hx rfl (hb hby at_73) rfl ((if0 _ _).trans (feq hm).1) ?_
      show Steps p.tables e below (s₁.setTop (mkF m 76 #[.val (.int x0_0), .val (.long x0_1), .second, .val (.int x0_2), .val (.int x0_3), .val (.int x0_4), .val (.int x0_5), .val (.int v7), .val (.int v25), .val (.int v40), .val (.long v67), .second, .unset, .unset, .unset, .unset, .unset, .unset] [])) _
      refine XS.iload X0.here hx rfl (hb hby at_76) rfl ?_
      show Steps p.tables e below (s₁.setTop (mkF m 78 #[.val (.int x0_0), .val (.long x0_1), .second, .val (.int x0_2), .val (.int x0_3), .val (.int x0_4), .val (.int x0_5), .val (.int v7), .val (.int v25), .val (.int v40), .val (.long v67), .second, .unset, .unset, .unset, .unset, .unset, .unset] [(.int v7)])) _
      refine XS.goto X0.here hx rfl (pc0 := 78) (pc' := 89) rfl (hb hby at_78) (by decide) (by decide) ?_
      exact kt
  have sg11 : ∀ t, Steps p.tables e below (s₁.setTop (mkF m 91 #[.val (.int x0_0), .val (.long x0_1), .second, .val (.int x0_2), .val (.int x0_3), .val (.int x0_4), .val (.int x0_5), .val (.int v7), .val (.int v25), .val (.int v40), .val (.long v67), .second, .val (.int (if (x0_5 &&& (4 : Int32)) = (0 : Int32) then ((x0_4 &&& (2147483647 : Int32)) % v25) else v7)), .unset, .unset, .unset, .unset, .unset] [])) t → Steps p.tables e below (s₁.setTop (mkF m 89 #[.val (.int x0_0), .val (.long x0_1), .second, .val (.int x0_2), .val (.int x0_3), .val (.int x0_4), .val (.int x0_5), .val (.int v7), .val (.int v25), .val (.int v40), .val (.long v67), .second, .unset, .unset, .unset, .unset, .unset, .unset] [(.int (if (x0_5 &&& (4 : Int32)) = (0 : Int32) then ((x0_4 &&& (2147483647 : Int32)) % v25) else v7))])) t := fun t kt => by
    show Steps p.tables e below (s₁.setTop (mkF m 89 #[.val (.int x0_0), .val (.long x0_1), .second, .val (.int x0_2), .val (.int x0_3), .val (.int x0_4), .val (.int x0_5), .val (.int v7), .val (.int v25), .val (.int v40), .val (.long v67), .second, .unset, .unset, .unset, .unset, .unset, .unset] [(.int (if (x0_5 &&& (4 : Int32)) = (0 : Int32) then ((x0_4 &&& (2147483647 : Int32)) % v25) else v7))])) _
    refine XS.istore X0.here hx rfl (hb hby at_89) rfl (l' := #[.val (.int x0_0), .val (.long x0_1), .second, .val (.int x0_2), .val (.int x0_3), .val (.int x0_4), .val (.int x0_5), .val (.int v7), .val (.int v25), .val (.int v40), .val (.long v67), .second, .val (.int (if (x0_5 &&& (4 : Int32)) = (0 : Int32) then ((x0_4 &&& (2147483647 : Int32)) % v25) else v7)), .unset, .unset, .unset, .unset, .unset]) rfl ?_
    exact kt
  obtain ⟨v89, hv89⟩ : ∃ z, z = (if (x0_5 &&& (4 : Int32)) = (0 : Int32) then ((x0_4 &&& (2147483647 : Int32)) % v25) else v7) := ⟨_, rfl⟩
  rw [← hv89] at sg10 sg11
  have hq := own_p2 _ _ _ _ _ hp ht hv89
  have sg12 : ∀ t, Steps p.tables e below (s₁.setTop (mkF m 96 #[.val (.int x0_0), .val (.long x0_1), .second, .val (.int x0_2), .val (.int x0_3), .val (.int x0_4), .val (.int x0_5), .val (.int v7), .val (.int v25), .val (.int v40), .val (.long v67), .second, .val (.int v89), .unset, .unset, .unset, .unset, .unset] [(.int (x0_5 &&& (8 : Int32)))])) t → Steps p.tables e below (s₁.setTop (mkF m 91 #[.val (.int x0_0), .val (.long x0_1), .second, .val (.int x0_2), .val (.int x0_3), .val (.int x0_4), .val (.int x0_5), .val (.int v7), .val (.int v25), .val (.int v40), .val (.long v67), .second, .val (.int v89), .unset, .unset, .unset, .unset, .unset] [])) t := fun t kt => by
    show Steps p.tables e below (s₁.setTop (mkF m 91 #[.val (.int x0_0), .val (.long x0_1), .second, .val (.int x0_2), .val (.int x0_3), .val (.int x0_4), .val (.int x0_5), .val (.int v7), .val (.int v25), .val (.int v40), .val (.long v67), .second, .val (.int v89), .unset, .unset, .unset, .unset, .unset] [])) _
    refine XS.iload X0.here hx rfl (hb hby at_91) rfl ?_
    show Steps p.tables e below (s₁.setTop (mkF m 93 #[.val (.int x0_0), .val (.long x0_1), .second, .val (.int x0_2), .val (.int x0_3), .val (.int x0_4), .val (.int x0_5), .val (.int v7), .val (.int v25), .val (.int v40), .val (.long v67), .second, .val (.int v89), .unset, .unset, .unset, .unset, .unset] [(.int x0_5)])) _
    refine XS.bipush X0.here hx rfl (hb hby at_93) ?_
    show Steps p.tables e below (s₁.setTop (mkF m 95 #[.val (.int x0_0), .val (.long x0_1), .second, .val (.int x0_2), .val (.int x0_3), .val (.int x0_4), .val (.int x0_5), .val (.int v7), .val (.int v25), .val (.int v40), .val (.long v67), .second, .val (.int v89), .unset, .unset, .unset, .unset, .unset] [(.int (8 : Int32)), (.int x0_5)])) _
    refine XS.iand X0.here hx rfl (hb hby at_95) rfl ?_
    exact kt
  have sg13 : ∀ t, Steps p.tables e below (s₁.setTop (mkF m 119 #[.val (.int x0_0), .val (.long x0_1), .second, .val (.int x0_2), .val (.int x0_3), .val (.int x0_4), .val (.int x0_5), .val (.int v7), .val (.int v25), .val (.int v40), .val (.long v67), .second, .val (.int v89), .unset, .unset, .unset, .unset, .unset] [(.int (if (x0_5 &&& (8 : Int32)) = (0 : Int32) then ((v89 + (1 : Int32)) + (((x0_4.toUInt32 >>> ((1 : Int32) &&& 31).toUInt32).toInt32) % ((2147483647 : Int32) - v89))) else v25))])) t → Steps p.tables e below (s₁.setTop (mkF m 96 #[.val (.int x0_0), .val (.long x0_1), .second, .val (.int x0_2), .val (.int x0_3), .val (.int x0_4), .val (.int x0_5), .val (.int v7), .val (.int v25), .val (.int v40), .val (.long v67), .second, .val (.int v89), .unset, .unset, .unset, .unset, .unset] [(.int (x0_5 &&& (8 : Int32)))])) t := fun t kt => by
    by_cases hm : (x0_5 &&& (8 : Int32)) = (0 : Int32)
    · rw [if_pos hm] at kt
      show Steps p.tables e below (s₁.setTop (mkF m 96 #[.val (.int x0_0), .val (.long x0_1), .second, .val (.int x0_2), .val (.int x0_3), .val (.int x0_4), .val (.int x0_5), .val (.int v7), .val (.int v25), .val (.int v40), .val (.long v67), .second, .val (.int v89), .unset, .unset, .unset, .unset, .unset] [(.int (x0_5 &&& (8 : Int32)))])) _
      refine XS.ifYes X0.here hx rfl (pc0 := 96) (pc' := 104) rfl (hb hby at_96) rfl ((if0 _ _).trans (teq hm).1) (by decide) (by decide) ?_
      show Steps p.tables e below (s₁.setTop (mkF m 104 #[.val (.int x0_0), .val (.long x0_1), .second, .val (.int x0_2), .val (.int x0_3), .val (.int x0_4), .val (.int x0_5), .val (.int v7), .val (.int v25), .val (.int v40), .val (.long v67), .second, .val (.int v89), .unset, .unset, .unset, .unset, .unset] [])) _
      refine XS.iload X0.here hx rfl (hb hby at_104) rfl ?_
      show Steps p.tables e below (s₁.setTop (mkF m 106 #[.val (.int x0_0), .val (.long x0_1), .second, .val (.int x0_2), .val (.int x0_3), .val (.int x0_4), .val (.int x0_5), .val (.int v7), .val (.int v25), .val (.int v40), .val (.long v67), .second, .val (.int v89), .unset, .unset, .unset, .unset, .unset] [(.int v89)])) _
      refine XS.iconst X0.here hx rfl (hb hby at_106) ?_
      show Steps p.tables e below (s₁.setTop (mkF m 107 #[.val (.int x0_0), .val (.long x0_1), .second, .val (.int x0_2), .val (.int x0_3), .val (.int x0_4), .val (.int x0_5), .val (.int v7), .val (.int v25), .val (.int v40), .val (.long v67), .second, .val (.int v89), .unset, .unset, .unset, .unset, .unset] [(.int (1 : Int32)), (.int v89)])) _
      refine XS.iadd X0.here hx rfl (hb hby at_107) rfl ?_
      show Steps p.tables e below (s₁.setTop (mkF m 108 #[.val (.int x0_0), .val (.long x0_1), .second, .val (.int x0_2), .val (.int x0_3), .val (.int x0_4), .val (.int x0_5), .val (.int v7), .val (.int v25), .val (.int v40), .val (.long v67), .second, .val (.int v89), .unset, .unset, .unset, .unset, .unset] [(.int (v89 + (1 : Int32)))])) _
      refine XS.iload X0.here hx rfl (hb hby at_108) rfl ?_
      show Steps p.tables e below (s₁.setTop (mkF m 110 #[.val (.int x0_0), .val (.long x0_1), .second, .val (.int x0_2), .val (.int x0_3), .val (.int x0_4), .val (.int x0_5), .val (.int v7), .val (.int v25), .val (.int v40), .val (.long v67), .second, .val (.int v89), .unset, .unset, .unset, .unset, .unset] [(.int x0_4), (.int (v89 + (1 : Int32)))])) _
      refine XS.iconst X0.here hx rfl (hb hby at_110) ?_
      show Steps p.tables e below (s₁.setTop (mkF m 111 #[.val (.int x0_0), .val (.long x0_1), .second, .val (.int x0_2), .val (.int x0_3), .val (.int x0_4), .val (.int x0_5), .val (.int v7), .val (.int v25), .val (.int v40), .val (.long v67), .second, .val (.int v89), .unset, .unset, .unset, .unset, .unset] [(.int (1 : Int32)), (.int x0_4), (.int (v89 + (1 : Int32)))])) _
      refine XS.iushr X0.here hx rfl (hb hby at_111) rfl ?_
      show Steps p.tables e below (s₁.setTop (mkF m 112 #[.val (.int x0_0), .val (.long x0_1), .second, .val (.int x0_2), .val (.int x0_3), .val (.int x0_4), .val (.int x0_5), .val (.int v7), .val (.int v25), .val (.int v40), .val (.long v67), .second, .val (.int v89), .unset, .unset, .unset, .unset, .unset] [(.int ((x0_4.toUInt32 >>> ((1 : Int32) &&& 31).toUInt32).toInt32)), (.int (v89 + (1 : Int32)))])) _
      refine X0.ldcInt hx hown (mvT hZ (hw _ (List.mem_of_getElem? (i := 0) rfl))) (g := (mkF m 112 #[.val (.int x0_0), .val (.long x0_1), .second, .val (.int x0_2), .val (.int x0_3), .val (.int x0_4), .val (.int x0_5), .val (.int v7), .val (.int v25), .val (.int v40), .val (.long v67), .second, .val (.int v89), .unset, .unset, .unset, .unset, .unset] [(.int ((x0_4.toUInt32 >>> ((1 : Int32) &&& 31).toUInt32).toInt32)), (.int (v89 + (1 : Int32)))])) rfl (hb hby at_112) _ ?_
      show Steps p.tables e below (s₁.setTop (mkF m 114 #[.val (.int x0_0), .val (.long x0_1), .second, .val (.int x0_2), .val (.int x0_3), .val (.int x0_4), .val (.int x0_5), .val (.int v7), .val (.int v25), .val (.int v40), .val (.long v67), .second, .val (.int v89), .unset, .unset, .unset, .unset, .unset] [(.int (2147483647 : Int32)), (.int ((x0_4.toUInt32 >>> ((1 : Int32) &&& 31).toUInt32).toInt32)), (.int (v89 + (1 : Int32)))])) _
      refine XS.iload X0.here hx rfl (hb hby at_114) rfl ?_
      show Steps p.tables e below (s₁.setTop (mkF m 116 #[.val (.int x0_0), .val (.long x0_1), .second, .val (.int x0_2), .val (.int x0_3), .val (.int x0_4), .val (.int x0_5), .val (.int v7), .val (.int v25), .val (.int v40), .val (.long v67), .second, .val (.int v89), .unset, .unset, .unset, .unset, .unset] [(.int v89), (.int (2147483647 : Int32)), (.int ((x0_4.toUInt32 >>> ((1 : Int32) &&& 31).toUInt32).toInt32)), (.int (v89 + (1 : Int32)))])) _
      refine XS.isub X0.here hx rfl (hb hby at_116) rfl ?_
      show Steps p.tables e below (s₁.setTop (mkF m 117 #[.val (.int x0_0), .val (.long x0_1), .second, .val (.int x0_2), .val (.int x0_3), .val (.int x0_4), .val (.int x0_5), .val (.int v7), .val (.int v25), .val (.int v40), .val (.long v67), .second, .val (.int v89), .unset, .unset, .unset, .unset, .unset] [(.int ((2147483647 : Int32) - v89)), (.int ((x0_4.toUInt32 >>> ((1 : Int32) &&& 31).toUInt32).toInt32)), (.int (v89 + (1 : Int32)))])) _
      refine iremM X0 hx rfl (hb hby at_117) rfl (own_nz v89 hq.1) ?_
      show Steps p.tables e below (s₁.setTop (mkF m 118 #[.val (.int x0_0), .val (.long x0_1), .second, .val (.int x0_2), .val (.int x0_3), .val (.int x0_4), .val (.int x0_5), .val (.int v7), .val (.int v25), .val (.int v40), .val (.long v67), .second, .val (.int v89), .unset, .unset, .unset, .unset, .unset] [(.int (((x0_4.toUInt32 >>> ((1 : Int32) &&& 31).toUInt32).toInt32) % ((2147483647 : Int32) - v89))), (.int (v89 + (1 : Int32)))])) _
      refine XS.iadd X0.here hx rfl (hb hby at_118) rfl ?_
      exact kt
    · rw [if_neg hm] at kt
      show Steps p.tables e below (s₁.setTop (mkF m 96 #[.val (.int x0_0), .val (.long x0_1), .second, .val (.int x0_2), .val (.int x0_3), .val (.int x0_4), .val (.int x0_5), .val (.int v7), .val (.int v25), .val (.int v40), .val (.long v67), .second, .val (.int v89), .unset, .unset, .unset, .unset, .unset] [(.int (x0_5 &&& (8 : Int32)))])) _
      refine XS.ifNo X0.here hx rfl (hb hby at_96) rfl ((if0 _ _).trans (feq hm).1) ?_
      show Steps p.tables e below (s₁.setTop (mkF m 99 #[.val (.int x0_0), .val (.long x0_1), .second, .val (.int x0_2), .val (.int x0_3), .val (.int x0_4), .val (.int x0_5), .val (.int v7), .val (.int v25), .val (.int v40), .val (.long v67), .second, .val (.int v89), .unset, .unset, .unset, .unset, .unset] [])) _
      refine XS.iload X0.here hx rfl (hb hby at_99) rfl ?_
      show Steps p.tables e below (s₁.setTop (mkF m 101 #[.val (.int x0_0), .val (.long x0_1), .second, .val (.int x0_2), .val (.int x0_3), .val (.int x0_4), .val (.int x0_5), .val (.int v7), .val (.int v25), .val (.int v40), .val (.long v67), .second, .val (.int v89), .unset, .unset, .unset, .unset, .unset] [(.int v25)])) _
      refine XS.goto X0.here hx rfl (pc0 := 101) (pc' := 119) rfl (hb hby at_101) (by decide) (by decide) ?_
      exact kt
  have sg14 : ∀ t, Steps p.tables e below (s₁.setTop (mkF m 121 #[.val (.int x0_0), .val (.long x0_1), .second, .val (.int x0_2), .val (.int x0_3), .val (.int x0_4), .val (.int x0_5), .val (.int v7), .val (.int v25), .val (.int v40), .val (.long v67), .second, .val (.int v89), .val (.int (if (x0_5 &&& (8 : Int32)) = (0 : Int32) then ((v89 + (1 : Int32)) + (((x0_4.toUInt32 >>> ((1 : Int32) &&& 31).toUInt32).toInt32) % ((2147483647 : Int32) - v89))) else v25)), .unset, .unset, .unset, .unset] [])) t → Steps p.tables e below (s₁.setTop (mkF m 119 #[.val (.int x0_0), .val (.long x0_1), .second, .val (.int x0_2), .val (.int x0_3), .val (.int x0_4), .val (.int x0_5), .val (.int v7), .val (.int v25), .val (.int v40), .val (.long v67), .second, .val (.int v89), .unset, .unset, .unset, .unset, .unset] [(.int (if (x0_5 &&& (8 : Int32)) = (0 : Int32) then ((v89 + (1 : Int32)) + (((x0_4.toUInt32 >>> ((1 : Int32) &&& 31).toUInt32).toInt32) % ((2147483647 : Int32) - v89))) else v25))])) t := fun t kt => by
    show Steps p.tables e below (s₁.setTop (mkF m 119 #[.val (.int x0_0), .val (.long x0_1), .second, .val (.int x0_2), .val (.int x0_3), .val (.int x0_4), .val (.int x0_5), .val (.int v7), .val (.int v25), .val (.int v40), .val (.long v67), .second, .val (.int v89), .unset, .unset, .unset, .unset, .unset] [(.int (if (x0_5 &&& (8 : Int32)) = (0 : Int32) then ((v89 + (1 : Int32)) + (((x0_4.toUInt32 >>> ((1 : Int32) &&& 31).toUInt32).toInt32) % ((2147483647 : Int32) - v89))) else v25))])) _
    refine XS.istore X0.here hx rfl (hb hby at_119) rfl (l' := #[.val (.int x0_0), .val (.long x0_1), .second, .val (.int x0_2), .val (.int x0_3), .val (.int x0_4), .val (.int x0_5), .val (.int v7), .val (.int v25), .val (.int v40), .val (.long v67), .second, .val (.int v89), .val (.int (if (x0_5 &&& (8 : Int32)) = (0 : Int32) then ((v89 + (1 : Int32)) + (((x0_4.toUInt32 >>> ((1 : Int32) &&& 31).toUInt32).toInt32) % ((2147483647 : Int32) - v89))) else v25)), .unset, .unset, .unset, .unset]) rfl ?_
    exact kt
  obtain ⟨v119, hv119⟩ : ∃ z, z = (if (x0_5 &&& (8 : Int32)) = (0 : Int32) then ((v89 + (1 : Int32)) + (((x0_4.toUInt32 >>> ((1 : Int32) &&& 31).toUInt32).toInt32) % ((2147483647 : Int32) - v89))) else v25) := ⟨_, rfl⟩
  rw [← hv119] at sg13 sg14
  have hr := own_t2 v7 _ _ _ _ _ hq hv119
  obtain ⟨T15, h15, X15, e15, E15, A15, D15, -, st15⟩ := newO X0 hx hZ hown (hw _ (List.mem_of_getElem? (i := 1) rfl)) (hw _ (List.mem_of_getElem? (i := 2) rfl)) (hw _ (List.mem_of_getElem? (i := 3) rfl)) e0 (g := (mkF m 121 #[.val (.int x0_0), .val (.long x0_1), .second, .val (.int x0_2), .val (.int x0_3), .val (.int x0_4), .val (.int x0_5), .val (.int v7), .val (.int v25), .val (.int v40), .val (.long v67), .second, .val (.int v89), .val (.int v119), .unset, .unset, .unset, .unset] [])) rfl (hb hby at_121) (by decide) (by decide)
  obtain ⟨b15, g15⟩ : ∃ z, z = h0.size := ⟨_, rfl⟩
  rw [← g15] at A15 D15 st15
  have g_b15 : n0 ≤ b15 := Nat.le_trans Z0 (Nat.le_of_eq g15.symm)
  have Zs15 : n0 ≤ h15.size := Nat.le_trans Z0 E15.1
  have Ol15 : Old Z n0 h15 := (O0).ext E15
  have F_peer_b15 : Fld Z h15 b15 "com/example/libdmutex/libdmutex/core/SplitToken$Waiter" "peer" "I" (.int (0 : Int32)) := D15 (Or.inr (hw _ (List.mem_of_getElem? (i := 11) rfl))) (ty := .int) (by decide)
  have F_ticket_b15 : Fld Z h15 b15 "com/example/libdmutex/libdmutex/core/SplitToken$Waiter" "ticket" "J" (.long (0 : Int64)) := D15 (Or.inr (hw _ (List.mem_of_getElem? (i := 13) rfl))) (ty := .long) (by decide)
  have F_position_b15 : Fld Z h15 b15 "com/example/libdmutex/libdmutex/core/SplitToken$Waiter" "position" "I" (.int (0 : Int32)) := D15 (Or.inr (hw _ (List.mem_of_getElem? (i := 15) rfl))) (ty := .int) (by decide)
  have F_to_b15 : Fld Z h15 b15 "com/example/libdmutex/libdmutex/core/SplitToken$Waiter" "to" "I" (.int (0 : Int32)) := D15 (Or.inr (hw _ (List.mem_of_getElem? (i := 17) rfl))) (ty := .int) (by decide)
  have sg17 : ∀ t, Steps p.tables e below (T15.setTop (mkF m 131 #[.val (.int x0_0), .val (.long x0_1), .second, .val (.int x0_2), .val (.int x0_3), .val (.int x0_4), .val (.int x0_5), .val (.int v7), .val (.int v25), .val (.int v40), .val (.long v67), .second, .val (.int v89), .val (.int v119), .unset, .unset, .unset, .unset] [(.int v25), (.int v7), (.long x0_1), (.int x0_0), (.ref b15), (.ref b15)])) t → Steps p.tables e below (s₁.setTop (mkF m 121 #[.val (.int x0_0), .val (.long x0_1), .second, .val (.int x0_2), .val (.int x0_3), .val (.int x0_4), .val (.int x0_5), .val (.int v7), .val (.int v25), .val (.int v40), .val (.long v67), .second, .val (.int v89), .val (.int v119), .unset, .unset, .unset, .unset] [])) t := fun t kt => by
    show Steps p.tables e below (s₁.setTop (mkF m 121 #[.val (.int x0_0), .val (.long x0_1), .second, .val (.int x0_2), .val (.int x0_3), .val (.int x0_4), .val (.int x0_5), .val (.int v7), .val (.int v25), .val (.int v40), .val (.long v67), .second, .val (.int v89), .val (.int v119), .unset, .unset, .unset, .unset] [])) _
    refine st15 _ ?_
    show Steps p.tables e below (T15.setTop (mkF m 124 #[.val (.int x0_0), .val (.long x0_1), .second, .val (.int x0_2), .val (.int x0_3), .val (.int x0_4), .val (.int x0_5), .val (.int v7), .val (.int v25), .val (.int v40), .val (.long v67), .second, .val (.int v89), .val (.int v119), .unset, .unset, .unset, .unset] [(.ref b15)])) _
    refine XS.dup X15.here hx rfl (hb hby at_124) rfl rfl ?_
    show Steps p.tables e below (T15.setTop (mkF m 125 #[.val (.int x0_0), .val (.long x0_1), .second, .val (.int x0_2), .val (.int x0_3), .val (.int x0_4), .val (.int x0_5), .val (.int v7), .val (.int v25), .val (.int v40), .val (.long v67), .second, .val (.int v89), .val (.int v119), .unset, .unset, .unset, .unset] [(.ref b15), (.ref b15)])) _
    refine XS.iloadN X15.here hx rfl (hb hby at_125) rfl ?_
    show Steps p.tables e below (T15.setTop (mkF m 126 #[.val (.int x0_0), .val (.long x0_1), .second, .val (.int x0_2), .val (.int x0_3), .val (.int x0_4), .val (.int x0_5), .val (.int v7), .val (.int v25), .val (.int v40), .val (.long v67), .second, .val (.int v89), .val (.int v119), .unset, .unset, .unset, .unset] [(.int x0_0), (.ref b15), (.ref b15)])) _
    refine XS.lloadN X15.here hx rfl (hb hby at_126) rfl ?_
    show Steps p.tables e below (T15.setTop (mkF m 127 #[.val (.int x0_0), .val (.long x0_1), .second, .val (.int x0_2), .val (.int x0_3), .val (.int x0_4), .val (.int x0_5), .val (.int v7), .val (.int v25), .val (.int v40), .val (.long v67), .second, .val (.int v89), .val (.int v119), .unset, .unset, .unset, .unset] [(.long x0_1), (.int x0_0), (.ref b15), (.ref b15)])) _
    refine XS.iload X15.here hx rfl (hb hby at_127) rfl ?_
    show Steps p.tables e below (T15.setTop (mkF m 129 #[.val (.int x0_0), .val (.long x0_1), .second, .val (.int x0_2), .val (.int x0_3), .val (.int x0_4), .val (.int x0_5), .val (.int v7), .val (.int v25), .val (.int v40), .val (.long v67), .second, .val (.int v89), .val (.int v119), .unset, .unset, .unset, .unset] [(.int v7), (.long x0_1), (.int x0_0), (.ref b15), (.ref b15)])) _
    refine XS.iload X15.here hx rfl (hb hby at_129) rfl ?_
    exact kt
  obtain ⟨v16, _, ⟨T16, L16, k16, n16⟩, -, X16, ⟨Lc16, hQ16, l16, y16, z16⟩, st16⟩ := X15.specialBack hx (y := (⟨"com/example/libdmutex/libdmutex/core/SplitToken$Waiter", "<init>", "(IJII)V"⟩ : MethodName)) rfl hown (mvT hZ (hw _ (List.mem_of_getElem? (i := 4) rfl))) (mvT hZ (hw _ (List.mem_of_getElem? (i := 5) rfl))) (mvT hZ (hw _ (List.mem_of_getElem? (i := 6) rfl))) (by decide) (backOf (W := 1) (rm1 l Z a0 hw [] b15 x0_0 x0_1 v7 v25 h15 n0 Zs15 A15 g_b15 F_peer_b15 F_ticket_b15 F_position_b15 F_to_b15 (own_lo v7 hp) (Int32.lt_iff_toInt_lt.mpr ht)) hZ (hw _ (List.mem_of_getElem? (i := 6) rfl)) (hw _ (List.mem_of_getElem? (i := 3) rfl)) (by decide) (by decide)) (g := (mkF m 131 #[.val (.int x0_0), .val (.long x0_1), .second, .val (.int x0_2), .val (.int x0_3), .val (.int x0_4), .val (.int x0_5), .val (.int v7), .val (.int v25), .val (.int v40), .val (.long v67), .second, .val (.int v89), .val (.int v119), .unset, .unset, .unset, .unset] [(.int v25), (.int v7), (.long x0_1), (.int x0_0), (.ref b15), (.ref b15)])) rfl (by rw [hml]; rfl) (Steps.refl _) (a := b15) (argsL := [(.int x0_0), (.long x0_1), (.int v7), (.int v25)]) (rest := [(.ref b15)]) (lenOf pd_2 rfl) rfl (by show 2 * 0 + _ ≤ _; exact Nat.le_of_eq rfl) (hb hby at_131) (fun _ _ => ⟨rfl, e15, (by decide : 1 + 0 ≤ _), (by decide : 4 + 0 ≤ _)⟩)
  dsimp only [Pt.U, Pt.locs, Pt.cells, Pt.slots] at X16 l16 y16 z16 st16 hQ16
  subst l16 y16 z16
  obtain ⟨rfl, N16q, K16, Ex16, Fq16_peer, Fq16_ticket, Fq16_position, Fq16_to⟩ := hQ16
  have N16 := Fr.app N0 N16q
  have Zs16 : n0 ≤ T16.heap.size := Nat.le_trans Zs15 K16.1
  have Ol16 : Old Z n0 T16.heap := (Ol15).keep K16 (allS g_b15 all0)
  have sg18 : ∀ t, Steps p.tables e below (T16.setTop (mkF m 144 #[.val (.int x0_0), .val (.long x0_1), .second, .val (.int x0_2), .val (.int x0_3), .val (.int x0_4), .val (.int x0_5), .val (.int v7), .val (.int v25), .val (.int v40), .val (.long v67), .second, .val (.int v89), .val (.int v119), .val (.ref b15), .val (.int (((x0_5.toUInt32 >>> ((4 : Int32) &&& 31).toUInt32).toInt32) &&& (3 : Int32))), .unset, .unset] [])) t → Steps p.tables e below (T15.setTop (mkF m 131 #[.val (.int x0_0), .val (.long x0_1), .second, .val (.int x0_2), .val (.int x0_3), .val (.int x0_4), .val (.int x0_5), .val (.int v7), .val (.int v25), .val (.int v40), .val (.long v67), .second, .val (.int v89), .val (.int v119), .unset, .unset, .unset, .unset] [(.int v25), (.int v7), (.long x0_1), (.int x0_0), (.ref b15), (.ref b15)])) t := fun t kt => by
    show Steps p.tables e below (T15.setTop (mkF m 131 #[.val (.int x0_0), .val (.long x0_1), .second, .val (.int x0_2), .val (.int x0_3), .val (.int x0_4), .val (.int x0_5), .val (.int v7), .val (.int v25), .val (.int v40), .val (.long v67), .second, .val (.int v89), .val (.int v119), .unset, .unset, .unset, .unset] [(.int v25), (.int v7), (.long x0_1), (.int x0_0), (.ref b15), (.ref b15)])) _
    refine st16.trans ?_
    show Steps p.tables e below (T16.setTop (mkF m 134 #[.val (.int x0_0), .val (.long x0_1), .second, .val (.int x0_2), .val (.int x0_3), .val (.int x0_4), .val (.int x0_5), .val (.int v7), .val (.int v25), .val (.int v40), .val (.long v67), .second, .val (.int v89), .val (.int v119), .unset, .unset, .unset, .unset] [(.ref b15)])) _
    refine XS.astore X16.here hx rfl (hb hby at_134) rfl rfl (l' := #[.val (.int x0_0), .val (.long x0_1), .second, .val (.int x0_2), .val (.int x0_3), .val (.int x0_4), .val (.int x0_5), .val (.int v7), .val (.int v25), .val (.int v40), .val (.long v67), .second, .val (.int v89), .val (.int v119), .val (.ref b15), .unset, .unset, .unset]) rfl ?_
    show Steps p.tables e below (T16.setTop (mkF m 136 #[.val (.int x0_0), .val (.long x0_1), .second, .val (.int x0_2), .val (.int x0_3), .val (.int x0_4), .val (.int x0_5), .val (.int v7), .val (.int v25), .val (.int v40), .val (.long v67), .second, .val (.int v89), .val (.int v119), .val (.ref b15), .unset, .unset, .unset] [])) _
    refine XS.iload X16.here hx rfl (hb hby at_136) rfl ?_
    show Steps p.tables e below (T16.setTop (mkF m 138 #[.val (.int x0_0), .val (.long x0_1), .second, .val (.int x0_2), .val (.int x0_3), .val (.int x0_4), .val (.int x0_5), .val (.int v7), .val (.int v25), .val (.int v40), .val (.long v67), .second, .val (.int v89), .val (.int v119), .val (.ref b15), .unset, .unset, .unset] [(.int x0_5)])) _
    refine XS.iconst X16.here hx rfl (hb hby at_138) ?_
    show Steps p.tables e below (T16.setTop (mkF m 139 #[.val (.int x0_0), .val (.long x0_1), .second, .val (.int x0_2), .val (.int x0_3), .val (.int x0_4), .val (.int x0_5), .val (.int v7), .val (.int v25), .val (.int v40), .val (.long v67), .second, .val (.int v89), .val (.int v119), .val (.ref b15), .unset, .unset, .unset] [(.int (4 : Int32)), (.int x0_5)])) _
    refine XS.iushr X16.here hx rfl (hb hby at_139) rfl ?_
    show Steps p.tables e below (T16.setTop (mkF m 140 #[.val (.int x0_0), .val (.long x0_1), .second, .val (.int x0_2), .val (.int x0_3), .val (.int x0_4), .val (.int x0_5), .val (.int v7), .val (.int v25), .val (.int v40), .val (.long v67), .second, .val (.int v89), .val (.int v119), .val (.ref b15), .unset, .unset, .unset] [(.int ((x0_5.toUInt32 >>> ((4 : Int32) &&& 31).toUInt32).toInt32))])) _
    refine XS.iconst X16.here hx rfl (hb hby at_140) ?_
    show Steps p.tables e below (T16.setTop (mkF m 141 #[.val (.int x0_0), .val (.long x0_1), .second, .val (.int x0_2), .val (.int x0_3), .val (.int x0_4), .val (.int x0_5), .val (.int v7), .val (.int v25), .val (.int v40), .val (.long v67), .second, .val (.int v89), .val (.int v119), .val (.ref b15), .unset, .unset, .unset] [(.int (3 : Int32)), (.int ((x0_5.toUInt32 >>> ((4 : Int32) &&& 31).toUInt32).toInt32))])) _
    refine XS.iand X16.here hx rfl (hb hby at_141) rfl ?_
    show Steps p.tables e below (T16.setTop (mkF m 142 #[.val (.int x0_0), .val (.long x0_1), .second, .val (.int x0_2), .val (.int x0_3), .val (.int x0_4), .val (.int x0_5), .val (.int v7), .val (.int v25), .val (.int v40), .val (.long v67), .second, .val (.int v89), .val (.int v119), .val (.ref b15), .unset, .unset, .unset] [(.int (((x0_5.toUInt32 >>> ((4 : Int32) &&& 31).toUInt32).toInt32) &&& (3 : Int32)))])) _
    refine XS.istore X16.here hx rfl (hb hby at_142) rfl (l' := #[.val (.int x0_0), .val (.long x0_1), .second, .val (.int x0_2), .val (.int x0_3), .val (.int x0_4), .val (.int x0_5), .val (.int v7), .val (.int v25), .val (.int v40), .val (.long v67), .second, .val (.int v89), .val (.int v119), .val (.ref b15), .val (.int (((x0_5.toUInt32 >>> ((4 : Int32) &&& 31).toUInt32).toInt32) &&& (3 : Int32))), .unset, .unset]) rfl ?_
    exact kt
  obtain ⟨v142, hv142⟩ : ∃ z, z = (((x0_5.toUInt32 >>> ((4 : Int32) &&& 31).toUInt32).toInt32) &&& (3 : Int32)) := ⟨_, rfl⟩
  rw [← hv142] at sg18
  have sg19 : ∀ t, Steps p.tables e below (T16.setTop (mkF m 147 #[.val (.int x0_0), .val (.long x0_1), .second, .val (.int x0_2), .val (.int x0_3), .val (.int x0_4), .val (.int x0_5), .val (.int v7), .val (.int v25), .val (.int v40), .val (.long v67), .second, .val (.int v89), .val (.int v119), .val (.ref b15), .val (.int v142), .unset, .unset] [(.int (2 : Int32)), (.int v142)])) t → Steps p.tables e below (T16.setTop (mkF m 144 #[.val (.int x0_0), .val (.long x0_1), .second, .val (.int x0_2), .val (.int x0_3), .val (.int x0_4), .val (.int x0_5), .val (.int v7), .val (.int v25), .val (.int v40), .val (.long v67), .second, .val (.int v89), .val (.int v119), .val (.ref b15), .val (.int v142), .unset, .unset] [])) t := fun t kt => by
    show Steps p.tables e below (T16.setTop (mkF m 144 #[.val (.int x0_0), .val (.long x0_1), .second, .val (.int x0_2), .val (.int x0_3), .val (.int x0_4), .val (.int x0_5), .val (.int v7), .val (.int v25), .val (.int v40), .val (.long v67), .second, .val (.int v89), .val (.int v119), .val (.ref b15), .val (.int v142), .unset, .unset] [])) _
    refine XS.iload X16.here hx rfl (hb hby at_144) rfl ?_
    show Steps p.tables e below (T16.setTop (mkF m 146 #[.val (.int x0_0), .val (.long x0_1), .second, .val (.int x0_2), .val (.int x0_3), .val (.int x0_4), .val (.int x0_5), .val (.int v7), .val (.int v25), .val (.int v40), .val (.long v67), .second, .val (.int v89), .val (.int v119), .val (.ref b15), .val (.int v142), .unset, .unset] [(.int v142)])) _
    refine XS.iconst X16.here hx rfl (hb hby at_146) ?_
    exact kt
  by_cases hc147_20 : v142 = (2 : Int32)
  · have sg22 : ∀ t, Steps p.tables e below (T16.setTop (mkF m 153 #[.val (.int x0_0), .val (.long x0_1), .second, .val (.int x0_2), .val (.int x0_3), .val (.int x0_4), .val (.int x0_5), .val (.int v7), .val (.int v25), .val (.int v40), .val (.long v67), .second, .val (.int v89), .val (.int v119), .val (.ref b15), .val (.int v142), .unset, .unset] [.null, (.ref b15)])) t → Steps p.tables e below (T16.setTop (mkF m 147 #[.val (.int x0_0), .val (.long x0_1), .second, .val (.int x0_2), .val (.int x0_3), .val (.int x0_4), .val (.int x0_5), .val (.int v7), .val (.int v25), .val (.int v40), .val (.long v67), .second, .val (.int v89), .val (.int v119), .val (.ref b15), .val (.int v142), .unset, .unset] [(.int (2 : Int32)), (.int v142)])) t := fun t kt => by
      show Steps p.tables e below (T16.setTop (mkF m 147 #[.val (.int x0_0), .val (.long x0_1), .second, .val (.int x0_2), .val (.int x0_3), .val (.int x0_4), .val (.int x0_5), .val (.int v7), .val (.int v25), .val (.int v40), .val (.long v67), .second, .val (.int v89), .val (.int v119), .val (.ref b15), .val (.int v142), .unset, .unset] [(.int (2 : Int32)), (.int v142)])) _
      refine XS.icmpNo X16.here hx rfl (hb hby at_147) rfl (teq hc147_20).2 ?_
      show Steps p.tables e below (T16.setTop (mkF m 150 #[.val (.int x0_0), .val (.long x0_1), .second, .val (.int x0_2), .val (.int x0_3), .val (.int x0_4), .val (.int x0_5), .val (.int v7), .val (.int v25), .val (.int v40), .val (.long v67), .second, .val (.int v89), .val (.int v119), .val (.ref b15), .val (.int v142), .unset, .unset] [])) _
      refine XS.aload X16.here hx rfl (hb hby at_150) rfl rfl ?_
      show Steps p.tables e below (T16.setTop (mkF m 152 #[.val (.int x0_0), .val (.long x0_1), .second, .val (.int x0_2), .val (.int x0_3), .val (.int x0_4), .val (.int x0_5), .val (.int v7), .val (.int v25), .val (.int v40), .val (.long v67), .second, .val (.int v89), .val (.int v119), .val (.ref b15), .val (.int v142), .unset, .unset] [(.ref b15)])) _
      refine XS.aconstNull X16.here hx rfl (hb hby at_152) ?_
      exact kt
    obtain ⟨cq21, kq21, q21a, q21b, q21c⟩ := isOf hZ rfl Ex16
    obtain ⟨v21, _, ⟨T21, L21, k21, n21⟩, -, X21, ⟨Lc21, hQ21, l21, y21, z21⟩, st21⟩ := X16.virtualBack hx (y := (⟨"com/example/libdmutex/libdmutex/core/SplitToken$Waiter", "equals", "(Ljava/lang/Object;)Z"⟩ : MethodName)) (z := (⟨"com/example/libdmutex/libdmutex/core/SplitToken$Waiter", "equals", "(Ljava/lang/Object;)Z"⟩ : MethodName)) hown (mvT hZ (hw _ (List.mem_of_getElem? (i := 18) rfl))) (mvT hZ (hw _ (List.mem_of_getElem? (i := 19) rfl))) (notFace_of_selects (args := #[]) (mvT hZ (hw _ (List.mem_of_getElem? (i := 21) rfl)))) (mvT hZ (hw _ (List.mem_of_getElem? (i := 21) rfl))) (mvT hZ (hw _ (List.mem_of_getElem? (i := 20) rfl))) (by decide) (backOf (W := 0) (rm3n l Z a0 hw [] b15 T16.heap n0 Zs16 Ex16) hZ (hw _ (List.mem_of_getElem? (i := 22) rfl)) (hw _ (List.mem_of_getElem? (i := 3) rfl)) (by decide) (by decide)) q21a q21c (g := (mkF m 153 #[.val (.int x0_0), .val (.long x0_1), .second, .val (.int x0_2), .val (.int x0_3), .val (.int x0_4), .val (.int x0_5), .val (.int v7), .val (.int v25), .val (.int v40), .val (.long v67), .second, .val (.int v89), .val (.int v119), .val (.ref b15), .val (.int v142), .unset, .unset] [.null, (.ref b15)])) rfl (by rw [hml]; rfl) (Steps.refl _) (argsL := [.null]) (rest := []) (lenOf pd_3 rfl) rfl (by show 2 * 0 + _ ≤ _; exact Nat.le_of_eq rfl) (hb hby at_153) (fun _ _ => ⟨rfl, rfl, (by decide : 1 + 0 ≤ _), (by decide : 4 + 0 ≤ _)⟩)
    dsimp only [Pt.U, Pt.locs, Pt.cells, Pt.slots] at X21 l21 y21 z21 st21 hQ21
    subst l21 y21 z21
    obtain ⟨hv21, N21q, e21⟩ := hQ21
    have N21 := Fr.app N16 N21q
    have hf21 : f3n b15 = (0 : Int32) := rfl
    rw [hf21] at hv21
    subst hv21
    have sg24 : ∀ t, Steps p.tables e below (T21.setTop (mkF m 163 #[.val (.int x0_0), .val (.long x0_1), .second, .val (.int x0_2), .val (.int x0_3), .val (.int x0_4), .val (.int x0_5), .val (.int v7), .val (.int v25), .val (.int v40), .val (.long v67), .second, .val (.int v89), .val (.int v119), .val (.ref b15), .val (.int v142), .unset, .unset] [(.ref b15), (.ref b15)])) t → Steps p.tables e below (T16.setTop (mkF m 153 #[.val (.int x0_0), .val (.long x0_1), .second, .val (.int x0_2), .val (.int x0_3), .val (.int x0_4), .val (.int x0_5), .val (.int v7), .val (.int v25), .val (.int v40), .val (.long v67), .second, .val (.int v89), .val (.int v119), .val (.ref b15), .val (.int v142), .unset, .unset] [.null, (.ref b15)])) t := fun t kt => by
      show Steps p.tables e below (T16.setTop (mkF m 153 #[.val (.int x0_0), .val (.long x0_1), .second, .val (.int x0_2), .val (.int x0_3), .val (.int x0_4), .val (.int x0_5), .val (.int v7), .val (.int v25), .val (.int v40), .val (.long v67), .second, .val (.int v89), .val (.int v119), .val (.ref b15), .val (.int v142), .unset, .unset] [.null, (.ref b15)])) _
      refine st21.trans ?_
      show Steps p.tables e below (T21.setTop (mkF m 156 #[.val (.int x0_0), .val (.long x0_1), .second, .val (.int x0_2), .val (.int x0_3), .val (.int x0_4), .val (.int x0_5), .val (.int v7), .val (.int v25), .val (.int v40), .val (.long v67), .second, .val (.int v89), .val (.int v119), .val (.ref b15), .val (.int v142), .unset, .unset] [(.int (0 : Int32))])) _
      refine XS.ifNo X21.here hx rfl (hb hby at_156) rfl ((if0 _ _).trans (teq (by decide : ((0 : Int32) = (0 : Int32)))).2) ?_
      show Steps p.tables e below (T21.setTop (mkF m 159 #[.val (.int x0_0), .val (.long x0_1), .second, .val (.int x0_2), .val (.int x0_3), .val (.int x0_4), .val (.int x0_5), .val (.int v7), .val (.int v25), .val (.int v40), .val (.long v67), .second, .val (.int v89), .val (.int v119), .val (.ref b15), .val (.int v142), .unset, .unset] [])) _
      refine XS.aload X21.here hx rfl (hb hby at_159) rfl rfl ?_
      show Steps p.tables e below (T21.setTop (mkF m 161 #[.val (.int x0_0), .val (.long x0_1), .second, .val (.int x0_2), .val (.int x0_3), .val (.int x0_4), .val (.int x0_5), .val (.int v7), .val (.int v25), .val (.int v40), .val (.long v67), .second, .val (.int v89), .val (.int v119), .val (.ref b15), .val (.int v142), .unset, .unset] [(.ref b15)])) _
      refine XS.aload X21.here hx rfl (hb hby at_161) rfl rfl ?_
      exact kt
    obtain ⟨cq23, kq23, q23a, q23b, q23c⟩ := isOf hZ e21 Ex16
    obtain ⟨v23, _, ⟨T23, L23, k23, n23⟩, -, X23, ⟨Lc23, hQ23, l23, y23, z23⟩, st23⟩ := X21.virtualBack hx (y := (⟨"com/example/libdmutex/libdmutex/core/SplitToken$Waiter", "equals", "(Ljava/lang/Object;)Z"⟩ : MethodName)) (z := (⟨"com/example/libdmutex/libdmutex/core/SplitToken$Waiter", "equals", "(Ljava/lang/Object;)Z"⟩ : MethodName)) hown (mvT hZ (hw _ (List.mem_of_getElem? (i := 18) rfl))) (mvT hZ (hw _ (List.mem_of_getElem? (i := 19) rfl))) (notFace_of_selects (args := #[]) (mvT hZ (hw _ (List.mem_of_getElem? (i := 21) rfl)))) (mvT hZ (hw _ (List.mem_of_getElem? (i := 21) rfl))) (mvT hZ (hw _ (List.mem_of_getElem? (i := 20) rfl))) (by decide) (backOf (W := 0) (rm3o l Z a0 hw [] b15 b15 x0_0 x0_1 v7 v25 x0_0 x0_1 v7 v25 T16.heap n0 Zs16 Ex16 Ex16 Fq16_peer Fq16_ticket Fq16_position Fq16_to Fq16_peer Fq16_ticket Fq16_position Fq16_to) hZ (hw _ (List.mem_of_getElem? (i := 22) rfl)) (hw _ (List.mem_of_getElem? (i := 3) rfl)) (by decide) (by decide)) q23a q23c (g := (mkF m 163 #[.val (.int x0_0), .val (.long x0_1), .second, .val (.int x0_2), .val (.int x0_3), .val (.int x0_4), .val (.int x0_5), .val (.int v7), .val (.int v25), .val (.int v40), .val (.long v67), .second, .val (.int v89), .val (.int v119), .val (.ref b15), .val (.int v142), .unset, .unset] [(.ref b15), (.ref b15)])) rfl (by rw [hml]; rfl) (Steps.refl _) (argsL := [(.ref b15)]) (rest := []) (lenOf pd_3 rfl) rfl (by show 2 * 0 + _ ≤ _; exact Nat.le_of_eq rfl) (hb hby at_163) (fun _ _ => ⟨rfl, e21, (by decide : 1 + 0 ≤ _), (by decide : 4 + 0 ≤ _)⟩)
    dsimp only [Pt.U, Pt.locs, Pt.cells, Pt.slots] at X23 l23 y23 z23 st23 hQ23
    subst l23 y23 z23
    obtain ⟨hv23, N23q, e23⟩ := hQ23
    have N23 := Fr.app N21 N23q
    have hf23 : f3o b15 b15 x0_0 x0_1 v7 v25 x0_0 x0_1 v7 v25 = (1 : Int32) := by unfold f3o; rw [if_pos (rfl : x0_0 = x0_0), if_pos (rfl : x0_1 = x0_1), if_pos (rfl : v7 = v7), if_pos (rfl : v25 = v25)]
    rw [hf23] at hv23
    subst hv23
    obtain ⟨fs, hr, hrun, hended, hW, hsame⟩ := X23.leave (v := some (.int (1 : Int32))) (fun h => by rw [Bd.returns] at h; cases h)
    refine ⟨_, _, pre0 _ (sg1 _ (sg2 _ (sg3 _ (sg4 _ (sg5 _ (sg6 _ (sg7 _ (sg8 _ (sg9 _ (sg10 _ (sg11 _ (sg12 _ (sg13 _ (sg14 _ (sg17 _ (sg18 _ (sg19 _ (sg22 _ (sg24 _ ?_))))))))))))))))))), hrun, hended, _, _, rfl, ?_, ⟨_, rfl⟩, hW, hsame.mono (by decide) (by decide)⟩
    · show Steps p.tables e below (T21.setTop (mkF m 163 #[.val (.int x0_0), .val (.long x0_1), .second, .val (.int x0_2), .val (.int x0_3), .val (.int x0_4), .val (.int x0_5), .val (.int v7), .val (.int v25), .val (.int v40), .val (.long v67), .second, .val (.int v89), .val (.int v119), .val (.ref b15), .val (.int v142), .unset, .unset] [(.ref b15), (.ref b15)])) _
      refine st23.trans ?_
      show Steps p.tables e below (T23.setTop (mkF m 166 #[.val (.int x0_0), .val (.long x0_1), .second, .val (.int x0_2), .val (.int x0_3), .val (.int x0_4), .val (.int x0_5), .val (.int v7), .val (.int v25), .val (.int v40), .val (.long v67), .second, .val (.int v89), .val (.int v119), .val (.ref b15), .val (.int v142), .unset, .unset] [(.int (1 : Int32))])) _
      refine XS.ifNo X23.here hx rfl (hb hby at_166) rfl ((if0 _ _).trans (feq (by decide : ¬ ((1 : Int32) = (0 : Int32)))).1) ?_
      show Steps p.tables e below (T23.setTop (mkF m 169 #[.val (.int x0_0), .val (.long x0_1), .second, .val (.int x0_2), .val (.int x0_3), .val (.int x0_4), .val (.int x0_5), .val (.int v7), .val (.int v25), .val (.int v40), .val (.long v67), .second, .val (.int v89), .val (.int v119), .val (.ref b15), .val (.int v142), .unset, .unset] [])) _
      refine XS.iconst X23.here hx rfl (hb hby at_169) ?_
      show Steps p.tables e below (T23.setTop (mkF m 170 #[.val (.int x0_0), .val (.long x0_1), .second, .val (.int x0_2), .val (.int x0_3), .val (.int x0_4), .val (.int x0_5), .val (.int v7), .val (.int v25), .val (.int v40), .val (.long v67), .second, .val (.int v89), .val (.int v119), .val (.ref b15), .val (.int v142), .unset, .unset] [(.int (1 : Int32))])) _
      refine XS.goto X23.here hx rfl (pc0 := 170) (pc' := 174) rfl (hb hby at_170) (by decide) (by decide) ?_
      show Steps p.tables e below (T23.setTop (mkF m 174 #[.val (.int x0_0), .val (.long x0_1), .second, .val (.int x0_2), .val (.int x0_3), .val (.int x0_4), .val (.int x0_5), .val (.int v7), .val (.int v25), .val (.int v40), .val (.long v67), .second, .val (.int v89), .val (.int v119), .val (.ref b15), .val (.int v142), .unset, .unset] [(.int (1 : Int32))])) _
      exact retN X23 hx (t := .boolean) Bd.returns (by simp) (hb hby at_174) hr
    · show Q0 Z x0_0 x0_1 x0_2 x0_3 x0_4 x0_5 cA cl h0 n0 _ T23.heap _
      rw [e23]
      exact ⟨rfl, N23⟩
  · have sg25 : ∀ t, Steps p.tables e below (T16.setTop (mkF m 178 #[.val (.int x0_0), .val (.long x0_1), .second, .val (.int x0_2), .val (.int x0_3), .val (.int x0_4), .val (.int x0_5), .val (.int v7), .val (.int v25), .val (.int v40), .val (.long v67), .second, .val (.int v89), .val (.int v119), .val (.ref b15), .val (.int v142), .unset, .unset] [(.int (3 : Int32)), (.int v142)])) t → Steps p.tables e below (T16.setTop (mkF m 147 #[.val (.int x0_0), .val (.long x0_1), .second, .val (.int x0_2), .val (.int x0_3), .val (.int x0_4), .val (.int x0_5), .val (.int v7), .val (.int v25), .val (.int v40), .val (.long v67), .second, .val (.int v89), .val (.int v119), .val (.ref b15), .val (.int v142), .unset, .unset] [(.int (2 : Int32)), (.int v142)])) t := fun t kt => by
      show Steps p.tables e below (T16.setTop (mkF m 147 #[.val (.int x0_0), .val (.long x0_1), .second, .val (.int x0_2), .val (.int x0_3), .val (.int x0_4), .val (.int x0_5), .val (.int v7), .val (.int v25), .val (.int v40), .val (.long v67), .second, .val (.int v89), .val (.int v119), .val (.ref b15), .val (.int v142), .unset, .unset] [(.int (2 : Int32)), (.int v142)])) _
      refine XS.icmpYes X16.here hx rfl (pc0 := 147) (pc' := 175) rfl (hb hby at_147) rfl (feq hc147_20).2 (by decide) (by decide) ?_
      show Steps p.tables e below (T16.setTop (mkF m 175 #[.val (.int x0_0), .val (.long x0_1), .second, .val (.int x0_2), .val (.int x0_3), .val (.int x0_4), .val (.int x0_5), .val (.int v7), .val (.int v25), .val (.int v40), .val (.long v67), .second, .val (.int v89), .val (.int v119), .val (.ref b15), .val (.int v142), .unset, .unset] [])) _
      refine XS.iload X16.here hx rfl (hb hby at_175) rfl ?_
      show Steps p.tables e below (T16.setTop (mkF m 177 #[.val (.int x0_0), .val (.long x0_1), .second, .val (.int x0_2), .val (.int x0_3), .val (.int x0_4), .val (.int x0_5), .val (.int v7), .val (.int v25), .val (.int v40), .val (.long v67), .second, .val (.int v89), .val (.int v119), .val (.ref b15), .val (.int v142), .unset, .unset] [(.int v142)])) _
      refine XS.iconst X16.here hx rfl (hb hby at_177) ?_
      exact kt
    by_cases hc178_26 : v142 = (3 : Int32)
    · have sg28 : ∀ t, Steps p.tables e below (T16.setTop (mkF m 184 #[.val (.int x0_0), .val (.long x0_1), .second, .val (.int x0_2), .val (.int x0_3), .val (.int x0_4), .val (.int x0_5), .val (.int v7), .val (.int v25), .val (.int v40), .val (.long v67), .second, .val (.int v89), .val (.int v119), .val (.ref b15), .val (.int v142), .unset, .unset] [(.int x0_0), (.ref b15)])) t → Steps p.tables e below (T16.setTop (mkF m 178 #[.val (.int x0_0), .val (.long x0_1), .second, .val (.int x0_2), .val (.int x0_3), .val (.int x0_4), .val (.int x0_5), .val (.int v7), .val (.int v25), .val (.int v40), .val (.long v67), .second, .val (.int v89), .val (.int v119), .val (.ref b15), .val (.int v142), .unset, .unset] [(.int (3 : Int32)), (.int v142)])) t := fun t kt => by
        show Steps p.tables e below (T16.setTop (mkF m 178 #[.val (.int x0_0), .val (.long x0_1), .second, .val (.int x0_2), .val (.int x0_3), .val (.int x0_4), .val (.int x0_5), .val (.int v7), .val (.int v25), .val (.int v40), .val (.long v67), .second, .val (.int v89), .val (.int v119), .val (.ref b15), .val (.int v142), .unset, .unset] [(.int (3 : Int32)), (.int v142)])) _
        refine XS.icmpNo X16.here hx rfl (hb hby at_178) rfl (teq hc178_26).2 ?_
        show Steps p.tables e below (T16.setTop (mkF m 181 #[.val (.int x0_0), .val (.long x0_1), .second, .val (.int x0_2), .val (.int x0_3), .val (.int x0_4), .val (.int x0_5), .val (.int v7), .val (.int v25), .val (.int v40), .val (.long v67), .second, .val (.int v89), .val (.int v119), .val (.ref b15), .val (.int v142), .unset, .unset] [])) _
        refine XS.aload X16.here hx rfl (hb hby at_181) rfl rfl ?_
        show Steps p.tables e below (T16.setTop (mkF m 183 #[.val (.int x0_0), .val (.long x0_1), .second, .val (.int x0_2), .val (.int x0_3), .val (.int x0_4), .val (.int x0_5), .val (.int v7), .val (.int v25), .val (.int v40), .val (.long v67), .second, .val (.int v89), .val (.int v119), .val (.ref b15), .val (.int v142), .unset, .unset] [(.ref b15)])) _
        refine XS.iloadN X16.here hx rfl (hb hby at_183) rfl ?_
        exact kt
      obtain ⟨v27, _, ⟨T27, L27, k27, n27⟩, -, X27, ⟨Lc27, hQ27, l27, y27, z27⟩, st27⟩ := Jvm.LawKit.callS X16 hx (y := (⟨"java/lang/Integer", "valueOf", "(I)Ljava/lang/Integer;"⟩ : MethodName)) hown (mvT hZ (hw _ (List.mem_of_getElem? (i := 25) rfl))) (mvT hZ (hw _ (List.mem_of_getElem? (i := 26) rfl))) (mvT hZ (hw _ (List.mem_of_getElem? (i := 27) rfl))) (mvT hZ (hw _ (List.mem_of_getElem? (i := 28) rfl))) (by decide) (backOf (W := 1) (rm4 l Z a0 hw [] x0_0 cA cl T16.heap n0 Zs16 Ol16 JC SC SH) hZ (hw _ (List.mem_of_getElem? (i := 28) rfl)) (hw _ (List.mem_of_getElem? (i := 27) rfl)) (by decide) (by decide)) (g := (mkF m 184 #[.val (.int x0_0), .val (.long x0_1), .second, .val (.int x0_2), .val (.int x0_3), .val (.int x0_4), .val (.int x0_5), .val (.int v7), .val (.int v25), .val (.int v40), .val (.long v67), .second, .val (.int v89), .val (.int v119), .val (.ref b15), .val (.int v142), .unset, .unset] [(.int x0_0), (.ref b15)])) rfl (by rw [hml]; rfl) (argsL := [(.int x0_0)]) (rest := [(.ref b15)]) (lenOf pd_4 rfl) rfl (by show 2 * 0 + _ ≤ _; exact Nat.le_of_eq rfl) (hb hby at_184) (fun _ _ => ⟨rfl, rfl, (by decide : 1 + 1 ≤ _), (by decide : 4 + 1 ≤ _)⟩)
      dsimp only [Pt.U, Pt.locs, Pt.cells, Pt.slots] at X27 l27 y27 z27 st27 hQ27
      subst l27 y27 z27
      obtain ⟨r27, rfl, N27q, K27, Ex27⟩ := hQ27
      have N27 := Fr.app N16 N27q
      have Zs27 : n0 ≤ T27.heap.size := Nat.le_trans Zs16 K27.1
      have Ol27 : Old Z n0 T27.heap := (Ol16).keep K27 all0
      have c29 := (Exa.keep Ex16 K27)
      have sg31 : ∀ t, Steps p.tables e below (T27.setTop (mkF m 187 #[.val (.int x0_0), .val (.long x0_1), .second, .val (.int x0_2), .val (.int x0_3), .val (.int x0_4), .val (.int x0_5), .val (.int v7), .val (.int v25), .val (.int v40), .val (.long v67), .second, .val (.int v89), .val (.int v119), .val (.ref b15), .val (.int v142), .unset, .unset] [(.ref r27), (.ref b15)])) t → Steps p.tables e below (T16.setTop (mkF m 184 #[.val (.int x0_0), .val (.long x0_1), .second, .val (.int x0_2), .val (.int x0_3), .val (.int x0_4), .val (.int x0_5), .val (.int v7), .val (.int v25), .val (.int v40), .val (.long v67), .second, .val (.int v89), .val (.int v119), .val (.ref b15), .val (.int v142), .unset, .unset] [(.int x0_0), (.ref b15)])) t := fun t kt => by
        show Steps p.tables e below (T16.setTop (mkF m 184 #[.val (.int x0_0), .val (.long x0_1), .second, .val (.int x0_2), .val (.int x0_3), .val (.int x0_4), .val (.int x0_5), .val (.int v7), .val (.int v25), .val (.int v40), .val (.long v67), .second, .val (.int v89), .val (.int v119), .val (.ref b15), .val (.int v142), .unset, .unset] [(.int x0_0), (.ref b15)])) _
        refine st27 _ ?_
        exact kt
      obtain ⟨cq30, kq30, q30a, q30b, q30c⟩ := isOf hZ rfl c29
      obtain ⟨v30, _, ⟨T30, L30, k30, n30⟩, -, X30, ⟨Lc30, hQ30, l30, y30, z30⟩, st30⟩ := X27.virtualBack hx (y := (⟨"com/example/libdmutex/libdmutex/core/SplitToken$Waiter", "equals", "(Ljava/lang/Object;)Z"⟩ : MethodName)) (z := (⟨"com/example/libdmutex/libdmutex/core/SplitToken$Waiter", "equals", "(Ljava/lang/Object;)Z"⟩ : MethodName)) hown (mvT hZ (hw _ (List.mem_of_getElem? (i := 18) rfl))) (mvT hZ (hw _ (List.mem_of_getElem? (i := 19) rfl))) (notFace_of_selects (args := #[]) (mvT hZ (hw _ (List.mem_of_getElem? (i := 21) rfl)))) (mvT hZ (hw _ (List.mem_of_getElem? (i := 21) rfl))) (mvT hZ (hw _ (List.mem_of_getElem? (i := 20) rfl))) (by decide) (backOf (W := 0) (rm3i l Z a0 hw [] b15 r27 T27.heap n0 Zs27 Ex27) hZ (hw _ (List.mem_of_getElem? (i := 22) rfl)) (hw _ (List.mem_of_getElem? (i := 3) rfl)) (by decide) (by decide)) q30a q30c (g := (mkF m 187 #[.val (.int x0_0), .val (.long x0_1), .second, .val (.int x0_2), .val (.int x0_3), .val (.int x0_4), .val (.int x0_5), .val (.int v7), .val (.int v25), .val (.int v40), .val (.long v67), .second, .val (.int v89), .val (.int v119), .val (.ref b15), .val (.int v142), .unset, .unset] [(.ref r27), (.ref b15)])) rfl (by rw [hml]; rfl) (Steps.refl _) (argsL := [(.ref r27)]) (rest := []) (lenOf pd_3 rfl) rfl (by show 2 * 0 + _ ≤ _; exact Nat.le_of_eq rfl) (hb hby at_187) (fun _ _ => ⟨rfl, rfl, (by decide : 2 + 0 ≤ _), (by decide : 5 + 0 ≤ _)⟩)
      dsimp only [Pt.U, Pt.locs, Pt.cells, Pt.slots] at X30 l30 y30 z30 st30 hQ30
      subst l30 y30 z30
      obtain ⟨hv30, N30q, e30⟩ := hQ30
      have N30 := Fr.app N27 N30q
      have hf30 : f3i b15 r27 = (0 : Int32) := rfl
      rw [hf30] at hv30
      subst hv30
      have c32 := (Fld.keep Fq16_peer K27 nin0)
      have c33 := (Fld.keep Fq16_ticket K27 nin0)
      have c34 := (Fld.keep Fq16_position K27 nin0)
      have c35 := (Fld.keep Fq16_to K27 nin0)
      have sg37 : ∀ t, Steps p.tables e below (T30.setTop (mkF m 197 #[.val (.int x0_0), .val (.long x0_1), .second, .val (.int x0_2), .val (.int x0_3), .val (.int x0_4), .val (.int x0_5), .val (.int v7), .val (.int v25), .val (.int v40), .val (.long v67), .second, .val (.int v89), .val (.int v119), .val (.ref b15), .val (.int v142), .unset, .unset] [(.ref b15), (.ref b15)])) t → Steps p.tables e below (T27.setTop (mkF m 187 #[.val (.int x0_0), .val (.long x0_1), .second, .val (.int x0_2), .val (.int x0_3), .val (.int x0_4), .val (.int x0_5), .val (.int v7), .val (.int v25), .val (.int v40), .val (.long v67), .second, .val (.int v89), .val (.int v119), .val (.ref b15), .val (.int v142), .unset, .unset] [(.ref r27), (.ref b15)])) t := fun t kt => by
        show Steps p.tables e below (T27.setTop (mkF m 187 #[.val (.int x0_0), .val (.long x0_1), .second, .val (.int x0_2), .val (.int x0_3), .val (.int x0_4), .val (.int x0_5), .val (.int v7), .val (.int v25), .val (.int v40), .val (.long v67), .second, .val (.int v89), .val (.int v119), .val (.ref b15), .val (.int v142), .unset, .unset] [(.ref r27), (.ref b15)])) _
        refine st30.trans ?_
        show Steps p.tables e below (T30.setTop (mkF m 190 #[.val (.int x0_0), .val (.long x0_1), .second, .val (.int x0_2), .val (.int x0_3), .val (.int x0_4), .val (.int x0_5), .val (.int v7), .val (.int v25), .val (.int v40), .val (.long v67), .second, .val (.int v89), .val (.int v119), .val (.ref b15), .val (.int v142), .unset, .unset] [(.int (0 : Int32))])) _
        refine XS.ifNo X30.here hx rfl (hb hby at_190) rfl ((if0 _ _).trans (teq (by decide : ((0 : Int32) = (0 : Int32)))).2) ?_
        show Steps p.tables e below (T30.setTop (mkF m 193 #[.val (.int x0_0), .val (.long x0_1), .second, .val (.int x0_2), .val (.int x0_3), .val (.int x0_4), .val (.int x0_5), .val (.int v7), .val (.int v25), .val (.int v40), .val (.long v67), .second, .val (.int v89), .val (.int v119), .val (.ref b15), .val (.int v142), .unset, .unset] [])) _
        refine XS.aload X30.here hx rfl (hb hby at_193) rfl rfl ?_
        show Steps p.tables e below (T30.setTop (mkF m 195 #[.val (.int x0_0), .val (.long x0_1), .second, .val (.int x0_2), .val (.int x0_3), .val (.int x0_4), .val (.int x0_5), .val (.int v7), .val (.int v25), .val (.int v40), .val (.long v67), .second, .val (.int v89), .val (.int v119), .val (.ref b15), .val (.int v142), .unset, .unset] [(.ref b15)])) _
        refine XS.aload X30.here hx rfl (hb hby at_195) rfl rfl ?_
        exact kt
      obtain ⟨cq36, kq36, q36a, q36b, q36c⟩ := isOf hZ e30 c29
      obtain ⟨v36, _, ⟨T36, L36, k36, n36⟩, -, X36, ⟨Lc36, hQ36, l36, y36, z36⟩, st36⟩ := X30.virtualBack hx (y := (⟨"com/example/libdmutex/libdmutex/core/SplitToken$Waiter", "equals", "(Ljava/lang/Object;)Z"⟩ : MethodName)) (z := (⟨"com/example/libdmutex/libdmutex/core/SplitToken$Waiter", "equals", "(Ljava/lang/Object;)Z"⟩ : MethodName)) hown (mvT hZ (hw _ (List.mem_of_getElem? (i := 18) rfl))) (mvT hZ (hw _ (List.mem_of_getElem? (i := 19) rfl))) (notFace_of_selects (args := #[]) (mvT hZ (hw _ (List.mem_of_getElem? (i := 21) rfl)))) (mvT hZ (hw _ (List.mem_of_getElem? (i := 21) rfl))) (mvT hZ (hw _ (List.mem_of_getElem? (i := 20) rfl))) (by decide) (backOf (W := 0) (rm3o l Z a0 hw [] b15 b15 x0_0 x0_1 v7 v25 x0_0 x0_1 v7 v25 T27.heap n0 Zs27 c29 c29 c32 c33 c34 c35 c32 c33 c34 c35) hZ (hw _ (List.mem_of_getElem? (i := 22) rfl)) (hw _ (List.mem_of_getElem? (i := 3) rfl)) (by decide) (by decide)) q36a q36c (g := (mkF m 197 #[.val (.int x0_0), .val (.long x0_1), .second, .val (.int x0_2), .val (.int x0_3), .val (.int x0_4), .val (.int x0_5), .val (.int v7), .val (.int v25), .val (.int v40), .val (.long v67), .second, .val (.int v89), .val (.int v119), .val (.ref b15), .val (.int v142), .unset, .unset] [(.ref b15), (.ref b15)])) rfl (by rw [hml]; rfl) (Steps.refl _) (argsL := [(.ref b15)]) (rest := []) (lenOf pd_3 rfl) rfl (by show 2 * 0 + _ ≤ _; exact Nat.le_of_eq rfl) (hb hby at_197) (fun _ _ => ⟨rfl, e30, (by decide : 2 + 0 ≤ _), (by decide : 5 + 0 ≤ _)⟩)
      dsimp only [Pt.U, Pt.locs, Pt.cells, Pt.slots] at X36 l36 y36 z36 st36 hQ36
      subst l36 y36 z36
      obtain ⟨hv36, N36q, e36⟩ := hQ36
      have N36 := Fr.app N30 N36q
      have hf36 : f3o b15 b15 x0_0 x0_1 v7 v25 x0_0 x0_1 v7 v25 = (1 : Int32) := by unfold f3o; rw [if_pos (rfl : x0_0 = x0_0), if_pos (rfl : x0_1 = x0_1), if_pos (rfl : v7 = v7), if_pos (rfl : v25 = v25)]
      rw [hf36] at hv36
      subst hv36
      obtain ⟨fs, hr, hrun, hended, hW, hsame⟩ := X36.leave (v := some (.int (1 : Int32))) (fun h => by rw [Bd.returns] at h; cases h)
      refine ⟨_, _, pre0 _ (sg1 _ (sg2 _ (sg3 _ (sg4 _ (sg5 _ (sg6 _ (sg7 _ (sg8 _ (sg9 _ (sg10 _ (sg11 _ (sg12 _ (sg13 _ (sg14 _ (sg17 _ (sg18 _ (sg19 _ (sg25 _ (sg28 _ (sg31 _ (sg37 _ ?_))))))))))))))))))))), hrun, hended, _, _, rfl, ?_, ⟨_, rfl⟩, hW, hsame.mono (by decide) (by decide)⟩
      · show Steps p.tables e below (T30.setTop (mkF m 197 #[.val (.int x0_0), .val (.long x0_1), .second, .val (.int x0_2), .val (.int x0_3), .val (.int x0_4), .val (.int x0_5), .val (.int v7), .val (.int v25), .val (.int v40), .val (.long v67), .second, .val (.int v89), .val (.int v119), .val (.ref b15), .val (.int v142), .unset, .unset] [(.ref b15), (.ref b15)])) _
        refine st36.trans ?_
        show Steps p.tables e below (T36.setTop (mkF m 200 #[.val (.int x0_0), .val (.long x0_1), .second, .val (.int x0_2), .val (.int x0_3), .val (.int x0_4), .val (.int x0_5), .val (.int v7), .val (.int v25), .val (.int v40), .val (.long v67), .second, .val (.int v89), .val (.int v119), .val (.ref b15), .val (.int v142), .unset, .unset] [(.int (1 : Int32))])) _
        refine XS.ifNo X36.here hx rfl (hb hby at_200) rfl ((if0 _ _).trans (feq (by decide : ¬ ((1 : Int32) = (0 : Int32)))).1) ?_
        show Steps p.tables e below (T36.setTop (mkF m 203 #[.val (.int x0_0), .val (.long x0_1), .second, .val (.int x0_2), .val (.int x0_3), .val (.int x0_4), .val (.int x0_5), .val (.int v7), .val (.int v25), .val (.int v40), .val (.long v67), .second, .val (.int v89), .val (.int v119), .val (.ref b15), .val (.int v142), .unset, .unset] [])) _
        refine XS.iconst X36.here hx rfl (hb hby at_203) ?_
        show Steps p.tables e below (T36.setTop (mkF m 204 #[.val (.int x0_0), .val (.long x0_1), .second, .val (.int x0_2), .val (.int x0_3), .val (.int x0_4), .val (.int x0_5), .val (.int v7), .val (.int v25), .val (.int v40), .val (.long v67), .second, .val (.int v89), .val (.int v119), .val (.ref b15), .val (.int v142), .unset, .unset] [(.int (1 : Int32))])) _
        refine XS.goto X36.here hx rfl (pc0 := 204) (pc' := 208) rfl (hb hby at_204) (by decide) (by decide) ?_
        show Steps p.tables e below (T36.setTop (mkF m 208 #[.val (.int x0_0), .val (.long x0_1), .second, .val (.int x0_2), .val (.int x0_3), .val (.int x0_4), .val (.int x0_5), .val (.int v7), .val (.int v25), .val (.int v40), .val (.long v67), .second, .val (.int v89), .val (.int v119), .val (.ref b15), .val (.int v142), .unset, .unset] [(.int (1 : Int32))])) _
        exact retN X36 hx (t := .boolean) Bd.returns (by simp) (hb hby at_208) hr
      · show Q0 Z x0_0 x0_1 x0_2 x0_3 x0_4 x0_5 cA cl h0 n0 _ T36.heap _
        rw [e36]
        exact ⟨rfl, N36⟩
    · obtain ⟨T38, h38, X38, e38, E38, A38, D38, -, st38⟩ := newO X16 hx hZ hown (hw _ (List.mem_of_getElem? (i := 1) rfl)) (hw _ (List.mem_of_getElem? (i := 2) rfl)) (hw _ (List.mem_of_getElem? (i := 3) rfl)) rfl (g := (mkF m 209 #[.val (.int x0_0), .val (.long x0_1), .second, .val (.int x0_2), .val (.int x0_3), .val (.int x0_4), .val (.int x0_5), .val (.int v7), .val (.int v25), .val (.int v40), .val (.long v67), .second, .val (.int v89), .val (.int v119), .val (.ref b15), .val (.int v142), .unset, .unset] [])) rfl (hb hby at_209) (by decide) (by decide)
      obtain ⟨b38, g38⟩ : ∃ z, z = T16.heap.size := ⟨_, rfl⟩
      rw [← g38] at A38 D38 st38
      have g_b38 : n0 ≤ b38 := Nat.le_trans Zs16 (Nat.le_of_eq g38.symm)
      have ne_b15_b38 : b15 ≠ b38 := Nat.ne_of_lt (Nat.lt_of_lt_of_le Ex16.lt (Nat.le_of_eq g38.symm))
      have Zs38 : n0 ≤ h38.size := Nat.le_trans Zs16 E38.1
      have Ol38 : Old Z n0 h38 := (Ol16).ext E38
      have F_peer_b38 : Fld Z h38 b38 "com/example/libdmutex/libdmutex/core/SplitToken$Waiter" "peer" "I" (.int (0 : Int32)) := D38 (Or.inr (hw _ (List.mem_of_getElem? (i := 11) rfl))) (ty := .int) (by decide)
      have F_ticket_b38 : Fld Z h38 b38 "com/example/libdmutex/libdmutex/core/SplitToken$Waiter" "ticket" "J" (.long (0 : Int64)) := D38 (Or.inr (hw _ (List.mem_of_getElem? (i := 13) rfl))) (ty := .long) (by decide)
      have F_position_b38 : Fld Z h38 b38 "com/example/libdmutex/libdmutex/core/SplitToken$Waiter" "position" "I" (.int (0 : Int32)) := D38 (Or.inr (hw _ (List.mem_of_getElem? (i := 15) rfl))) (ty := .int) (by decide)
      have F_to_b38 : Fld Z h38 b38 "com/example/libdmutex/libdmutex/core/SplitToken$Waiter" "to" "I" (.int (0 : Int32)) := D38 (Or.inr (hw _ (List.mem_of_getElem? (i := 17) rfl))) (ty := .int) (by decide)
      have sg40 : ∀ t, Steps p.tables e below (T38.setTop (mkF m 221 #[.val (.int x0_0), .val (.long x0_1), .second, .val (.int x0_2), .val (.int x0_3), .val (.int x0_4), .val (.int x0_5), .val (.int v7), .val (.int v25), .val (.int v40), .val (.long v67), .second, .val (.int v89), .val (.int v119), .val (.ref b15), .val (.int v142), .unset, .unset] [(.int v119), (.int v89), (.long v67), (.int v40), (.ref b38), (.ref b38)])) t → Steps p.tables e below (T16.setTop (mkF m 178 #[.val (.int x0_0), .val (.long x0_1), .second, .val (.int x0_2), .val (.int x0_3), .val (.int x0_4), .val (.int x0_5), .val (.int v7), .val (.int v25), .val (.int v40), .val (.long v67), .second, .val (.int v89), .val (.int v119), .val (.ref b15), .val (.int v142), .unset, .unset] [(.int (3 : Int32)), (.int v142)])) t := fun t kt => by
        show Steps p.tables e below (T16.setTop (mkF m 178 #[.val (.int x0_0), .val (.long x0_1), .second, .val (.int x0_2), .val (.int x0_3), .val (.int x0_4), .val (.int x0_5), .val (.int v7), .val (.int v25), .val (.int v40), .val (.long v67), .second, .val (.int v89), .val (.int v119), .val (.ref b15), .val (.int v142), .unset, .unset] [(.int (3 : Int32)), (.int v142)])) _
        refine XS.icmpYes X16.here hx rfl (pc0 := 178) (pc' := 209) rfl (hb hby at_178) rfl (feq hc178_26).2 (by decide) (by decide) ?_
        show Steps p.tables e below (T16.setTop (mkF m 209 #[.val (.int x0_0), .val (.long x0_1), .second, .val (.int x0_2), .val (.int x0_3), .val (.int x0_4), .val (.int x0_5), .val (.int v7), .val (.int v25), .val (.int v40), .val (.long v67), .second, .val (.int v89), .val (.int v119), .val (.ref b15), .val (.int v142), .unset, .unset] [])) _
        refine st38 _ ?_
        show Steps p.tables e below (T38.setTop (mkF m 212 #[.val (.int x0_0), .val (.long x0_1), .second, .val (.int x0_2), .val (.int x0_3), .val (.int x0_4), .val (.int x0_5), .val (.int v7), .val (.int v25), .val (.int v40), .val (.long v67), .second, .val (.int v89), .val (.int v119), .val (.ref b15), .val (.int v142), .unset, .unset] [(.ref b38)])) _
        refine XS.dup X38.here hx rfl (hb hby at_212) rfl rfl ?_
        show Steps p.tables e below (T38.setTop (mkF m 213 #[.val (.int x0_0), .val (.long x0_1), .second, .val (.int x0_2), .val (.int x0_3), .val (.int x0_4), .val (.int x0_5), .val (.int v7), .val (.int v25), .val (.int v40), .val (.long v67), .second, .val (.int v89), .val (.int v119), .val (.ref b15), .val (.int v142), .unset, .unset] [(.ref b38), (.ref b38)])) _
        refine XS.iload X38.here hx rfl (hb hby at_213) rfl ?_
        show Steps p.tables e below (T38.setTop (mkF m 215 #[.val (.int x0_0), .val (.long x0_1), .second, .val (.int x0_2), .val (.int x0_3), .val (.int x0_4), .val (.int x0_5), .val (.int v7), .val (.int v25), .val (.int v40), .val (.long v67), .second, .val (.int v89), .val (.int v119), .val (.ref b15), .val (.int v142), .unset, .unset] [(.int v40), (.ref b38), (.ref b38)])) _
        refine XS.lload X38.here hx rfl (hb hby at_215) rfl ?_
        show Steps p.tables e below (T38.setTop (mkF m 217 #[.val (.int x0_0), .val (.long x0_1), .second, .val (.int x0_2), .val (.int x0_3), .val (.int x0_4), .val (.int x0_5), .val (.int v7), .val (.int v25), .val (.int v40), .val (.long v67), .second, .val (.int v89), .val (.int v119), .val (.ref b15), .val (.int v142), .unset, .unset] [(.long v67), (.int v40), (.ref b38), (.ref b38)])) _
        refine XS.iload X38.here hx rfl (hb hby at_217) rfl ?_
        show Steps p.tables e below (T38.setTop (mkF m 219 #[.val (.int x0_0), .val (.long x0_1), .second, .val (.int x0_2), .val (.int x0_3), .val (.int x0_4), .val (.int x0_5), .val (.int v7), .val (.int v25), .val (.int v40), .val (.long v67), .second, .val (.int v89), .val (.int v119), .val (.ref b15), .val (.int v142), .unset, .unset] [(.int v89), (.long v67), (.int v40), (.ref b38), (.ref b38)])) _
        refine XS.iload X38.here hx rfl (hb hby at_219) rfl ?_
        exact kt
      obtain ⟨v39, _, ⟨T39, L39, k39, n39⟩, -, X39, ⟨Lc39, hQ39, l39, y39, z39⟩, st39⟩ := X38.specialBack hx (y := (⟨"com/example/libdmutex/libdmutex/core/SplitToken$Waiter", "<init>", "(IJII)V"⟩ : MethodName)) rfl hown (mvT hZ (hw _ (List.mem_of_getElem? (i := 4) rfl))) (mvT hZ (hw _ (List.mem_of_getElem? (i := 5) rfl))) (mvT hZ (hw _ (List.mem_of_getElem? (i := 6) rfl))) (by decide) (backOf (W := 1) (rm1 l Z a0 hw [] b38 v40 v67 v89 v119 h38 n0 Zs38 A38 g_b38 F_peer_b38 F_ticket_b38 F_position_b38 F_to_b38 (own_lo v89 hq.1) (Int32.lt_iff_toInt_lt.mpr hr)) hZ (hw _ (List.mem_of_getElem? (i := 6) rfl)) (hw _ (List.mem_of_getElem? (i := 3) rfl)) (by decide) (by decide)) (g := (mkF m 221 #[.val (.int x0_0), .val (.long x0_1), .second, .val (.int x0_2), .val (.int x0_3), .val (.int x0_4), .val (.int x0_5), .val (.int v7), .val (.int v25), .val (.int v40), .val (.long v67), .second, .val (.int v89), .val (.int v119), .val (.ref b15), .val (.int v142), .unset, .unset] [(.int v119), (.int v89), (.long v67), (.int v40), (.ref b38), (.ref b38)])) rfl (by rw [hml]; rfl) (Steps.refl _) (a := b38) (argsL := [(.int v40), (.long v67), (.int v89), (.int v119)]) (rest := [(.ref b38)]) (lenOf pd_2 rfl) rfl (by show 2 * 0 + _ ≤ _; exact Nat.le_of_eq rfl) (hb hby at_221) (fun _ _ => ⟨rfl, e38, (by decide : 2 + 0 ≤ _), (by decide : 8 + 0 ≤ _)⟩)
      dsimp only [Pt.U, Pt.locs, Pt.cells, Pt.slots] at X39 l39 y39 z39 st39 hQ39
      subst l39 y39 z39
      obtain ⟨rfl, N39q, K39, Ex39, Fq39_peer, Fq39_ticket, Fq39_position, Fq39_to⟩ := hQ39
      have N39 := Fr.app N16 N39q
      have Zs39 : n0 ≤ T39.heap.size := Nat.le_trans Zs38 K39.1
      have Ol39 : Old Z n0 T39.heap := (Ol38).keep K39 (allS g_b38 all0)
      have sg41 : ∀ t, Steps p.tables e below (T39.setTop (mkF m 229 #[.val (.int x0_0), .val (.long x0_1), .second, .val (.int x0_2), .val (.int x0_3), .val (.int x0_4), .val (.int x0_5), .val (.int v7), .val (.int v25), .val (.int v40), .val (.long v67), .second, .val (.int v89), .val (.int v119), .val (.ref b15), .val (.int v142), .val (.ref b38), .unset] [(.int v40), (.int x0_0)])) t → Steps p.tables e below (T38.setTop (mkF m 221 #[.val (.int x0_0), .val (.long x0_1), .second, .val (.int x0_2), .val (.int x0_3), .val (.int x0_4), .val (.int x0_5), .val (.int v7), .val (.int v25), .val (.int v40), .val (.long v67), .second, .val (.int v89), .val (.int v119), .val (.ref b15), .val (.int v142), .unset, .unset] [(.int v119), (.int v89), (.long v67), (.int v40), (.ref b38), (.ref b38)])) t := fun t kt => by
        show Steps p.tables e below (T38.setTop (mkF m 221 #[.val (.int x0_0), .val (.long x0_1), .second, .val (.int x0_2), .val (.int x0_3), .val (.int x0_4), .val (.int x0_5), .val (.int v7), .val (.int v25), .val (.int v40), .val (.long v67), .second, .val (.int v89), .val (.int v119), .val (.ref b15), .val (.int v142), .unset, .unset] [(.int v119), (.int v89), (.long v67), (.int v40), (.ref b38), (.ref b38)])) _
        refine st39.trans ?_
        show Steps p.tables e below (T39.setTop (mkF m 224 #[.val (.int x0_0), .val (.long x0_1), .second, .val (.int x0_2), .val (.int x0_3), .val (.int x0_4), .val (.int x0_5), .val (.int v7), .val (.int v25), .val (.int v40), .val (.long v67), .second, .val (.int v89), .val (.int v119), .val (.ref b15), .val (.int v142), .unset, .unset] [(.ref b38)])) _
        refine XS.astore X39.here hx rfl (hb hby at_224) rfl rfl (l' := #[.val (.int x0_0), .val (.long x0_1), .second, .val (.int x0_2), .val (.int x0_3), .val (.int x0_4), .val (.int x0_5), .val (.int v7), .val (.int v25), .val (.int v40), .val (.long v67), .second, .val (.int v89), .val (.int v119), .val (.ref b15), .val (.int v142), .val (.ref b38), .unset]) rfl ?_
        show Steps p.tables e below (T39.setTop (mkF m 226 #[.val (.int x0_0), .val (.long x0_1), .second, .val (.int x0_2), .val (.int x0_3), .val (.int x0_4), .val (.int x0_5), .val (.int v7), .val (.int v25), .val (.int v40), .val (.long v67), .second, .val (.int v89), .val (.int v119), .val (.ref b15), .val (.int v142), .val (.ref b38), .unset] [])) _
        refine XS.iloadN X39.here hx rfl (hb hby at_226) rfl ?_
        show Steps p.tables e below (T39.setTop (mkF m 227 #[.val (.int x0_0), .val (.long x0_1), .second, .val (.int x0_2), .val (.int x0_3), .val (.int x0_4), .val (.int x0_5), .val (.int v7), .val (.int v25), .val (.int v40), .val (.long v67), .second, .val (.int v89), .val (.int v119), .val (.ref b15), .val (.int v142), .val (.ref b38), .unset] [(.int x0_0)])) _
        refine XS.iload X39.here hx rfl (hb hby at_227) rfl ?_
        exact kt
      by_cases hc229_42 : x0_0 = v40
      · have sg43 : ∀ t, Steps p.tables e below (T39.setTop (mkF m 236 #[.val (.int x0_0), .val (.long x0_1), .second, .val (.int x0_2), .val (.int x0_3), .val (.int x0_4), .val (.int x0_5), .val (.int v7), .val (.int v25), .val (.int v40), .val (.long v67), .second, .val (.int v89), .val (.int v119), .val (.ref b15), .val (.int v142), .val (.ref b38), .unset] [(.int (lcmpW x0_1 v67))])) t → Steps p.tables e below (T39.setTop (mkF m 229 #[.val (.int x0_0), .val (.long x0_1), .second, .val (.int x0_2), .val (.int x0_3), .val (.int x0_4), .val (.int x0_5), .val (.int v7), .val (.int v25), .val (.int v40), .val (.long v67), .second, .val (.int v89), .val (.int v119), .val (.ref b15), .val (.int v142), .val (.ref b38), .unset] [(.int v40), (.int x0_0)])) t := fun t kt => by
          show Steps p.tables e below (T39.setTop (mkF m 229 #[.val (.int x0_0), .val (.long x0_1), .second, .val (.int x0_2), .val (.int x0_3), .val (.int x0_4), .val (.int x0_5), .val (.int v7), .val (.int v25), .val (.int v40), .val (.long v67), .second, .val (.int v89), .val (.int v119), .val (.ref b15), .val (.int v142), .val (.ref b38), .unset] [(.int v40), (.int x0_0)])) _
          refine XS.icmpNo X39.here hx rfl (hb hby at_229) rfl (teq hc229_42).2 ?_
          show Steps p.tables e below (T39.setTop (mkF m 232 #[.val (.int x0_0), .val (.long x0_1), .second, .val (.int x0_2), .val (.int x0_3), .val (.int x0_4), .val (.int x0_5), .val (.int v7), .val (.int v25), .val (.int v40), .val (.long v67), .second, .val (.int v89), .val (.int v119), .val (.ref b15), .val (.int v142), .val (.ref b38), .unset] [])) _
          refine XS.lloadN X39.here hx rfl (hb hby at_232) rfl ?_
          show Steps p.tables e below (T39.setTop (mkF m 233 #[.val (.int x0_0), .val (.long x0_1), .second, .val (.int x0_2), .val (.int x0_3), .val (.int x0_4), .val (.int x0_5), .val (.int v7), .val (.int v25), .val (.int v40), .val (.long v67), .second, .val (.int v89), .val (.int v119), .val (.ref b15), .val (.int v142), .val (.ref b38), .unset] [(.long x0_1)])) _
          refine XS.lload X39.here hx rfl (hb hby at_233) rfl ?_
          show Steps p.tables e below (T39.setTop (mkF m 235 #[.val (.int x0_0), .val (.long x0_1), .second, .val (.int x0_2), .val (.int x0_3), .val (.int x0_4), .val (.int x0_5), .val (.int v7), .val (.int v25), .val (.int v40), .val (.long v67), .second, .val (.int v89), .val (.int v119), .val (.ref b15), .val (.int v142), .val (.ref b38), .unset] [(.long v67), (.long x0_1)])) _
          refine XS.lcmp X39.here hx rfl (hb hby at_235) rfl ?_
          exact kt
        by_cases hc236_44 : x0_1 = v67
        · have sg45 : ∀ t, Steps p.tables e below (T39.setTop (mkF m 243 #[.val (.int x0_0), .val (.long x0_1), .second, .val (.int x0_2), .val (.int x0_3), .val (.int x0_4), .val (.int x0_5), .val (.int v7), .val (.int v25), .val (.int v40), .val (.long v67), .second, .val (.int v89), .val (.int v119), .val (.ref b15), .val (.int v142), .val (.ref b38), .unset] [(.int v89), (.int v7)])) t → Steps p.tables e below (T39.setTop (mkF m 236 #[.val (.int x0_0), .val (.long x0_1), .second, .val (.int x0_2), .val (.int x0_3), .val (.int x0_4), .val (.int x0_5), .val (.int v7), .val (.int v25), .val (.int v40), .val (.long v67), .second, .val (.int v89), .val (.int v119), .val (.ref b15), .val (.int v142), .val (.ref b38), .unset] [(.int (lcmpW x0_1 v67))])) t := fun t kt => by
            show Steps p.tables e below (T39.setTop (mkF m 236 #[.val (.int x0_0), .val (.long x0_1), .second, .val (.int x0_2), .val (.int x0_3), .val (.int x0_4), .val (.int x0_5), .val (.int v7), .val (.int v25), .val (.int v40), .val (.long v67), .second, .val (.int v89), .val (.int v119), .val (.ref b15), .val (.int v142), .val (.ref b38), .unset] [(.int (lcmpW x0_1 v67))])) _
            refine XS.ifNo X39.here hx rfl (hb hby at_236) rfl ((if0 _ _).trans (teq ((lw_eq _ _).mpr hc236_44)).2) ?_
            show Steps p.tables e below (T39.setTop (mkF m 239 #[.val (.int x0_0), .val (.long x0_1), .second, .val (.int x0_2), .val (.int x0_3), .val (.int x0_4), .val (.int x0_5), .val (.int v7), .val (.int v25), .val (.int v40), .val (.long v67), .second, .val (.int v89), .val (.int v119), .val (.ref b15), .val (.int v142), .val (.ref b38), .unset] [])) _
            refine XS.iload X39.here hx rfl (hb hby at_239) rfl ?_
            show Steps p.tables e below (T39.setTop (mkF m 241 #[.val (.int x0_0), .val (.long x0_1), .second, .val (.int x0_2), .val (.int x0_3), .val (.int x0_4), .val (.int x0_5), .val (.int v7), .val (.int v25), .val (.int v40), .val (.long v67), .second, .val (.int v89), .val (.int v119), .val (.ref b15), .val (.int v142), .val (.ref b38), .unset] [(.int v7)])) _
            refine XS.iload X39.here hx rfl (hb hby at_241) rfl ?_
            exact kt
          by_cases hc243_46 : v7 = v89
          · have sg47 : ∀ t, Steps p.tables e below (T39.setTop (mkF m 250 #[.val (.int x0_0), .val (.long x0_1), .second, .val (.int x0_2), .val (.int x0_3), .val (.int x0_4), .val (.int x0_5), .val (.int v7), .val (.int v25), .val (.int v40), .val (.long v67), .second, .val (.int v89), .val (.int v119), .val (.ref b15), .val (.int v142), .val (.ref b38), .unset] [(.int v119), (.int v25)])) t → Steps p.tables e below (T39.setTop (mkF m 243 #[.val (.int x0_0), .val (.long x0_1), .second, .val (.int x0_2), .val (.int x0_3), .val (.int x0_4), .val (.int x0_5), .val (.int v7), .val (.int v25), .val (.int v40), .val (.long v67), .second, .val (.int v89), .val (.int v119), .val (.ref b15), .val (.int v142), .val (.ref b38), .unset] [(.int v89), (.int v7)])) t := fun t kt => by
              show Steps p.tables e below (T39.setTop (mkF m 243 #[.val (.int x0_0), .val (.long x0_1), .second, .val (.int x0_2), .val (.int x0_3), .val (.int x0_4), .val (.int x0_5), .val (.int v7), .val (.int v25), .val (.int v40), .val (.long v67), .second, .val (.int v89), .val (.int v119), .val (.ref b15), .val (.int v142), .val (.ref b38), .unset] [(.int v89), (.int v7)])) _
              refine XS.icmpNo X39.here hx rfl (hb hby at_243) rfl (teq hc243_46).2 ?_
              show Steps p.tables e below (T39.setTop (mkF m 246 #[.val (.int x0_0), .val (.long x0_1), .second, .val (.int x0_2), .val (.int x0_3), .val (.int x0_4), .val (.int x0_5), .val (.int v7), .val (.int v25), .val (.int v40), .val (.long v67), .second, .val (.int v89), .val (.int v119), .val (.ref b15), .val (.int v142), .val (.ref b38), .unset] [])) _
              refine XS.iload X39.here hx rfl (hb hby at_246) rfl ?_
              show Steps p.tables e below (T39.setTop (mkF m 248 #[.val (.int x0_0), .val (.long x0_1), .second, .val (.int x0_2), .val (.int x0_3), .val (.int x0_4), .val (.int x0_5), .val (.int v7), .val (.int v25), .val (.int v40), .val (.long v67), .second, .val (.int v89), .val (.int v119), .val (.ref b15), .val (.int v142), .val (.ref b38), .unset] [(.int v25)])) _
              refine XS.iload X39.here hx rfl (hb hby at_248) rfl ?_
              exact kt
            by_cases hc250_48 : v25 = v119
            · have c49 := (Exa.keep (Exa.ext E38 Ex16) K39)
              have c50 := (Fld.keep (Fld.ext E38 Fq16_peer) K39 (ninS ne_b15_b38 nin0))
              have c51 := (Fld.keep (Fld.ext E38 Fq16_ticket) K39 (ninS ne_b15_b38 nin0))
              have c52 := (Fld.keep (Fld.ext E38 Fq16_position) K39 (ninS ne_b15_b38 nin0))
              have c53 := (Fld.keep (Fld.ext E38 Fq16_to) K39 (ninS ne_b15_b38 nin0))
              have sg55 : ∀ t, Steps p.tables e below (T39.setTop (mkF m 264 #[.val (.int x0_0), .val (.long x0_1), .second, .val (.int x0_2), .val (.int x0_3), .val (.int x0_4), .val (.int x0_5), .val (.int v7), .val (.int v25), .val (.int v40), .val (.long v67), .second, .val (.int v89), .val (.int v119), .val (.ref b15), .val (.int v142), .val (.ref b38), .val (.int (1 : Int32))] [(.ref b38), (.ref b15)])) t → Steps p.tables e below (T39.setTop (mkF m 250 #[.val (.int x0_0), .val (.long x0_1), .second, .val (.int x0_2), .val (.int x0_3), .val (.int x0_4), .val (.int x0_5), .val (.int v7), .val (.int v25), .val (.int v40), .val (.long v67), .second, .val (.int v89), .val (.int v119), .val (.ref b15), .val (.int v142), .val (.ref b38), .unset] [(.int v119), (.int v25)])) t := fun t kt => by
                show Steps p.tables e below (T39.setTop (mkF m 250 #[.val (.int x0_0), .val (.long x0_1), .second, .val (.int x0_2), .val (.int x0_3), .val (.int x0_4), .val (.int x0_5), .val (.int v7), .val (.int v25), .val (.int v40), .val (.long v67), .second, .val (.int v89), .val (.int v119), .val (.ref b15), .val (.int v142), .val (.ref b38), .unset] [(.int v119), (.int v25)])) _
                refine XS.icmpNo X39.here hx rfl (hb hby at_250) rfl (teq hc250_48).2 ?_
                show Steps p.tables e below (T39.setTop (mkF m 253 #[.val (.int x0_0), .val (.long x0_1), .second, .val (.int x0_2), .val (.int x0_3), .val (.int x0_4), .val (.int x0_5), .val (.int v7), .val (.int v25), .val (.int v40), .val (.long v67), .second, .val (.int v89), .val (.int v119), .val (.ref b15), .val (.int v142), .val (.ref b38), .unset] [])) _
                refine XS.iconst X39.here hx rfl (hb hby at_253) ?_
                show Steps p.tables e below (T39.setTop (mkF m 254 #[.val (.int x0_0), .val (.long x0_1), .second, .val (.int x0_2), .val (.int x0_3), .val (.int x0_4), .val (.int x0_5), .val (.int v7), .val (.int v25), .val (.int v40), .val (.long v67), .second, .val (.int v89), .val (.int v119), .val (.ref b15), .val (.int v142), .val (.ref b38), .unset] [(.int (1 : Int32))])) _
                refine XS.goto X39.here hx rfl (pc0 := 254) (pc' := 258) rfl (hb hby at_254) (by decide) (by decide) ?_
                show Steps p.tables e below (T39.setTop (mkF m 258 #[.val (.int x0_0), .val (.long x0_1), .second, .val (.int x0_2), .val (.int x0_3), .val (.int x0_4), .val (.int x0_5), .val (.int v7), .val (.int v25), .val (.int v40), .val (.long v67), .second, .val (.int v89), .val (.int v119), .val (.ref b15), .val (.int v142), .val (.ref b38), .unset] [(.int (1 : Int32))])) _
                refine XS.istore X39.here hx rfl (hb hby at_258) rfl (l' := #[.val (.int x0_0), .val (.long x0_1), .second, .val (.int x0_2), .val (.int x0_3), .val (.int x0_4), .val (.int x0_5), .val (.int v7), .val (.int v25), .val (.int v40), .val (.long v67), .second, .val (.int v89), .val (.int v119), .val (.ref b15), .val (.int v142), .val (.ref b38), .val (.int (1 : Int32))]) rfl ?_
                show Steps p.tables e below (T39.setTop (mkF m 260 #[.val (.int x0_0), .val (.long x0_1), .second, .val (.int x0_2), .val (.int x0_3), .val (.int x0_4), .val (.int x0_5), .val (.int v7), .val (.int v25), .val (.int v40), .val (.long v67), .second, .val (.int v89), .val (.int v119), .val (.ref b15), .val (.int v142), .val (.ref b38), .val (.int (1 : Int32))] [])) _
                refine XS.aload X39.here hx rfl (hb hby at_260) rfl rfl ?_
                show Steps p.tables e below (T39.setTop (mkF m 262 #[.val (.int x0_0), .val (.long x0_1), .second, .val (.int x0_2), .val (.int x0_3), .val (.int x0_4), .val (.int x0_5), .val (.int v7), .val (.int v25), .val (.int v40), .val (.long v67), .second, .val (.int v89), .val (.int v119), .val (.ref b15), .val (.int v142), .val (.ref b38), .val (.int (1 : Int32))] [(.ref b15)])) _
                refine XS.aload X39.here hx rfl (hb hby at_262) rfl rfl ?_
                exact kt
              obtain ⟨cq54, kq54, q54a, q54b, q54c⟩ := isOf hZ rfl c49
              obtain ⟨v54, _, ⟨T54, L54, k54, n54⟩, -, X54, ⟨Lc54, hQ54, l54, y54, z54⟩, st54⟩ := X39.virtualBack hx (y := (⟨"com/example/libdmutex/libdmutex/core/SplitToken$Waiter", "equals", "(Ljava/lang/Object;)Z"⟩ : MethodName)) (z := (⟨"com/example/libdmutex/libdmutex/core/SplitToken$Waiter", "equals", "(Ljava/lang/Object;)Z"⟩ : MethodName)) hown (mvT hZ (hw _ (List.mem_of_getElem? (i := 18) rfl))) (mvT hZ (hw _ (List.mem_of_getElem? (i := 19) rfl))) (notFace_of_selects (args := #[]) (mvT hZ (hw _ (List.mem_of_getElem? (i := 21) rfl)))) (mvT hZ (hw _ (List.mem_of_getElem? (i := 21) rfl))) (mvT hZ (hw _ (List.mem_of_getElem? (i := 20) rfl))) (by decide) (backOf (W := 0) (rm3o l Z a0 hw [] b15 b38 x0_0 x0_1 v7 v25 v40 v67 v89 v119 T39.heap n0 Zs39 c49 Ex39 c50 c51 c52 c53 Fq39_peer Fq39_ticket Fq39_position Fq39_to) hZ (hw _ (List.mem_of_getElem? (i := 22) rfl)) (hw _ (List.mem_of_getElem? (i := 3) rfl)) (by decide) (by decide)) q54a q54c (g := (mkF m 264 #[.val (.int x0_0), .val (.long x0_1), .second, .val (.int x0_2), .val (.int x0_3), .val (.int x0_4), .val (.int x0_5), .val (.int v7), .val (.int v25), .val (.int v40), .val (.long v67), .second, .val (.int v89), .val (.int v119), .val (.ref b15), .val (.int v142), .val (.ref b38), .val (.int (1 : Int32))] [(.ref b38), (.ref b15)])) rfl (by rw [hml]; rfl) (Steps.refl _) (argsL := [(.ref b38)]) (rest := []) (lenOf pd_3 rfl) rfl (by show 2 * 0 + _ ≤ _; exact Nat.le_of_eq rfl) (hb hby at_264) (fun _ _ => ⟨rfl, rfl, (by decide : 2 + 0 ≤ _), (by decide : 8 + 0 ≤ _)⟩)
              dsimp only [Pt.U, Pt.locs, Pt.cells, Pt.slots] at X54 l54 y54 z54 st54 hQ54
              subst l54 y54 z54
              obtain ⟨hv54, N54q, e54⟩ := hQ54
              have N54 := Fr.app N39 N54q
              have hf54 : f3o b15 b38 x0_0 x0_1 v7 v25 v40 v67 v89 v119 = (1 : Int32) := by unfold f3o; rw [if_pos hc229_42, if_pos hc236_44, if_pos hc243_46, if_pos hc250_48]
              rw [hf54] at hv54
              subst hv54
              have sg57 : ∀ t, Steps p.tables e below (T54.setTop (mkF m 276 #[.val (.int x0_0), .val (.long x0_1), .second, .val (.int x0_2), .val (.int x0_3), .val (.int x0_4), .val (.int x0_5), .val (.int v7), .val (.int v25), .val (.int v40), .val (.long v67), .second, .val (.int v89), .val (.int v119), .val (.ref b15), .val (.int v142), .val (.ref b38), .val (.int (1 : Int32))] [(.ref b15), (.ref b38)])) t → Steps p.tables e below (T39.setTop (mkF m 264 #[.val (.int x0_0), .val (.long x0_1), .second, .val (.int x0_2), .val (.int x0_3), .val (.int x0_4), .val (.int x0_5), .val (.int v7), .val (.int v25), .val (.int v40), .val (.long v67), .second, .val (.int v89), .val (.int v119), .val (.ref b15), .val (.int v142), .val (.ref b38), .val (.int (1 : Int32))] [(.ref b38), (.ref b15)])) t := fun t kt => by
                show Steps p.tables e below (T39.setTop (mkF m 264 #[.val (.int x0_0), .val (.long x0_1), .second, .val (.int x0_2), .val (.int x0_3), .val (.int x0_4), .val (.int x0_5), .val (.int v7), .val (.int v25), .val (.int v40), .val (.long v67), .second, .val (.int v89), .val (.int v119), .val (.ref b15), .val (.int v142), .val (.ref b38), .val (.int (1 : Int32))] [(.ref b38), (.ref b15)])) _
                refine st54.trans ?_
                show Steps p.tables e below (T54.setTop (mkF m 267 #[.val (.int x0_0), .val (.long x0_1), .second, .val (.int x0_2), .val (.int x0_3), .val (.int x0_4), .val (.int x0_5), .val (.int v7), .val (.int v25), .val (.int v40), .val (.long v67), .second, .val (.int v89), .val (.int v119), .val (.ref b15), .val (.int v142), .val (.ref b38), .val (.int (1 : Int32))] [(.int (1 : Int32))])) _
                refine XS.iload X54.here hx rfl (hb hby at_267) rfl ?_
                show Steps p.tables e below (T54.setTop (mkF m 269 #[.val (.int x0_0), .val (.long x0_1), .second, .val (.int x0_2), .val (.int x0_3), .val (.int x0_4), .val (.int x0_5), .val (.int v7), .val (.int v25), .val (.int v40), .val (.long v67), .second, .val (.int v89), .val (.int v119), .val (.ref b15), .val (.int v142), .val (.ref b38), .val (.int (1 : Int32))] [(.int (1 : Int32)), (.int (1 : Int32))])) _
                refine XS.icmpNo X54.here hx rfl (hb hby at_269) rfl (teq (by decide : ((1 : Int32) = (1 : Int32)))).2 ?_
                show Steps p.tables e below (T54.setTop (mkF m 272 #[.val (.int x0_0), .val (.long x0_1), .second, .val (.int x0_2), .val (.int x0_3), .val (.int x0_4), .val (.int x0_5), .val (.int v7), .val (.int v25), .val (.int v40), .val (.long v67), .second, .val (.int v89), .val (.int v119), .val (.ref b15), .val (.int v142), .val (.ref b38), .val (.int (1 : Int32))] [])) _
                refine XS.aload X54.here hx rfl (hb hby at_272) rfl rfl ?_
                show Steps p.tables e below (T54.setTop (mkF m 274 #[.val (.int x0_0), .val (.long x0_1), .second, .val (.int x0_2), .val (.int x0_3), .val (.int x0_4), .val (.int x0_5), .val (.int v7), .val (.int v25), .val (.int v40), .val (.long v67), .second, .val (.int v89), .val (.int v119), .val (.ref b15), .val (.int v142), .val (.ref b38), .val (.int (1 : Int32))] [(.ref b38)])) _
                refine XS.aload X54.here hx rfl (hb hby at_274) rfl rfl ?_
                exact kt
              obtain ⟨cq56, kq56, q56a, q56b, q56c⟩ := isOf hZ e54 Ex39
              obtain ⟨v56, _, ⟨T56, L56, k56, n56⟩, -, X56, ⟨Lc56, hQ56, l56, y56, z56⟩, st56⟩ := X54.virtualBack hx (y := (⟨"com/example/libdmutex/libdmutex/core/SplitToken$Waiter", "equals", "(Ljava/lang/Object;)Z"⟩ : MethodName)) (z := (⟨"com/example/libdmutex/libdmutex/core/SplitToken$Waiter", "equals", "(Ljava/lang/Object;)Z"⟩ : MethodName)) hown (mvT hZ (hw _ (List.mem_of_getElem? (i := 18) rfl))) (mvT hZ (hw _ (List.mem_of_getElem? (i := 19) rfl))) (notFace_of_selects (args := #[]) (mvT hZ (hw _ (List.mem_of_getElem? (i := 21) rfl)))) (mvT hZ (hw _ (List.mem_of_getElem? (i := 21) rfl))) (mvT hZ (hw _ (List.mem_of_getElem? (i := 20) rfl))) (by decide) (backOf (W := 0) (rm3o l Z a0 hw [] b38 b15 v40 v67 v89 v119 x0_0 x0_1 v7 v25 T39.heap n0 Zs39 Ex39 c49 Fq39_peer Fq39_ticket Fq39_position Fq39_to c50 c51 c52 c53) hZ (hw _ (List.mem_of_getElem? (i := 22) rfl)) (hw _ (List.mem_of_getElem? (i := 3) rfl)) (by decide) (by decide)) q56a q56c (g := (mkF m 276 #[.val (.int x0_0), .val (.long x0_1), .second, .val (.int x0_2), .val (.int x0_3), .val (.int x0_4), .val (.int x0_5), .val (.int v7), .val (.int v25), .val (.int v40), .val (.long v67), .second, .val (.int v89), .val (.int v119), .val (.ref b15), .val (.int v142), .val (.ref b38), .val (.int (1 : Int32))] [(.ref b15), (.ref b38)])) rfl (by rw [hml]; rfl) (Steps.refl _) (argsL := [(.ref b15)]) (rest := []) (lenOf pd_3 rfl) rfl (by show 2 * 0 + _ ≤ _; exact Nat.le_of_eq rfl) (hb hby at_276) (fun _ _ => ⟨rfl, e54, (by decide : 2 + 0 ≤ _), (by decide : 8 + 0 ≤ _)⟩)
              dsimp only [Pt.U, Pt.locs, Pt.cells, Pt.slots] at X56 l56 y56 z56 st56 hQ56
              subst l56 y56 z56
              obtain ⟨hv56, N56q, e56⟩ := hQ56
              have N56 := Fr.app N54 N56q
              have hf56 : f3o b38 b15 v40 v67 v89 v119 x0_0 x0_1 v7 v25 = (1 : Int32) := by unfold f3o; rw [if_pos (Eq.symm hc229_42), if_pos (Eq.symm hc236_44), if_pos (Eq.symm hc243_46), if_pos (Eq.symm hc250_48)]
              rw [hf56] at hv56
              subst hv56
              obtain ⟨fs, hr, hrun, hended, hW, hsame⟩ := X56.leave (v := some (.int (1 : Int32))) (fun h => by rw [Bd.returns] at h; cases h)
              refine ⟨_, _, pre0 _ (sg1 _ (sg2 _ (sg3 _ (sg4 _ (sg5 _ (sg6 _ (sg7 _ (sg8 _ (sg9 _ (sg10 _ (sg11 _ (sg12 _ (sg13 _ (sg14 _ (sg17 _ (sg18 _ (sg19 _ (sg25 _ (sg40 _ (sg41 _ (sg43 _ (sg45 _ (sg47 _ (sg55 _ (sg57 _ ?_))))))))))))))))))))))))), hrun, hended, _, _, rfl, ?_, ⟨_, rfl⟩, hW, hsame.mono (by decide) (by decide)⟩
              · show Steps p.tables e below (T54.setTop (mkF m 276 #[.val (.int x0_0), .val (.long x0_1), .second, .val (.int x0_2), .val (.int x0_3), .val (.int x0_4), .val (.int x0_5), .val (.int v7), .val (.int v25), .val (.int v40), .val (.long v67), .second, .val (.int v89), .val (.int v119), .val (.ref b15), .val (.int v142), .val (.ref b38), .val (.int (1 : Int32))] [(.ref b15), (.ref b38)])) _
                refine st56.trans ?_
                show Steps p.tables e below (T56.setTop (mkF m 279 #[.val (.int x0_0), .val (.long x0_1), .second, .val (.int x0_2), .val (.int x0_3), .val (.int x0_4), .val (.int x0_5), .val (.int v7), .val (.int v25), .val (.int v40), .val (.long v67), .second, .val (.int v89), .val (.int v119), .val (.ref b15), .val (.int v142), .val (.ref b38), .val (.int (1 : Int32))] [(.int (1 : Int32))])) _
                refine XS.iload X56.here hx rfl (hb hby at_279) rfl ?_
                show Steps p.tables e below (T56.setTop (mkF m 281 #[.val (.int x0_0), .val (.long x0_1), .second, .val (.int x0_2), .val (.int x0_3), .val (.int x0_4), .val (.int x0_5), .val (.int v7), .val (.int v25), .val (.int v40), .val (.long v67), .second, .val (.int v89), .val (.int v119), .val (.ref b15), .val (.int v142), .val (.ref b38), .val (.int (1 : Int32))] [(.int (1 : Int32)), (.int (1 : Int32))])) _
                refine XS.icmpNo X56.here hx rfl (hb hby at_281) rfl (teq (by decide : ((1 : Int32) = (1 : Int32)))).2 ?_
                show Steps p.tables e below (T56.setTop (mkF m 284 #[.val (.int x0_0), .val (.long x0_1), .second, .val (.int x0_2), .val (.int x0_3), .val (.int x0_4), .val (.int x0_5), .val (.int v7), .val (.int v25), .val (.int v40), .val (.long v67), .second, .val (.int v89), .val (.int v119), .val (.ref b15), .val (.int v142), .val (.ref b38), .val (.int (1 : Int32))] [])) _
                refine XS.iconst X56.here hx rfl (hb hby at_284) ?_
                show Steps p.tables e below (T56.setTop (mkF m 285 #[.val (.int x0_0), .val (.long x0_1), .second, .val (.int x0_2), .val (.int x0_3), .val (.int x0_4), .val (.int x0_5), .val (.int v7), .val (.int v25), .val (.int v40), .val (.long v67), .second, .val (.int v89), .val (.int v119), .val (.ref b15), .val (.int v142), .val (.ref b38), .val (.int (1 : Int32))] [(.int (1 : Int32))])) _
                refine XS.goto X56.here hx rfl (pc0 := 285) (pc' := 289) rfl (hb hby at_285) (by decide) (by decide) ?_
                show Steps p.tables e below (T56.setTop (mkF m 289 #[.val (.int x0_0), .val (.long x0_1), .second, .val (.int x0_2), .val (.int x0_3), .val (.int x0_4), .val (.int x0_5), .val (.int v7), .val (.int v25), .val (.int v40), .val (.long v67), .second, .val (.int v89), .val (.int v119), .val (.ref b15), .val (.int v142), .val (.ref b38), .val (.int (1 : Int32))] [(.int (1 : Int32))])) _
                exact retN X56 hx (t := .boolean) Bd.returns (by simp) (hb hby at_289) hr
              · show Q0 Z x0_0 x0_1 x0_2 x0_3 x0_4 x0_5 cA cl h0 n0 _ T56.heap _
                rw [e56]
                exact ⟨rfl, N56⟩
            · have c58 := (Exa.keep (Exa.ext E38 Ex16) K39)
              have c59 := (Fld.keep (Fld.ext E38 Fq16_peer) K39 (ninS ne_b15_b38 nin0))
              have c60 := (Fld.keep (Fld.ext E38 Fq16_ticket) K39 (ninS ne_b15_b38 nin0))
              have c61 := (Fld.keep (Fld.ext E38 Fq16_position) K39 (ninS ne_b15_b38 nin0))
              have c62 := (Fld.keep (Fld.ext E38 Fq16_to) K39 (ninS ne_b15_b38 nin0))
              have sg64 : ∀ t, Steps p.tables e below (T39.setTop (mkF m 264 #[.val (.int x0_0), .val (.long x0_1), .second, .val (.int x0_2), .val (.int x0_3), .val (.int x0_4), .val (.int x0_5), .val (.int v7), .val (.int v25), .val (.int v40), .val (.long v67), .second, .val (.int v89), .val (.int v119), .val (.ref b15), .val (.int v142), .val (.ref b38), .val (.int (0 : Int32))] [(.ref b38), (.ref b15)])) t → Steps p.tables e below (T39.setTop (mkF m 250 #[.val (.int x0_0), .val (.long x0_1), .second, .val (.int x0_2), .val (.int x0_3), .val (.int x0_4), .val (.int x0_5), .val (.int v7), .val (.int v25), .val (.int v40), .val (.long v67), .second, .val (.int v89), .val (.int v119), .val (.ref b15), .val (.int v142), .val (.ref b38), .unset] [(.int v119), (.int v25)])) t := fun t kt => by
                show Steps p.tables e below (T39.setTop (mkF m 250 #[.val (.int x0_0), .val (.long x0_1), .second, .val (.int x0_2), .val (.int x0_3), .val (.int x0_4), .val (.int x0_5), .val (.int v7), .val (.int v25), .val (.int v40), .val (.long v67), .second, .val (.int v89), .val (.int v119), .val (.ref b15), .val (.int v142), .val (.ref b38), .unset] [(.int v119), (.int v25)])) _
                refine XS.icmpYes X39.here hx rfl (pc0 := 250) (pc' := 257) rfl (hb hby at_250) rfl (feq hc250_48).2 (by decide) (by decide) ?_
                show Steps p.tables e below (T39.setTop (mkF m 257 #[.val (.int x0_0), .val (.long x0_1), .second, .val (.int x0_2), .val (.int x0_3), .val (.int x0_4), .val (.int x0_5), .val (.int v7), .val (.int v25), .val (.int v40), .val (.long v67), .second, .val (.int v89), .val (.int v119), .val (.ref b15), .val (.int v142), .val (.ref b38), .unset] [])) _
                refine XS.iconst X39.here hx rfl (hb hby at_257) ?_
                show Steps p.tables e below (T39.setTop (mkF m 258 #[.val (.int x0_0), .val (.long x0_1), .second, .val (.int x0_2), .val (.int x0_3), .val (.int x0_4), .val (.int x0_5), .val (.int v7), .val (.int v25), .val (.int v40), .val (.long v67), .second, .val (.int v89), .val (.int v119), .val (.ref b15), .val (.int v142), .val (.ref b38), .unset] [(.int (0 : Int32))])) _
                refine XS.istore X39.here hx rfl (hb hby at_258) rfl (l' := #[.val (.int x0_0), .val (.long x0_1), .second, .val (.int x0_2), .val (.int x0_3), .val (.int x0_4), .val (.int x0_5), .val (.int v7), .val (.int v25), .val (.int v40), .val (.long v67), .second, .val (.int v89), .val (.int v119), .val (.ref b15), .val (.int v142), .val (.ref b38), .val (.int (0 : Int32))]) rfl ?_
                show Steps p.tables e below (T39.setTop (mkF m 260 #[.val (.int x0_0), .val (.long x0_1), .second, .val (.int x0_2), .val (.int x0_3), .val (.int x0_4), .val (.int x0_5), .val (.int v7), .val (.int v25), .val (.int v40), .val (.long v67), .second, .val (.int v89), .val (.int v119), .val (.ref b15), .val (.int v142), .val (.ref b38), .val (.int (0 : Int32))] [])) _
                refine XS.aload X39.here hx rfl (hb hby at_260) rfl rfl ?_
                show Steps p.tables e below (T39.setTop (mkF m 262 #[.val (.int x0_0), .val (.long x0_1), .second, .val (.int x0_2), .val (.int x0_3), .val (.int x0_4), .val (.int x0_5), .val (.int v7), .val (.int v25), .val (.int v40), .val (.long v67), .second, .val (.int v89), .val (.int v119), .val (.ref b15), .val (.int v142), .val (.ref b38), .val (.int (0 : Int32))] [(.ref b15)])) _
                refine XS.aload X39.here hx rfl (hb hby at_262) rfl rfl ?_
                exact kt
              obtain ⟨cq63, kq63, q63a, q63b, q63c⟩ := isOf hZ rfl c58
              obtain ⟨v63, _, ⟨T63, L63, k63, n63⟩, -, X63, ⟨Lc63, hQ63, l63, y63, z63⟩, st63⟩ := X39.virtualBack hx (y := (⟨"com/example/libdmutex/libdmutex/core/SplitToken$Waiter", "equals", "(Ljava/lang/Object;)Z"⟩ : MethodName)) (z := (⟨"com/example/libdmutex/libdmutex/core/SplitToken$Waiter", "equals", "(Ljava/lang/Object;)Z"⟩ : MethodName)) hown (mvT hZ (hw _ (List.mem_of_getElem? (i := 18) rfl))) (mvT hZ (hw _ (List.mem_of_getElem? (i := 19) rfl))) (notFace_of_selects (args := #[]) (mvT hZ (hw _ (List.mem_of_getElem? (i := 21) rfl)))) (mvT hZ (hw _ (List.mem_of_getElem? (i := 21) rfl))) (mvT hZ (hw _ (List.mem_of_getElem? (i := 20) rfl))) (by decide) (backOf (W := 0) (rm3o l Z a0 hw [] b15 b38 x0_0 x0_1 v7 v25 v40 v67 v89 v119 T39.heap n0 Zs39 c58 Ex39 c59 c60 c61 c62 Fq39_peer Fq39_ticket Fq39_position Fq39_to) hZ (hw _ (List.mem_of_getElem? (i := 22) rfl)) (hw _ (List.mem_of_getElem? (i := 3) rfl)) (by decide) (by decide)) q63a q63c (g := (mkF m 264 #[.val (.int x0_0), .val (.long x0_1), .second, .val (.int x0_2), .val (.int x0_3), .val (.int x0_4), .val (.int x0_5), .val (.int v7), .val (.int v25), .val (.int v40), .val (.long v67), .second, .val (.int v89), .val (.int v119), .val (.ref b15), .val (.int v142), .val (.ref b38), .val (.int (0 : Int32))] [(.ref b38), (.ref b15)])) rfl (by rw [hml]; rfl) (Steps.refl _) (argsL := [(.ref b38)]) (rest := []) (lenOf pd_3 rfl) rfl (by show 2 * 0 + _ ≤ _; exact Nat.le_of_eq rfl) (hb hby at_264) (fun _ _ => ⟨rfl, rfl, (by decide : 2 + 0 ≤ _), (by decide : 8 + 0 ≤ _)⟩)
              dsimp only [Pt.U, Pt.locs, Pt.cells, Pt.slots] at X63 l63 y63 z63 st63 hQ63
              subst l63 y63 z63
              obtain ⟨hv63, N63q, e63⟩ := hQ63
              have N63 := Fr.app N39 N63q
              have hf63 : f3o b15 b38 x0_0 x0_1 v7 v25 v40 v67 v89 v119 = (0 : Int32) := by unfold f3o; rw [if_pos hc229_42, if_pos hc236_44, if_pos hc243_46, if_neg hc250_48]
              rw [hf63] at hv63
              subst hv63
              have sg66 : ∀ t, Steps p.tables e below (T63.setTop (mkF m 276 #[.val (.int x0_0), .val (.long x0_1), .second, .val (.int x0_2), .val (.int x0_3), .val (.int x0_4), .val (.int x0_5), .val (.int v7), .val (.int v25), .val (.int v40), .val (.long v67), .second, .val (.int v89), .val (.int v119), .val (.ref b15), .val (.int v142), .val (.ref b38), .val (.int (0 : Int32))] [(.ref b15), (.ref b38)])) t → Steps p.tables e below (T39.setTop (mkF m 264 #[.val (.int x0_0), .val (.long x0_1), .second, .val (.int x0_2), .val (.int x0_3), .val (.int x0_4), .val (.int x0_5), .val (.int v7), .val (.int v25), .val (.int v40), .val (.long v67), .second, .val (.int v89), .val (.int v119), .val (.ref b15), .val (.int v142), .val (.ref b38), .val (.int (0 : Int32))] [(.ref b38), (.ref b15)])) t := fun t kt => by
                show Steps p.tables e below (T39.setTop (mkF m 264 #[.val (.int x0_0), .val (.long x0_1), .second, .val (.int x0_2), .val (.int x0_3), .val (.int x0_4), .val (.int x0_5), .val (.int v7), .val (.int v25), .val (.int v40), .val (.long v67), .second, .val (.int v89), .val (.int v119), .val (.ref b15), .val (.int v142), .val (.ref b38), .val (.int (0 : Int32))] [(.ref b38), (.ref b15)])) _
                refine st63.trans ?_
                show Steps p.tables e below (T63.setTop (mkF m 267 #[.val (.int x0_0), .val (.long x0_1), .second, .val (.int x0_2), .val (.int x0_3), .val (.int x0_4), .val (.int x0_5), .val (.int v7), .val (.int v25), .val (.int v40), .val (.long v67), .second, .val (.int v89), .val (.int v119), .val (.ref b15), .val (.int v142), .val (.ref b38), .val (.int (0 : Int32))] [(.int (0 : Int32))])) _
                refine XS.iload X63.here hx rfl (hb hby at_267) rfl ?_
                show Steps p.tables e below (T63.setTop (mkF m 269 #[.val (.int x0_0), .val (.long x0_1), .second, .val (.int x0_2), .val (.int x0_3), .val (.int x0_4), .val (.int x0_5), .val (.int v7), .val (.int v25), .val (.int v40), .val (.long v67), .second, .val (.int v89), .val (.int v119), .val (.ref b15), .val (.int v142), .val (.ref b38), .val (.int (0 : Int32))] [(.int (0 : Int32)), (.int (0 : Int32))])) _
                refine XS.icmpNo X63.here hx rfl (hb hby at_269) rfl (teq (by decide : ((0 : Int32) = (0 : Int32)))).2 ?_
                show Steps p.tables e below (T63.setTop (mkF m 272 #[.val (.int x0_0), .val (.long x0_1), .second, .val (.int x0_2), .val (.int x0_3), .val (.int x0_4), .val (.int x0_5), .val (.int v7), .val (.int v25), .val (.int v40), .val (.long v67), .second, .val (.int v89), .val (.int v119), .val (.ref b15), .val (.int v142), .val (.ref b38), .val (.int (0 : Int32))] [])) _
                refine XS.aload X63.here hx rfl (hb hby at_272) rfl rfl ?_
                show Steps p.tables e below (T63.setTop (mkF m 274 #[.val (.int x0_0), .val (.long x0_1), .second, .val (.int x0_2), .val (.int x0_3), .val (.int x0_4), .val (.int x0_5), .val (.int v7), .val (.int v25), .val (.int v40), .val (.long v67), .second, .val (.int v89), .val (.int v119), .val (.ref b15), .val (.int v142), .val (.ref b38), .val (.int (0 : Int32))] [(.ref b38)])) _
                refine XS.aload X63.here hx rfl (hb hby at_274) rfl rfl ?_
                exact kt
              obtain ⟨cq65, kq65, q65a, q65b, q65c⟩ := isOf hZ e63 Ex39
              obtain ⟨v65, _, ⟨T65, L65, k65, n65⟩, -, X65, ⟨Lc65, hQ65, l65, y65, z65⟩, st65⟩ := X63.virtualBack hx (y := (⟨"com/example/libdmutex/libdmutex/core/SplitToken$Waiter", "equals", "(Ljava/lang/Object;)Z"⟩ : MethodName)) (z := (⟨"com/example/libdmutex/libdmutex/core/SplitToken$Waiter", "equals", "(Ljava/lang/Object;)Z"⟩ : MethodName)) hown (mvT hZ (hw _ (List.mem_of_getElem? (i := 18) rfl))) (mvT hZ (hw _ (List.mem_of_getElem? (i := 19) rfl))) (notFace_of_selects (args := #[]) (mvT hZ (hw _ (List.mem_of_getElem? (i := 21) rfl)))) (mvT hZ (hw _ (List.mem_of_getElem? (i := 21) rfl))) (mvT hZ (hw _ (List.mem_of_getElem? (i := 20) rfl))) (by decide) (backOf (W := 0) (rm3o l Z a0 hw [] b38 b15 v40 v67 v89 v119 x0_0 x0_1 v7 v25 T39.heap n0 Zs39 Ex39 c58 Fq39_peer Fq39_ticket Fq39_position Fq39_to c59 c60 c61 c62) hZ (hw _ (List.mem_of_getElem? (i := 22) rfl)) (hw _ (List.mem_of_getElem? (i := 3) rfl)) (by decide) (by decide)) q65a q65c (g := (mkF m 276 #[.val (.int x0_0), .val (.long x0_1), .second, .val (.int x0_2), .val (.int x0_3), .val (.int x0_4), .val (.int x0_5), .val (.int v7), .val (.int v25), .val (.int v40), .val (.long v67), .second, .val (.int v89), .val (.int v119), .val (.ref b15), .val (.int v142), .val (.ref b38), .val (.int (0 : Int32))] [(.ref b15), (.ref b38)])) rfl (by rw [hml]; rfl) (Steps.refl _) (argsL := [(.ref b15)]) (rest := []) (lenOf pd_3 rfl) rfl (by show 2 * 0 + _ ≤ _; exact Nat.le_of_eq rfl) (hb hby at_276) (fun _ _ => ⟨rfl, e63, (by decide : 2 + 0 ≤ _), (by decide : 8 + 0 ≤ _)⟩)
              dsimp only [Pt.U, Pt.locs, Pt.cells, Pt.slots] at X65 l65 y65 z65 st65 hQ65
              subst l65 y65 z65
              obtain ⟨hv65, N65q, e65⟩ := hQ65
              have N65 := Fr.app N63 N65q
              have hf65 : f3o b38 b15 v40 v67 v89 v119 x0_0 x0_1 v7 v25 = (0 : Int32) := by unfold f3o; rw [if_pos (Eq.symm hc229_42), if_pos (Eq.symm hc236_44), if_pos (Eq.symm hc243_46), if_neg (Ne.symm hc250_48)]
              rw [hf65] at hv65
              subst hv65
              obtain ⟨fs, hr, hrun, hended, hW, hsame⟩ := X65.leave (v := some (.int (1 : Int32))) (fun h => by rw [Bd.returns] at h; cases h)
              refine ⟨_, _, pre0 _ (sg1 _ (sg2 _ (sg3 _ (sg4 _ (sg5 _ (sg6 _ (sg7 _ (sg8 _ (sg9 _ (sg10 _ (sg11 _ (sg12 _ (sg13 _ (sg14 _ (sg17 _ (sg18 _ (sg19 _ (sg25 _ (sg40 _ (sg41 _ (sg43 _ (sg45 _ (sg47 _ (sg64 _ (sg66 _ ?_))))))))))))))))))))))))), hrun, hended, _, _, rfl, ?_, ⟨_, rfl⟩, hW, hsame.mono (by decide) (by decide)⟩
              · show Steps p.tables e below (T63.setTop (mkF m 276 #[.val (.int x0_0), .val (.long x0_1), .second, .val (.int x0_2), .val (.int x0_3), .val (.int x0_4), .val (.int x0_5), .val (.int v7), .val (.int v25), .val (.int v40), .val (.long v67), .second, .val (.int v89), .val (.int v119), .val (.ref b15), .val (.int v142), .val (.ref b38), .val (.int (0 : Int32))] [(.ref b15), (.ref b38)])) _
                refine st65.trans ?_
                show Steps p.tables e below (T65.setTop (mkF m 279 #[.val (.int x0_0), .val (.long x0_1), .second, .val (.int x0_2), .val (.int x0_3), .val (.int x0_4), .val (.int x0_5), .val (.int v7), .val (.int v25), .val (.int v40), .val (.long v67), .second, .val (.int v89), .val (.int v119), .val (.ref b15), .val (.int v142), .val (.ref b38), .val (.int (0 : Int32))] [(.int (0 : Int32))])) _
                refine XS.iload X65.here hx rfl (hb hby at_279) rfl ?_
                show Steps p.tables e below (T65.setTop (mkF m 281 #[.val (.int x0_0), .val (.long x0_1), .second, .val (.int x0_2), .val (.int x0_3), .val (.int x0_4), .val (.int x0_5), .val (.int v7), .val (.int v25), .val (.int v40), .val (.long v67), .second, .val (.int v89), .val (.int v119), .val (.ref b15), .val (.int v142), .val (.ref b38), .val (.int (0 : Int32))] [(.int (0 : Int32)), (.int (0 : Int32))])) _
                refine XS.icmpNo X65.here hx rfl (hb hby at_281) rfl (teq (by decide : ((0 : Int32) = (0 : Int32)))).2 ?_
                show Steps p.tables e below (T65.setTop (mkF m 284 #[.val (.int x0_0), .val (.long x0_1), .second, .val (.int x0_2), .val (.int x0_3), .val (.int x0_4), .val (.int x0_5), .val (.int v7), .val (.int v25), .val (.int v40), .val (.long v67), .second, .val (.int v89), .val (.int v119), .val (.ref b15), .val (.int v142), .val (.ref b38), .val (.int (0 : Int32))] [])) _
                refine XS.iconst X65.here hx rfl (hb hby at_284) ?_
                show Steps p.tables e below (T65.setTop (mkF m 285 #[.val (.int x0_0), .val (.long x0_1), .second, .val (.int x0_2), .val (.int x0_3), .val (.int x0_4), .val (.int x0_5), .val (.int v7), .val (.int v25), .val (.int v40), .val (.long v67), .second, .val (.int v89), .val (.int v119), .val (.ref b15), .val (.int v142), .val (.ref b38), .val (.int (0 : Int32))] [(.int (1 : Int32))])) _
                refine XS.goto X65.here hx rfl (pc0 := 285) (pc' := 289) rfl (hb hby at_285) (by decide) (by decide) ?_
                show Steps p.tables e below (T65.setTop (mkF m 289 #[.val (.int x0_0), .val (.long x0_1), .second, .val (.int x0_2), .val (.int x0_3), .val (.int x0_4), .val (.int x0_5), .val (.int v7), .val (.int v25), .val (.int v40), .val (.long v67), .second, .val (.int v89), .val (.int v119), .val (.ref b15), .val (.int v142), .val (.ref b38), .val (.int (0 : Int32))] [(.int (1 : Int32))])) _
                exact retN X65 hx (t := .boolean) Bd.returns (by simp) (hb hby at_289) hr
              · show Q0 Z x0_0 x0_1 x0_2 x0_3 x0_4 x0_5 cA cl h0 n0 _ T65.heap _
                rw [e65]
                exact ⟨rfl, N65⟩
          · have c67 := (Exa.keep (Exa.ext E38 Ex16) K39)
            have c68 := (Fld.keep (Fld.ext E38 Fq16_peer) K39 (ninS ne_b15_b38 nin0))
            have c69 := (Fld.keep (Fld.ext E38 Fq16_ticket) K39 (ninS ne_b15_b38 nin0))
            have c70 := (Fld.keep (Fld.ext E38 Fq16_position) K39 (ninS ne_b15_b38 nin0))
            have c71 := (Fld.keep (Fld.ext E38 Fq16_to) K39 (ninS ne_b15_b38 nin0))
            have sg73 : ∀ t, Steps p.tables e below (T39.setTop (mkF m 264 #[.val (.int x0_0), .val (.long x0_1), .second, .val (.int x0_2), .val (.int x0_3), .val (.int x0_4), .val (.int x0_5), .val (.int v7), .val (.int v25), .val (.int v40), .val (.long v67), .second, .val (.int v89), .val (.int v119), .val (.ref b15), .val (.int v142), .val (.ref b38), .val (.int (0 : Int32))] [(.ref b38), (.ref b15)])) t → Steps p.tables e below (T39.setTop (mkF m 243 #[.val (.int x0_0), .val (.long x0_1), .second, .val (.int x0_2), .val (.int x0_3), .val (.int x0_4), .val (.int x0_5), .val (.int v7), .val (.int v25), .val (.int v40), .val (.long v67), .second, .val (.int v89), .val (.int v119), .val (.ref b15), .val (.int v142), .val (.ref b38), .unset] [(.int v89), (.int v7)])) t := fun t kt => by
              show Steps p.tables e below (T39.setTop (mkF m 243 #[.val (.int x0_0), .val (.long x0_1), .second, .val (.int x0_2), .val (.int x0_3), .val (.int x0_4), .val (.int x0_5), .val (.int v7), .val (.int v25), .val (.int v40), .val (.long v67), .second, .val (.int v89), .val (.int v119), .val (.ref b15), .val (.int v142), .val (.ref b38), .unset] [(.int v89), (.int v7)])) _
              refine XS.icmpYes X39.here hx rfl (pc0 := 243) (pc' := 257) rfl (hb hby at_243) rfl (feq hc243_46).2 (by decide) (by decide) ?_
              show Steps p.tables e below (T39.setTop (mkF m 257 #[.val (.int x0_0), .val (.long x0_1), .second, .val (.int x0_2), .val (.int x0_3), .val (.int x0_4), .val (.int x0_5), .val (.int v7), .val (.int v25), .val (.int v40), .val (.long v67), .second, .val (.int v89), .val (.int v119), .val (.ref b15), .val (.int v142), .val (.ref b38), .unset] [])) _
              refine XS.iconst X39.here hx rfl (hb hby at_257) ?_
              show Steps p.tables e below (T39.setTop (mkF m 258 #[.val (.int x0_0), .val (.long x0_1), .second, .val (.int x0_2), .val (.int x0_3), .val (.int x0_4), .val (.int x0_5), .val (.int v7), .val (.int v25), .val (.int v40), .val (.long v67), .second, .val (.int v89), .val (.int v119), .val (.ref b15), .val (.int v142), .val (.ref b38), .unset] [(.int (0 : Int32))])) _
              refine XS.istore X39.here hx rfl (hb hby at_258) rfl (l' := #[.val (.int x0_0), .val (.long x0_1), .second, .val (.int x0_2), .val (.int x0_3), .val (.int x0_4), .val (.int x0_5), .val (.int v7), .val (.int v25), .val (.int v40), .val (.long v67), .second, .val (.int v89), .val (.int v119), .val (.ref b15), .val (.int v142), .val (.ref b38), .val (.int (0 : Int32))]) rfl ?_
              show Steps p.tables e below (T39.setTop (mkF m 260 #[.val (.int x0_0), .val (.long x0_1), .second, .val (.int x0_2), .val (.int x0_3), .val (.int x0_4), .val (.int x0_5), .val (.int v7), .val (.int v25), .val (.int v40), .val (.long v67), .second, .val (.int v89), .val (.int v119), .val (.ref b15), .val (.int v142), .val (.ref b38), .val (.int (0 : Int32))] [])) _
              refine XS.aload X39.here hx rfl (hb hby at_260) rfl rfl ?_
              show Steps p.tables e below (T39.setTop (mkF m 262 #[.val (.int x0_0), .val (.long x0_1), .second, .val (.int x0_2), .val (.int x0_3), .val (.int x0_4), .val (.int x0_5), .val (.int v7), .val (.int v25), .val (.int v40), .val (.long v67), .second, .val (.int v89), .val (.int v119), .val (.ref b15), .val (.int v142), .val (.ref b38), .val (.int (0 : Int32))] [(.ref b15)])) _
              refine XS.aload X39.here hx rfl (hb hby at_262) rfl rfl ?_
              exact kt
            obtain ⟨cq72, kq72, q72a, q72b, q72c⟩ := isOf hZ rfl c67
            obtain ⟨v72, _, ⟨T72, L72, k72, n72⟩, -, X72, ⟨Lc72, hQ72, l72, y72, z72⟩, st72⟩ := X39.virtualBack hx (y := (⟨"com/example/libdmutex/libdmutex/core/SplitToken$Waiter", "equals", "(Ljava/lang/Object;)Z"⟩ : MethodName)) (z := (⟨"com/example/libdmutex/libdmutex/core/SplitToken$Waiter", "equals", "(Ljava/lang/Object;)Z"⟩ : MethodName)) hown (mvT hZ (hw _ (List.mem_of_getElem? (i := 18) rfl))) (mvT hZ (hw _ (List.mem_of_getElem? (i := 19) rfl))) (notFace_of_selects (args := #[]) (mvT hZ (hw _ (List.mem_of_getElem? (i := 21) rfl)))) (mvT hZ (hw _ (List.mem_of_getElem? (i := 21) rfl))) (mvT hZ (hw _ (List.mem_of_getElem? (i := 20) rfl))) (by decide) (backOf (W := 0) (rm3o l Z a0 hw [] b15 b38 x0_0 x0_1 v7 v25 v40 v67 v89 v119 T39.heap n0 Zs39 c67 Ex39 c68 c69 c70 c71 Fq39_peer Fq39_ticket Fq39_position Fq39_to) hZ (hw _ (List.mem_of_getElem? (i := 22) rfl)) (hw _ (List.mem_of_getElem? (i := 3) rfl)) (by decide) (by decide)) q72a q72c (g := (mkF m 264 #[.val (.int x0_0), .val (.long x0_1), .second, .val (.int x0_2), .val (.int x0_3), .val (.int x0_4), .val (.int x0_5), .val (.int v7), .val (.int v25), .val (.int v40), .val (.long v67), .second, .val (.int v89), .val (.int v119), .val (.ref b15), .val (.int v142), .val (.ref b38), .val (.int (0 : Int32))] [(.ref b38), (.ref b15)])) rfl (by rw [hml]; rfl) (Steps.refl _) (argsL := [(.ref b38)]) (rest := []) (lenOf pd_3 rfl) rfl (by show 2 * 0 + _ ≤ _; exact Nat.le_of_eq rfl) (hb hby at_264) (fun _ _ => ⟨rfl, rfl, (by decide : 2 + 0 ≤ _), (by decide : 8 + 0 ≤ _)⟩)
            dsimp only [Pt.U, Pt.locs, Pt.cells, Pt.slots] at X72 l72 y72 z72 st72 hQ72
            subst l72 y72 z72
            obtain ⟨hv72, N72q, e72⟩ := hQ72
            have N72 := Fr.app N39 N72q
            have hf72 : f3o b15 b38 x0_0 x0_1 v7 v25 v40 v67 v89 v119 = (0 : Int32) := by unfold f3o; rw [if_pos hc229_42, if_pos hc236_44, if_neg hc243_46]
            rw [hf72] at hv72
            subst hv72
            have sg75 : ∀ t, Steps p.tables e below (T72.setTop (mkF m 276 #[.val (.int x0_0), .val (.long x0_1), .second, .val (.int x0_2), .val (.int x0_3), .val (.int x0_4), .val (.int x0_5), .val (.int v7), .val (.int v25), .val (.int v40), .val (.long v67), .second, .val (.int v89), .val (.int v119), .val (.ref b15), .val (.int v142), .val (.ref b38), .val (.int (0 : Int32))] [(.ref b15), (.ref b38)])) t → Steps p.tables e below (T39.setTop (mkF m 264 #[.val (.int x0_0), .val (.long x0_1), .second, .val (.int x0_2), .val (.int x0_3), .val (.int x0_4), .val (.int x0_5), .val (.int v7), .val (.int v25), .val (.int v40), .val (.long v67), .second, .val (.int v89), .val (.int v119), .val (.ref b15), .val (.int v142), .val (.ref b38), .val (.int (0 : Int32))] [(.ref b38), (.ref b15)])) t := fun t kt => by
              show Steps p.tables e below (T39.setTop (mkF m 264 #[.val (.int x0_0), .val (.long x0_1), .second, .val (.int x0_2), .val (.int x0_3), .val (.int x0_4), .val (.int x0_5), .val (.int v7), .val (.int v25), .val (.int v40), .val (.long v67), .second, .val (.int v89), .val (.int v119), .val (.ref b15), .val (.int v142), .val (.ref b38), .val (.int (0 : Int32))] [(.ref b38), (.ref b15)])) _
              refine st72.trans ?_
              show Steps p.tables e below (T72.setTop (mkF m 267 #[.val (.int x0_0), .val (.long x0_1), .second, .val (.int x0_2), .val (.int x0_3), .val (.int x0_4), .val (.int x0_5), .val (.int v7), .val (.int v25), .val (.int v40), .val (.long v67), .second, .val (.int v89), .val (.int v119), .val (.ref b15), .val (.int v142), .val (.ref b38), .val (.int (0 : Int32))] [(.int (0 : Int32))])) _
              refine XS.iload X72.here hx rfl (hb hby at_267) rfl ?_
              show Steps p.tables e below (T72.setTop (mkF m 269 #[.val (.int x0_0), .val (.long x0_1), .second, .val (.int x0_2), .val (.int x0_3), .val (.int x0_4), .val (.int x0_5), .val (.int v7), .val (.int v25), .val (.int v40), .val (.long v67), .second, .val (.int v89), .val (.int v119), .val (.ref b15), .val (.int v142), .val (.ref b38), .val (.int (0 : Int32))] [(.int (0 : Int32)), (.int (0 : Int32))])) _
              refine XS.icmpNo X72.here hx rfl (hb hby at_269) rfl (teq (by decide : ((0 : Int32) = (0 : Int32)))).2 ?_
              show Steps p.tables e below (T72.setTop (mkF m 272 #[.val (.int x0_0), .val (.long x0_1), .second, .val (.int x0_2), .val (.int x0_3), .val (.int x0_4), .val (.int x0_5), .val (.int v7), .val (.int v25), .val (.int v40), .val (.long v67), .second, .val (.int v89), .val (.int v119), .val (.ref b15), .val (.int v142), .val (.ref b38), .val (.int (0 : Int32))] [])) _
              refine XS.aload X72.here hx rfl (hb hby at_272) rfl rfl ?_
              show Steps p.tables e below (T72.setTop (mkF m 274 #[.val (.int x0_0), .val (.long x0_1), .second, .val (.int x0_2), .val (.int x0_3), .val (.int x0_4), .val (.int x0_5), .val (.int v7), .val (.int v25), .val (.int v40), .val (.long v67), .second, .val (.int v89), .val (.int v119), .val (.ref b15), .val (.int v142), .val (.ref b38), .val (.int (0 : Int32))] [(.ref b38)])) _
              refine XS.aload X72.here hx rfl (hb hby at_274) rfl rfl ?_
              exact kt
            obtain ⟨cq74, kq74, q74a, q74b, q74c⟩ := isOf hZ e72 Ex39
            obtain ⟨v74, _, ⟨T74, L74, k74, n74⟩, -, X74, ⟨Lc74, hQ74, l74, y74, z74⟩, st74⟩ := X72.virtualBack hx (y := (⟨"com/example/libdmutex/libdmutex/core/SplitToken$Waiter", "equals", "(Ljava/lang/Object;)Z"⟩ : MethodName)) (z := (⟨"com/example/libdmutex/libdmutex/core/SplitToken$Waiter", "equals", "(Ljava/lang/Object;)Z"⟩ : MethodName)) hown (mvT hZ (hw _ (List.mem_of_getElem? (i := 18) rfl))) (mvT hZ (hw _ (List.mem_of_getElem? (i := 19) rfl))) (notFace_of_selects (args := #[]) (mvT hZ (hw _ (List.mem_of_getElem? (i := 21) rfl)))) (mvT hZ (hw _ (List.mem_of_getElem? (i := 21) rfl))) (mvT hZ (hw _ (List.mem_of_getElem? (i := 20) rfl))) (by decide) (backOf (W := 0) (rm3o l Z a0 hw [] b38 b15 v40 v67 v89 v119 x0_0 x0_1 v7 v25 T39.heap n0 Zs39 Ex39 c67 Fq39_peer Fq39_ticket Fq39_position Fq39_to c68 c69 c70 c71) hZ (hw _ (List.mem_of_getElem? (i := 22) rfl)) (hw _ (List.mem_of_getElem? (i := 3) rfl)) (by decide) (by decide)) q74a q74c (g := (mkF m 276 #[.val (.int x0_0), .val (.long x0_1), .second, .val (.int x0_2), .val (.int x0_3), .val (.int x0_4), .val (.int x0_5), .val (.int v7), .val (.int v25), .val (.int v40), .val (.long v67), .second, .val (.int v89), .val (.int v119), .val (.ref b15), .val (.int v142), .val (.ref b38), .val (.int (0 : Int32))] [(.ref b15), (.ref b38)])) rfl (by rw [hml]; rfl) (Steps.refl _) (argsL := [(.ref b15)]) (rest := []) (lenOf pd_3 rfl) rfl (by show 2 * 0 + _ ≤ _; exact Nat.le_of_eq rfl) (hb hby at_276) (fun _ _ => ⟨rfl, e72, (by decide : 2 + 0 ≤ _), (by decide : 8 + 0 ≤ _)⟩)
            dsimp only [Pt.U, Pt.locs, Pt.cells, Pt.slots] at X74 l74 y74 z74 st74 hQ74
            subst l74 y74 z74
            obtain ⟨hv74, N74q, e74⟩ := hQ74
            have N74 := Fr.app N72 N74q
            have hf74 : f3o b38 b15 v40 v67 v89 v119 x0_0 x0_1 v7 v25 = (0 : Int32) := by unfold f3o; rw [if_pos (Eq.symm hc229_42), if_pos (Eq.symm hc236_44), if_neg (Ne.symm hc243_46)]
            rw [hf74] at hv74
            subst hv74
            obtain ⟨fs, hr, hrun, hended, hW, hsame⟩ := X74.leave (v := some (.int (1 : Int32))) (fun h => by rw [Bd.returns] at h; cases h)
            refine ⟨_, _, pre0 _ (sg1 _ (sg2 _ (sg3 _ (sg4 _ (sg5 _ (sg6 _ (sg7 _ (sg8 _ (sg9 _ (sg10 _ (sg11 _ (sg12 _ (sg13 _ (sg14 _ (sg17 _ (sg18 _ (sg19 _ (sg25 _ (sg40 _ (sg41 _ (sg43 _ (sg45 _ (sg73 _ (sg75 _ ?_)))))))))))))))))))))))), hrun, hended, _, _, rfl, ?_, ⟨_, rfl⟩, hW, hsame.mono (by decide) (by decide)⟩
            · show Steps p.tables e below (T72.setTop (mkF m 276 #[.val (.int x0_0), .val (.long x0_1), .second, .val (.int x0_2), .val (.int x0_3), .val (.int x0_4), .val (.int x0_5), .val (.int v7), .val (.int v25), .val (.int v40), .val (.long v67), .second, .val (.int v89), .val (.int v119), .val (.ref b15), .val (.int v142), .val (.ref b38), .val (.int (0 : Int32))] [(.ref b15), (.ref b38)])) _
              refine st74.trans ?_
              show Steps p.tables e below (T74.setTop (mkF m 279 #[.val (.int x0_0), .val (.long x0_1), .second, .val (.int x0_2), .val (.int x0_3), .val (.int x0_4), .val (.int x0_5), .val (.int v7), .val (.int v25), .val (.int v40), .val (.long v67), .second, .val (.int v89), .val (.int v119), .val (.ref b15), .val (.int v142), .val (.ref b38), .val (.int (0 : Int32))] [(.int (0 : Int32))])) _
              refine XS.iload X74.here hx rfl (hb hby at_279) rfl ?_
              show Steps p.tables e below (T74.setTop (mkF m 281 #[.val (.int x0_0), .val (.long x0_1), .second, .val (.int x0_2), .val (.int x0_3), .val (.int x0_4), .val (.int x0_5), .val (.int v7), .val (.int v25), .val (.int v40), .val (.long v67), .second, .val (.int v89), .val (.int v119), .val (.ref b15), .val (.int v142), .val (.ref b38), .val (.int (0 : Int32))] [(.int (0 : Int32)), (.int (0 : Int32))])) _
              refine XS.icmpNo X74.here hx rfl (hb hby at_281) rfl (teq (by decide : ((0 : Int32) = (0 : Int32)))).2 ?_
              show Steps p.tables e below (T74.setTop (mkF m 284 #[.val (.int x0_0), .val (.long x0_1), .second, .val (.int x0_2), .val (.int x0_3), .val (.int x0_4), .val (.int x0_5), .val (.int v7), .val (.int v25), .val (.int v40), .val (.long v67), .second, .val (.int v89), .val (.int v119), .val (.ref b15), .val (.int v142), .val (.ref b38), .val (.int (0 : Int32))] [])) _
              refine XS.iconst X74.here hx rfl (hb hby at_284) ?_
              show Steps p.tables e below (T74.setTop (mkF m 285 #[.val (.int x0_0), .val (.long x0_1), .second, .val (.int x0_2), .val (.int x0_3), .val (.int x0_4), .val (.int x0_5), .val (.int v7), .val (.int v25), .val (.int v40), .val (.long v67), .second, .val (.int v89), .val (.int v119), .val (.ref b15), .val (.int v142), .val (.ref b38), .val (.int (0 : Int32))] [(.int (1 : Int32))])) _
              refine XS.goto X74.here hx rfl (pc0 := 285) (pc' := 289) rfl (hb hby at_285) (by decide) (by decide) ?_
              show Steps p.tables e below (T74.setTop (mkF m 289 #[.val (.int x0_0), .val (.long x0_1), .second, .val (.int x0_2), .val (.int x0_3), .val (.int x0_4), .val (.int x0_5), .val (.int v7), .val (.int v25), .val (.int v40), .val (.long v67), .second, .val (.int v89), .val (.int v119), .val (.ref b15), .val (.int v142), .val (.ref b38), .val (.int (0 : Int32))] [(.int (1 : Int32))])) _
              exact retN X74 hx (t := .boolean) Bd.returns (by simp) (hb hby at_289) hr
            · show Q0 Z x0_0 x0_1 x0_2 x0_3 x0_4 x0_5 cA cl h0 n0 _ T74.heap _
              rw [e74]
              exact ⟨rfl, N74⟩
        · have c76 := (Exa.keep (Exa.ext E38 Ex16) K39)
          have c77 := (Fld.keep (Fld.ext E38 Fq16_peer) K39 (ninS ne_b15_b38 nin0))
          have c78 := (Fld.keep (Fld.ext E38 Fq16_ticket) K39 (ninS ne_b15_b38 nin0))
          have c79 := (Fld.keep (Fld.ext E38 Fq16_position) K39 (ninS ne_b15_b38 nin0))
          have c80 := (Fld.keep (Fld.ext E38 Fq16_to) K39 (ninS ne_b15_b38 nin0))
          have sg82 : ∀ t, Steps p.tables e below (T39.setTop (mkF m 264 #[.val (.int x0_0), .val (.long x0_1), .second, .val (.int x0_2), .val (.int x0_3), .val (.int x0_4), .val (.int x0_5), .val (.int v7), .val (.int v25), .val (.int v40), .val (.long v67), .second, .val (.int v89), .val (.int v119), .val (.ref b15), .val (.int v142), .val (.ref b38), .val (.int (0 : Int32))] [(.ref b38), (.ref b15)])) t → Steps p.tables e below (T39.setTop (mkF m 236 #[.val (.int x0_0), .val (.long x0_1), .second, .val (.int x0_2), .val (.int x0_3), .val (.int x0_4), .val (.int x0_5), .val (.int v7), .val (.int v25), .val (.int v40), .val (.long v67), .second, .val (.int v89), .val (.int v119), .val (.ref b15), .val (.int v142), .val (.ref b38), .unset] [(.int (lcmpW x0_1 v67))])) t := fun t kt => by
            show Steps p.tables e below (T39.setTop (mkF m 236 #[.val (.int x0_0), .val (.long x0_1), .second, .val (.int x0_2), .val (.int x0_3), .val (.int x0_4), .val (.int x0_5), .val (.int v7), .val (.int v25), .val (.int v40), .val (.long v67), .second, .val (.int v89), .val (.int v119), .val (.ref b15), .val (.int v142), .val (.ref b38), .unset] [(.int (lcmpW x0_1 v67))])) _
            refine XS.ifYes X39.here hx rfl (pc0 := 236) (pc' := 257) rfl (hb hby at_236) rfl ((if0 _ _).trans (feq (mt (lw_eq _ _).mp hc236_44)).2) (by decide) (by decide) ?_
            show Steps p.tables e below (T39.setTop (mkF m 257 #[.val (.int x0_0), .val (.long x0_1), .second, .val (.int x0_2), .val (.int x0_3), .val (.int x0_4), .val (.int x0_5), .val (.int v7), .val (.int v25), .val (.int v40), .val (.long v67), .second, .val (.int v89), .val (.int v119), .val (.ref b15), .val (.int v142), .val (.ref b38), .unset] [])) _
            refine XS.iconst X39.here hx rfl (hb hby at_257) ?_
            show Steps p.tables e below (T39.setTop (mkF m 258 #[.val (.int x0_0), .val (.long x0_1), .second, .val (.int x0_2), .val (.int x0_3), .val (.int x0_4), .val (.int x0_5), .val (.int v7), .val (.int v25), .val (.int v40), .val (.long v67), .second, .val (.int v89), .val (.int v119), .val (.ref b15), .val (.int v142), .val (.ref b38), .unset] [(.int (0 : Int32))])) _
            refine XS.istore X39.here hx rfl (hb hby at_258) rfl (l' := #[.val (.int x0_0), .val (.long x0_1), .second, .val (.int x0_2), .val (.int x0_3), .val (.int x0_4), .val (.int x0_5), .val (.int v7), .val (.int v25), .val (.int v40), .val (.long v67), .second, .val (.int v89), .val (.int v119), .val (.ref b15), .val (.int v142), .val (.ref b38), .val (.int (0 : Int32))]) rfl ?_
            show Steps p.tables e below (T39.setTop (mkF m 260 #[.val (.int x0_0), .val (.long x0_1), .second, .val (.int x0_2), .val (.int x0_3), .val (.int x0_4), .val (.int x0_5), .val (.int v7), .val (.int v25), .val (.int v40), .val (.long v67), .second, .val (.int v89), .val (.int v119), .val (.ref b15), .val (.int v142), .val (.ref b38), .val (.int (0 : Int32))] [])) _
            refine XS.aload X39.here hx rfl (hb hby at_260) rfl rfl ?_
            show Steps p.tables e below (T39.setTop (mkF m 262 #[.val (.int x0_0), .val (.long x0_1), .second, .val (.int x0_2), .val (.int x0_3), .val (.int x0_4), .val (.int x0_5), .val (.int v7), .val (.int v25), .val (.int v40), .val (.long v67), .second, .val (.int v89), .val (.int v119), .val (.ref b15), .val (.int v142), .val (.ref b38), .val (.int (0 : Int32))] [(.ref b15)])) _
            refine XS.aload X39.here hx rfl (hb hby at_262) rfl rfl ?_
            exact kt
          obtain ⟨cq81, kq81, q81a, q81b, q81c⟩ := isOf hZ rfl c76
          obtain ⟨v81, _, ⟨T81, L81, k81, n81⟩, -, X81, ⟨Lc81, hQ81, l81, y81, z81⟩, st81⟩ := X39.virtualBack hx (y := (⟨"com/example/libdmutex/libdmutex/core/SplitToken$Waiter", "equals", "(Ljava/lang/Object;)Z"⟩ : MethodName)) (z := (⟨"com/example/libdmutex/libdmutex/core/SplitToken$Waiter", "equals", "(Ljava/lang/Object;)Z"⟩ : MethodName)) hown (mvT hZ (hw _ (List.mem_of_getElem? (i := 18) rfl))) (mvT hZ (hw _ (List.mem_of_getElem? (i := 19) rfl))) (notFace_of_selects (args := #[]) (mvT hZ (hw _ (List.mem_of_getElem? (i := 21) rfl)))) (mvT hZ (hw _ (List.mem_of_getElem? (i := 21) rfl))) (mvT hZ (hw _ (List.mem_of_getElem? (i := 20) rfl))) (by decide) (backOf (W := 0) (rm3o l Z a0 hw [] b15 b38 x0_0 x0_1 v7 v25 v40 v67 v89 v119 T39.heap n0 Zs39 c76 Ex39 c77 c78 c79 c80 Fq39_peer Fq39_ticket Fq39_position Fq39_to) hZ (hw _ (List.mem_of_getElem? (i := 22) rfl)) (hw _ (List.mem_of_getElem? (i := 3) rfl)) (by decide) (by decide)) q81a q81c (g := (mkF m 264 #[.val (.int x0_0), .val (.long x0_1), .second, .val (.int x0_2), .val (.int x0_3), .val (.int x0_4), .val (.int x0_5), .val (.int v7), .val (.int v25), .val (.int v40), .val (.long v67), .second, .val (.int v89), .val (.int v119), .val (.ref b15), .val (.int v142), .val (.ref b38), .val (.int (0 : Int32))] [(.ref b38), (.ref b15)])) rfl (by rw [hml]; rfl) (Steps.refl _) (argsL := [(.ref b38)]) (rest := []) (lenOf pd_3 rfl) rfl (by show 2 * 0 + _ ≤ _; exact Nat.le_of_eq rfl) (hb hby at_264) (fun _ _ => ⟨rfl, rfl, (by decide : 2 + 0 ≤ _), (by decide : 8 + 0 ≤ _)⟩)
          dsimp only [Pt.U, Pt.locs, Pt.cells, Pt.slots] at X81 l81 y81 z81 st81 hQ81
          subst l81 y81 z81
          obtain ⟨hv81, N81q, e81⟩ := hQ81
          have N81 := Fr.app N39 N81q
          have hf81 : f3o b15 b38 x0_0 x0_1 v7 v25 v40 v67 v89 v119 = (0 : Int32) := by unfold f3o; rw [if_pos hc229_42, if_neg hc236_44]
          rw [hf81] at hv81
          subst hv81
          have sg84 : ∀ t, Steps p.tables e below (T81.setTop (mkF m 276 #[.val (.int x0_0), .val (.long x0_1), .second, .val (.int x0_2), .val (.int x0_3), .val (.int x0_4), .val (.int x0_5), .val (.int v7), .val (.int v25), .val (.int v40), .val (.long v67), .second, .val (.int v89), .val (.int v119), .val (.ref b15), .val (.int v142), .val (.ref b38), .val (.int (0 : Int32))] [(.ref b15), (.ref b38)])) t → Steps p.tables e below (T39.setTop (mkF m 264 #[.val (.int x0_0), .val (.long x0_1), .second, .val (.int x0_2), .val (.int x0_3), .val (.int x0_4), .val (.int x0_5), .val (.int v7), .val (.int v25), .val (.int v40), .val (.long v67), .second, .val (.int v89), .val (.int v119), .val (.ref b15), .val (.int v142), .val (.ref b38), .val (.int (0 : Int32))] [(.ref b38), (.ref b15)])) t := fun t kt => by
            show Steps p.tables e below (T39.setTop (mkF m 264 #[.val (.int x0_0), .val (.long x0_1), .second, .val (.int x0_2), .val (.int x0_3), .val (.int x0_4), .val (.int x0_5), .val (.int v7), .val (.int v25), .val (.int v40), .val (.long v67), .second, .val (.int v89), .val (.int v119), .val (.ref b15), .val (.int v142), .val (.ref b38), .val (.int (0 : Int32))] [(.ref b38), (.ref b15)])) _
            refine st81.trans ?_
            show Steps p.tables e below (T81.setTop (mkF m 267 #[.val (.int x0_0), .val (.long x0_1), .second, .val (.int x0_2), .val (.int x0_3), .val (.int x0_4), .val (.int x0_5), .val (.int v7), .val (.int v25), .val (.int v40), .val (.long v67), .second, .val (.int v89), .val (.int v119), .val (.ref b15), .val (.int v142), .val (.ref b38), .val (.int (0 : Int32))] [(.int (0 : Int32))])) _
            refine XS.iload X81.here hx rfl (hb hby at_267) rfl ?_
            show Steps p.tables e below (T81.setTop (mkF m 269 #[.val (.int x0_0), .val (.long x0_1), .second, .val (.int x0_2), .val (.int x0_3), .val (.int x0_4), .val (.int x0_5), .val (.int v7), .val (.int v25), .val (.int v40), .val (.long v67), .second, .val (.int v89), .val (.int v119), .val (.ref b15), .val (.int v142), .val (.ref b38), .val (.int (0 : Int32))] [(.int (0 : Int32)), (.int (0 : Int32))])) _
            refine XS.icmpNo X81.here hx rfl (hb hby at_269) rfl (teq (by decide : ((0 : Int32) = (0 : Int32)))).2 ?_
            show Steps p.tables e below (T81.setTop (mkF m 272 #[.val (.int x0_0), .val (.long x0_1), .second, .val (.int x0_2), .val (.int x0_3), .val (.int x0_4), .val (.int x0_5), .val (.int v7), .val (.int v25), .val (.int v40), .val (.long v67), .second, .val (.int v89), .val (.int v119), .val (.ref b15), .val (.int v142), .val (.ref b38), .val (.int (0 : Int32))] [])) _
            refine XS.aload X81.here hx rfl (hb hby at_272) rfl rfl ?_
            show Steps p.tables e below (T81.setTop (mkF m 274 #[.val (.int x0_0), .val (.long x0_1), .second, .val (.int x0_2), .val (.int x0_3), .val (.int x0_4), .val (.int x0_5), .val (.int v7), .val (.int v25), .val (.int v40), .val (.long v67), .second, .val (.int v89), .val (.int v119), .val (.ref b15), .val (.int v142), .val (.ref b38), .val (.int (0 : Int32))] [(.ref b38)])) _
            refine XS.aload X81.here hx rfl (hb hby at_274) rfl rfl ?_
            exact kt
          obtain ⟨cq83, kq83, q83a, q83b, q83c⟩ := isOf hZ e81 Ex39
          obtain ⟨v83, _, ⟨T83, L83, k83, n83⟩, -, X83, ⟨Lc83, hQ83, l83, y83, z83⟩, st83⟩ := X81.virtualBack hx (y := (⟨"com/example/libdmutex/libdmutex/core/SplitToken$Waiter", "equals", "(Ljava/lang/Object;)Z"⟩ : MethodName)) (z := (⟨"com/example/libdmutex/libdmutex/core/SplitToken$Waiter", "equals", "(Ljava/lang/Object;)Z"⟩ : MethodName)) hown (mvT hZ (hw _ (List.mem_of_getElem? (i := 18) rfl))) (mvT hZ (hw _ (List.mem_of_getElem? (i := 19) rfl))) (notFace_of_selects (args := #[]) (mvT hZ (hw _ (List.mem_of_getElem? (i := 21) rfl)))) (mvT hZ (hw _ (List.mem_of_getElem? (i := 21) rfl))) (mvT hZ (hw _ (List.mem_of_getElem? (i := 20) rfl))) (by decide) (backOf (W := 0) (rm3o l Z a0 hw [] b38 b15 v40 v67 v89 v119 x0_0 x0_1 v7 v25 T39.heap n0 Zs39 Ex39 c76 Fq39_peer Fq39_ticket Fq39_position Fq39_to c77 c78 c79 c80) hZ (hw _ (List.mem_of_getElem? (i := 22) rfl)) (hw _ (List.mem_of_getElem? (i := 3) rfl)) (by decide) (by decide)) q83a q83c (g := (mkF m 276 #[.val (.int x0_0), .val (.long x0_1), .second, .val (.int x0_2), .val (.int x0_3), .val (.int x0_4), .val (.int x0_5), .val (.int v7), .val (.int v25), .val (.int v40), .val (.long v67), .second, .val (.int v89), .val (.int v119), .val (.ref b15), .val (.int v142), .val (.ref b38), .val (.int (0 : Int32))] [(.ref b15), (.ref b38)])) rfl (by rw [hml]; rfl) (Steps.refl _) (argsL := [(.ref b15)]) (rest := []) (lenOf pd_3 rfl) rfl (by show 2 * 0 + _ ≤ _; exact Nat.le_of_eq rfl) (hb hby at_276) (fun _ _ => ⟨rfl, e81, (by decide : 2 + 0 ≤ _), (by decide : 8 + 0 ≤ _)⟩)
          dsimp only [Pt.U, Pt.locs, Pt.cells, Pt.slots] at X83 l83 y83 z83 st83 hQ83
          subst l83 y83 z83
          obtain ⟨hv83, N83q, e83⟩ := hQ83
          have N83 := Fr.app N81 N83q
          have hf83 : f3o b38 b15 v40 v67 v89 v119 x0_0 x0_1 v7 v25 = (0 : Int32) := by unfold f3o; rw [if_pos (Eq.symm hc229_42), if_neg (Ne.symm hc236_44)]
          rw [hf83] at hv83
          subst hv83
          obtain ⟨fs, hr, hrun, hended, hW, hsame⟩ := X83.leave (v := some (.int (1 : Int32))) (fun h => by rw [Bd.returns] at h; cases h)
          refine ⟨_, _, pre0 _ (sg1 _ (sg2 _ (sg3 _ (sg4 _ (sg5 _ (sg6 _ (sg7 _ (sg8 _ (sg9 _ (sg10 _ (sg11 _ (sg12 _ (sg13 _ (sg14 _ (sg17 _ (sg18 _ (sg19 _ (sg25 _ (sg40 _ (sg41 _ (sg43 _ (sg82 _ (sg84 _ ?_))))))))))))))))))))))), hrun, hended, _, _, rfl, ?_, ⟨_, rfl⟩, hW, hsame.mono (by decide) (by decide)⟩
          · show Steps p.tables e below (T81.setTop (mkF m 276 #[.val (.int x0_0), .val (.long x0_1), .second, .val (.int x0_2), .val (.int x0_3), .val (.int x0_4), .val (.int x0_5), .val (.int v7), .val (.int v25), .val (.int v40), .val (.long v67), .second, .val (.int v89), .val (.int v119), .val (.ref b15), .val (.int v142), .val (.ref b38), .val (.int (0 : Int32))] [(.ref b15), (.ref b38)])) _
            refine st83.trans ?_
            show Steps p.tables e below (T83.setTop (mkF m 279 #[.val (.int x0_0), .val (.long x0_1), .second, .val (.int x0_2), .val (.int x0_3), .val (.int x0_4), .val (.int x0_5), .val (.int v7), .val (.int v25), .val (.int v40), .val (.long v67), .second, .val (.int v89), .val (.int v119), .val (.ref b15), .val (.int v142), .val (.ref b38), .val (.int (0 : Int32))] [(.int (0 : Int32))])) _
            refine XS.iload X83.here hx rfl (hb hby at_279) rfl ?_
            show Steps p.tables e below (T83.setTop (mkF m 281 #[.val (.int x0_0), .val (.long x0_1), .second, .val (.int x0_2), .val (.int x0_3), .val (.int x0_4), .val (.int x0_5), .val (.int v7), .val (.int v25), .val (.int v40), .val (.long v67), .second, .val (.int v89), .val (.int v119), .val (.ref b15), .val (.int v142), .val (.ref b38), .val (.int (0 : Int32))] [(.int (0 : Int32)), (.int (0 : Int32))])) _
            refine XS.icmpNo X83.here hx rfl (hb hby at_281) rfl (teq (by decide : ((0 : Int32) = (0 : Int32)))).2 ?_
            show Steps p.tables e below (T83.setTop (mkF m 284 #[.val (.int x0_0), .val (.long x0_1), .second, .val (.int x0_2), .val (.int x0_3), .val (.int x0_4), .val (.int x0_5), .val (.int v7), .val (.int v25), .val (.int v40), .val (.long v67), .second, .val (.int v89), .val (.int v119), .val (.ref b15), .val (.int v142), .val (.ref b38), .val (.int (0 : Int32))] [])) _
            refine XS.iconst X83.here hx rfl (hb hby at_284) ?_
            show Steps p.tables e below (T83.setTop (mkF m 285 #[.val (.int x0_0), .val (.long x0_1), .second, .val (.int x0_2), .val (.int x0_3), .val (.int x0_4), .val (.int x0_5), .val (.int v7), .val (.int v25), .val (.int v40), .val (.long v67), .second, .val (.int v89), .val (.int v119), .val (.ref b15), .val (.int v142), .val (.ref b38), .val (.int (0 : Int32))] [(.int (1 : Int32))])) _
            refine XS.goto X83.here hx rfl (pc0 := 285) (pc' := 289) rfl (hb hby at_285) (by decide) (by decide) ?_
            show Steps p.tables e below (T83.setTop (mkF m 289 #[.val (.int x0_0), .val (.long x0_1), .second, .val (.int x0_2), .val (.int x0_3), .val (.int x0_4), .val (.int x0_5), .val (.int v7), .val (.int v25), .val (.int v40), .val (.long v67), .second, .val (.int v89), .val (.int v119), .val (.ref b15), .val (.int v142), .val (.ref b38), .val (.int (0 : Int32))] [(.int (1 : Int32))])) _
            exact retN X83 hx (t := .boolean) Bd.returns (by simp) (hb hby at_289) hr
          · show Q0 Z x0_0 x0_1 x0_2 x0_3 x0_4 x0_5 cA cl h0 n0 _ T83.heap _
            rw [e83]
            exact ⟨rfl, N83⟩
      · have c85 := (Exa.keep (Exa.ext E38 Ex16) K39)
        have c86 := (Fld.keep (Fld.ext E38 Fq16_peer) K39 (ninS ne_b15_b38 nin0))
        have c87 := (Fld.keep (Fld.ext E38 Fq16_ticket) K39 (ninS ne_b15_b38 nin0))
        have c88 := (Fld.keep (Fld.ext E38 Fq16_position) K39 (ninS ne_b15_b38 nin0))
        have c89 := (Fld.keep (Fld.ext E38 Fq16_to) K39 (ninS ne_b15_b38 nin0))
        have sg91 : ∀ t, Steps p.tables e below (T39.setTop (mkF m 264 #[.val (.int x0_0), .val (.long x0_1), .second, .val (.int x0_2), .val (.int x0_3), .val (.int x0_4), .val (.int x0_5), .val (.int v7), .val (.int v25), .val (.int v40), .val (.long v67), .second, .val (.int v89), .val (.int v119), .val (.ref b15), .val (.int v142), .val (.ref b38), .val (.int (0 : Int32))] [(.ref b38), (.ref b15)])) t → Steps p.tables e below (T39.setTop (mkF m 229 #[.val (.int x0_0), .val (.long x0_1), .second, .val (.int x0_2), .val (.int x0_3), .val (.int x0_4), .val (.int x0_5), .val (.int v7), .val (.int v25), .val (.int v40), .val (.long v67), .second, .val (.int v89), .val (.int v119), .val (.ref b15), .val (.int v142), .val (.ref b38), .unset] [(.int v40), (.int x0_0)])) t := fun t kt => by
          show Steps p.tables e below (T39.setTop (mkF m 229 #[.val (.int x0_0), .val (.long x0_1), .second, .val (.int x0_2), .val (.int x0_3), .val (.int x0_4), .val (.int x0_5), .val (.int v7), .val (.int v25), .val (.int v40), .val (.long v67), .second, .val (.int v89), .val (.int v119), .val (.ref b15), .val (.int v142), .val (.ref b38), .unset] [(.int v40), (.int x0_0)])) _
          refine XS.icmpYes X39.here hx rfl (pc0 := 229) (pc' := 257) rfl (hb hby at_229) rfl (feq hc229_42).2 (by decide) (by decide) ?_
          show Steps p.tables e below (T39.setTop (mkF m 257 #[.val (.int x0_0), .val (.long x0_1), .second, .val (.int x0_2), .val (.int x0_3), .val (.int x0_4), .val (.int x0_5), .val (.int v7), .val (.int v25), .val (.int v40), .val (.long v67), .second, .val (.int v89), .val (.int v119), .val (.ref b15), .val (.int v142), .val (.ref b38), .unset] [])) _
          refine XS.iconst X39.here hx rfl (hb hby at_257) ?_
          show Steps p.tables e below (T39.setTop (mkF m 258 #[.val (.int x0_0), .val (.long x0_1), .second, .val (.int x0_2), .val (.int x0_3), .val (.int x0_4), .val (.int x0_5), .val (.int v7), .val (.int v25), .val (.int v40), .val (.long v67), .second, .val (.int v89), .val (.int v119), .val (.ref b15), .val (.int v142), .val (.ref b38), .unset] [(.int (0 : Int32))])) _
          refine XS.istore X39.here hx rfl (hb hby at_258) rfl (l' := #[.val (.int x0_0), .val (.long x0_1), .second, .val (.int x0_2), .val (.int x0_3), .val (.int x0_4), .val (.int x0_5), .val (.int v7), .val (.int v25), .val (.int v40), .val (.long v67), .second, .val (.int v89), .val (.int v119), .val (.ref b15), .val (.int v142), .val (.ref b38), .val (.int (0 : Int32))]) rfl ?_
          show Steps p.tables e below (T39.setTop (mkF m 260 #[.val (.int x0_0), .val (.long x0_1), .second, .val (.int x0_2), .val (.int x0_3), .val (.int x0_4), .val (.int x0_5), .val (.int v7), .val (.int v25), .val (.int v40), .val (.long v67), .second, .val (.int v89), .val (.int v119), .val (.ref b15), .val (.int v142), .val (.ref b38), .val (.int (0 : Int32))] [])) _
          refine XS.aload X39.here hx rfl (hb hby at_260) rfl rfl ?_
          show Steps p.tables e below (T39.setTop (mkF m 262 #[.val (.int x0_0), .val (.long x0_1), .second, .val (.int x0_2), .val (.int x0_3), .val (.int x0_4), .val (.int x0_5), .val (.int v7), .val (.int v25), .val (.int v40), .val (.long v67), .second, .val (.int v89), .val (.int v119), .val (.ref b15), .val (.int v142), .val (.ref b38), .val (.int (0 : Int32))] [(.ref b15)])) _
          refine XS.aload X39.here hx rfl (hb hby at_262) rfl rfl ?_
          exact kt
        obtain ⟨cq90, kq90, q90a, q90b, q90c⟩ := isOf hZ rfl c85
        obtain ⟨v90, _, ⟨T90, L90, k90, n90⟩, -, X90, ⟨Lc90, hQ90, l90, y90, z90⟩, st90⟩ := X39.virtualBack hx (y := (⟨"com/example/libdmutex/libdmutex/core/SplitToken$Waiter", "equals", "(Ljava/lang/Object;)Z"⟩ : MethodName)) (z := (⟨"com/example/libdmutex/libdmutex/core/SplitToken$Waiter", "equals", "(Ljava/lang/Object;)Z"⟩ : MethodName)) hown (mvT hZ (hw _ (List.mem_of_getElem? (i := 18) rfl))) (mvT hZ (hw _ (List.mem_of_getElem? (i := 19) rfl))) (notFace_of_selects (args := #[]) (mvT hZ (hw _ (List.mem_of_getElem? (i := 21) rfl)))) (mvT hZ (hw _ (List.mem_of_getElem? (i := 21) rfl))) (mvT hZ (hw _ (List.mem_of_getElem? (i := 20) rfl))) (by decide) (backOf (W := 0) (rm3o l Z a0 hw [] b15 b38 x0_0 x0_1 v7 v25 v40 v67 v89 v119 T39.heap n0 Zs39 c85 Ex39 c86 c87 c88 c89 Fq39_peer Fq39_ticket Fq39_position Fq39_to) hZ (hw _ (List.mem_of_getElem? (i := 22) rfl)) (hw _ (List.mem_of_getElem? (i := 3) rfl)) (by decide) (by decide)) q90a q90c (g := (mkF m 264 #[.val (.int x0_0), .val (.long x0_1), .second, .val (.int x0_2), .val (.int x0_3), .val (.int x0_4), .val (.int x0_5), .val (.int v7), .val (.int v25), .val (.int v40), .val (.long v67), .second, .val (.int v89), .val (.int v119), .val (.ref b15), .val (.int v142), .val (.ref b38), .val (.int (0 : Int32))] [(.ref b38), (.ref b15)])) rfl (by rw [hml]; rfl) (Steps.refl _) (argsL := [(.ref b38)]) (rest := []) (lenOf pd_3 rfl) rfl (by show 2 * 0 + _ ≤ _; exact Nat.le_of_eq rfl) (hb hby at_264) (fun _ _ => ⟨rfl, rfl, (by decide : 2 + 0 ≤ _), (by decide : 8 + 0 ≤ _)⟩)
        dsimp only [Pt.U, Pt.locs, Pt.cells, Pt.slots] at X90 l90 y90 z90 st90 hQ90
        subst l90 y90 z90
        obtain ⟨hv90, N90q, e90⟩ := hQ90
        have N90 := Fr.app N39 N90q
        have hf90 : f3o b15 b38 x0_0 x0_1 v7 v25 v40 v67 v89 v119 = (0 : Int32) := by unfold f3o; rw [if_neg hc229_42]
        rw [hf90] at hv90
        subst hv90
        have sg93 : ∀ t, Steps p.tables e below (T90.setTop (mkF m 276 #[.val (.int x0_0), .val (.long x0_1), .second, .val (.int x0_2), .val (.int x0_3), .val (.int x0_4), .val (.int x0_5), .val (.int v7), .val (.int v25), .val (.int v40), .val (.long v67), .second, .val (.int v89), .val (.int v119), .val (.ref b15), .val (.int v142), .val (.ref b38), .val (.int (0 : Int32))] [(.ref b15), (.ref b38)])) t → Steps p.tables e below (T39.setTop (mkF m 264 #[.val (.int x0_0), .val (.long x0_1), .second, .val (.int x0_2), .val (.int x0_3), .val (.int x0_4), .val (.int x0_5), .val (.int v7), .val (.int v25), .val (.int v40), .val (.long v67), .second, .val (.int v89), .val (.int v119), .val (.ref b15), .val (.int v142), .val (.ref b38), .val (.int (0 : Int32))] [(.ref b38), (.ref b15)])) t := fun t kt => by
          show Steps p.tables e below (T39.setTop (mkF m 264 #[.val (.int x0_0), .val (.long x0_1), .second, .val (.int x0_2), .val (.int x0_3), .val (.int x0_4), .val (.int x0_5), .val (.int v7), .val (.int v25), .val (.int v40), .val (.long v67), .second, .val (.int v89), .val (.int v119), .val (.ref b15), .val (.int v142), .val (.ref b38), .val (.int (0 : Int32))] [(.ref b38), (.ref b15)])) _
          refine st90.trans ?_
          show Steps p.tables e below (T90.setTop (mkF m 267 #[.val (.int x0_0), .val (.long x0_1), .second, .val (.int x0_2), .val (.int x0_3), .val (.int x0_4), .val (.int x0_5), .val (.int v7), .val (.int v25), .val (.int v40), .val (.long v67), .second, .val (.int v89), .val (.int v119), .val (.ref b15), .val (.int v142), .val (.ref b38), .val (.int (0 : Int32))] [(.int (0 : Int32))])) _
          refine XS.iload X90.here hx rfl (hb hby at_267) rfl ?_
          show Steps p.tables e below (T90.setTop (mkF m 269 #[.val (.int x0_0), .val (.long x0_1), .second, .val (.int x0_2), .val (.int x0_3), .val (.int x0_4), .val (.int x0_5), .val (.int v7), .val (.int v25), .val (.int v40), .val (.long v67), .second, .val (.int v89), .val (.int v119), .val (.ref b15), .val (.int v142), .val (.ref b38), .val (.int (0 : Int32))] [(.int (0 : Int32)), (.int (0 : Int32))])) _
          refine XS.icmpNo X90.here hx rfl (hb hby at_269) rfl (teq (by decide : ((0 : Int32) = (0 : Int32)))).2 ?_
          show Steps p.tables e below (T90.setTop (mkF m 272 #[.val (.int x0_0), .val (.long x0_1), .second, .val (.int x0_2), .val (.int x0_3), .val (.int x0_4), .val (.int x0_5), .val (.int v7), .val (.int v25), .val (.int v40), .val (.long v67), .second, .val (.int v89), .val (.int v119), .val (.ref b15), .val (.int v142), .val (.ref b38), .val (.int (0 : Int32))] [])) _
          refine XS.aload X90.here hx rfl (hb hby at_272) rfl rfl ?_
          show Steps p.tables e below (T90.setTop (mkF m 274 #[.val (.int x0_0), .val (.long x0_1), .second, .val (.int x0_2), .val (.int x0_3), .val (.int x0_4), .val (.int x0_5), .val (.int v7), .val (.int v25), .val (.int v40), .val (.long v67), .second, .val (.int v89), .val (.int v119), .val (.ref b15), .val (.int v142), .val (.ref b38), .val (.int (0 : Int32))] [(.ref b38)])) _
          refine XS.aload X90.here hx rfl (hb hby at_274) rfl rfl ?_
          exact kt
        obtain ⟨cq92, kq92, q92a, q92b, q92c⟩ := isOf hZ e90 Ex39
        obtain ⟨v92, _, ⟨T92, L92, k92, n92⟩, -, X92, ⟨Lc92, hQ92, l92, y92, z92⟩, st92⟩ := X90.virtualBack hx (y := (⟨"com/example/libdmutex/libdmutex/core/SplitToken$Waiter", "equals", "(Ljava/lang/Object;)Z"⟩ : MethodName)) (z := (⟨"com/example/libdmutex/libdmutex/core/SplitToken$Waiter", "equals", "(Ljava/lang/Object;)Z"⟩ : MethodName)) hown (mvT hZ (hw _ (List.mem_of_getElem? (i := 18) rfl))) (mvT hZ (hw _ (List.mem_of_getElem? (i := 19) rfl))) (notFace_of_selects (args := #[]) (mvT hZ (hw _ (List.mem_of_getElem? (i := 21) rfl)))) (mvT hZ (hw _ (List.mem_of_getElem? (i := 21) rfl))) (mvT hZ (hw _ (List.mem_of_getElem? (i := 20) rfl))) (by decide) (backOf (W := 0) (rm3o l Z a0 hw [] b38 b15 v40 v67 v89 v119 x0_0 x0_1 v7 v25 T39.heap n0 Zs39 Ex39 c85 Fq39_peer Fq39_ticket Fq39_position Fq39_to c86 c87 c88 c89) hZ (hw _ (List.mem_of_getElem? (i := 22) rfl)) (hw _ (List.mem_of_getElem? (i := 3) rfl)) (by decide) (by decide)) q92a q92c (g := (mkF m 276 #[.val (.int x0_0), .val (.long x0_1), .second, .val (.int x0_2), .val (.int x0_3), .val (.int x0_4), .val (.int x0_5), .val (.int v7), .val (.int v25), .val (.int v40), .val (.long v67), .second, .val (.int v89), .val (.int v119), .val (.ref b15), .val (.int v142), .val (.ref b38), .val (.int (0 : Int32))] [(.ref b15), (.ref b38)])) rfl (by rw [hml]; rfl) (Steps.refl _) (argsL := [(.ref b15)]) (rest := []) (lenOf pd_3 rfl) rfl (by show 2 * 0 + _ ≤ _; exact Nat.le_of_eq rfl) (hb hby at_276) (fun _ _ => ⟨rfl, e90, (by decide : 2 + 0 ≤ _), (by decide : 8 + 0 ≤ _)⟩)
        dsimp only [Pt.U, Pt.locs, Pt.cells, Pt.slots] at X92 l92 y92 z92 st92 hQ92
        subst l92 y92 z92
        obtain ⟨hv92, N92q, e92⟩ := hQ92
        have N92 := Fr.app N90 N92q
        have hf92 : f3o b38 b15 v40 v67 v89 v119 x0_0 x0_1 v7 v25 = (0 : Int32) := by unfold f3o; rw [if_neg (Ne.symm hc229_42)]
        rw [hf92] at hv92
        subst hv92
        obtain ⟨fs, hr, hrun, hended, hW, hsame⟩ := X92.leave (v := some (.int (1 : Int32))) (fun h => by rw [Bd.returns] at h; cases h)
        refine ⟨_, _, pre0 _ (sg1 _ (sg2 _ (sg3 _ (sg4 _ (sg5 _ (sg6 _ (sg7 _ (sg8 _ (sg9 _ (sg10 _ (sg11 _ (sg12 _ (sg13 _ (sg14 _ (sg17 _ (sg18 _ (sg19 _ (sg25 _ (sg40 _ (sg41 _ (sg91 _ (sg93 _ ?_)))))))))))))))))))))), hrun, hended, _, _, rfl, ?_, ⟨_, rfl⟩, hW, hsame.mono (by decide) (by decide)⟩
        · show Steps p.tables e below (T90.setTop (mkF m 276 #[.val (.int x0_0), .val (.long x0_1), .second, .val (.int x0_2), .val (.int x0_3), .val (.int x0_4), .val (.int x0_5), .val (.int v7), .val (.int v25), .val (.int v40), .val (.long v67), .second, .val (.int v89), .val (.int v119), .val (.ref b15), .val (.int v142), .val (.ref b38), .val (.int (0 : Int32))] [(.ref b15), (.ref b38)])) _
          refine st92.trans ?_
          show Steps p.tables e below (T92.setTop (mkF m 279 #[.val (.int x0_0), .val (.long x0_1), .second, .val (.int x0_2), .val (.int x0_3), .val (.int x0_4), .val (.int x0_5), .val (.int v7), .val (.int v25), .val (.int v40), .val (.long v67), .second, .val (.int v89), .val (.int v119), .val (.ref b15), .val (.int v142), .val (.ref b38), .val (.int (0 : Int32))] [(.int (0 : Int32))])) _
          refine XS.iload X92.here hx rfl (hb hby at_279) rfl ?_
          show Steps p.tables e below (T92.setTop (mkF m 281 #[.val (.int x0_0), .val (.long x0_1), .second, .val (.int x0_2), .val (.int x0_3), .val (.int x0_4), .val (.int x0_5), .val (.int v7), .val (.int v25), .val (.int v40), .val (.long v67), .second, .val (.int v89), .val (.int v119), .val (.ref b15), .val (.int v142), .val (.ref b38), .val (.int (0 : Int32))] [(.int (0 : Int32)), (.int (0 : Int32))])) _
          refine XS.icmpNo X92.here hx rfl (hb hby at_281) rfl (teq (by decide : ((0 : Int32) = (0 : Int32)))).2 ?_
          show Steps p.tables e below (T92.setTop (mkF m 284 #[.val (.int x0_0), .val (.long x0_1), .second, .val (.int x0_2), .val (.int x0_3), .val (.int x0_4), .val (.int x0_5), .val (.int v7), .val (.int v25), .val (.int v40), .val (.long v67), .second, .val (.int v89), .val (.int v119), .val (.ref b15), .val (.int v142), .val (.ref b38), .val (.int (0 : Int32))] [])) _
          refine XS.iconst X92.here hx rfl (hb hby at_284) ?_
          show Steps p.tables e below (T92.setTop (mkF m 285 #[.val (.int x0_0), .val (.long x0_1), .second, .val (.int x0_2), .val (.int x0_3), .val (.int x0_4), .val (.int x0_5), .val (.int v7), .val (.int v25), .val (.int v40), .val (.long v67), .second, .val (.int v89), .val (.int v119), .val (.ref b15), .val (.int v142), .val (.ref b38), .val (.int (0 : Int32))] [(.int (1 : Int32))])) _
          refine XS.goto X92.here hx rfl (pc0 := 285) (pc' := 289) rfl (hb hby at_285) (by decide) (by decide) ?_
          show Steps p.tables e below (T92.setTop (mkF m 289 #[.val (.int x0_0), .val (.long x0_1), .second, .val (.int x0_2), .val (.int x0_3), .val (.int x0_4), .val (.int x0_5), .val (.int v7), .val (.int v25), .val (.int v40), .val (.long v67), .second, .val (.int v89), .val (.int v119), .val (.ref b15), .val (.int v142), .val (.ref b38), .val (.int (0 : Int32))] [(.int (1 : Int32))])) _
          exact retN X92 hx (t := .boolean) Bd.returns (by simp) (hb hby at_289) hr
        · show Q0 Z x0_0 x0_1 x0_2 x0_3 x0_4 x0_5 cA cl h0 n0 _ T92.heap _
          rw [e92]
          exact ⟨rfl, N92⟩
set_option maxRecDepth 65536 in
set_option maxHeartbeats 40000000 in
theorem comes_1 {Post : Tables → Env → Array Value → State → Outcome → State → Prop} (hpost : ∀ tb e args s v u, (limb_1_1.after args s (.returned v) u = true ∧ limb_1_2.after args s (.returned v) u = true ∧ True) → FrameEnd s (.returned v) u (Jvm.fieldLocs frame_1_writes args s ++ Jvm.arrayLocs frame_1_arrays args s ++ Jvm.staticLocs frame_1_statics s) 16 128 → Post tb e args s (.returned v) u) :
    ArmFor flags0 classFile x code maxLocals ret World_1 tables_1 room_1 Calls_1 rest_1 Pre_1 Post := by
  intro l hfl _ _ p e ha hc hk s m args below hf hA hF happ hP
  obtain ⟨hcalls, hrest, hpre⟩ := hP
  obtain ⟨-, -, -, hnamed, -, -, -, hat⟩ := (Spec.applies_iff hf).mp happ
  obtain ⟨hg, hn⟩ := and_e (Cond.before_iff.mp (show (Jvm.Cond.and given_1 narrow_1).before args s = true from hpre))
  obtain ⟨g1, g2⟩ := and_e hg
  obtain ⟨g3, g4⟩ := and_e g2
  obtain ⟨g5, g6⟩ := and_e g4
  obtain ⟨g7, g8⟩ := and_e g6
  obtain ⟨g9, g10⟩ := and_e g8
  obtain ⟨g11, g12⟩ := and_e g10
  obtain ⟨w0, w1, w2, w3, w4, w5, rfl⟩ : ∃ w0 w1 w2 w3 w4 w5 : Value, args = #[w0, w1, w2, w3, w4, w5] := by
    have hs : args.size = 6 := by simpa [Cond.value, given_1] using g1
    obtain ⟨L⟩ := args
    match L, hs with
    | [w0, w1, w2, w3, w4, w5], _ => exact ⟨w0, w1, w2, w3, w4, w5, rfl⟩
  have hw := fun d (hd : d ∈ tables_1) => atoms_spec (ws := Jvm.Cond.code x code maxLocals ret :: tables_1) hat d (List.mem_cons_of_mem _ hd)
  have hfit : Fit s := fun {y c} hc i hi => by
    obtain ⟨ha, rfl⟩ := Array.getElem?_eq_some_iff.mp hc
    have q := List.all_eq_true.mp ((Array.all_eq_true_iff_forall_mem.mp hF) _ (Array.getElem_mem ha)) i (List.mem_range.mpr hi)
    simpa [Array.getElem?_eq_getElem hi] using q
  obtain ⟨hsets, hown0⟩ := atoms_of _ (rest_1_c_eq ▸ (show rest_1_c.before _ s = true from hrest))
  obtain ⟨i0, ei0⟩ := is_v g3
  obtain rfl : w0 = (.int i0) := Option.some.inj ei0
  obtain ⟨i1, ei1⟩ := isL_v g5
  obtain rfl : w1 = (.long i1) := Option.some.inj ei1
  obtain ⟨i2, ei2⟩ := is_v g7
  obtain rfl : w2 = (.int i2) := Option.some.inj ei2
  obtain ⟨i3, ei3⟩ := is_v g9
  obtain rfl : w3 = (.int i3) := Option.some.inj ei3
  obtain ⟨i4, ei4⟩ := is_v g11
  obtain rfl : w4 = (.int i4) := Option.some.inj ei4
  obtain ⟨i5, ei5⟩ := is_v g12
  obtain rfl : w5 = (.int i5) := Option.some.inj ei5
  have ha4 := Cond.before_iff.mp (hsets _ (List.mem_of_getElem? (i := 4) rfl))
  obtain ⟨cA, evc⟩ := arr_v ha4
  obtain ⟨cl, AR⟩ := Arr.start evc ha4
  have hlen := own_eqI (Cond.before_iff.mp (hsets _ (List.mem_of_getElem? (i := 6) rfl)))
  obtain ⟨hl1, hl2⟩ := own_len evc AR hlen
  have SC : Sta s s.heap "java/lang/Integer$IntegerCache" "cache" "[Ljava/lang/Integer;" (.ref cA) := Sta.start evc (Or.inr ⟨(hw _ (List.mem_of_getElem? (i := 30) rfl)), (hsets _ (List.mem_of_getElem? (i := 2) rfl))⟩)
  have SH : Sta s s.heap "java/lang/Integer$IntegerCache" "high" "I" (.int (127 : Int32)) := Sta.start (own_eqI (Cond.before_iff.mp (hsets _ (List.mem_of_getElem? (i := 3) rfl)))) (Or.inl (hsets _ (List.mem_of_getElem? (i := 1) rfl)))
  have JC : Bxs s cA cl "java/lang/Integer" "I" 256 (fun j => .int (j - 128)) := Bxs.start (fun _ => evc) AR hl1 hl2 (by decide) (Cond.before_iff.mp (hsets _ (List.mem_of_getElem? (i := 7) rfl))) (fun X j hj h => eqv_i (own_sub hj) h)
  obtain ⟨n, o, h1, h2, h3, _, L, rfl, ⟨rfl, N⟩, hq⟩ := rm0 l s _ hw tables_1 i0 i1 i2 i3 i4 i5 cA cl s.heap s.heap.size (Nat.le_refl _) (Old.start s) JC SC SH p e ha hc hk s m _ below hf ((Spec.applies_iff_loose hf).mp happ).1 ⟨rfl, State.Warmed39.refl s, rfl⟩ trivial
  refine ⟨n, _, h1, h2, h3, hpost _ _ _ _ _ _ ⟨Cond.after_iff.mpr rfl, Cond.after_iff.mpr (eq_i res_at (Term.int_eval (1)) rfl), trivial⟩ ⟨hq.1, hq.2.1, (hq.2.2.sift fun y hy => Or.inr (N y hy)).mono (by decide) (by decide)⟩⟩
theorem main_1_1 : Claimed_1_1 := comes_1 fun _ _ _ _ _ _ h hF => ⟨h.1, hF⟩
theorem main_1_2 : Claimed_1_2 := comes_1 fun _ _ _ _ _ _ h hF => ⟨h.2.1, hF⟩
end Jvm.Pilot.@@N@@
namespace Jvm.Pilot.@@N@@
open Jvm Jvm.ClassFile Sem Op Lib Jvm.Free Jvm.Stand Jvm.Pilot.@@N@@.Jvm.D
/-! MADE BY PROGRAM (witnessworld.py) out of the Statement's table words and the real class files: 16 classes; the members and pool entries that the words name. The judged class is class 1, her method 1. -/
namespace start1
open Jvm.ClassFile
def u (s : String) : CpInfo := .utf8 (stringToUtf16 s)
/-- a pool by its gaps: so many unusable entries, then the entry; so many at the end -/
def gap : Nat → List CpInfo → List CpInfo
  | 0, r => r
  | n + 1, r => .unusable :: gap n r
def poolList (es : List (Nat × CpInfo)) (last : Nat) : List CpInfo := es.foldr (fun e r => gap e.1 (e.2 :: r)) (gap last [])
def pool (es : List (Nat × CpInfo)) (last : Nat) : Array CpInfo := ⟨poolList es last⟩
def fileOf (pool : Array CpInfo) (this : Nat) (attrs : Array Attribute := #[]) (ms : Array MethodInfo := #[]) (fl : Nat := 33) (sup : Nat := 0) (ifs : Array Nat := #[]) (fds : Array FieldInfo := #[]) : ClassFile where
  minorVersion := 0
  majorVersion := 65
  constantPool := pool
  accessFlags := fl
  thisClass := this
  superClass := sup
  interfaces := ifs
  fields := fds
  methods := ms
  attributes := attrs
def plain (name : String) (sup : Option ClassId) : Class where
  name := name
  kind := .ordinary
  loader := none
  accessFlags := 33
  super := sup
  interfaces := #[]
  cf := none
  fields := #[]
  methods := #[]
  instanceTypes := #[]
  staticTypes := #[]
  resolved := #[]
  callSites := []
  init := .initialized
  statics := none
  mirror := none

def pool0 : Array CpInfo := pool [(5, u "<init>"), (0, u "()V"), (1, .class_ 10), (1, u "java/lang/Object")] 113

def k0c0 : Code := { maxStack := 0, maxLocals := 1, code := object_method_1_code, exceptionTable := #[], attributes := #[] }
def k0m0 : Method := { name := "<init>", desc := "()V", sig := { parameters := [], returnType := none }, accessFlags := 1, code := some k0c0 }
/-- java/lang/Object -/
def k0 : Class := { plain "java/lang/Object" none with
  accessFlags := 33
  interfaces := #[]
  cf := some (fileOf pool0 8 #[] #[{ accessFlags := 1, nameIndex := 5, descriptorIndex := 6, attributes := #[] }] 33 0 #[] #[])
  fields := #[]
  methods := #[k0m0]
  instanceTypes := #[]
  staticTypes := #[]
  resolved := Array.replicate 124 none
  statics := none }

def pool1 : Array CpInfo := pool [(2, .class_ 4), (1, u "java/lang/Object"), (0, u "<init>"), (0, u "()V"), (0, .integer 2147483647), (0, .class_ 9), (0, u "com/example/libdmutex/libdmutex/core/SplitToken$Waiter"), (0, .methodref 8 11), (0, .nameAndType 5 12), (0, u "(IJII)V"), (0, .methodref 8 14), (0, .nameAndType 15 16), (0, u "equals"), (0, u "(Ljava/lang/Object;)Z"), (0, .methodref 18 19), (0, .class_ 20), (0, .nameAndType 21 22), (0, u "java/lang/Integer"), (0, u "valueOf"), (0, u "(I)Ljava/lang/Integer;"), (0, .class_ 24), (0, u "com/example/libdmutex/libdmutex/core/WaiterEqualsPinLaw"), (2, u "law"), (0, u "(IJIIII)Z")] 7

def k1m0 : Method := { name := "<init>", desc := "()V", sig := { parameters := [], returnType := none }, accessFlags := 1, code := none }
def k1c1 : Code := { maxStack := 7, maxLocals := 18, code := code, exceptionTable := #[], attributes := #[] }
def k1m1 : Method := { name := "law", desc := "(IJIIII)Z", sig := { parameters := [.int, .long, .int, .int, .int, .int], returnType := some .boolean }, accessFlags := 9, code := some k1c1 }
/-- com/example/libdmutex/libdmutex/core/WaiterEqualsPinLaw -/
def k1 : Class := { plain "com/example/libdmutex/libdmutex/core/WaiterEqualsPinLaw" (some 0) with
  accessFlags := 49
  interfaces := #[]
  cf := some (fileOf pool1 23 #[] #[{ accessFlags := 1, nameIndex := 5, descriptorIndex := 6, attributes := #[] }, { accessFlags := 9, nameIndex := 27, descriptorIndex := 28, attributes := #[] }] 49 2 #[] #[])
  fields := #[]
  methods := #[k1m0, k1m1]
  instanceTypes := #[]
  staticTypes := #[]
  resolved := Array.replicate 36 none
  statics := none }

def pool2 : Array CpInfo := pool [(1, .methodref 2 3), (0, .class_ 4), (0, .nameAndType 5 6), (0, u "java/lang/Object"), (0, u "<init>"), (0, u "()V"), (9, .fieldref 17 18), (0, .class_ 19), (0, .nameAndType 20 21), (0, u "com/example/libdmutex/libdmutex/core/SplitToken$Waiter"), (0, u "peer"), (0, u "I"), (0, .fieldref 17 23), (0, .nameAndType 24 25), (0, u "ticket"), (0, u "J"), (0, .fieldref 17 27), (0, .nameAndType 28 21), (0, u "position"), (0, .fieldref 17 30), (0, .nameAndType 31 21), (0, u "to"), (20, u "(IJII)V"), (5, u "equals"), (0, u "(Ljava/lang/Object;)Z"), (6, .class_ 67), (0, u "com/example/libdmutex/libdmutex/core/SplitToken")] 18

def k2c0 : Code := { maxStack := 4, maxLocals := 6, code := prog_48_method_1_code, exceptionTable := #[], attributes := #[] }
def k2m0 : Method := { name := "<init>", desc := "(IJII)V", sig := { parameters := [.int, .long, .int, .int], returnType := none }, accessFlags := 1, code := some k2c0 }
def k2c1 : Code := { maxStack := 4, maxLocals := 3, code := prog_48_method_6_code, exceptionTable := #[], attributes := #[] }
def k2m1 : Method := { name := "equals", desc := "(Ljava/lang/Object;)Z", sig := { parameters := [(.object "java/lang/Object")], returnType := some .boolean }, accessFlags := 1, code := some k2c1 }
/-- com/example/libdmutex/libdmutex/core/SplitToken$Waiter -/
def k2 : Class := { plain "com/example/libdmutex/libdmutex/core/SplitToken$Waiter" (some 0) with
  accessFlags := 49
  interfaces := #[]
  cf := some (fileOf pool2 17 #[.nestHost 66] #[{ accessFlags := 1, nameIndex := 5, descriptorIndex := 52, attributes := #[] }, { accessFlags := 1, nameIndex := 58, descriptorIndex := 59, attributes := #[] }] 49 2 #[] #[{ accessFlags := 18, nameIndex := 20, descriptorIndex := 21, attributes := #[] }, { accessFlags := 18, nameIndex := 24, descriptorIndex := 25, attributes := #[] }, { accessFlags := 18, nameIndex := 28, descriptorIndex := 21, attributes := #[] }, { accessFlags := 18, nameIndex := 31, descriptorIndex := 21, attributes := #[] }])
  fields := #[{ name := "peer", type := .int, accessFlags := 18, slot := 0, constantValue := 0 }, { name := "ticket", type := .long, accessFlags := 18, slot := 1, constantValue := 0 }, { name := "position", type := .int, accessFlags := 18, slot := 2, constantValue := 0 }, { name := "to", type := .int, accessFlags := 18, slot := 3, constantValue := 0 }]
  methods := #[k2m0, k2m1]
  instanceTypes := #[.int, .long, .int, .int]
  staticTypes := #[]
  resolved := Array.replicate 86 none
  statics := none }

def pool3 : Array CpInfo := pool [(1, .class_ 2), (0, u "java/io/Serializable"), (0, .class_ 4), (0, u "java/lang/Object")] 2

/-- java/io/Serializable -/
def k3 : Class := { plain "java/io/Serializable" (some 0) with
  accessFlags := 1537
  interfaces := #[]
  cf := some (fileOf pool3 1 #[] #[] 1537 3 #[] #[])
  fields := #[]
  methods := #[]
  instanceTypes := #[]
  staticTypes := #[]
  resolved := Array.replicate 7 none
  statics := none }

def pool4 : Array CpInfo := pool [(1, .methodref 2 3), (0, .class_ 4), (0, .nameAndType 5 6), (0, u "java/lang/Object"), (0, u "<init>"), (0, u "()V"), (1, .class_ 10), (1, u "java/lang/Number"), (2, .class_ 14), (0, u "java/io/Serializable"), (0, u "serialVersionUID"), (0, u "J")] 20

def k4c0 : Code := { maxStack := 1, maxLocals := 1, code := jdk_18_method_1_code, exceptionTable := #[], attributes := #[] }
def k4m0 : Method := { name := "<init>", desc := "()V", sig := { parameters := [], returnType := none }, accessFlags := 1, code := some k4c0 }
/-- java/lang/Number -/
def k4 : Class := { plain "java/lang/Number" (some 0) with
  accessFlags := 1057
  interfaces := #[3]
  cf := some (fileOf pool4 8 #[] #[{ accessFlags := 1, nameIndex := 5, descriptorIndex := 6, attributes := #[] }] 1057 2 #[13] #[{ accessFlags := 26, nameIndex := 15, descriptorIndex := 16, attributes := #[] }])
  fields := #[{ name := "serialVersionUID", type := .long, accessFlags := 26, slot := 0, constantValue := 0 }]
  methods := #[k4m0]
  instanceTypes := #[]
  staticTypes := #[.long]
  resolved := Array.replicate 37 none
  statics := none }

def pool5 : Array CpInfo := pool [(1, .class_ 2), (0, u "java/lang/Comparable"), (0, .class_ 4), (0, u "java/lang/Object")] 7

/-- java/lang/Comparable -/
def k5 : Class := { plain "java/lang/Comparable" (some 0) with
  accessFlags := 1537
  interfaces := #[]
  cf := some (fileOf pool5 1 #[] #[] 1537 3 #[] #[])
  fields := #[]
  methods := #[]
  instanceTypes := #[]
  staticTypes := #[]
  resolved := Array.replicate 12 none
  statics := none }

def pool6 : Array CpInfo := pool [(1, .class_ 2), (0, u "java/lang/constant/Constable"), (0, .class_ 4), (0, u "java/lang/Object")] 6

/-- java/lang/constant/Constable -/
def k6 : Class := { plain "java/lang/constant/Constable" (some 0) with
  accessFlags := 1537
  interfaces := #[]
  cf := some (fileOf pool6 1 #[] #[] 1537 3 #[] #[])
  fields := #[]
  methods := #[]
  instanceTypes := #[]
  staticTypes := #[]
  resolved := Array.replicate 11 none
  statics := none }

def pool7 : Array CpInfo := pool [(1, .class_ 2), (0, u "java/lang/constant/ConstantDesc"), (0, .class_ 4), (0, u "java/lang/Object")] 32

/-- java/lang/constant/ConstantDesc -/
def k7 : Class := { plain "java/lang/constant/ConstantDesc" (some 0) with
  accessFlags := 1537
  interfaces := #[]
  cf := some (fileOf pool7 1 #[] #[] 1537 3 #[] #[])
  fields := #[]
  methods := #[]
  instanceTypes := #[]
  staticTypes := #[]
  resolved := Array.replicate 37 none
  statics := none }

def pool8 : Array CpInfo := pool [(1, .class_ 2), (0, u "java/lang/Integer"), (16, u "digits"), (0, u "[C"), (46, u "<init>"), (17, u "DigitOnes"), (0, u "[B"), (2, u "DigitTens"), (10, .nameAndType 67 101), (0, u "()V"), (85, u "valueOf"), (0, u "(I)Ljava/lang/Integer;"), (0, .class_ 190), (0, u "java/lang/Integer$IntegerCache"), (0, .fieldref 189 192), (0, .nameAndType 193 194), (0, u "high"), (0, u "I"), (0, .fieldref 189 196), (0, .nameAndType 197 198), (0, u "cache"), (0, u "[Ljava/lang/Integer;"), (0, .methodref 1 200), (0, .nameAndType 67 201), (0, u "(I)V"), (0, .methodref 203 100), (0, .class_ 204), (0, u "java/lang/Number"), (0, .fieldref 1 206), (0, .nameAndType 207 194), (0, u "value"), (94, u "TYPE"), (0, u "Ljava/lang/Class;"), (0, .class_ 305), (0, u "java/lang/Comparable"), (0, .class_ 307), (0, u "java/lang/constant/Constable"), (0, .class_ 309), (0, u "java/lang/constant/ConstantDesc"), (0, u "MIN_VALUE"), (1, u "MAX_VALUE"), (3, u "SIZE"), (1, u "BYTES"), (1, u "serialVersionUID"), (0, u "J")] 131

def k8c0 : Code := { maxStack := 3, maxLocals := 1, code := jdk_33_method_22_code, exceptionTable := #[], attributes := #[] }
def k8m0 : Method := { name := "valueOf", desc := "(I)Ljava/lang/Integer;", sig := { parameters := [.int], returnType := some (.object "java/lang/Integer") }, accessFlags := 9, code := some k8c0 }
def k8c1 : Code := { maxStack := 2, maxLocals := 2, code := jdk_33_method_23_code, exceptionTable := #[], attributes := #[] }
def k8m1 : Method := { name := "<init>", desc := "(I)V", sig := { parameters := [.int], returnType := none }, accessFlags := 1, code := some k8c1 }
/-- java/lang/Integer -/
def k8 : Class := { plain "java/lang/Integer" (some 4) with
  accessFlags := 49
  interfaces := #[5, 6, 7]
  cf := some (fileOf pool8 1 #[.nestMembers #[189]] #[{ accessFlags := 9, nameIndex := 187, descriptorIndex := 188, attributes := #[] }, { accessFlags := 1, nameIndex := 67, descriptorIndex := 201, attributes := #[] }] 49 203 #[304, 306, 308] #[{ accessFlags := 25, nameIndex := 310, descriptorIndex := 194, attributes := #[] }, { accessFlags := 25, nameIndex := 312, descriptorIndex := 194, attributes := #[] }, { accessFlags := 25, nameIndex := 302, descriptorIndex := 303, attributes := #[] }, { accessFlags := 24, nameIndex := 19, descriptorIndex := 20, attributes := #[] }, { accessFlags := 24, nameIndex := 89, descriptorIndex := 86, attributes := #[] }, { accessFlags := 24, nameIndex := 85, descriptorIndex := 86, attributes := #[] }, { accessFlags := 18, nameIndex := 207, descriptorIndex := 194, attributes := #[] }, { accessFlags := 25, nameIndex := 316, descriptorIndex := 194, attributes := #[] }, { accessFlags := 25, nameIndex := 318, descriptorIndex := 194, attributes := #[] }, { accessFlags := 26, nameIndex := 320, descriptorIndex := 321, attributes := #[] }])
  fields := #[{ name := "MIN_VALUE", type := .int, accessFlags := 25, slot := 0, constantValue := 0 }, { name := "MAX_VALUE", type := .int, accessFlags := 25, slot := 1, constantValue := 0 }, { name := "TYPE", type := (.object "java/lang/Class"), accessFlags := 25, slot := 2, constantValue := 0 }, { name := "digits", type := (.array .char), accessFlags := 24, slot := 3, constantValue := 0 }, { name := "DigitTens", type := (.array .byte), accessFlags := 24, slot := 4, constantValue := 0 }, { name := "DigitOnes", type := (.array .byte), accessFlags := 24, slot := 5, constantValue := 0 }, { name := "value", type := .int, accessFlags := 18, slot := 0, constantValue := 0 }, { name := "SIZE", type := .int, accessFlags := 25, slot := 6, constantValue := 0 }, { name := "BYTES", type := .int, accessFlags := 25, slot := 7, constantValue := 0 }, { name := "serialVersionUID", type := .long, accessFlags := 26, slot := 8, constantValue := 0 }]
  methods := #[k8m0, k8m1]
  instanceTypes := #[.int]
  staticTypes := #[.int, .int, (.object "java/lang/Class"), (.array .char), (.array .byte), (.array .byte), .int, .int, .long]
  resolved := Array.replicate 453 none
  statics := none }

def pool9 : Array CpInfo := pool [(2, .class_ 4), (1, u "java/lang/Object"), (0, u "<init>"), (0, u "()V"), (0, .class_ 8), (0, u "java/lang/Integer"), (7, .class_ 18), (1, u "java/lang/Integer$IntegerCache"), (0, u "$assertionsDisabled"), (0, u "Z"), (26, u "high"), (0, u "I"), (8, u "archivedCache"), (0, u "[Ljava/lang/Integer;"), (12, u "cache"), (0, u "low")] 27

def k9m0 : Method := { name := "<init>", desc := "()V", sig := { parameters := [], returnType := none }, accessFlags := 2, code := none }
/-- java/lang/Integer$IntegerCache -/
def k9 : Class := { plain "java/lang/Integer$IntegerCache" (some 0) with
  accessFlags := 48
  interfaces := #[]
  cf := some (fileOf pool9 16 #[.nestHost 7] #[{ accessFlags := 2, nameIndex := 5, descriptorIndex := 6, attributes := #[] }] 48 2 #[] #[{ accessFlags := 24, nameIndex := 72, descriptorIndex := 48, attributes := #[] }, { accessFlags := 24, nameIndex := 47, descriptorIndex := 48, attributes := #[] }, { accessFlags := 24, nameIndex := 71, descriptorIndex := 58, attributes := #[] }, { accessFlags := 8, nameIndex := 57, descriptorIndex := 58, attributes := #[] }, { accessFlags := 4120, nameIndex := 19, descriptorIndex := 20, attributes := #[] }])
  fields := #[{ name := "low", type := .int, accessFlags := 24, slot := 0, constantValue := 0 }, { name := "high", type := .int, accessFlags := 24, slot := 1, constantValue := 0 }, { name := "cache", type := (.array (.object "java/lang/Integer")), accessFlags := 24, slot := 2, constantValue := 0 }, { name := "archivedCache", type := (.array (.object "java/lang/Integer")), accessFlags := 8, slot := 3, constantValue := 0 }, { name := "$assertionsDisabled", type := .boolean, accessFlags := 4120, slot := 4, constantValue := 0 }]
  methods := #[k9m0]
  instanceTypes := #[]
  staticTypes := #[.int, .int, (.array (.object "java/lang/Integer")), (.array (.object "java/lang/Integer")), .boolean]
  resolved := Array.replicate 100 none
  statics := some 0 }

def pool10 : Array CpInfo := pool [(1, u "java/lang/Cloneable"), (0, .class_ 1), (0, u "java/lang/Object"), (0, .class_ 3)] 3

/-- java/lang/Cloneable -/
def k10 : Class := { plain "java/lang/Cloneable" (some 0) with
  accessFlags := 1537
  interfaces := #[]
  cf := some (fileOf pool10 2 #[] #[] 1537 4 #[] #[])
  fields := #[]
  methods := #[]
  instanceTypes := #[]
  staticTypes := #[]
  resolved := Array.replicate 8 none
  statics := none }

/-- the primitive byte -/
def k11 : Class := { plain "byte" none with kind := .primitive 'B', accessFlags := 0x411 }
/-- [B -/
def k12 : Class := { plain "[B" (some 0) with kind := .array 11 .byte, interfaces := #[10, 3], accessFlags := 1041 }

/-- the primitive int -/
def k13 : Class := { plain "int" none with kind := .primitive 'I', accessFlags := 0x411 }
/-- [I -/
def k14 : Class := { plain "[I" (some 0) with kind := .array 13 .int, interfaces := #[10, 3], accessFlags := 1041 }

/-- [Ljava/lang/Integer; -/
def k15 : Class := { plain "[Ljava/lang/Integer;" (some 0) with kind := .array 8 (.object "java/lang/Integer"), interfaces := #[10, 3], accessFlags := 1041 }

def heap : Heap := #[{ cls := 9, slots := #[.int 0, .int 127, .ref 1, .null, .int 0], vm := .statics 9 },
  { cls := 15, slots := #[.ref 2, .ref 3, .ref 4, .ref 5, .ref 6, .ref 7, .ref 8, .ref 9, .ref 10, .ref 11, .ref 12, .ref 13, .ref 14, .ref 15, .ref 16, .ref 17, .ref 18, .ref 19, .ref 20, .ref 21, .ref 22, .ref 23, .ref 24, .ref 25, .ref 26, .ref 27, .ref 28, .ref 29, .ref 30, .ref 31, .ref 32, .ref 33, .ref 34, .ref 35, .ref 36, .ref 37, .ref 38, .ref 39, .ref 40, .ref 41, .ref 42, .ref 43, .ref 44, .ref 45, .ref 46, .ref 47, .ref 48, .ref 49, .ref 50, .ref 51, .ref 52, .ref 53, .ref 54, .ref 55, .ref 56, .ref 57, .ref 58, .ref 59, .ref 60, .ref 61, .ref 62, .ref 63, .ref 64, .ref 65, .ref 66, .ref 67, .ref 68, .ref 69, .ref 70, .ref 71, .ref 72, .ref 73, .ref 74, .ref 75, .ref 76, .ref 77, .ref 78, .ref 79, .ref 80, .ref 81, .ref 82, .ref 83, .ref 84, .ref 85, .ref 86, .ref 87, .ref 88, .ref 89, .ref 90, .ref 91, .ref 92, .ref 93, .ref 94, .ref 95, .ref 96, .ref 97, .ref 98, .ref 99, .ref 100, .ref 101, .ref 102, .ref 103, .ref 104, .ref 105, .ref 106, .ref 107, .ref 108, .ref 109, .ref 110, .ref 111, .ref 112, .ref 113, .ref 114, .ref 115, .ref 116, .ref 117, .ref 118, .ref 119, .ref 120, .ref 121, .ref 122, .ref 123, .ref 124, .ref 125, .ref 126, .ref 127, .ref 128, .ref 129, .ref 130, .ref 131, .ref 132, .ref 133, .ref 134, .ref 135, .ref 136, .ref 137, .ref 138, .ref 139, .ref 140, .ref 141, .ref 142, .ref 143, .ref 144, .ref 145, .ref 146, .ref 147, .ref 148, .ref 149, .ref 150, .ref 151, .ref 152, .ref 153, .ref 154, .ref 155, .ref 156, .ref 157, .ref 158, .ref 159, .ref 160, .ref 161, .ref 162, .ref 163, .ref 164, .ref 165, .ref 166, .ref 167, .ref 168, .ref 169, .ref 170, .ref 171, .ref 172, .ref 173, .ref 174, .ref 175, .ref 176, .ref 177, .ref 178, .ref 179, .ref 180, .ref 181, .ref 182, .ref 183, .ref 184, .ref 185, .ref 186, .ref 187, .ref 188, .ref 189, .ref 190, .ref 191, .ref 192, .ref 193, .ref 194, .ref 195, .ref 196, .ref 197, .ref 198, .ref 199, .ref 200, .ref 201, .ref 202, .ref 203, .ref 204, .ref 205, .ref 206, .ref 207, .ref 208, .ref 209, .ref 210, .ref 211, .ref 212, .ref 213, .ref 214, .ref 215, .ref 216, .ref 217, .ref 218, .ref 219, .ref 220, .ref 221, .ref 222, .ref 223, .ref 224, .ref 225, .ref 226, .ref 227, .ref 228, .ref 229, .ref 230, .ref 231, .ref 232, .ref 233, .ref 234, .ref 235, .ref 236, .ref 237, .ref 238, .ref 239, .ref 240, .ref 241, .ref 242, .ref 243, .ref 244, .ref 245, .ref 246, .ref 247, .ref 248, .ref 249, .ref 250, .ref 251, .ref 252, .ref 253, .ref 254, .ref 255, .ref 256, .ref 257], vm := .none },
  { cls := 8, slots := #[.int (-128)], vm := .none },
  { cls := 8, slots := #[.int (-127)], vm := .none },
  { cls := 8, slots := #[.int (-126)], vm := .none },
  { cls := 8, slots := #[.int (-125)], vm := .none },
  { cls := 8, slots := #[.int (-124)], vm := .none },
  { cls := 8, slots := #[.int (-123)], vm := .none },
  { cls := 8, slots := #[.int (-122)], vm := .none },
  { cls := 8, slots := #[.int (-121)], vm := .none },
  { cls := 8, slots := #[.int (-120)], vm := .none },
  { cls := 8, slots := #[.int (-119)], vm := .none },
  { cls := 8, slots := #[.int (-118)], vm := .none },
  { cls := 8, slots := #[.int (-117)], vm := .none },
  { cls := 8, slots := #[.int (-116)], vm := .none },
  { cls := 8, slots := #[.int (-115)], vm := .none },
  { cls := 8, slots := #[.int (-114)], vm := .none },
  { cls := 8, slots := #[.int (-113)], vm := .none },
  { cls := 8, slots := #[.int (-112)], vm := .none },
  { cls := 8, slots := #[.int (-111)], vm := .none },
  { cls := 8, slots := #[.int (-110)], vm := .none },
  { cls := 8, slots := #[.int (-109)], vm := .none },
  { cls := 8, slots := #[.int (-108)], vm := .none },
  { cls := 8, slots := #[.int (-107)], vm := .none },
  { cls := 8, slots := #[.int (-106)], vm := .none },
  { cls := 8, slots := #[.int (-105)], vm := .none },
  { cls := 8, slots := #[.int (-104)], vm := .none },
  { cls := 8, slots := #[.int (-103)], vm := .none },
  { cls := 8, slots := #[.int (-102)], vm := .none },
  { cls := 8, slots := #[.int (-101)], vm := .none },
  { cls := 8, slots := #[.int (-100)], vm := .none },
  { cls := 8, slots := #[.int (-99)], vm := .none },
  { cls := 8, slots := #[.int (-98)], vm := .none },
  { cls := 8, slots := #[.int (-97)], vm := .none },
  { cls := 8, slots := #[.int (-96)], vm := .none },
  { cls := 8, slots := #[.int (-95)], vm := .none },
  { cls := 8, slots := #[.int (-94)], vm := .none },
  { cls := 8, slots := #[.int (-93)], vm := .none },
  { cls := 8, slots := #[.int (-92)], vm := .none },
  { cls := 8, slots := #[.int (-91)], vm := .none },
  { cls := 8, slots := #[.int (-90)], vm := .none },
  { cls := 8, slots := #[.int (-89)], vm := .none },
  { cls := 8, slots := #[.int (-88)], vm := .none },
  { cls := 8, slots := #[.int (-87)], vm := .none },
  { cls := 8, slots := #[.int (-86)], vm := .none },
  { cls := 8, slots := #[.int (-85)], vm := .none },
  { cls := 8, slots := #[.int (-84)], vm := .none },
  { cls := 8, slots := #[.int (-83)], vm := .none },
  { cls := 8, slots := #[.int (-82)], vm := .none },
  { cls := 8, slots := #[.int (-81)], vm := .none },
  { cls := 8, slots := #[.int (-80)], vm := .none },
  { cls := 8, slots := #[.int (-79)], vm := .none },
  { cls := 8, slots := #[.int (-78)], vm := .none },
  { cls := 8, slots := #[.int (-77)], vm := .none },
  { cls := 8, slots := #[.int (-76)], vm := .none },
  { cls := 8, slots := #[.int (-75)], vm := .none },
  { cls := 8, slots := #[.int (-74)], vm := .none },
  { cls := 8, slots := #[.int (-73)], vm := .none },
  { cls := 8, slots := #[.int (-72)], vm := .none },
  { cls := 8, slots := #[.int (-71)], vm := .none },
  { cls := 8, slots := #[.int (-70)], vm := .none },
  { cls := 8, slots := #[.int (-69)], vm := .none },
  { cls := 8, slots := #[.int (-68)], vm := .none },
  { cls := 8, slots := #[.int (-67)], vm := .none },
  { cls := 8, slots := #[.int (-66)], vm := .none },
  { cls := 8, slots := #[.int (-65)], vm := .none },
  { cls := 8, slots := #[.int (-64)], vm := .none },
  { cls := 8, slots := #[.int (-63)], vm := .none },
  { cls := 8, slots := #[.int (-62)], vm := .none },
  { cls := 8, slots := #[.int (-61)], vm := .none },
  { cls := 8, slots := #[.int (-60)], vm := .none },
  { cls := 8, slots := #[.int (-59)], vm := .none },
  { cls := 8, slots := #[.int (-58)], vm := .none },
  { cls := 8, slots := #[.int (-57)], vm := .none },
  { cls := 8, slots := #[.int (-56)], vm := .none },
  { cls := 8, slots := #[.int (-55)], vm := .none },
  { cls := 8, slots := #[.int (-54)], vm := .none },
  { cls := 8, slots := #[.int (-53)], vm := .none },
  { cls := 8, slots := #[.int (-52)], vm := .none },
  { cls := 8, slots := #[.int (-51)], vm := .none },
  { cls := 8, slots := #[.int (-50)], vm := .none },
  { cls := 8, slots := #[.int (-49)], vm := .none },
  { cls := 8, slots := #[.int (-48)], vm := .none },
  { cls := 8, slots := #[.int (-47)], vm := .none },
  { cls := 8, slots := #[.int (-46)], vm := .none },
  { cls := 8, slots := #[.int (-45)], vm := .none },
  { cls := 8, slots := #[.int (-44)], vm := .none },
  { cls := 8, slots := #[.int (-43)], vm := .none },
  { cls := 8, slots := #[.int (-42)], vm := .none },
  { cls := 8, slots := #[.int (-41)], vm := .none },
  { cls := 8, slots := #[.int (-40)], vm := .none },
  { cls := 8, slots := #[.int (-39)], vm := .none },
  { cls := 8, slots := #[.int (-38)], vm := .none },
  { cls := 8, slots := #[.int (-37)], vm := .none },
  { cls := 8, slots := #[.int (-36)], vm := .none },
  { cls := 8, slots := #[.int (-35)], vm := .none },
  { cls := 8, slots := #[.int (-34)], vm := .none },
  { cls := 8, slots := #[.int (-33)], vm := .none },
  { cls := 8, slots := #[.int (-32)], vm := .none },
  { cls := 8, slots := #[.int (-31)], vm := .none },
  { cls := 8, slots := #[.int (-30)], vm := .none },
  { cls := 8, slots := #[.int (-29)], vm := .none },
  { cls := 8, slots := #[.int (-28)], vm := .none },
  { cls := 8, slots := #[.int (-27)], vm := .none },
  { cls := 8, slots := #[.int (-26)], vm := .none },
  { cls := 8, slots := #[.int (-25)], vm := .none },
  { cls := 8, slots := #[.int (-24)], vm := .none },
  { cls := 8, slots := #[.int (-23)], vm := .none },
  { cls := 8, slots := #[.int (-22)], vm := .none },
  { cls := 8, slots := #[.int (-21)], vm := .none },
  { cls := 8, slots := #[.int (-20)], vm := .none },
  { cls := 8, slots := #[.int (-19)], vm := .none },
  { cls := 8, slots := #[.int (-18)], vm := .none },
  { cls := 8, slots := #[.int (-17)], vm := .none },
  { cls := 8, slots := #[.int (-16)], vm := .none },
  { cls := 8, slots := #[.int (-15)], vm := .none },
  { cls := 8, slots := #[.int (-14)], vm := .none },
  { cls := 8, slots := #[.int (-13)], vm := .none },
  { cls := 8, slots := #[.int (-12)], vm := .none },
  { cls := 8, slots := #[.int (-11)], vm := .none },
  { cls := 8, slots := #[.int (-10)], vm := .none },
  { cls := 8, slots := #[.int (-9)], vm := .none },
  { cls := 8, slots := #[.int (-8)], vm := .none },
  { cls := 8, slots := #[.int (-7)], vm := .none },
  { cls := 8, slots := #[.int (-6)], vm := .none },
  { cls := 8, slots := #[.int (-5)], vm := .none },
  { cls := 8, slots := #[.int (-4)], vm := .none },
  { cls := 8, slots := #[.int (-3)], vm := .none },
  { cls := 8, slots := #[.int (-2)], vm := .none },
  { cls := 8, slots := #[.int (-1)], vm := .none },
  { cls := 8, slots := #[.int (0)], vm := .none },
  { cls := 8, slots := #[.int (1)], vm := .none },
  { cls := 8, slots := #[.int (2)], vm := .none },
  { cls := 8, slots := #[.int (3)], vm := .none },
  { cls := 8, slots := #[.int (4)], vm := .none },
  { cls := 8, slots := #[.int (5)], vm := .none },
  { cls := 8, slots := #[.int (6)], vm := .none },
  { cls := 8, slots := #[.int (7)], vm := .none },
  { cls := 8, slots := #[.int (8)], vm := .none },
  { cls := 8, slots := #[.int (9)], vm := .none },
  { cls := 8, slots := #[.int (10)], vm := .none },
  { cls := 8, slots := #[.int (11)], vm := .none },
  { cls := 8, slots := #[.int (12)], vm := .none },
  { cls := 8, slots := #[.int (13)], vm := .none },
  { cls := 8, slots := #[.int (14)], vm := .none },
  { cls := 8, slots := #[.int (15)], vm := .none },
  { cls := 8, slots := #[.int (16)], vm := .none },
  { cls := 8, slots := #[.int (17)], vm := .none },
  { cls := 8, slots := #[.int (18)], vm := .none },
  { cls := 8, slots := #[.int (19)], vm := .none },
  { cls := 8, slots := #[.int (20)], vm := .none },
  { cls := 8, slots := #[.int (21)], vm := .none },
  { cls := 8, slots := #[.int (22)], vm := .none },
  { cls := 8, slots := #[.int (23)], vm := .none },
  { cls := 8, slots := #[.int (24)], vm := .none },
  { cls := 8, slots := #[.int (25)], vm := .none },
  { cls := 8, slots := #[.int (26)], vm := .none },
  { cls := 8, slots := #[.int (27)], vm := .none },
  { cls := 8, slots := #[.int (28)], vm := .none },
  { cls := 8, slots := #[.int (29)], vm := .none },
  { cls := 8, slots := #[.int (30)], vm := .none },
  { cls := 8, slots := #[.int (31)], vm := .none },
  { cls := 8, slots := #[.int (32)], vm := .none },
  { cls := 8, slots := #[.int (33)], vm := .none },
  { cls := 8, slots := #[.int (34)], vm := .none },
  { cls := 8, slots := #[.int (35)], vm := .none },
  { cls := 8, slots := #[.int (36)], vm := .none },
  { cls := 8, slots := #[.int (37)], vm := .none },
  { cls := 8, slots := #[.int (38)], vm := .none },
  { cls := 8, slots := #[.int (39)], vm := .none },
  { cls := 8, slots := #[.int (40)], vm := .none },
  { cls := 8, slots := #[.int (41)], vm := .none },
  { cls := 8, slots := #[.int (42)], vm := .none },
  { cls := 8, slots := #[.int (43)], vm := .none },
  { cls := 8, slots := #[.int (44)], vm := .none },
  { cls := 8, slots := #[.int (45)], vm := .none },
  { cls := 8, slots := #[.int (46)], vm := .none },
  { cls := 8, slots := #[.int (47)], vm := .none },
  { cls := 8, slots := #[.int (48)], vm := .none },
  { cls := 8, slots := #[.int (49)], vm := .none },
  { cls := 8, slots := #[.int (50)], vm := .none },
  { cls := 8, slots := #[.int (51)], vm := .none },
  { cls := 8, slots := #[.int (52)], vm := .none },
  { cls := 8, slots := #[.int (53)], vm := .none },
  { cls := 8, slots := #[.int (54)], vm := .none },
  { cls := 8, slots := #[.int (55)], vm := .none },
  { cls := 8, slots := #[.int (56)], vm := .none },
  { cls := 8, slots := #[.int (57)], vm := .none },
  { cls := 8, slots := #[.int (58)], vm := .none },
  { cls := 8, slots := #[.int (59)], vm := .none },
  { cls := 8, slots := #[.int (60)], vm := .none },
  { cls := 8, slots := #[.int (61)], vm := .none },
  { cls := 8, slots := #[.int (62)], vm := .none },
  { cls := 8, slots := #[.int (63)], vm := .none },
  { cls := 8, slots := #[.int (64)], vm := .none },
  { cls := 8, slots := #[.int (65)], vm := .none },
  { cls := 8, slots := #[.int (66)], vm := .none },
  { cls := 8, slots := #[.int (67)], vm := .none },
  { cls := 8, slots := #[.int (68)], vm := .none },
  { cls := 8, slots := #[.int (69)], vm := .none },
  { cls := 8, slots := #[.int (70)], vm := .none },
  { cls := 8, slots := #[.int (71)], vm := .none },
  { cls := 8, slots := #[.int (72)], vm := .none },
  { cls := 8, slots := #[.int (73)], vm := .none },
  { cls := 8, slots := #[.int (74)], vm := .none },
  { cls := 8, slots := #[.int (75)], vm := .none },
  { cls := 8, slots := #[.int (76)], vm := .none },
  { cls := 8, slots := #[.int (77)], vm := .none },
  { cls := 8, slots := #[.int (78)], vm := .none },
  { cls := 8, slots := #[.int (79)], vm := .none },
  { cls := 8, slots := #[.int (80)], vm := .none },
  { cls := 8, slots := #[.int (81)], vm := .none },
  { cls := 8, slots := #[.int (82)], vm := .none },
  { cls := 8, slots := #[.int (83)], vm := .none },
  { cls := 8, slots := #[.int (84)], vm := .none },
  { cls := 8, slots := #[.int (85)], vm := .none },
  { cls := 8, slots := #[.int (86)], vm := .none },
  { cls := 8, slots := #[.int (87)], vm := .none },
  { cls := 8, slots := #[.int (88)], vm := .none },
  { cls := 8, slots := #[.int (89)], vm := .none },
  { cls := 8, slots := #[.int (90)], vm := .none },
  { cls := 8, slots := #[.int (91)], vm := .none },
  { cls := 8, slots := #[.int (92)], vm := .none },
  { cls := 8, slots := #[.int (93)], vm := .none },
  { cls := 8, slots := #[.int (94)], vm := .none },
  { cls := 8, slots := #[.int (95)], vm := .none },
  { cls := 8, slots := #[.int (96)], vm := .none },
  { cls := 8, slots := #[.int (97)], vm := .none },
  { cls := 8, slots := #[.int (98)], vm := .none },
  { cls := 8, slots := #[.int (99)], vm := .none },
  { cls := 8, slots := #[.int (100)], vm := .none },
  { cls := 8, slots := #[.int (101)], vm := .none },
  { cls := 8, slots := #[.int (102)], vm := .none },
  { cls := 8, slots := #[.int (103)], vm := .none },
  { cls := 8, slots := #[.int (104)], vm := .none },
  { cls := 8, slots := #[.int (105)], vm := .none },
  { cls := 8, slots := #[.int (106)], vm := .none },
  { cls := 8, slots := #[.int (107)], vm := .none },
  { cls := 8, slots := #[.int (108)], vm := .none },
  { cls := 8, slots := #[.int (109)], vm := .none },
  { cls := 8, slots := #[.int (110)], vm := .none },
  { cls := 8, slots := #[.int (111)], vm := .none },
  { cls := 8, slots := #[.int (112)], vm := .none },
  { cls := 8, slots := #[.int (113)], vm := .none },
  { cls := 8, slots := #[.int (114)], vm := .none },
  { cls := 8, slots := #[.int (115)], vm := .none },
  { cls := 8, slots := #[.int (116)], vm := .none },
  { cls := 8, slots := #[.int (117)], vm := .none },
  { cls := 8, slots := #[.int (118)], vm := .none },
  { cls := 8, slots := #[.int (119)], vm := .none },
  { cls := 8, slots := #[.int (120)], vm := .none },
  { cls := 8, slots := #[.int (121)], vm := .none },
  { cls := 8, slots := #[.int (122)], vm := .none },
  { cls := 8, slots := #[.int (123)], vm := .none },
  { cls := 8, slots := #[.int (124)], vm := .none },
  { cls := 8, slots := #[.int (125)], vm := .none },
  { cls := 8, slots := #[.int (126)], vm := .none },
  { cls := 8, slots := #[.int (127)], vm := .none }]
def classes : Array Class := #[k0, k1, k2, k3, k4, k5, k6, k7, k8, k9, k10, k11, k12, k13, k14, k15]
def interned : List (Array UInt16 × Addr) := []
def slotsUsed : Nat := 517
def theMethod : MethodId := ⟨1, 1⟩
def args0 : Array Value := #[.int 5, .long 7, .int 7, .int 2, .int 1, .int 9]
def aboutOver (below : List Frame) : State where
  vm := { classes := classes, interned := interned.toArray }
  heap := heap
  slotsUsed := slotsUsed
  threads := #[{ frames := .invoking theMethod args0 :: below }]
def below0 : List Frame := [.native { method := ⟨0, 0⟩, args := #[] }]
def about1 : State := aboutOver below0
def p0 : Program := .bare "" "" ""
def e0 : Env := launch0.env 0 0 0
theorem w_frames : about1.frames = Frame.invoking theMethod args0 :: below0 := rfl
set_option maxRecDepth 65536 in
theorem w_args : argsFit about1.vm theMethod args0 = true := by decide +kernel
set_option maxRecDepth 65536 in
theorem w_heap : heapFits about1 = true := by decide +kernel
set_option maxRecDepth 65536 in
theorem w_runnable : about1.curStatus? = some .runnable := by decide +kernel
set_option maxRecDepth 65536 in
theorem w_alone : about1.alone = true := by decide +kernel
set_option maxRecDepth 65536 in
theorem w_named : about1.methodNamed? x = some theMethod := by decide +kernel
set_option maxRecDepth 65536 in
theorem w_hears : about1.hears theMethod below0 = true := by decide +kernel
set_option maxRecDepth 65536 in
theorem w_ripe : about1.ripe theMethod args0 below0 = true := by decide +kernel
theorem w_running : about1.status = .running := rfl
set_option maxRecDepth 65536 in
theorem w_room : about1.hasRoom e0.platform room_1 = true :=
  launch0.hasRoom_least _ room_1 (by decide +kernel) (by decide +kernel) (by decide +kernel) (by decide +kernel) (by decide +kernel) (by decide +kernel)
theorem allAtoms_all (ts : List Jvm.Cond) (a : Array Jvm.Value) (st : Jvm.State) : (allAtoms ts).before a st = ts.all (fun c => c.before a st) := by
  induction ts with
  | nil => rfl
  | cons c t ih =>
    show (Jvm.Cond.and c (allAtoms t)).before a st = _
    rw [Jvm.Cond.before_and, ih, List.all_cons]
def words1 : List Jvm.Cond := Jvm.Cond.code x code maxLocals ret :: tables_1
/-- a 'code' word, met by the world's own term for the bytes: nothing is compared byte by byte -/
theorem code_word {y : MethodName} {bytes : ByteArray} {mx : Nat} {rt : Option FieldType} {a : Array Value} {s : State} {m : MethodId} {meth : Method} {c : Code} (h1 : s.methodNamed? y = some m) (h2 : s.vm.method? m = some meth) (h3 : meth.code = some c) (h4 : c.code = bytes)
    (h5 : (c.maxLocals == mx && c.exceptionTable.isEmpty && decide (c.maxStack ≤ mostOperands) && decide (meth.sig.returnType = rt) && !meth.locks && decide (parseMethodDescriptor y.desc = some meth.sig)) = true) : (Jvm.Cond.code y bytes mx rt).before a s = true := by
  simp only [Bool.and_eq_true, beq_iff_eq, Bool.not_eq_true', decide_eq_true_eq] at h5
  obtain ⟨⟨⟨⟨⟨g1, g2⟩, g3⟩, g4⟩, g5⟩, g6⟩ := h5
  simp [Cond.before, Cond.holds, Cond.value, h1, h2, h3, h4, g1, g2, g3, g4, g5, g6]
def isCode : Jvm.Cond → Bool
  | .code _ _ _ _ => true
  | _ => false
theorem all_split {L : List Jvm.Cond} {P : Jvm.Cond → Bool} (h1 : L.all (fun c => isCode c || P c) = true) (h2 : ∀ c ∈ L.filter isCode, P c = true) : L.all P = true := by
  refine List.all_eq_true.mpr fun c hc => ?_
  have h := List.all_eq_true.mp h1 c hc
  rcases Bool.eq_false_or_eq_true (isCode c) with hi | hi
  · exact h2 c (List.mem_filter.mpr ⟨hc, hi⟩)
  · simpa [hi] using h
set_option maxRecDepth 65536 in
theorem w_c0 : (Jvm.Cond.code x code maxLocals ret).before args0 about1 = true := code_word (m := ⟨1, 1⟩) (meth := k1m1) (c := k1c1) (by decide +kernel) rfl rfl rfl (by decide +kernel)
set_option maxRecDepth 65536 in
theorem w_c1 : (Jvm.Cond.code ({ cls := "com/example/libdmutex/libdmutex/core/SplitToken$Waiter", name := "<init>", desc := "(IJII)V" } : Jvm.MethodName) prog_48_method_1_code (6 : Nat) (Option.none : Option Jvm.ClassFile.FieldType)).before args0 about1 = true := code_word (m := ⟨2, 0⟩) (meth := k2m0) (c := k2c0) (by decide +kernel) rfl rfl rfl (by decide +kernel)
set_option maxRecDepth 65536 in
theorem w_c2 : (Jvm.Cond.code ({ cls := "java/lang/Object", name := "<init>", desc := "()V" } : Jvm.MethodName) object_method_1_code (1 : Nat) (Option.none : Option Jvm.ClassFile.FieldType)).before args0 about1 = true := code_word (m := ⟨0, 0⟩) (meth := k0m0) (c := k0c0) (by decide +kernel) rfl rfl rfl (by decide +kernel)
set_option maxRecDepth 65536 in
theorem w_c3 : (Jvm.Cond.code ({ cls := "com/example/libdmutex/libdmutex/core/SplitToken$Waiter", name := "equals", desc := "(Ljava/lang/Object;)Z" } : Jvm.MethodName) prog_48_method_6_code (3 : Nat) (Option.some Jvm.ClassFile.FieldType.boolean)).before args0 about1 = true := code_word (m := ⟨2, 1⟩) (meth := k2m1) (c := k2c1) (by decide +kernel) rfl rfl rfl (by decide +kernel)
set_option maxRecDepth 65536 in
theorem w_c4 : (Jvm.Cond.code ({ cls := "java/lang/Integer", name := "valueOf", desc := "(I)Ljava/lang/Integer;" } : Jvm.MethodName) jdk_33_method_22_code (1 : Nat) (Option.some (Jvm.ClassFile.FieldType.object "java/lang/Integer"))).before args0 about1 = true := code_word (m := ⟨8, 0⟩) (meth := k8m0) (c := k8c0) (by decide +kernel) rfl rfl rfl (by decide +kernel)
set_option maxRecDepth 65536 in
theorem w_c5 : (Jvm.Cond.code ({ cls := "java/lang/Integer", name := "<init>", desc := "(I)V" } : Jvm.MethodName) jdk_33_method_23_code (2 : Nat) (Option.none : Option Jvm.ClassFile.FieldType)).before args0 about1 = true := code_word (m := ⟨8, 1⟩) (meth := k8m1) (c := k8c1) (by decide +kernel) rfl rfl rfl (by decide +kernel)
set_option maxRecDepth 65536 in
theorem w_c6 : (Jvm.Cond.code ({ cls := "java/lang/Number", name := "<init>", desc := "()V" } : Jvm.MethodName) jdk_18_method_1_code (1 : Nat) (Option.none : Option Jvm.ClassFile.FieldType)).before args0 about1 = true := code_word (m := ⟨4, 0⟩) (meth := k4m0) (c := k4c0) (by decide +kernel) rfl rfl rfl (by decide +kernel)
def codes1 : List Jvm.Cond := [Jvm.Cond.code x code maxLocals ret, Jvm.Cond.code ({ cls := "com/example/libdmutex/libdmutex/core/SplitToken$Waiter", name := "<init>", desc := "(IJII)V" } : Jvm.MethodName) prog_48_method_1_code (6 : Nat) (Option.none : Option Jvm.ClassFile.FieldType), Jvm.Cond.code ({ cls := "java/lang/Object", name := "<init>", desc := "()V" } : Jvm.MethodName) object_method_1_code (1 : Nat) (Option.none : Option Jvm.ClassFile.FieldType), Jvm.Cond.code ({ cls := "com/example/libdmutex/libdmutex/core/SplitToken$Waiter", name := "equals", desc := "(Ljava/lang/Object;)Z" } : Jvm.MethodName) prog_48_method_6_code (3 : Nat) (Option.some Jvm.ClassFile.FieldType.boolean), Jvm.Cond.code ({ cls := "java/lang/Integer", name := "valueOf", desc := "(I)Ljava/lang/Integer;" } : Jvm.MethodName) jdk_33_method_22_code (1 : Nat) (Option.some (Jvm.ClassFile.FieldType.object "java/lang/Integer")), Jvm.Cond.code ({ cls := "java/lang/Integer", name := "<init>", desc := "(I)V" } : Jvm.MethodName) jdk_33_method_23_code (2 : Nat) (Option.none : Option Jvm.ClassFile.FieldType), Jvm.Cond.code ({ cls := "java/lang/Number", name := "<init>", desc := "()V" } : Jvm.MethodName) jdk_18_method_1_code (1 : Nat) (Option.none : Option Jvm.ClassFile.FieldType)]
set_option maxRecDepth 65536 in
theorem codes_eq : words1.filter isCode = codes1 := rfl
theorem w_codes : ∀ c ∈ words1.filter isCode, c.before args0 about1 = true := by
  rw [codes_eq]
  intro c hc
  simp only [codes1, List.mem_cons, List.not_mem_nil, or_false] at hc
  rcases hc with rfl | rfl | rfl | rfl | rfl | rfl | rfl
  · exact w_c0
  · exact w_c1
  · exact w_c2
  · exact w_c3
  · exact w_c4
  · exact w_c5
  · exact w_c6
set_option maxRecDepth 65536 in
theorem w_t1 : (words1.take 24).all (fun c => isCode c || c.before args0 about1) = true := by decide +kernel
set_option maxRecDepth 65536 in
theorem w_t2 : ((words1.drop 24).take 24).all (fun c => isCode c || c.before args0 about1) = true := by decide +kernel
set_option maxRecDepth 65536 in
theorem w_t3 : ((words1.drop 24).drop 24).all (fun c => isCode c || c.before args0 about1) = true := by decide +kernel
theorem w_tables : (allAtoms (Jvm.Cond.code x code maxLocals ret :: tables_1)).before args0 about1 = true := by
  rw [allAtoms_all]
  show words1.all (fun c => c.before args0 about1) = true
  refine all_split ?_ w_codes
  rw [← List.take_append_drop 24 words1, List.all_append, w_t1, ← List.take_append_drop 24 (words1.drop 24), List.all_append, w_t2, w_t3]
  rfl
set_option maxRecDepth 65536 in
theorem w_rest : rest_1_c.before args0 about1 = true := by decide +kernel
set_option maxRecDepth 65536 in
theorem w_case : (Jvm.Cond.and given_1 narrow_1).before args0 about1 = true := by decide +kernel
theorem w_applies : (headSpec (Jvm.Cond.code x code maxLocals ret :: tables_1) room_1).applies x e0.platform about1 = true :=
  (Spec.applies_iff w_frames).mpr ⟨w_running, w_runnable, w_alone, w_named, w_hears, w_ripe, w_room, w_tables⟩
theorem atStart : AtStart classFile x code maxLocals ret World_1 tables_1 room_1 Calls_1 rest_1 Pre_1 launch0 p0 e0 about1 theMethod args0 below0 :=
  ⟨lists_1, trivial, launch0.admits_env _ _ _, launch0.least_env, fairChoices_fair.cas, fairChoices_fair.clock, w_frames, w_args, w_heap, w_applies, trivial, w_rest, w_case⟩
end start1
theorem witness_1 : WitnessClaimed_1 := ⟨start1.p0, start1.e0, start1.about1, start1.theMethod, start1.args0, start1.below0, start1.atStart⟩
end Jvm.Pilot.@@N@@
