import JvmDerived
import JvmDerived.Pilot.@@N@@Statement
import JvmDerived.Pilot.@@N@@Code
set_option linter.unusedVariables false
set_option linter.unusedSimpArgs false
namespace Jvm.RoadKit
open Sem ClassFile Op Lib Jvm.Stand Jvm.Free Jvm.LawKit
section New
variable {p : Program} {l : Launch} {e : Env} {R : Room} {s : State} {m : MethodId} {args : Array Value} {below : List Frame} {meth : Method} {c : Code} {T : State} {locs : List Loc} {cells slots : Nat}
theorem retI (X : Stand p l e R s m args below meth c T locs cells slots) (hx : p.tables.exec = Jvm.exec) {pc : Nat} {Ls : Array Slot} {z : Int32} {rest : List Value} (hret : meth.sig.returnType = some .int) (hd : decode c.code pc = .ok (.ireturn, 1)) {fs : List Frame}
    (hl : ∀ (f : JFrame) (acts : List Action), f.method = m → f.locked = none → f.entered = [] → (doReturn e (T.setTop f) acts (some (.int z))).1 = T.setFrames fs) : Steps p.tables e below (T.setTop (mkF m pc Ls (.int z :: rest))) (T.setFrames fs) :=
  retOut X hx hret rfl (Or.inl ⟨rfl, Or.inl rfl, _, rfl⟩) hd hl
end New
end Jvm.RoadKit
namespace Jvm.Pilot.@@N@@
open Jvm Jvm.ClassFile Sem Op Lib Jvm.Free Jvm.Stand Jvm.LawKit Jvm.RoadKit Bundle Jvm.Pilot.@@N@@.Jvm.D
theorem own_nsroot {Z : State} {b0 : Array Value} {O K : String} {k : Nat} (w : (Jvm.Cond.noSuperclass O).before b0 Z = true) (wi : (Jvm.Cond.instantiable K k).before b0 Z = true) (hne : O ≠ K) : NS Z O K := by
  obtain ⟨c, kc, c1, c2, c3, -⟩ := Cond.noSuperclass_spec w
  obtain ⟨t, kt, t1, -⟩ := Cond.instantiable_spec wi
  exact ⟨c, t, c1, t1, fun fuel => by cases fuel <;> simp [Vm.isSubclassAux, ids_ne c1 t1 hne, c2, c3]⟩
theorem own_nsno {Z : State} {b0 : Array Value} {C S K : String} {k : Nat} (w : (Jvm.Cond.superclass C S).before b0 Z = true) (wi : (Jvm.Cond.instantiable K k).before b0 Z = true) (nn : NS Z C K) (hne : C ≠ K) : ∃ c t, Z.vm.findClass C = some c ∧ Z.vm.findClass K = some t ∧ Z.vm.assignable c t = false := by
  obtain ⟨c, t, c1, t1, far⟩ := nn
  obtain ⟨_, kc, _, -, k2, -, -, k5, -, -⟩ := Cond.superclass_spec c1 w
  obtain ⟨t', kt, t1', t2, t3, t4, -⟩ := Cond.instantiable_spec wi
  obtain rfl : t = t' := Option.some.inj (t1.symm.trans t1')
  have t5 : kt.isInterface = false := (Bool.or_eq_false_iff.mp t4).1
  refine ⟨c, t, c1, t1, ?_⟩
  show Z.vm.assignableAux (255 + 1) c t = false
  simp [Vm.assignableAux, ids_ne c1 t1 hne, k2, t2, k5, t3, t5, Vm.isSubclass, far]
theorem own_len31 {s : State} {args : Array Value} {t : Term} {a : Addr} {c : Cell} {z : Int32} (ht : t.eval args s none [] s = some (.ref a)) (hA : s.arrayAt? a = some c) (h : (Term.length t).eval args s none [] s = some (.int z)) : c.slots.size < 2 ^ 31 ∧ c.slots.size.toInt32 = z := by
  simpa [Term.eval, ht, hA] using h
set_option maxHeartbeats 4000000 in
theorem own_cache {s : State} {args : Array Value} (w1 : (Jvm.Cond.initializedFor "java/lang/Long$LongCache" "cache" "[Ljava/lang/Long;").before args s = true) (w2 : (Jvm.Cond.arrayOf (Jvm.Term.static "java/lang/Long$LongCache" "cache" "[Ljava/lang/Long;") (Jvm.ClassFile.FieldType.object "java/lang/Long")).before args s = true)
    (w4 : (Jvm.Cond.eq (Jvm.Term.length (Jvm.Term.static "java/lang/Long$LongCache" "cache" "[Ljava/lang/Long;")) (Jvm.Term.int (256 : Int32))).before args s = true)
    (w5 : (Jvm.Cond.all (Jvm.Term.static "java/lang/Long$LongCache" "cache" "[Ljava/lang/Long;") (Jvm.Cond.and (Jvm.Cond.exactly (Jvm.Term.elem (Jvm.Term.static "java/lang/Long$LongCache" "cache" "[Ljava/lang/Long;") (Jvm.Term.index (0 : Nat))) "java/lang/Long") (Jvm.Cond.eq (Jvm.Term.field (Jvm.Term.elem (Jvm.Term.static "java/lang/Long$LongCache" "cache" "[Ljava/lang/Long;") (Jvm.Term.index (0 : Nat))) "java/lang/Long" "value" "J") (Jvm.Term.op1 Jvm.Unary.i2l (Jvm.Term.sub (Jvm.Term.index (0 : Nat)) (Jvm.Term.int (128 : Int32))))))).before args s = true) :
    ∃ (oc : Addr) (cc : Cell), Sta s s.heap "java/lang/Long$LongCache" "cache" "[Ljava/lang/Long;" (.ref oc) ∧ Arr s s.heap oc cc (.object "java/lang/Long") ∧ ∀ x : Int64, ¬ x < (-128 : Int64) → ¬ (127 : Int64) < x → ∃ oe : Addr, ¬ (((x.toInt32) + (128 : Int32)) < 0 ∨ cc.slots.size ≤ ((x.toInt32) + (128 : Int32)).toNatClampNeg) ∧ cc.slots[((x.toInt32) + (128 : Int32)).toNatClampNeg]? = some (.ref oe) ∧ Exa s s.heap oe "java/lang/Long" := by
  obtain ⟨oc, ec⟩ := arr_v (Cond.before_iff.mp w2)
  obtain ⟨cc, Ac⟩ := Arr.start ec (Cond.before_iff.mp w2)
  have hA := Ac.fin (Vm.Alike.refl _)
  have h4 := eqv_i (Term.int_eval 256) (Cond.before_iff.mp w4)
  have hs : cc.slots.size = 256 := by
    have q := own_len31 ec hA h4
    have e := congrArg Int32.toInt q.2
    rw [len_toInt q.1] at e
    have e' : (256 : Int32).toInt = 256 := rfl
    omega
  refine ⟨oc, cc, Sta.start ec (Or.inl w1), Ac, fun x h1 h2 => ?_⟩
  have lm : (-128 : Int64).toInt = -128 := rfl
  have lp : (127 : Int64).toInt = 127 := rfl
  have l8 : (128 : Int32).toInt = 128 := rfl
  rw [Int64.lt_iff_toInt_lt, lm] at h1
  rw [Int64.lt_iff_toInt_lt, lp] at h2
  have c1 := c_l2i x
  have r1 := rng32 x.toInt32
  have c2 := c_iadd x.toInt32 128
  have r2 := rng32 (x.toInt32 + 128)
  have v : (x.toInt32 + 128).toInt = x.toInt + 128 := by omega
  have l0 : (0 : Int32).toInt = 0 := rfl
  have nn : ¬ (x.toInt32 + 128) < 0 := by rw [Int32.lt_iff_toInt_lt, l0]; omega
  have hin : ¬ ((x.toInt32 + 128) < 0 ∨ cc.slots.size ≤ (x.toInt32 + 128).toNatClampNeg) := by
    have k := nat_of nn
    rintro (q | q)
    · exact nn q
    · omega
  obtain ⟨u1, u2⟩ := and_e (Cond.all_elim ec hA (Cond.before_iff.mp w5) (x.toInt32 + 128).toNatClampNeg (Nat.lt_of_not_le fun q => hin (Or.inr q)))
  obtain ⟨box, eb⟩ := exa_v u1
  have ec' : ∀ idx, (Jvm.Term.static "java/lang/Long$LongCache" "cache" "[Ljava/lang/Long;").eval args s none idx s = some (.ref oc) := fun _ => ec
  exact ⟨box, hin, (elem_f (ec' _) (idx_at nn) hA nn).symm.trans eb, exa_at eb u1⟩
def w2_r1 (q0 : Int64) : Int32 := (if q0 < (-719528 : Int64) then (0 : Int32) else (if (2932896 : Int64) < q0 then (0 : Int32) else (1 : Int32)))
def w3_1 (q0 : Int64) : Int64 := (q0 &&& (9223372036854775807 : Int64))
def w3_r2 (q0 : Int64) : Int64 := (((w3_1 q0) - ((w3_1 q0) / (3652425 : Int64)) * (3652425 : Int64)) - (719528 : Int64))
def w6_r1 (x0 : Int64) (y0 : Int64) : Int32 := (if x0 = y0 then (1 : Int32) else (0 : Int32))
def w0_m1 (p0 : Int32) : Int32 := (if (p0 &&& (1 : Int32)) = (0 : Int32) then (0 : Int32) else (1 : Int32))
def w0_m2 (p0 : Int32) : Int32 := (if (p0 &&& (2 : Int32)) = (0 : Int32) then (0 : Int32) else (1 : Int32))
def w0_m3 (q1 : Int64) (q2 : Int64) (p3 : Int32) : Int64 := (if (p3 &&& (3 : Int32)) = (0 : Int32) then q1 else (if (p3 &&& (3 : Int32)) = (1 : Int32) then (q1 + (1 : Int64)) else (if (p3 &&& (3 : Int32)) = (2 : Int32) then (q1 - (1 : Int64)) else q2)))
def w0_m4 (p0 : Int32) (q1 : Int64) : Int64 := (if (w0_m1 p0) = (0 : Int32) then (if (w0_m2 p0) = (0 : Int32) then q1 else (w3_r2 q1)) else (w3_r2 q1))
def w0_m5 (p0 : Int32) (q1 : Int64) (q2 : Int64) (p3 : Int32) : Int64 := (if (w0_m1 p0) = (0 : Int32) then (if (w0_m2 p0) = (0 : Int32) then (w0_m3 q1 q2 p3) else (w3_r2 (w0_m3 q1 q2 p3))) else (w3_r2 (w0_m3 q1 q2 p3)))
def w0_6 (p3 : Int32) : Int32 := ((p3 >>> ((2 : Int32) &&& 31)) &&& (3 : Int32))
def w0_m7 (p0 : Int32) (q1 : Int64) (q2 : Int64) (p3 : Int32) : Int32 := (if (w0_m4 p0 q1) = (w0_m5 p0 q1 q2 p3) then (1 : Int32) else (0 : Int32))
def w0_8 (p0 : Int32) (q1 : Int64) (q2 : Int64) (p3 : Int32) : Int32 := (w6_r1 (w0_m4 p0 q1) (w0_m5 p0 q1 q2 p3))
def w0_9 (p0 : Int32) (q1 : Int64) (q2 : Int64) (p3 : Int32) : Int32 := (w6_r1 (w0_m5 p0 q1 q2 p3) (w0_m4 p0 q1))
def w0_r10 (p0 : Int32) (q1 : Int64) (q2 : Int64) (p3 : Int32) : Int32 := (if (w0_m1 p0) = (0 : Int32) then (if (w0_m2 p0) = (0 : Int32) then (if (w0_6 p3) = (1 : Int32) then (1 : Int32) else (if (w0_6 p3) = (2 : Int32) then (1 : Int32) else (if (w0_6 p3) = (3 : Int32) then (nar .boolean (w6_r1 (w0_m4 p0 q1) (w0_m4 p0 q1))) else (if (w0_8 p0 q1 q2 p3) = (w0_m7 p0 q1 q2 p3) then (if (w0_9 p0 q1 q2 p3) = (w0_m7 p0 q1 q2 p3) then (1 : Int32) else (0 : Int32)) else (0 : Int32))))) else (if (w0_6 p3) = (1 : Int32) then (1 : Int32) else (if (w0_6 p3) = (2 : Int32) then (1 : Int32) else (if (w0_6 p3) = (3 : Int32) then (nar .boolean (w6_r1 (w0_m4 p0 q1) (w0_m4 p0 q1))) else (1 : Int32))))) else (if (w0_m2 p0) = (0 : Int32) then (if (w0_6 p3) = (1 : Int32) then (1 : Int32) else (if (w0_6 p3) = (2 : Int32) then (1 : Int32) else (if (w0_6 p3) = (3 : Int32) then (nar .boolean (w6_r1 (w0_m4 p0 q1) (w0_m4 p0 q1))) else (1 : Int32)))) else (if (w0_6 p3) = (1 : Int32) then (1 : Int32) else (if (w0_6 p3) = (2 : Int32) then (1 : Int32) else (if (w0_6 p3) = (3 : Int32) then (nar .boolean (w6_r1 (w0_m4 p0 q1) (w0_m4 p0 q1))) else (if (w0_8 p0 q1 q2 p3) = (w0_m7 p0 q1 q2 p3) then (if (w0_9 p0 q1 q2 p3) = (w0_m7 p0 q1 q2 p3) then (1 : Int32) else (0 : Int32)) else (0 : Int32)))))))
theorem own_isday (x : Int64) : w2_r1 (w3_r2 x) = 1 := by
  have l1 : (-719528 : Int64).toInt = -719528 := rfl
  have l2 : (2932896 : Int64).toInt = 2932896 := rfl
  have l3 : (719528 : Int64).toInt = 719528 := rfl
  have m := c_maskL x 9223372036854775807 63 (by decide) (by decide)
  have h := (c_lrem (w3_1 x) 3652425 3652425 rfl).1 (by unfold w3_1; omega)
  obtain ⟨R, hR⟩ : ∃ R, R = (w3_1 x) - ((w3_1 x) / (3652425 : Int64)) * (3652425 : Int64) := ⟨_, rfl⟩
  rw [← hR] at h
  have b1 : 0 ≤ R.toInt := by rw [h]; exact Int.emod_nonneg _ (by decide)
  have b2 : R.toInt < 3652425 := by rw [h]; exact Int.emod_lt_of_pos _ (by decide)
  clear h m
  have v : (R - (719528 : Int64)).toInt = R.toInt - 719528 := by
    have s := c_lsub R 719528
    have r := rng64 (R - 719528)
    omega
  unfold w2_r1 w3_r2
  rw [← hR, if_neg (by rw [Int64.lt_iff_toInt_lt, l1]; omega), if_neg (by rw [Int64.lt_iff_toInt_lt, l2]; omega)]
theorem own_day1 (p0 : Int32) (q1 q2 : Int64) (p3 : Int32) (h : ¬ (w0_m1 p0) = (0 : Int32)) : ¬ (w2_r1 (w0_m4 p0 q1)) = (0 : Int32) := by
  unfold w0_m4
  rw [if_neg h, own_isday]
  decide
theorem own_day2 (p0 : Int32) (q1 q2 : Int64) (p3 : Int32) (h : ¬ (w0_m2 p0) = (0 : Int32)) : ¬ (w2_r1 (w0_m5 p0 q1 q2 p3)) = (0 : Int32) := by
  unfold w0_m5
  rw [if_neg h]
  by_cases g : (w0_m1 p0) = (0 : Int32)
  · rw [if_pos g, own_isday]
    decide
  · rw [if_neg g, own_isday]
    decide
theorem plain_law (p0 : Int32) (q1 q2 : Int64) (p3 : Int32) : w0_r10 p0 q1 q2 p3 = 1 := by
  have a8 : w0_8 p0 q1 q2 p3 = w0_m7 p0 q1 q2 p3 := rfl
  have a9 : w0_9 p0 q1 q2 p3 = w0_m7 p0 q1 q2 p3 := by
    unfold w0_9 w0_m7 w6_r1
    by_cases h : w0_m4 p0 q1 = w0_m5 p0 q1 q2 p3
    · rw [if_pos h, if_pos h.symm]
    · rw [if_neg h, if_neg (fun e => h e.symm)]
  have s : w6_r1 (w0_m4 p0 q1) (w0_m4 p0 q1) = 1 := if_pos rfl
  unfold w0_r10
  rw [if_pos a8, if_pos a9, s]
  repeat' split
  all_goals first | rfl | decide

theorem d1_0 : decode jdk_30_method_1_code 0 = .ok (.aload_n 0, 1) := by decide +kernel
theorem d1_1 : decode jdk_30_method_1_code 1 = .ok (.invokespecial 1, 3) := by decide +kernel
theorem d1_4 : decode jdk_30_method_1_code 4 = .ok (.return_, 1) := by decide +kernel
theorem pn1 : plainName "java/lang/Record" = true := by first | (simp [plainName, overriddenIn]; done) | decide +kernel
theorem ef1 (m : MethodId) (o0 : Addr) : entryFrame m #[(.ref o0)] 1 = mkF m 0 #[.val (.ref o0)] [] := by first | (simp [entryFrame, mkF, argsToLocals, Value.category]; done) | rfl
def Q1 (Z : State) (o0 : Addr) (h0 : Heap) (n0 : Nat) (v : Option Value) (h : Heap) (L : List Loc) : Prop := v = none ∧ Fr n0 L ∧ h = h0
set_option maxRecDepth 65536 in
set_option maxHeartbeats 40000000 in
theorem rm1 (l : Launch) (Z : State) (a0 : Array Value) (hw : ∀ d ∈ tables_1, d.before a0 Z = true) (ws : List Jvm.Cond) (o0 : Addr) (h0 : Heap) (n0 : Nat) (Z0 : n0 ≤ h0.size) :
    MetFree l (⟨"java/lang/Record", "<init>", "()V"⟩ : MethodName) (head1 (Jvm.Cond.code (⟨"java/lang/Record", "<init>", "()V"⟩ : MethodName) jdk_30_method_1_code 1 none :: ws) ({ frames := 1, cells := 0, slots := 0, locals := 12 } : Room)) (fun a U => a = #[(.ref o0)] ∧ Z.Warmed39 U.vm ∧ U.heap = h0) (fun _ _ _ _ _ => True) (fun _ U o U' => ∃ v L, o = .returned v ∧ Q1 Z o0 h0 n0 v U'.heap L ∧ FrameEnd U o U' L ({ frames := 1, cells := 0, slots := 0, locals := 12 } : Room).cells ({ frames := 1, cells := 0, slots := 0, locals := 12 } : Room).slots) := by
  refine MetFree.of_bodySF (plainFor_of_name pn1) hisR ?_
  intro p e s m args below meth c s₁ Bd hml0 hP hK
  obtain ⟨rfl, hZ, hh⟩ := hP
  have hlk : meth.locks = false := BodyLoose.notSynchronized Bd
  have hx := Bd.exec
  have hby := Bd.bytes
  have hml : c.maxLocals = 1 := hml0
  have hown : s.vm.findClass "java/lang/Record" = some m.cls := findClass_of_methodNamed Bd.named
  have hnm := (name_of_methodNamed Bd.named Bd.method).1
  have X0 : Stand p l e ({ frames := 1, cells := 0, slots := 0, locals := 12 } : Room) s m #[(.ref o0)] below meth c s₁ [] 0 0 := Stand.of_body Bd
  have e0 : s₁.heap = h0 := by rw [← hh, Bd.state]; rfl
  have N0 := Fr.nil n0
  obtain ⟨S0, hS0⟩ : ∃ S0, S0 = s₁.setTop (entryFrame m #[(.ref o0)] 1) := ⟨_, rfl⟩
  have pre0 : ∀ t, Steps p.tables e below (s₁.setTop (mkF m 0 #[.val (.ref o0)] [])) t → Steps p.tables e below S0 t := fun t k => by rw [hS0]; exact castTop (ef1 m o0) k
  have K1 : ∀ t, Steps p.tables e below (s₁.setTop (mkF m 1 #[.val (.ref o0)] [(.ref o0)])) t → Steps p.tables e below S0 t := fun t k => pre0 t (by
    refine XS.aloadN X0.here hx rfl (hb hby d1_0) rfl rfl ?_
    show Steps p.tables e below (s₁.setTop (mkF m 1 #[.val (.ref o0)] [(.ref o0)])) _
    exact k)
  have K_2 : ∀ t, Steps p.tables e below (s₁.setTop (mkF m 1 #[.val (.ref o0)] [(.ref o0)])) t → Steps p.tables e below S0 t := K1
  obtain ⟨T3, X3, e3, st3⟩ := initO X0 hx hZ hown (hw _ (List.mem_of_getElem? (i := 14) rfl)) (hw _ (List.mem_of_getElem? (i := 15) rfl)) (hw _ (List.mem_of_getElem? (i := 16) rfl)) e0 (g := (mkF m 1 #[.val (.ref o0)] [(.ref o0)])) rfl (by rw [hml]; rfl) rfl (hb hby d1_1) (by decide) (W := 0) (by show 2 * 0 + _ ≤ _; exact Nat.le_of_eq rfl) (by decide)
  have K3 : ∀ t, Steps p.tables e below (T3.setTop (mkF m 4 #[.val (.ref o0)] [])) t → Steps p.tables e below S0 t := fun t k => K_2 t (st3 t k)
  obtain ⟨fs, hr, hrun, hended, hW, hsame⟩ := X3.leave (v := none) (fun _ => rfl) hlk
  refine ⟨_, _, ?_, hrun, hended, _, _, rfl, ?_, ⟨_, rfl⟩, hW, hsame.mono (by decide) (by decide)⟩
  · rw [← hS0]; exact K3 _ (X3.returnOut hx Bd.returns (hb hby d1_4) hr)
  · show Q1 Z o0 h0 n0 _ T3.heap _
    rw [e3]
    exact ⟨rfl, N0, rfl⟩
theorem d2_0 : decode prog_82_method_2_code 0 = .ok (.lload_n 0, 1) := by decide +kernel
theorem d2_1 : decode prog_82_method_2_code 1 = .ok (.ldc2_w 39, 3) := by decide +kernel
theorem d2_4 : decode prog_82_method_2_code 4 = .ok (.lcmp, 1) := by decide +kernel
theorem d2_5 : decode prog_82_method_2_code 5 = .ok (.ifCond .lt 15, 3) := by decide +kernel
theorem d2_8 : decode prog_82_method_2_code 8 = .ok (.lload_n 0, 1) := by decide +kernel
theorem d2_9 : decode prog_82_method_2_code 9 = .ok (.ldc2_w 41, 3) := by decide +kernel
theorem d2_12 : decode prog_82_method_2_code 12 = .ok (.lcmp, 1) := by decide +kernel
theorem d2_13 : decode prog_82_method_2_code 13 = .ok (.ifCond .gt 7, 3) := by decide +kernel
theorem d2_16 : decode prog_82_method_2_code 16 = .ok (.iconst 1, 1) := by decide +kernel
theorem d2_17 : decode prog_82_method_2_code 17 = .ok (.goto 4, 3) := by decide +kernel
theorem d2_20 : decode prog_82_method_2_code 20 = .ok (.iconst 0, 1) := by decide +kernel
theorem d2_21 : decode prog_82_method_2_code 21 = .ok (.ireturn, 1) := by decide +kernel
theorem pn2 : plainName "com/example/acervo/acervo/index/DocumentValue" = true := by first | (simp [plainName, overriddenIn]; done) | decide +kernel
theorem ef2 (m : MethodId) (q0 : Int64) : entryFrame m #[(.long q0)] 2 = mkF m 0 #[.val (.long q0), .second] [] := by first | (simp [entryFrame, mkF, argsToLocals, Value.category]; done) | rfl
def Q2 (Z : State) (q0 : Int64) (h0 : Heap) (n0 : Nat) (v : Option Value) (h : Heap) (L : List Loc) : Prop := v = some (.int (w2_r1 q0)) ∧ Fr n0 L ∧ h = h0
set_option maxRecDepth 65536 in
set_option maxHeartbeats 40000000 in
theorem rm2 (l : Launch) (Z : State) (a0 : Array Value) (hw : ∀ d ∈ tables_1, d.before a0 Z = true) (ws : List Jvm.Cond) (q0 : Int64) (h0 : Heap) (n0 : Nat) (Z0 : n0 ≤ h0.size) :
    MetFree l (⟨"com/example/acervo/acervo/index/DocumentValue", "isDay", "(J)Z"⟩ : MethodName) (head1 (Jvm.Cond.code (⟨"com/example/acervo/acervo/index/DocumentValue", "isDay", "(J)Z"⟩ : MethodName) prog_82_method_2_code 2 (some .boolean) :: ws) ({ frames := 0, cells := 0, slots := 0, locals := 0 } : Room)) (fun a U => a = #[(.long q0)] ∧ Z.Warmed39 U.vm ∧ U.heap = h0) (fun _ _ _ _ _ => True) (fun _ U o U' => ∃ v L, o = .returned v ∧ Q2 Z q0 h0 n0 v U'.heap L ∧ FrameEnd U o U' L ({ frames := 0, cells := 0, slots := 0, locals := 0 } : Room).cells ({ frames := 0, cells := 0, slots := 0, locals := 0 } : Room).slots) := by
  refine MetFree.of_bodySF (plainFor_of_name pn2) hisR ?_
  intro p e s m args below meth c s₁ Bd hml0 hP hK
  obtain ⟨rfl, hZ, hh⟩ := hP
  have hlk : meth.locks = false := BodyLoose.notSynchronized Bd
  have hx := Bd.exec
  have hby := Bd.bytes
  have hml : c.maxLocals = 2 := hml0
  have hown : s.vm.findClass "com/example/acervo/acervo/index/DocumentValue" = some m.cls := findClass_of_methodNamed Bd.named
  have hnm := (name_of_methodNamed Bd.named Bd.method).1
  have X0 : Stand p l e ({ frames := 0, cells := 0, slots := 0, locals := 0 } : Room) s m #[(.long q0)] below meth c s₁ [] 0 0 := Stand.of_body Bd
  have e0 : s₁.heap = h0 := by rw [← hh, Bd.state]; rfl
  have N0 := Fr.nil n0
  obtain ⟨S0, hS0⟩ : ∃ S0, S0 = s₁.setTop (entryFrame m #[(.long q0)] 2) := ⟨_, rfl⟩
  have pre0 : ∀ t, Steps p.tables e below (s₁.setTop (mkF m 0 #[.val (.long q0), .second] [])) t → Steps p.tables e below S0 t := fun t k => by rw [hS0]; exact castTop (ef2 m q0) k
  have K1 : ∀ t, Steps p.tables e below (s₁.setTop (mkF m 5 #[.val (.long q0), .second] [(.int (lcmpW q0 (-719528 : Int64)))])) t → Steps p.tables e below S0 t := fun t k => pre0 t (by
    refine XS.lloadN X0.here hx rfl (hb hby d2_0) rfl ?_
    show Steps p.tables e below (s₁.setTop (mkF m 1 #[.val (.long q0), .second] [(.long q0)])) _
    refine X0.ldc2Long hx hown (mvT hZ (hw _ (List.mem_of_getElem? (i := 41) rfl))) (g := (mkF m 1 #[.val (.long q0), .second] [(.long q0)])) rfl (hb hby d2_1) _ ?_
    show Steps p.tables e below (s₁.setTop (mkF m 4 #[.val (.long q0), .second] [(.long (-719528 : Int64)), (.long q0)])) _
    refine XS.lcmp X0.here hx rfl (hb hby d2_4) rfl ?_
    show Steps p.tables e below (s₁.setTop (mkF m 5 #[.val (.long q0), .second] [(.int (lcmpW q0 (-719528 : Int64)))])) _
    exact k)
  by_cases hc5_0 : q0 < (-719528 : Int64)
  · -- yes
    have K2 : ∀ t, Steps p.tables e below (s₁.setTop (mkF m 21 #[.val (.long q0), .second] [(.int (0 : Int32))])) t → Steps p.tables e below S0 t := fun t k => K1 t (by
      refine XS.ifYes X0.here hx rfl (pc0 := 5) (pc' := 20) rfl (hb hby d2_5) rfl (XT.ll_lt_t hc5_0) (by decide) (by decide) ?_
      show Steps p.tables e below (s₁.setTop (mkF m 20 #[.val (.long q0), .second] [])) _
      refine XS.iconst X0.here hx rfl (hb hby d2_20) ?_
      show Steps p.tables e below (s₁.setTop (mkF m 21 #[.val (.long q0), .second] [(.int (0 : Int32))])) _
      exact k)
    obtain ⟨fs, hr, hrun, hended, hW, hsame⟩ := X0.leave (v := some (.int (0 : Int32))) (fun h => by rw [Bd.returns] at h; cases h) hlk
    refine ⟨_, _, ?_, hrun, hended, _, _, rfl, ?_, ⟨_, rfl⟩, hW, hsame.mono (by decide) (by decide)⟩
    · rw [← hS0]; exact K2 _ (retN X0 hx (t := .boolean) Bd.returns (by simp) (hb hby d2_21) hr)
    · show Q2 Z q0 h0 n0 _ s₁.heap _
      rw [e0]
      have qr : (0 : Int32) = (w2_r1 q0) := by unfold w2_r1; rw [if_pos hc5_0]
      exact ⟨congrArg (fun z => some (Value.int z)) qr, N0, rfl⟩
  · -- no
    have K3 : ∀ t, Steps p.tables e below (s₁.setTop (mkF m 13 #[.val (.long q0), .second] [(.int (lcmpW q0 (2932896 : Int64)))])) t → Steps p.tables e below S0 t := fun t k => K1 t (by
      refine XS.ifNo X0.here hx rfl (hb hby d2_5) rfl (XT.ll_lt_f hc5_0) ?_
      show Steps p.tables e below (s₁.setTop (mkF m 8 #[.val (.long q0), .second] [])) _
      refine XS.lloadN X0.here hx rfl (hb hby d2_8) rfl ?_
      show Steps p.tables e below (s₁.setTop (mkF m 9 #[.val (.long q0), .second] [(.long q0)])) _
      refine X0.ldc2Long hx hown (mvT hZ (hw _ (List.mem_of_getElem? (i := 42) rfl))) (g := (mkF m 9 #[.val (.long q0), .second] [(.long q0)])) rfl (hb hby d2_9) _ ?_
      show Steps p.tables e below (s₁.setTop (mkF m 12 #[.val (.long q0), .second] [(.long (2932896 : Int64)), (.long q0)])) _
      refine XS.lcmp X0.here hx rfl (hb hby d2_12) rfl ?_
      show Steps p.tables e below (s₁.setTop (mkF m 13 #[.val (.long q0), .second] [(.int (lcmpW q0 (2932896 : Int64)))])) _
      exact k)
    by_cases hc13_1 : (2932896 : Int64) < q0
    · -- yes
      have K4 : ∀ t, Steps p.tables e below (s₁.setTop (mkF m 21 #[.val (.long q0), .second] [(.int (0 : Int32))])) t → Steps p.tables e below S0 t := fun t k => K3 t (by
        refine XS.ifYes X0.here hx rfl (pc0 := 13) (pc' := 20) rfl (hb hby d2_13) rfl (XT.ll_gt_t hc13_1) (by decide) (by decide) ?_
        show Steps p.tables e below (s₁.setTop (mkF m 20 #[.val (.long q0), .second] [])) _
        refine XS.iconst X0.here hx rfl (hb hby d2_20) ?_
        show Steps p.tables e below (s₁.setTop (mkF m 21 #[.val (.long q0), .second] [(.int (0 : Int32))])) _
        exact k)
      obtain ⟨fs, hr, hrun, hended, hW, hsame⟩ := X0.leave (v := some (.int (0 : Int32))) (fun h => by rw [Bd.returns] at h; cases h) hlk
      refine ⟨_, _, ?_, hrun, hended, _, _, rfl, ?_, ⟨_, rfl⟩, hW, hsame.mono (by decide) (by decide)⟩
      · rw [← hS0]; exact K4 _ (retN X0 hx (t := .boolean) Bd.returns (by simp) (hb hby d2_21) hr)
      · show Q2 Z q0 h0 n0 _ s₁.heap _
        rw [e0]
        have qr : (0 : Int32) = (w2_r1 q0) := by unfold w2_r1; rw [if_neg hc5_0, if_pos hc13_1]
        exact ⟨congrArg (fun z => some (Value.int z)) qr, N0, rfl⟩
    · -- no
      have K5 : ∀ t, Steps p.tables e below (s₁.setTop (mkF m 21 #[.val (.long q0), .second] [(.int (1 : Int32))])) t → Steps p.tables e below S0 t := fun t k => K3 t (by
        refine XS.ifNo X0.here hx rfl (hb hby d2_13) rfl (XT.ll_gt_f hc13_1) ?_
        show Steps p.tables e below (s₁.setTop (mkF m 16 #[.val (.long q0), .second] [])) _
        refine XS.iconst X0.here hx rfl (hb hby d2_16) ?_
        show Steps p.tables e below (s₁.setTop (mkF m 17 #[.val (.long q0), .second] [(.int (1 : Int32))])) _
        refine XS.goto X0.here hx rfl (pc0 := 17) (pc' := 21) rfl (hb hby d2_17) (by decide) (by decide) ?_
        show Steps p.tables e below (s₁.setTop (mkF m 21 #[.val (.long q0), .second] [(.int (1 : Int32))])) _
        exact k)
      obtain ⟨fs, hr, hrun, hended, hW, hsame⟩ := X0.leave (v := some (.int (1 : Int32))) (fun h => by rw [Bd.returns] at h; cases h) hlk
      refine ⟨_, _, ?_, hrun, hended, _, _, rfl, ?_, ⟨_, rfl⟩, hW, hsame.mono (by decide) (by decide)⟩
      · rw [← hS0]; exact K5 _ (retN X0 hx (t := .boolean) Bd.returns (by simp) (hb hby d2_21) hr)
      · show Q2 Z q0 h0 n0 _ s₁.heap _
        rw [e0]
        have qr : (1 : Int32) = (w2_r1 q0) := by unfold w2_r1; rw [if_neg hc5_0, if_neg hc13_1]
        exact ⟨congrArg (fun z => some (Value.int z)) qr, N0, rfl⟩
theorem d3_0 : decode method_2_code 0 = .ok (.lload_n 0, 1) := by decide +kernel
theorem d3_1 : decode method_2_code 1 = .ok (.ldc2_w 7, 3) := by decide +kernel
theorem d3_4 : decode method_2_code 4 = .ok (.land, 1) := by decide +kernel
theorem d3_5 : decode method_2_code 5 = .ok (.ldc2_w 9, 3) := by decide +kernel
theorem d3_8 : decode method_2_code 8 = .ok (.lrem, 1) := by decide +kernel
theorem d3_9 : decode method_2_code 9 = .ok (.ldc2_w 11, 3) := by decide +kernel
theorem d3_12 : decode method_2_code 12 = .ok (.lsub, 1) := by decide +kernel
theorem d3_13 : decode method_2_code 13 = .ok (.lreturn, 1) := by decide +kernel
theorem pn3 : plainName "com/example/acervo/acervo/index/DocumentValueEqualsPinLaw" = true := by first | (simp [plainName, overriddenIn]; done) | decide +kernel
theorem ef3 (m : MethodId) (q0 : Int64) : entryFrame m #[(.long q0)] 2 = mkF m 0 #[.val (.long q0), .second] [] := by first | (simp [entryFrame, mkF, argsToLocals, Value.category]; done) | rfl
def Q3 (Z : State) (q0 : Int64) (h0 : Heap) (n0 : Nat) (v : Option Value) (h : Heap) (L : List Loc) : Prop := v = some (.long (w3_r2 q0)) ∧ Fr n0 L ∧ h = h0
set_option maxRecDepth 65536 in
set_option maxHeartbeats 40000000 in
theorem rm3 (l : Launch) (Z : State) (a0 : Array Value) (hw : ∀ d ∈ tables_1, d.before a0 Z = true) (ws : List Jvm.Cond) (q0 : Int64) (h0 : Heap) (n0 : Nat) (Z0 : n0 ≤ h0.size) :
    MetFree l (⟨"com/example/acervo/acervo/index/DocumentValueEqualsPinLaw", "day", "(J)J"⟩ : MethodName) (head1 (Jvm.Cond.code (⟨"com/example/acervo/acervo/index/DocumentValueEqualsPinLaw", "day", "(J)J"⟩ : MethodName) method_2_code 2 (some .long) :: ws) ({ frames := 0, cells := 0, slots := 0, locals := 0 } : Room)) (fun a U => a = #[(.long q0)] ∧ Z.Warmed39 U.vm ∧ U.heap = h0) (fun _ _ _ _ _ => True) (fun _ U o U' => ∃ v L, o = .returned v ∧ Q3 Z q0 h0 n0 v U'.heap L ∧ FrameEnd U o U' L ({ frames := 0, cells := 0, slots := 0, locals := 0 } : Room).cells ({ frames := 0, cells := 0, slots := 0, locals := 0 } : Room).slots) := by
  refine MetFree.of_bodySF (plainFor_of_name pn3) hisR ?_
  intro p e s m args below meth c s₁ Bd hml0 hP hK
  obtain ⟨rfl, hZ, hh⟩ := hP
  have hlk : meth.locks = false := BodyLoose.notSynchronized Bd
  have hx := Bd.exec
  have hby := Bd.bytes
  have hml : c.maxLocals = 2 := hml0
  have hown : s.vm.findClass "com/example/acervo/acervo/index/DocumentValueEqualsPinLaw" = some m.cls := findClass_of_methodNamed Bd.named
  have hnm := (name_of_methodNamed Bd.named Bd.method).1
  have X0 : Stand p l e ({ frames := 0, cells := 0, slots := 0, locals := 0 } : Room) s m #[(.long q0)] below meth c s₁ [] 0 0 := Stand.of_body Bd
  have e0 : s₁.heap = h0 := by rw [← hh, Bd.state]; rfl
  have N0 := Fr.nil n0
  obtain ⟨S0, hS0⟩ : ∃ S0, S0 = s₁.setTop (entryFrame m #[(.long q0)] 2) := ⟨_, rfl⟩
  have pre0 : ∀ t, Steps p.tables e below (s₁.setTop (mkF m 0 #[.val (.long q0), .second] [])) t → Steps p.tables e below S0 t := fun t k => by rw [hS0]; exact castTop (ef3 m q0) k
  have K1 : ∀ t, Steps p.tables e below (s₁.setTop (mkF m 13 #[.val (.long q0), .second] [(.long (((w3_1 q0) - ((w3_1 q0) / (3652425 : Int64)) * (3652425 : Int64)) - (719528 : Int64)))])) t → Steps p.tables e below S0 t := fun t k => pre0 t (by
    refine XS.lloadN X0.here hx rfl (hb hby d3_0) rfl ?_
    show Steps p.tables e below (s₁.setTop (mkF m 1 #[.val (.long q0), .second] [(.long q0)])) _
    refine X0.ldc2Long hx hown (mvT hZ (hw _ (List.mem_of_getElem? (i := 34) rfl))) (g := (mkF m 1 #[.val (.long q0), .second] [(.long q0)])) rfl (hb hby d3_1) _ ?_
    show Steps p.tables e below (s₁.setTop (mkF m 4 #[.val (.long q0), .second] [(.long (9223372036854775807 : Int64)), (.long q0)])) _
    refine XS.land X0.here hx rfl (hb hby d3_4) rfl ?_
    show Steps p.tables e below (s₁.setTop (mkF m 5 #[.val (.long q0), .second] [(.long (q0 &&& (9223372036854775807 : Int64)))])) _
    refine X0.ldc2Long hx hown (mvT hZ (hw _ (List.mem_of_getElem? (i := 35) rfl))) (g := (mkF m 5 #[.val (.long q0), .second] [(.long (q0 &&& (9223372036854775807 : Int64)))])) rfl (hb hby d3_5) _ ?_
    show Steps p.tables e below (s₁.setTop (mkF m 8 #[.val (.long q0), .second] [(.long (3652425 : Int64)), (.long (q0 &&& (9223372036854775807 : Int64)))])) _
    refine XS.lrem X0.here hx rfl (hb hby d3_8) rfl (by decide) ?_
    show Steps p.tables e below (s₁.setTop (mkF m 9 #[.val (.long q0), .second] [(.long ((w3_1 q0) - ((w3_1 q0) / (3652425 : Int64)) * (3652425 : Int64)))])) _
    refine X0.ldc2Long hx hown (mvT hZ (hw _ (List.mem_of_getElem? (i := 36) rfl))) (g := (mkF m 9 #[.val (.long q0), .second] [(.long ((w3_1 q0) - ((w3_1 q0) / (3652425 : Int64)) * (3652425 : Int64)))])) rfl (hb hby d3_9) _ ?_
    show Steps p.tables e below (s₁.setTop (mkF m 12 #[.val (.long q0), .second] [(.long (719528 : Int64)), (.long ((w3_1 q0) - ((w3_1 q0) / (3652425 : Int64)) * (3652425 : Int64)))])) _
    refine XS.lsub X0.here hx rfl (hb hby d3_12) rfl ?_
    show Steps p.tables e below (s₁.setTop (mkF m 13 #[.val (.long q0), .second] [(.long (((w3_1 q0) - ((w3_1 q0) / (3652425 : Int64)) * (3652425 : Int64)) - (719528 : Int64)))])) _
    exact k)
  obtain ⟨fs, hr, hrun, hended, hW, hsame⟩ := X0.leave (v := some (.long (((w3_1 q0) - ((w3_1 q0) / (3652425 : Int64)) * (3652425 : Int64)) - (719528 : Int64)))) (fun h => by rw [Bd.returns] at h; cases h) hlk
  refine ⟨_, _, ?_, hrun, hended, _, _, rfl, ?_, ⟨_, rfl⟩, hW, hsame.mono (by decide) (by decide)⟩
  · rw [← hS0]; exact K1 _ (retOut X0 hx Bd.returns rfl (Or.inr (Or.inl ⟨rfl, rfl, _, rfl⟩)) (hb hby d3_13) hr)
  · show Q3 Z q0 h0 n0 _ s₁.heap _
    rw [e0]
    have qr : (((w3_1 q0) - ((w3_1 q0) / (3652425 : Int64)) * (3652425 : Int64)) - (719528 : Int64)) = (w3_r2 q0) := rfl
    exact ⟨congrArg (fun z => some (Value.long z)) qr, N0, rfl⟩
theorem d4_0 : decode prog_82_method_1_code 0 = .ok (.aload_n 0, 1) := by decide +kernel
theorem d4_1 : decode prog_82_method_1_code 1 = .ok (.invokespecial 1, 3) := by decide +kernel
theorem d4_4 : decode prog_82_method_1_code 4 = .ok (.aload_n 1, 1) := by decide +kernel
theorem d4_5 : decode prog_82_method_1_code 5 = .ok (.ifnonnull 13, 3) := by decide +kernel
theorem d4_18 : decode prog_82_method_1_code 18 = .ok (.aload_n 1, 1) := by decide +kernel
theorem d4_19 : decode prog_82_method_1_code 19 = .ok (.getstatic 14, 3) := by decide +kernel
theorem d4_22 : decode prog_82_method_1_code 22 = .ok (.if_acmp .ne 24, 3) := by decide +kernel
theorem d4_25 : decode prog_82_method_1_code 25 = .ok (.lload_n 2, 1) := by decide +kernel
theorem d4_26 : decode prog_82_method_1_code 26 = .ok (.invokestatic 20, 3) := by decide +kernel
theorem d4_29 : decode prog_82_method_1_code 29 = .ok (.ifCond .ne 17, 3) := by decide +kernel
theorem d4_46 : decode prog_82_method_1_code 46 = .ok (.aload_n 0, 1) := by decide +kernel
theorem d4_47 : decode prog_82_method_1_code 47 = .ok (.aload_n 1, 1) := by decide +kernel
theorem d4_48 : decode prog_82_method_1_code 48 = .ok (.putfield 33, 3) := by decide +kernel
theorem d4_51 : decode prog_82_method_1_code 51 = .ok (.aload_n 0, 1) := by decide +kernel
theorem d4_52 : decode prog_82_method_1_code 52 = .ok (.lload_n 2, 1) := by decide +kernel
theorem d4_53 : decode prog_82_method_1_code 53 = .ok (.putfield 35, 3) := by decide +kernel
theorem d4_56 : decode prog_82_method_1_code 56 = .ok (.return_, 1) := by decide +kernel
theorem pn4 : plainName "com/example/acervo/acervo/index/DocumentValue" = true := by first | (simp [plainName, overriddenIn]; done) | decide +kernel
theorem pd4_0 : parseMethodDescriptor "()V" = some ⟨[], none⟩ := by decide +kernel
theorem pd4_1 : parseMethodDescriptor "(J)Z" = some ⟨[.long], some .boolean⟩ := by decide +kernel
theorem ef4 (m : MethodId) (o0 : Addr) (o1 : Addr) (q2 : Int64) : entryFrame m #[(.ref o0), (.ref o1), (.long q2)] 4 = mkF m 0 #[.val (.ref o0), .val (.ref o1), .val (.long q2), .second] [] := by first | (simp [entryFrame, mkF, argsToLocals, Value.category]; done) | rfl
def Q4 (Z : State) (o0 : Addr) (o1 : Addr) (q2 : Int64) (h0 : Heap) (n0 : Nat) (v : Option Value) (h : Heap) (L : List Loc) : Prop := v = none ∧ Fr n0 L ∧ Keep h0 h [o0] ∧ Exa Z h o0 "com/example/acervo/acervo/index/DocumentValue" ∧ Fld Z h o0 "com/example/acervo/acervo/index/DocumentValue" "kind" "Lcom/example/acervo/acervo/index/DocumentValue$Kind;" (.ref o1) ∧ Fld Z h o0 "com/example/acervo/acervo/index/DocumentValue" "number" "J" (.long q2)
set_option maxRecDepth 65536 in
set_option maxHeartbeats 40000000 in
theorem rm4 (l : Launch) (Z : State) (a0 : Array Value) (hw : ∀ d ∈ tables_1, d.before a0 Z = true) (ws : List Jvm.Cond) (o0 : Addr) (o1 : Addr) (q2 : Int64) (h0 : Heap) (n0 : Nat) (Z0 : n0 ≤ h0.size) (E_o0 : Exa Z h0 o0 "com/example/acervo/acervo/index/DocumentValue") (F_o0_kind : Fld Z h0 o0 "com/example/acervo/acervo/index/DocumentValue" "kind" "Lcom/example/acervo/acervo/index/DocumentValue$Kind;" .null) (F_o0_number : Fld Z h0 o0 "com/example/acervo/acervo/index/DocumentValue" "number" "J" (.long (0 : Int64))) (g_o0 : n0 ≤ o0) (S_DocumentValue_Kind_DATE : Sta Z h0 "com/example/acervo/acervo/index/DocumentValue$Kind" "DATE" "Lcom/example/acervo/acervo/index/DocumentValue$Kind;" (.ref o1)) (hday : ¬ (w2_r1 q2) = (0 : Int32)) :
    MetFree l (⟨"com/example/acervo/acervo/index/DocumentValue", "<init>", "(Lcom/example/acervo/acervo/index/DocumentValue$Kind;J)V"⟩ : MethodName) (head1 (Jvm.Cond.code (⟨"com/example/acervo/acervo/index/DocumentValue", "<init>", "(Lcom/example/acervo/acervo/index/DocumentValue$Kind;J)V"⟩ : MethodName) prog_82_method_1_code 4 none :: ws) ({ frames := 2, cells := 0, slots := 0, locals := 24 } : Room)) (fun a U => a = #[(.ref o0), (.ref o1), (.long q2)] ∧ Z.Warmed39 U.vm ∧ U.heap = h0) (fun _ _ _ _ _ => True) (fun _ U o U' => ∃ v L, o = .returned v ∧ Q4 Z o0 o1 q2 h0 n0 v U'.heap L ∧ FrameEnd U o U' L ({ frames := 2, cells := 0, slots := 0, locals := 24 } : Room).cells ({ frames := 2, cells := 0, slots := 0, locals := 24 } : Room).slots) := by
  refine MetFree.of_bodySF (plainFor_of_name pn4) hisR ?_
  intro p e s m args below meth c s₁ Bd hml0 hP hK
  obtain ⟨rfl, hZ, hh⟩ := hP
  have hlk : meth.locks = false := BodyLoose.notSynchronized Bd
  have hx := Bd.exec
  have hby := Bd.bytes
  have hml : c.maxLocals = 4 := hml0
  have hown : s.vm.findClass "com/example/acervo/acervo/index/DocumentValue" = some m.cls := findClass_of_methodNamed Bd.named
  have hnm := (name_of_methodNamed Bd.named Bd.method).1
  have X0 : Stand p l e ({ frames := 2, cells := 0, slots := 0, locals := 24 } : Room) s m #[(.ref o0), (.ref o1), (.long q2)] below meth c s₁ [] 0 0 := Stand.of_body Bd
  have e0 : s₁.heap = h0 := by rw [← hh, Bd.state]; rfl
  have N0 := Fr.nil n0
  obtain ⟨S0, hS0⟩ : ∃ S0, S0 = s₁.setTop (entryFrame m #[(.ref o0), (.ref o1), (.long q2)] 4) := ⟨_, rfl⟩
  have pre0 : ∀ t, Steps p.tables e below (s₁.setTop (mkF m 0 #[.val (.ref o0), .val (.ref o1), .val (.long q2), .second] [])) t → Steps p.tables e below S0 t := fun t k => by rw [hS0]; exact castTop (ef4 m o0 o1 q2) k
  have K1 : ∀ t, Steps p.tables e below (s₁.setTop (mkF m 1 #[.val (.ref o0), .val (.ref o1), .val (.long q2), .second] [(.ref o0)])) t → Steps p.tables e below S0 t := fun t k => pre0 t (by
    refine XS.aloadN X0.here hx rfl (hb hby d4_0) rfl rfl ?_
    show Steps p.tables e below (s₁.setTop (mkF m 1 #[.val (.ref o0), .val (.ref o1), .val (.long q2), .second] [(.ref o0)])) _
    exact k)
  have K_2 : ∀ t, Steps p.tables e below (s₁.setTop (mkF m 1 #[.val (.ref o0), .val (.ref o1), .val (.long q2), .second] [(.ref o0)])) t → Steps p.tables e below S0 t := K1
  obtain ⟨_, _, ⟨T3, L3, k3, n3⟩, -, X3, ⟨Lc3, hQ3, l3, y3, z3⟩, st3⟩ := X0.specialBack hx (y := (⟨"java/lang/Record", "<init>", "()V"⟩ : MethodName)) rfl hown (mvT hZ (hw _ (List.mem_of_getElem? (i := 9) rfl))) (mvT hZ (hw _ (List.mem_of_getElem? (i := 10) rfl))) (mvT hZ (hw _ (List.mem_of_getElem? (i := 13) rfl))) (by decide) (backOf (W := 0) (rm1 l Z a0 hw [] o0 h0 n0 Z0 ) hZ (hw _ (List.mem_of_getElem? (i := 13) rfl)) (hw _ (List.mem_of_getElem? (i := 12) rfl)) (by decide) (by decide)) (g := (mkF m 1 #[.val (.ref o0), .val (.ref o1), .val (.long q2), .second] [(.ref o0)])) rfl (by rw [hml]; rfl) (Steps.refl _) (a := o0) (argsL := []) (rest := []) (lenOf pd4_0 rfl) rfl (by show 2 * 0 + _ ≤ _; exact Nat.le_of_eq rfl) (hb hby d4_1) (fun _ _ => ⟨rfl, e0, (by decide : 0 + 0 ≤ 0), (by decide : 0 + 0 ≤ 0)⟩)
  dsimp only [Pt.U, Pt.locs, Pt.cells, Pt.slots] at X3 l3 y3 z3 st3 hQ3
  subst l3 y3 z3
  obtain ⟨rfl, N3q, e3⟩ := hQ3
  have N3 := Fr.app N0 N3q
  have K3 : ∀ t, Steps p.tables e below (T3.setTop (mkF m 4 #[.val (.ref o0), .val (.ref o1), .val (.long q2), .second] [])) t → Steps p.tables e below S0 t := fun t k => K_2 t (st3.trans k)
  have K4 : ∀ t, Steps p.tables e below (T3.setTop (mkF m 19 #[.val (.ref o0), .val (.ref o1), .val (.long q2), .second] [(.ref o1)])) t → Steps p.tables e below S0 t := fun t k => K3 t (by
    refine XS.aloadN X3.here hx rfl (hb hby d4_4) rfl rfl ?_
    show Steps p.tables e below (T3.setTop (mkF m 5 #[.val (.ref o0), .val (.ref o1), .val (.long q2), .second] [(.ref o1)])) _
    refine XS.ifnonnullYes X3.here hx rfl (pc0 := 5) (pc' := 18) rfl (hb hby d4_5) rfl (by decide) (by decide) ?_
    show Steps p.tables e below (T3.setTop (mkF m 18 #[.val (.ref o0), .val (.ref o1), .val (.long q2), .second] [])) _
    refine XS.aloadN X3.here hx rfl (hb hby d4_18) rfl rfl ?_
    show Steps p.tables e below (T3.setTop (mkF m 19 #[.val (.ref o0), .val (.ref o1), .val (.long q2), .second] [(.ref o1)])) _
    exact k)
  obtain ⟨T5, X5, e5, st5⟩ := getS2 X3 hx hZ hown (host := "") (Or.inl (hw _ (List.mem_of_getElem? (i := 17) rfl))) Via.refl e3 S_DocumentValue_Kind_DATE (g := (mkF m 19 #[.val (.ref o0), .val (.ref o1), .val (.long q2), .second] [(.ref o1)])) rfl (hb hby d4_19)
  have K5 : ∀ t, Steps p.tables e below (T5.setTop (mkF m 22 #[.val (.ref o0), .val (.ref o1), .val (.long q2), .second] [(.ref o1), (.ref o1)])) t → Steps p.tables e below S0 t := fun t k => K4 t (st5 t k)
  have K6 : ∀ t, Steps p.tables e below (T5.setTop (mkF m 26 #[.val (.ref o0), .val (.ref o1), .val (.long q2), .second] [(.long q2)])) t → Steps p.tables e below S0 t := fun t k => K5 t (by
    refine Jvm.RoadKit.acmp (g := (mkF m 22 #[.val (.ref o0), .val (.ref o1), .val (.long q2), .second] [(.ref o1), (.ref o1)])) X5 hx rfl rfl rfl (pc0 := 22) (pc' := 25) (same := true) rfl (hb hby d4_22) rfl (decide_eq_true rfl) (by decide) (by decide) ?_
    show Steps p.tables e below (T5.setTop (mkF m 25 #[.val (.ref o0), .val (.ref o1), .val (.long q2), .second] [])) _
    refine XS.lloadN X5.here hx rfl (hb hby d4_25) rfl ?_
    show Steps p.tables e below (T5.setTop (mkF m 26 #[.val (.ref o0), .val (.ref o1), .val (.long q2), .second] [(.long q2)])) _
    exact k)
  have K_7 : ∀ t, Steps p.tables e below (T5.setTop (mkF m 26 #[.val (.ref o0), .val (.ref o1), .val (.long q2), .second] [(.long q2)])) t → Steps p.tables e below S0 t := K6
  obtain ⟨_, _, ⟨T8, L8, k8, n8⟩, -, X8, ⟨Lc8, hQ8, l8, y8, z8⟩, st8⟩ := Jvm.LawKit.callS X5 hx (y := (⟨"com/example/acervo/acervo/index/DocumentValue", "isDay", "(J)Z"⟩ : MethodName)) hown (mvT hZ (hw _ (List.mem_of_getElem? (i := 38) rfl))) (mvT hZ (hw _ (List.mem_of_getElem? (i := 39) rfl))) (mvT hZ (hw _ (List.mem_of_getElem? (i := 5) rfl))) (mvT hZ (hw _ (List.mem_of_getElem? (i := 40) rfl))) (by decide) (backOf (W := 0) (rm2 l Z a0 hw [] q2 h0 n0 Z0 ) hZ (hw _ (List.mem_of_getElem? (i := 40) rfl)) (hw _ (List.mem_of_getElem? (i := 5) rfl)) (by decide) (by decide)) (g := (mkF m 26 #[.val (.ref o0), .val (.ref o1), .val (.long q2), .second] [(.long q2)])) rfl (by rw [hml]; rfl) (argsL := [(.long q2)]) (rest := []) (lenOf pd4_1 rfl) rfl (by show 2 * 0 + _ ≤ _; exact Nat.le_of_eq rfl) (hb hby d4_26) (fun _ _ => ⟨rfl, e5, (by decide : 0 + 0 ≤ 0), (by decide : 0 + 0 ≤ 0)⟩)
  dsimp only [Pt.U, Pt.locs, Pt.cells, Pt.slots] at X8 l8 y8 z8 st8 hQ8
  subst l8 y8 z8
  obtain ⟨rfl, N8q, e8⟩ := hQ8
  have N8 := Fr.app N3 N8q
  have K8 : ∀ t, Steps p.tables e below (T8.setTop (mkF m 29 #[.val (.ref o0), .val (.ref o1), .val (.long q2), .second] [(.int (w2_r1 q2))])) t → Steps p.tables e below S0 t := fun t k => K_7 t (st8 t k)
  have hf9 : ¬ ((w2_r1 q2) = (0 : Int32)) := hday
  have K10 : ∀ t, Steps p.tables e below (T8.setTop (mkF m 48 #[.val (.ref o0), .val (.ref o1), .val (.long q2), .second] [(.ref o1), (.ref o0)])) t → Steps p.tables e below S0 t := fun t k => K8 t (by
    refine XS.ifYes X8.here hx rfl (pc0 := 29) (pc' := 46) rfl (hb hby d4_29) rfl (XT.i0_ne_t hf9) (by decide) (by decide) ?_
    show Steps p.tables e below (T8.setTop (mkF m 46 #[.val (.ref o0), .val (.ref o1), .val (.long q2), .second] [])) _
    refine XS.aloadN X8.here hx rfl (hb hby d4_46) rfl rfl ?_
    show Steps p.tables e below (T8.setTop (mkF m 47 #[.val (.ref o0), .val (.ref o1), .val (.long q2), .second] [(.ref o0)])) _
    refine XS.aloadN X8.here hx rfl (hb hby d4_47) rfl rfl ?_
    show Steps p.tables e below (T8.setTop (mkF m 48 #[.val (.ref o0), .val (.ref o1), .val (.long q2), .second] [(.ref o1), (.ref o0)])) _
    exact k)
  obtain ⟨T11, h11, X11, e11, W11, st11⟩ := putF X8 hx hZ hown (host := "") (Or.inl (hw _ (List.mem_of_getElem? (i := 19) rfl))) Via.refl e8 F_o0_kind E_o0 (Or.inr ⟨(hw _ (List.mem_of_getElem? (i := 20) rfl)), rfl, hnm⟩) (hw _ (List.mem_of_getElem? (i := 4) rfl)) (ty := (.object "com/example/acervo/acervo/index/DocumentValue$Kind")) (by decide) rfl rfl (g := (mkF m 48 #[.val (.ref o0), .val (.ref o1), .val (.long q2), .second] [(.ref o1), (.ref o0)])) rfl rfl (hb hby d4_48)
  have F_o0_kind__11 := F_o0_kind.same W11
  have E_o0__11 := E_o0.wr W11
  have F_o0_number__11 := F_o0_number.other W11 (Or.inr (slot_ne (Or.inr (hw _ (List.mem_of_getElem? (i := 22) rfl))) (Or.inr (hw _ (List.mem_of_getElem? (i := 20) rfl))) (by decide) (t := .long) (t' := (.object "com/example/acervo/acervo/index/DocumentValue$Kind")) (by decide) (by decide)))
  have S_DocumentValue_Kind_DATE__11 := S_DocumentValue_Kind_DATE.wr W11
  have N11 := Fr.snoc X11 N8 g_o0
  have Zs11 : n0 ≤ h11.size := Nat.le_trans Z0 (Nat.le_of_eq W11.size.symm)
  have Kc11 : Keep h0 h11 [o0] := (Keep.refl h0 [o0]).wr W11 (Or.inl (List.mem_of_getElem? (i := 0) rfl))
  have K11 : ∀ t, Steps p.tables e below (T11.setTop (mkF m 51 #[.val (.ref o0), .val (.ref o1), .val (.long q2), .second] [])) t → Steps p.tables e below S0 t := fun t k => K10 t (st11 t k)
  have K12 : ∀ t, Steps p.tables e below (T11.setTop (mkF m 53 #[.val (.ref o0), .val (.ref o1), .val (.long q2), .second] [(.long q2), (.ref o0)])) t → Steps p.tables e below S0 t := fun t k => K11 t (by
    refine XS.aloadN X11.here hx rfl (hb hby d4_51) rfl rfl ?_
    show Steps p.tables e below (T11.setTop (mkF m 52 #[.val (.ref o0), .val (.ref o1), .val (.long q2), .second] [(.ref o0)])) _
    refine XS.lloadN X11.here hx rfl (hb hby d4_52) rfl ?_
    show Steps p.tables e below (T11.setTop (mkF m 53 #[.val (.ref o0), .val (.ref o1), .val (.long q2), .second] [(.long q2), (.ref o0)])) _
    exact k)
  obtain ⟨T13, h13, X13, e13, W13, st13⟩ := putF X11 hx hZ hown (host := "") (Or.inl (hw _ (List.mem_of_getElem? (i := 21) rfl))) Via.refl e11 F_o0_number__11 E_o0__11 (Or.inr ⟨(hw _ (List.mem_of_getElem? (i := 22) rfl)), rfl, hnm⟩) (hw _ (List.mem_of_getElem? (i := 4) rfl)) (ty := .long) (by decide) rfl rfl (g := (mkF m 53 #[.val (.ref o0), .val (.ref o1), .val (.long q2), .second] [(.long q2), (.ref o0)])) rfl rfl (hb hby d4_53)
  have F_o0_number__13 := F_o0_number__11.same W13
  have E_o0__13 := E_o0__11.wr W13
  have F_o0_kind__13 := F_o0_kind__11.other W13 (Or.inr (slot_ne (Or.inr (hw _ (List.mem_of_getElem? (i := 20) rfl))) (Or.inr (hw _ (List.mem_of_getElem? (i := 22) rfl))) (by decide) (t := (.object "com/example/acervo/acervo/index/DocumentValue$Kind")) (t' := .long) (by decide) (by decide)))
  have S_DocumentValue_Kind_DATE__13 := S_DocumentValue_Kind_DATE__11.wr W13
  have N13 := Fr.snoc X13 N11 g_o0
  have Zs13 : n0 ≤ h13.size := Nat.le_trans Zs11 (Nat.le_of_eq W13.size.symm)
  have Kc13 : Keep h0 h13 [o0] := Kc11.wr W13 (Or.inl (List.mem_of_getElem? (i := 0) rfl))
  have K13 : ∀ t, Steps p.tables e below (T13.setTop (mkF m 56 #[.val (.ref o0), .val (.ref o1), .val (.long q2), .second] [])) t → Steps p.tables e below S0 t := fun t k => K12 t (st13 t k)
  obtain ⟨fs, hr, hrun, hended, hW, hsame⟩ := X13.leave (v := none) (fun _ => rfl) hlk
  refine ⟨_, _, ?_, hrun, hended, _, _, rfl, ?_, ⟨_, rfl⟩, hW, hsame.mono (by decide) (by decide)⟩
  · rw [← hS0]; exact K13 _ (X13.returnOut hx Bd.returns (hb hby d4_56) hr)
  · show Q4 Z o0 o1 q2 h0 n0 _ T13.heap _
    rw [e13]
    exact ⟨rfl, N13, Kc13, E_o0__13, F_o0_kind__13, F_o0_number__13⟩
theorem d5_0 : decode prog_82_method_1_code 0 = .ok (.aload_n 0, 1) := by decide +kernel
theorem d5_1 : decode prog_82_method_1_code 1 = .ok (.invokespecial 1, 3) := by decide +kernel
theorem d5_4 : decode prog_82_method_1_code 4 = .ok (.aload_n 1, 1) := by decide +kernel
theorem d5_5 : decode prog_82_method_1_code 5 = .ok (.ifnonnull 13, 3) := by decide +kernel
theorem d5_18 : decode prog_82_method_1_code 18 = .ok (.aload_n 1, 1) := by decide +kernel
theorem d5_19 : decode prog_82_method_1_code 19 = .ok (.getstatic 14, 3) := by decide +kernel
theorem d5_22 : decode prog_82_method_1_code 22 = .ok (.if_acmp .ne 24, 3) := by decide +kernel
theorem d5_46 : decode prog_82_method_1_code 46 = .ok (.aload_n 0, 1) := by decide +kernel
theorem d5_47 : decode prog_82_method_1_code 47 = .ok (.aload_n 1, 1) := by decide +kernel
theorem d5_48 : decode prog_82_method_1_code 48 = .ok (.putfield 33, 3) := by decide +kernel
theorem d5_51 : decode prog_82_method_1_code 51 = .ok (.aload_n 0, 1) := by decide +kernel
theorem d5_52 : decode prog_82_method_1_code 52 = .ok (.lload_n 2, 1) := by decide +kernel
theorem d5_53 : decode prog_82_method_1_code 53 = .ok (.putfield 35, 3) := by decide +kernel
theorem d5_56 : decode prog_82_method_1_code 56 = .ok (.return_, 1) := by decide +kernel
theorem pn5 : plainName "com/example/acervo/acervo/index/DocumentValue" = true := by first | (simp [plainName, overriddenIn]; done) | decide +kernel
theorem pd5_0 : parseMethodDescriptor "()V" = some ⟨[], none⟩ := by decide +kernel
theorem ef5 (m : MethodId) (o0 : Addr) (o1 : Addr) (q2 : Int64) : entryFrame m #[(.ref o0), (.ref o1), (.long q2)] 4 = mkF m 0 #[.val (.ref o0), .val (.ref o1), .val (.long q2), .second] [] := by first | (simp [entryFrame, mkF, argsToLocals, Value.category]; done) | rfl
def Q5 (Z : State) (o0 : Addr) (o1 : Addr) (q2 : Int64) (od : Addr) (h0 : Heap) (n0 : Nat) (v : Option Value) (h : Heap) (L : List Loc) : Prop := v = none ∧ Fr n0 L ∧ Keep h0 h [o0] ∧ Exa Z h o0 "com/example/acervo/acervo/index/DocumentValue" ∧ Fld Z h o0 "com/example/acervo/acervo/index/DocumentValue" "kind" "Lcom/example/acervo/acervo/index/DocumentValue$Kind;" (.ref o1) ∧ Fld Z h o0 "com/example/acervo/acervo/index/DocumentValue" "number" "J" (.long q2)
set_option maxRecDepth 65536 in
set_option maxHeartbeats 40000000 in
theorem rm5 (l : Launch) (Z : State) (a0 : Array Value) (hw : ∀ d ∈ tables_1, d.before a0 Z = true) (ws : List Jvm.Cond) (o0 : Addr) (o1 : Addr) (q2 : Int64) (od : Addr) (h0 : Heap) (n0 : Nat) (Z0 : n0 ≤ h0.size) (E_o0 : Exa Z h0 o0 "com/example/acervo/acervo/index/DocumentValue") (F_o0_kind : Fld Z h0 o0 "com/example/acervo/acervo/index/DocumentValue" "kind" "Lcom/example/acervo/acervo/index/DocumentValue$Kind;" .null) (F_o0_number : Fld Z h0 o0 "com/example/acervo/acervo/index/DocumentValue" "number" "J" (.long (0 : Int64))) (g_o0 : n0 ≤ o0) (S_DocumentValue_Kind_DATE : Sta Z h0 "com/example/acervo/acervo/index/DocumentValue$Kind" "DATE" "Lcom/example/acervo/acervo/index/DocumentValue$Kind;" (.ref od)) (ne_o1_od : o1 ≠ od) :
    MetFree l (⟨"com/example/acervo/acervo/index/DocumentValue", "<init>", "(Lcom/example/acervo/acervo/index/DocumentValue$Kind;J)V"⟩ : MethodName) (head1 (Jvm.Cond.code (⟨"com/example/acervo/acervo/index/DocumentValue", "<init>", "(Lcom/example/acervo/acervo/index/DocumentValue$Kind;J)V"⟩ : MethodName) prog_82_method_1_code 4 none :: ws) ({ frames := 2, cells := 0, slots := 0, locals := 24 } : Room)) (fun a U => a = #[(.ref o0), (.ref o1), (.long q2)] ∧ Z.Warmed39 U.vm ∧ U.heap = h0) (fun _ _ _ _ _ => True) (fun _ U o U' => ∃ v L, o = .returned v ∧ Q5 Z o0 o1 q2 od h0 n0 v U'.heap L ∧ FrameEnd U o U' L ({ frames := 2, cells := 0, slots := 0, locals := 24 } : Room).cells ({ frames := 2, cells := 0, slots := 0, locals := 24 } : Room).slots) := by
  refine MetFree.of_bodySF (plainFor_of_name pn5) hisR ?_
  intro p e s m args below meth c s₁ Bd hml0 hP hK
  obtain ⟨rfl, hZ, hh⟩ := hP
  have hlk : meth.locks = false := BodyLoose.notSynchronized Bd
  have hx := Bd.exec
  have hby := Bd.bytes
  have hml : c.maxLocals = 4 := hml0
  have hown : s.vm.findClass "com/example/acervo/acervo/index/DocumentValue" = some m.cls := findClass_of_methodNamed Bd.named
  have hnm := (name_of_methodNamed Bd.named Bd.method).1
  have X0 : Stand p l e ({ frames := 2, cells := 0, slots := 0, locals := 24 } : Room) s m #[(.ref o0), (.ref o1), (.long q2)] below meth c s₁ [] 0 0 := Stand.of_body Bd
  have e0 : s₁.heap = h0 := by rw [← hh, Bd.state]; rfl
  have N0 := Fr.nil n0
  obtain ⟨S0, hS0⟩ : ∃ S0, S0 = s₁.setTop (entryFrame m #[(.ref o0), (.ref o1), (.long q2)] 4) := ⟨_, rfl⟩
  have pre0 : ∀ t, Steps p.tables e below (s₁.setTop (mkF m 0 #[.val (.ref o0), .val (.ref o1), .val (.long q2), .second] [])) t → Steps p.tables e below S0 t := fun t k => by rw [hS0]; exact castTop (ef5 m o0 o1 q2) k
  have K1 : ∀ t, Steps p.tables e below (s₁.setTop (mkF m 1 #[.val (.ref o0), .val (.ref o1), .val (.long q2), .second] [(.ref o0)])) t → Steps p.tables e below S0 t := fun t k => pre0 t (by
    refine XS.aloadN X0.here hx rfl (hb hby d5_0) rfl rfl ?_
    show Steps p.tables e below (s₁.setTop (mkF m 1 #[.val (.ref o0), .val (.ref o1), .val (.long q2), .second] [(.ref o0)])) _
    exact k)
  have K_2 : ∀ t, Steps p.tables e below (s₁.setTop (mkF m 1 #[.val (.ref o0), .val (.ref o1), .val (.long q2), .second] [(.ref o0)])) t → Steps p.tables e below S0 t := K1
  obtain ⟨_, _, ⟨T3, L3, k3, n3⟩, -, X3, ⟨Lc3, hQ3, l3, y3, z3⟩, st3⟩ := X0.specialBack hx (y := (⟨"java/lang/Record", "<init>", "()V"⟩ : MethodName)) rfl hown (mvT hZ (hw _ (List.mem_of_getElem? (i := 9) rfl))) (mvT hZ (hw _ (List.mem_of_getElem? (i := 10) rfl))) (mvT hZ (hw _ (List.mem_of_getElem? (i := 13) rfl))) (by decide) (backOf (W := 0) (rm1 l Z a0 hw [] o0 h0 n0 Z0 ) hZ (hw _ (List.mem_of_getElem? (i := 13) rfl)) (hw _ (List.mem_of_getElem? (i := 12) rfl)) (by decide) (by decide)) (g := (mkF m 1 #[.val (.ref o0), .val (.ref o1), .val (.long q2), .second] [(.ref o0)])) rfl (by rw [hml]; rfl) (Steps.refl _) (a := o0) (argsL := []) (rest := []) (lenOf pd5_0 rfl) rfl (by show 2 * 0 + _ ≤ _; exact Nat.le_of_eq rfl) (hb hby d5_1) (fun _ _ => ⟨rfl, e0, (by decide : 0 + 0 ≤ 0), (by decide : 0 + 0 ≤ 0)⟩)
  dsimp only [Pt.U, Pt.locs, Pt.cells, Pt.slots] at X3 l3 y3 z3 st3 hQ3
  subst l3 y3 z3
  obtain ⟨rfl, N3q, e3⟩ := hQ3
  have N3 := Fr.app N0 N3q
  have K3 : ∀ t, Steps p.tables e below (T3.setTop (mkF m 4 #[.val (.ref o0), .val (.ref o1), .val (.long q2), .second] [])) t → Steps p.tables e below S0 t := fun t k => K_2 t (st3.trans k)
  have K4 : ∀ t, Steps p.tables e below (T3.setTop (mkF m 19 #[.val (.ref o0), .val (.ref o1), .val (.long q2), .second] [(.ref o1)])) t → Steps p.tables e below S0 t := fun t k => K3 t (by
    refine XS.aloadN X3.here hx rfl (hb hby d5_4) rfl rfl ?_
    show Steps p.tables e below (T3.setTop (mkF m 5 #[.val (.ref o0), .val (.ref o1), .val (.long q2), .second] [(.ref o1)])) _
    refine XS.ifnonnullYes X3.here hx rfl (pc0 := 5) (pc' := 18) rfl (hb hby d5_5) rfl (by decide) (by decide) ?_
    show Steps p.tables e below (T3.setTop (mkF m 18 #[.val (.ref o0), .val (.ref o1), .val (.long q2), .second] [])) _
    refine XS.aloadN X3.here hx rfl (hb hby d5_18) rfl rfl ?_
    show Steps p.tables e below (T3.setTop (mkF m 19 #[.val (.ref o0), .val (.ref o1), .val (.long q2), .second] [(.ref o1)])) _
    exact k)
  obtain ⟨T5, X5, e5, st5⟩ := getS2 X3 hx hZ hown (host := "") (Or.inl (hw _ (List.mem_of_getElem? (i := 17) rfl))) Via.refl e3 S_DocumentValue_Kind_DATE (g := (mkF m 19 #[.val (.ref o0), .val (.ref o1), .val (.long q2), .second] [(.ref o1)])) rfl (hb hby d5_19)
  have K5 : ∀ t, Steps p.tables e below (T5.setTop (mkF m 22 #[.val (.ref o0), .val (.ref o1), .val (.long q2), .second] [(.ref od), (.ref o1)])) t → Steps p.tables e below S0 t := fun t k => K4 t (st5 t k)
  have K6 : ∀ t, Steps p.tables e below (T5.setTop (mkF m 48 #[.val (.ref o0), .val (.ref o1), .val (.long q2), .second] [(.ref o1), (.ref o0)])) t → Steps p.tables e below S0 t := fun t k => K5 t (by
    refine Jvm.RoadKit.acmp (g := (mkF m 22 #[.val (.ref o0), .val (.ref o1), .val (.long q2), .second] [(.ref od), (.ref o1)])) X5 hx rfl rfl rfl (pc0 := 22) (pc' := 46) (same := false) rfl (hb hby d5_22) rfl (decide_eq_false fun q => ne_o1_od (Value.ref.inj q)) (by decide) (by decide) ?_
    show Steps p.tables e below (T5.setTop (mkF m 46 #[.val (.ref o0), .val (.ref o1), .val (.long q2), .second] [])) _
    refine XS.aloadN X5.here hx rfl (hb hby d5_46) rfl rfl ?_
    show Steps p.tables e below (T5.setTop (mkF m 47 #[.val (.ref o0), .val (.ref o1), .val (.long q2), .second] [(.ref o0)])) _
    refine XS.aloadN X5.here hx rfl (hb hby d5_47) rfl rfl ?_
    show Steps p.tables e below (T5.setTop (mkF m 48 #[.val (.ref o0), .val (.ref o1), .val (.long q2), .second] [(.ref o1), (.ref o0)])) _
    exact k)
  obtain ⟨T7, h7, X7, e7, W7, st7⟩ := putF X5 hx hZ hown (host := "") (Or.inl (hw _ (List.mem_of_getElem? (i := 19) rfl))) Via.refl e5 F_o0_kind E_o0 (Or.inr ⟨(hw _ (List.mem_of_getElem? (i := 20) rfl)), rfl, hnm⟩) (hw _ (List.mem_of_getElem? (i := 4) rfl)) (ty := (.object "com/example/acervo/acervo/index/DocumentValue$Kind")) (by decide) rfl rfl (g := (mkF m 48 #[.val (.ref o0), .val (.ref o1), .val (.long q2), .second] [(.ref o1), (.ref o0)])) rfl rfl (hb hby d5_48)
  have F_o0_kind__7 := F_o0_kind.same W7
  have E_o0__7 := E_o0.wr W7
  have F_o0_number__7 := F_o0_number.other W7 (Or.inr (slot_ne (Or.inr (hw _ (List.mem_of_getElem? (i := 22) rfl))) (Or.inr (hw _ (List.mem_of_getElem? (i := 20) rfl))) (by decide) (t := .long) (t' := (.object "com/example/acervo/acervo/index/DocumentValue$Kind")) (by decide) (by decide)))
  have S_DocumentValue_Kind_DATE__7 := S_DocumentValue_Kind_DATE.wr W7
  have N7 := Fr.snoc X7 N3 g_o0
  have Zs7 : n0 ≤ h7.size := Nat.le_trans Z0 (Nat.le_of_eq W7.size.symm)
  have Kc7 : Keep h0 h7 [o0] := (Keep.refl h0 [o0]).wr W7 (Or.inl (List.mem_of_getElem? (i := 0) rfl))
  have K7 : ∀ t, Steps p.tables e below (T7.setTop (mkF m 51 #[.val (.ref o0), .val (.ref o1), .val (.long q2), .second] [])) t → Steps p.tables e below S0 t := fun t k => K6 t (st7 t k)
  have K8 : ∀ t, Steps p.tables e below (T7.setTop (mkF m 53 #[.val (.ref o0), .val (.ref o1), .val (.long q2), .second] [(.long q2), (.ref o0)])) t → Steps p.tables e below S0 t := fun t k => K7 t (by
    refine XS.aloadN X7.here hx rfl (hb hby d5_51) rfl rfl ?_
    show Steps p.tables e below (T7.setTop (mkF m 52 #[.val (.ref o0), .val (.ref o1), .val (.long q2), .second] [(.ref o0)])) _
    refine XS.lloadN X7.here hx rfl (hb hby d5_52) rfl ?_
    show Steps p.tables e below (T7.setTop (mkF m 53 #[.val (.ref o0), .val (.ref o1), .val (.long q2), .second] [(.long q2), (.ref o0)])) _
    exact k)
  obtain ⟨T9, h9, X9, e9, W9, st9⟩ := putF X7 hx hZ hown (host := "") (Or.inl (hw _ (List.mem_of_getElem? (i := 21) rfl))) Via.refl e7 F_o0_number__7 E_o0__7 (Or.inr ⟨(hw _ (List.mem_of_getElem? (i := 22) rfl)), rfl, hnm⟩) (hw _ (List.mem_of_getElem? (i := 4) rfl)) (ty := .long) (by decide) rfl rfl (g := (mkF m 53 #[.val (.ref o0), .val (.ref o1), .val (.long q2), .second] [(.long q2), (.ref o0)])) rfl rfl (hb hby d5_53)
  have F_o0_number__9 := F_o0_number__7.same W9
  have E_o0__9 := E_o0__7.wr W9
  have F_o0_kind__9 := F_o0_kind__7.other W9 (Or.inr (slot_ne (Or.inr (hw _ (List.mem_of_getElem? (i := 20) rfl))) (Or.inr (hw _ (List.mem_of_getElem? (i := 22) rfl))) (by decide) (t := (.object "com/example/acervo/acervo/index/DocumentValue$Kind")) (t' := .long) (by decide) (by decide)))
  have S_DocumentValue_Kind_DATE__9 := S_DocumentValue_Kind_DATE__7.wr W9
  have N9 := Fr.snoc X9 N7 g_o0
  have Zs9 : n0 ≤ h9.size := Nat.le_trans Zs7 (Nat.le_of_eq W9.size.symm)
  have Kc9 : Keep h0 h9 [o0] := Kc7.wr W9 (Or.inl (List.mem_of_getElem? (i := 0) rfl))
  have K9 : ∀ t, Steps p.tables e below (T9.setTop (mkF m 56 #[.val (.ref o0), .val (.ref o1), .val (.long q2), .second] [])) t → Steps p.tables e below S0 t := fun t k => K8 t (st9 t k)
  obtain ⟨fs, hr, hrun, hended, hW, hsame⟩ := X9.leave (v := none) (fun _ => rfl) hlk
  refine ⟨_, _, ?_, hrun, hended, _, _, rfl, ?_, ⟨_, rfl⟩, hW, hsame.mono (by decide) (by decide)⟩
  · rw [← hS0]; exact K9 _ (X9.returnOut hx Bd.returns (hb hby d5_56) hr)
  · show Q5 Z o0 o1 q2 od h0 n0 _ T9.heap _
    rw [e9]
    exact ⟨rfl, N9, Kc9, E_o0__9, F_o0_kind__9, F_o0_number__9⟩
theorem d6_0 : decode prog_82_method_7_code 0 = .ok (.aload_n 1, 1) := by decide +kernel
theorem d6_1 : decode prog_82_method_7_code 1 = .ok (.instanceof 21, 3) := by decide +kernel
theorem d6_4 : decode prog_82_method_7_code 4 = .ok (.ifCond .eq 35, 3) := by decide +kernel
theorem d6_7 : decode prog_82_method_7_code 7 = .ok (.aload_n 1, 1) := by decide +kernel
theorem d6_8 : decode prog_82_method_7_code 8 = .ok (.checkcast 21, 3) := by decide +kernel
theorem d6_11 : decode prog_82_method_7_code 11 = .ok (.astore_n 2, 1) := by decide +kernel
theorem d6_12 : decode prog_82_method_7_code 12 = .ok (.aload_n 0, 1) := by decide +kernel
theorem d6_13 : decode prog_82_method_7_code 13 = .ok (.getfield 33, 3) := by decide +kernel
theorem d6_16 : decode prog_82_method_7_code 16 = .ok (.aload_n 2, 1) := by decide +kernel
theorem d6_17 : decode prog_82_method_7_code 17 = .ok (.getfield 33, 3) := by decide +kernel
theorem d6_20 : decode prog_82_method_7_code 20 = .ok (.if_acmp .ne 19, 3) := by decide +kernel
theorem d6_23 : decode prog_82_method_7_code 23 = .ok (.aload_n 0, 1) := by decide +kernel
theorem d6_24 : decode prog_82_method_7_code 24 = .ok (.getfield 35, 3) := by decide +kernel
theorem d6_27 : decode prog_82_method_7_code 27 = .ok (.aload_n 2, 1) := by decide +kernel
theorem d6_28 : decode prog_82_method_7_code 28 = .ok (.getfield 35, 3) := by decide +kernel
theorem d6_31 : decode prog_82_method_7_code 31 = .ok (.lcmp, 1) := by decide +kernel
theorem d6_32 : decode prog_82_method_7_code 32 = .ok (.ifCond .ne 7, 3) := by decide +kernel
theorem d6_35 : decode prog_82_method_7_code 35 = .ok (.iconst 1, 1) := by decide +kernel
theorem d6_36 : decode prog_82_method_7_code 36 = .ok (.goto 4, 3) := by decide +kernel
theorem d6_39 : decode prog_82_method_7_code 39 = .ok (.iconst 0, 1) := by decide +kernel
theorem d6_40 : decode prog_82_method_7_code 40 = .ok (.ireturn, 1) := by decide +kernel
theorem pn6 : plainName "com/example/acervo/acervo/index/DocumentValue" = true := by first | (simp [plainName, overriddenIn]; done) | decide +kernel
theorem ef6 (m : MethodId) (o0 : Addr) (o1 : Addr) : entryFrame m #[(.ref o0), (.ref o1)] 3 = mkF m 0 #[.val (.ref o0), .val (.ref o1), .unset] [] := by first | (simp [entryFrame, mkF, argsToLocals, Value.category]; done) | rfl
def Q6 (Z : State) (o0 : Addr) (o1 : Addr) (ok : Addr) (x0 : Int64) (y0 : Int64) (h0 : Heap) (n0 : Nat) (v : Option Value) (h : Heap) (L : List Loc) : Prop := v = some (.int (w6_r1 x0 y0)) ∧ Fr n0 L ∧ h = h0
set_option maxRecDepth 65536 in
set_option maxHeartbeats 40000000 in
theorem rm6 (l : Launch) (Z : State) (a0 : Array Value) (hw : ∀ d ∈ tables_1, d.before a0 Z = true) (ws : List Jvm.Cond) (o0 : Addr) (o1 : Addr) (ok : Addr) (x0 : Int64) (y0 : Int64) (h0 : Heap) (n0 : Nat) (Z0 : n0 ≤ h0.size) (E_o1 : Exa Z h0 o1 "com/example/acervo/acervo/index/DocumentValue") (F_o0_kind : Fld Z h0 o0 "com/example/acervo/acervo/index/DocumentValue" "kind" "Lcom/example/acervo/acervo/index/DocumentValue$Kind;" (.ref ok)) (F_o0_number : Fld Z h0 o0 "com/example/acervo/acervo/index/DocumentValue" "number" "J" (.long x0)) (F_o1_kind : Fld Z h0 o1 "com/example/acervo/acervo/index/DocumentValue" "kind" "Lcom/example/acervo/acervo/index/DocumentValue$Kind;" (.ref ok)) (F_o1_number : Fld Z h0 o1 "com/example/acervo/acervo/index/DocumentValue" "number" "J" (.long y0)) :
    MetFree l (⟨"com/example/acervo/acervo/index/DocumentValue", "equals", "(Ljava/lang/Object;)Z"⟩ : MethodName) (head1 (Jvm.Cond.code (⟨"com/example/acervo/acervo/index/DocumentValue", "equals", "(Ljava/lang/Object;)Z"⟩ : MethodName) prog_82_method_7_code 3 (some .boolean) :: ws) ({ frames := 0, cells := 0, slots := 0, locals := 0 } : Room)) (fun a U => a = #[(.ref o0), (.ref o1)] ∧ Z.Warmed39 U.vm ∧ U.heap = h0) (fun _ _ _ _ _ => True) (fun _ U o U' => ∃ v L, o = .returned v ∧ Q6 Z o0 o1 ok x0 y0 h0 n0 v U'.heap L ∧ FrameEnd U o U' L ({ frames := 0, cells := 0, slots := 0, locals := 0 } : Room).cells ({ frames := 0, cells := 0, slots := 0, locals := 0 } : Room).slots) := by
  refine MetFree.of_bodySF (plainFor_of_name pn6) hisR ?_
  intro p e s m args below meth c s₁ Bd hml0 hP hK
  obtain ⟨rfl, hZ, hh⟩ := hP
  have hlk : meth.locks = false := BodyLoose.notSynchronized Bd
  have hx := Bd.exec
  have hby := Bd.bytes
  have hml : c.maxLocals = 3 := hml0
  have hown : s.vm.findClass "com/example/acervo/acervo/index/DocumentValue" = some m.cls := findClass_of_methodNamed Bd.named
  have hnm := (name_of_methodNamed Bd.named Bd.method).1
  have X0 : Stand p l e ({ frames := 0, cells := 0, slots := 0, locals := 0 } : Room) s m #[(.ref o0), (.ref o1)] below meth c s₁ [] 0 0 := Stand.of_body Bd
  have e0 : s₁.heap = h0 := by rw [← hh, Bd.state]; rfl
  have N0 := Fr.nil n0
  obtain ⟨S0, hS0⟩ : ∃ S0, S0 = s₁.setTop (entryFrame m #[(.ref o0), (.ref o1)] 3) := ⟨_, rfl⟩
  have pre0 : ∀ t, Steps p.tables e below (s₁.setTop (mkF m 0 #[.val (.ref o0), .val (.ref o1), .unset] [])) t → Steps p.tables e below S0 t := fun t k => by rw [hS0]; exact castTop (ef6 m o0 o1) k
  have K1 : ∀ t, Steps p.tables e below (s₁.setTop (mkF m 1 #[.val (.ref o0), .val (.ref o1), .unset] [(.ref o1)])) t → Steps p.tables e below S0 t := fun t k => pre0 t (by
    refine XS.aloadN X0.here hx rfl (hb hby d6_0) rfl rfl ?_
    show Steps p.tables e below (s₁.setTop (mkF m 1 #[.val (.ref o0), .val (.ref o1), .unset] [(.ref o1)])) _
    exact k)
  obtain ⟨T2, X2, e2, st2⟩ := instY X0 hx hZ hown (hw _ (List.mem_of_getElem? (i := 28) rfl)) e0 (Ins.self E_o1) (g := (mkF m 1 #[.val (.ref o0), .val (.ref o1), .unset] [(.ref o1)])) rfl rfl (hb hby d6_1)
  have K2 : ∀ t, Steps p.tables e below (T2.setTop (mkF m 4 #[.val (.ref o0), .val (.ref o1), .unset] [(.int (1 : Int32))])) t → Steps p.tables e below S0 t := fun t k => K1 t (st2 t k)
  have K3 : ∀ t, Steps p.tables e below (T2.setTop (mkF m 8 #[.val (.ref o0), .val (.ref o1), .unset] [(.ref o1)])) t → Steps p.tables e below S0 t := fun t k => K2 t (by
    refine XS.ifNo X2.here hx rfl (hb hby d6_4) rfl (XT.i0_eq_f (by decide)) ?_
    show Steps p.tables e below (T2.setTop (mkF m 7 #[.val (.ref o0), .val (.ref o1), .unset] [])) _
    refine XS.aloadN X2.here hx rfl (hb hby d6_7) rfl rfl ?_
    show Steps p.tables e below (T2.setTop (mkF m 8 #[.val (.ref o0), .val (.ref o1), .unset] [(.ref o1)])) _
    exact k)
  obtain ⟨T4, X4, e4, st4⟩ := castY X2 hx hZ hown (hw _ (List.mem_of_getElem? (i := 28) rfl)) e2 (Ins.self E_o1) (g := (mkF m 8 #[.val (.ref o0), .val (.ref o1), .unset] [(.ref o1)])) rfl rfl (hb hby d6_8)
  have K4 : ∀ t, Steps p.tables e below (T4.setTop (mkF m 11 #[.val (.ref o0), .val (.ref o1), .unset] [(.ref o1)])) t → Steps p.tables e below S0 t := fun t k => K3 t (st4 t k)
  have K5 : ∀ t, Steps p.tables e below (T4.setTop (mkF m 13 #[.val (.ref o0), .val (.ref o1), .val (.ref o1)] [(.ref o0)])) t → Steps p.tables e below S0 t := fun t k => K4 t (by
    refine XS.astoreN X4.here hx rfl (hb hby d6_11) rfl rfl (l' := #[.val (.ref o0), .val (.ref o1), .val (.ref o1)]) rfl ?_
    show Steps p.tables e below (T4.setTop (mkF m 12 #[.val (.ref o0), .val (.ref o1), .val (.ref o1)] [])) _
    refine XS.aloadN X4.here hx rfl (hb hby d6_12) rfl rfl ?_
    show Steps p.tables e below (T4.setTop (mkF m 13 #[.val (.ref o0), .val (.ref o1), .val (.ref o1)] [(.ref o0)])) _
    exact k)
  obtain ⟨T6, X6, e6, st6⟩ := getF X4 hx hZ hown (host := "") (Or.inl (hw _ (List.mem_of_getElem? (i := 19) rfl))) Via.refl e4 F_o0_kind (g := (mkF m 13 #[.val (.ref o0), .val (.ref o1), .val (.ref o1)] [(.ref o0)])) rfl rfl (hb hby d6_13)
  have K6 : ∀ t, Steps p.tables e below (T6.setTop (mkF m 16 #[.val (.ref o0), .val (.ref o1), .val (.ref o1)] [(.ref ok)])) t → Steps p.tables e below S0 t := fun t k => K5 t (st6 t k)
  have K7 : ∀ t, Steps p.tables e below (T6.setTop (mkF m 17 #[.val (.ref o0), .val (.ref o1), .val (.ref o1)] [(.ref o1), (.ref ok)])) t → Steps p.tables e below S0 t := fun t k => K6 t (by
    refine XS.aloadN X6.here hx rfl (hb hby d6_16) rfl rfl ?_
    show Steps p.tables e below (T6.setTop (mkF m 17 #[.val (.ref o0), .val (.ref o1), .val (.ref o1)] [(.ref o1), (.ref ok)])) _
    exact k)
  obtain ⟨T8, X8, e8, st8⟩ := getF X6 hx hZ hown (host := "") (Or.inl (hw _ (List.mem_of_getElem? (i := 19) rfl))) Via.refl e6 F_o1_kind (g := (mkF m 17 #[.val (.ref o0), .val (.ref o1), .val (.ref o1)] [(.ref o1), (.ref ok)])) rfl rfl (hb hby d6_17)
  have K8 : ∀ t, Steps p.tables e below (T8.setTop (mkF m 20 #[.val (.ref o0), .val (.ref o1), .val (.ref o1)] [(.ref ok), (.ref ok)])) t → Steps p.tables e below S0 t := fun t k => K7 t (st8 t k)
  have K9 : ∀ t, Steps p.tables e below (T8.setTop (mkF m 24 #[.val (.ref o0), .val (.ref o1), .val (.ref o1)] [(.ref o0)])) t → Steps p.tables e below S0 t := fun t k => K8 t (by
    refine Jvm.RoadKit.acmp (g := (mkF m 20 #[.val (.ref o0), .val (.ref o1), .val (.ref o1)] [(.ref ok), (.ref ok)])) X8 hx rfl rfl rfl (pc0 := 20) (pc' := 23) (same := true) rfl (hb hby d6_20) rfl (decide_eq_true rfl) (by decide) (by decide) ?_
    show Steps p.tables e below (T8.setTop (mkF m 23 #[.val (.ref o0), .val (.ref o1), .val (.ref o1)] [])) _
    refine XS.aloadN X8.here hx rfl (hb hby d6_23) rfl rfl ?_
    show Steps p.tables e below (T8.setTop (mkF m 24 #[.val (.ref o0), .val (.ref o1), .val (.ref o1)] [(.ref o0)])) _
    exact k)
  obtain ⟨T10, X10, e10, st10⟩ := getF X8 hx hZ hown (host := "") (Or.inl (hw _ (List.mem_of_getElem? (i := 21) rfl))) Via.refl e8 F_o0_number (g := (mkF m 24 #[.val (.ref o0), .val (.ref o1), .val (.ref o1)] [(.ref o0)])) rfl rfl (hb hby d6_24)
  have K10 : ∀ t, Steps p.tables e below (T10.setTop (mkF m 27 #[.val (.ref o0), .val (.ref o1), .val (.ref o1)] [(.long x0)])) t → Steps p.tables e below S0 t := fun t k => K9 t (st10 t k)
  have K11 : ∀ t, Steps p.tables e below (T10.setTop (mkF m 28 #[.val (.ref o0), .val (.ref o1), .val (.ref o1)] [(.ref o1), (.long x0)])) t → Steps p.tables e below S0 t := fun t k => K10 t (by
    refine XS.aloadN X10.here hx rfl (hb hby d6_27) rfl rfl ?_
    show Steps p.tables e below (T10.setTop (mkF m 28 #[.val (.ref o0), .val (.ref o1), .val (.ref o1)] [(.ref o1), (.long x0)])) _
    exact k)
  obtain ⟨T12, X12, e12, st12⟩ := getF X10 hx hZ hown (host := "") (Or.inl (hw _ (List.mem_of_getElem? (i := 21) rfl))) Via.refl e10 F_o1_number (g := (mkF m 28 #[.val (.ref o0), .val (.ref o1), .val (.ref o1)] [(.ref o1), (.long x0)])) rfl rfl (hb hby d6_28)
  have K12 : ∀ t, Steps p.tables e below (T12.setTop (mkF m 31 #[.val (.ref o0), .val (.ref o1), .val (.ref o1)] [(.long y0), (.long x0)])) t → Steps p.tables e below S0 t := fun t k => K11 t (st12 t k)
  have K13 : ∀ t, Steps p.tables e below (T12.setTop (mkF m 32 #[.val (.ref o0), .val (.ref o1), .val (.ref o1)] [(.int (lcmpW x0 y0))])) t → Steps p.tables e below S0 t := fun t k => K12 t (by
    refine XS.lcmp X12.here hx rfl (hb hby d6_31) rfl ?_
    show Steps p.tables e below (T12.setTop (mkF m 32 #[.val (.ref o0), .val (.ref o1), .val (.ref o1)] [(.int (lcmpW x0 y0))])) _
    exact k)
  by_cases hc32_0 : x0 = y0
  · -- yes
    have K14 : ∀ t, Steps p.tables e below (T12.setTop (mkF m 40 #[.val (.ref o0), .val (.ref o1), .val (.ref o1)] [(.int (1 : Int32))])) t → Steps p.tables e below S0 t := fun t k => K13 t (by
      refine XS.ifNo X12.here hx rfl (hb hby d6_32) rfl (XT.ll_ne_f hc32_0) ?_
      show Steps p.tables e below (T12.setTop (mkF m 35 #[.val (.ref o0), .val (.ref o1), .val (.ref o1)] [])) _
      refine XS.iconst X12.here hx rfl (hb hby d6_35) ?_
      show Steps p.tables e below (T12.setTop (mkF m 36 #[.val (.ref o0), .val (.ref o1), .val (.ref o1)] [(.int (1 : Int32))])) _
      refine XS.goto X12.here hx rfl (pc0 := 36) (pc' := 40) rfl (hb hby d6_36) (by decide) (by decide) ?_
      show Steps p.tables e below (T12.setTop (mkF m 40 #[.val (.ref o0), .val (.ref o1), .val (.ref o1)] [(.int (1 : Int32))])) _
      exact k)
    obtain ⟨fs, hr, hrun, hended, hW, hsame⟩ := X12.leave (v := some (.int (1 : Int32))) (fun h => by rw [Bd.returns] at h; cases h) hlk
    refine ⟨_, _, ?_, hrun, hended, _, _, rfl, ?_, ⟨_, rfl⟩, hW, hsame.mono (by decide) (by decide)⟩
    · rw [← hS0]; exact K14 _ (retN X12 hx (t := .boolean) Bd.returns (by simp) (hb hby d6_40) hr)
    · show Q6 Z o0 o1 ok x0 y0 h0 n0 _ T12.heap _
      rw [e12]
      have qr : (1 : Int32) = (w6_r1 x0 y0) := by unfold w6_r1; rw [if_pos hc32_0]
      exact ⟨congrArg (fun z => some (Value.int z)) qr, N0, rfl⟩
  · -- no
    have K15 : ∀ t, Steps p.tables e below (T12.setTop (mkF m 40 #[.val (.ref o0), .val (.ref o1), .val (.ref o1)] [(.int (0 : Int32))])) t → Steps p.tables e below S0 t := fun t k => K13 t (by
      refine XS.ifYes X12.here hx rfl (pc0 := 32) (pc' := 39) rfl (hb hby d6_32) rfl (XT.ll_ne_t hc32_0) (by decide) (by decide) ?_
      show Steps p.tables e below (T12.setTop (mkF m 39 #[.val (.ref o0), .val (.ref o1), .val (.ref o1)] [])) _
      refine XS.iconst X12.here hx rfl (hb hby d6_39) ?_
      show Steps p.tables e below (T12.setTop (mkF m 40 #[.val (.ref o0), .val (.ref o1), .val (.ref o1)] [(.int (0 : Int32))])) _
      exact k)
    obtain ⟨fs, hr, hrun, hended, hW, hsame⟩ := X12.leave (v := some (.int (0 : Int32))) (fun h => by rw [Bd.returns] at h; cases h) hlk
    refine ⟨_, _, ?_, hrun, hended, _, _, rfl, ?_, ⟨_, rfl⟩, hW, hsame.mono (by decide) (by decide)⟩
    · rw [← hS0]; exact K15 _ (retN X12 hx (t := .boolean) Bd.returns (by simp) (hb hby d6_40) hr)
    · show Q6 Z o0 o1 ok x0 y0 h0 n0 _ T12.heap _
      rw [e12]
      have qr : (0 : Int32) = (w6_r1 x0 y0) := by unfold w6_r1; rw [if_neg hc32_0]
      exact ⟨congrArg (fun z => some (Value.int z)) qr, N0, rfl⟩
theorem d7_0 : decode prog_82_method_7_code 0 = .ok (.aload_n 1, 1) := by decide +kernel
theorem d7_1 : decode prog_82_method_7_code 1 = .ok (.instanceof 21, 3) := by decide +kernel
theorem d7_4 : decode prog_82_method_7_code 4 = .ok (.ifCond .eq 35, 3) := by decide +kernel
theorem d7_7 : decode prog_82_method_7_code 7 = .ok (.aload_n 1, 1) := by decide +kernel
theorem d7_8 : decode prog_82_method_7_code 8 = .ok (.checkcast 21, 3) := by decide +kernel
theorem d7_11 : decode prog_82_method_7_code 11 = .ok (.astore_n 2, 1) := by decide +kernel
theorem d7_12 : decode prog_82_method_7_code 12 = .ok (.aload_n 0, 1) := by decide +kernel
theorem d7_13 : decode prog_82_method_7_code 13 = .ok (.getfield 33, 3) := by decide +kernel
theorem d7_16 : decode prog_82_method_7_code 16 = .ok (.aload_n 2, 1) := by decide +kernel
theorem d7_17 : decode prog_82_method_7_code 17 = .ok (.getfield 33, 3) := by decide +kernel
theorem d7_20 : decode prog_82_method_7_code 20 = .ok (.if_acmp .ne 19, 3) := by decide +kernel
theorem d7_39 : decode prog_82_method_7_code 39 = .ok (.iconst 0, 1) := by decide +kernel
theorem d7_40 : decode prog_82_method_7_code 40 = .ok (.ireturn, 1) := by decide +kernel
theorem pn7 : plainName "com/example/acervo/acervo/index/DocumentValue" = true := by first | (simp [plainName, overriddenIn]; done) | decide +kernel
theorem ef7 (m : MethodId) (o0 : Addr) (o1 : Addr) : entryFrame m #[(.ref o0), (.ref o1)] 3 = mkF m 0 #[.val (.ref o0), .val (.ref o1), .unset] [] := by first | (simp [entryFrame, mkF, argsToLocals, Value.category]; done) | rfl
def Q7 (Z : State) (o0 : Addr) (o1 : Addr) (ok : Addr) (ol : Addr) (x0 : Int64) (y0 : Int64) (h0 : Heap) (n0 : Nat) (v : Option Value) (h : Heap) (L : List Loc) : Prop := v = some (.int (0 : Int32)) ∧ Fr n0 L ∧ h = h0
set_option maxRecDepth 65536 in
set_option maxHeartbeats 40000000 in
theorem rm7 (l : Launch) (Z : State) (a0 : Array Value) (hw : ∀ d ∈ tables_1, d.before a0 Z = true) (ws : List Jvm.Cond) (o0 : Addr) (o1 : Addr) (ok : Addr) (ol : Addr) (x0 : Int64) (y0 : Int64) (h0 : Heap) (n0 : Nat) (Z0 : n0 ≤ h0.size) (E_o1 : Exa Z h0 o1 "com/example/acervo/acervo/index/DocumentValue") (F_o0_kind : Fld Z h0 o0 "com/example/acervo/acervo/index/DocumentValue" "kind" "Lcom/example/acervo/acervo/index/DocumentValue$Kind;" (.ref ok)) (F_o0_number : Fld Z h0 o0 "com/example/acervo/acervo/index/DocumentValue" "number" "J" (.long x0)) (F_o1_kind : Fld Z h0 o1 "com/example/acervo/acervo/index/DocumentValue" "kind" "Lcom/example/acervo/acervo/index/DocumentValue$Kind;" (.ref ol)) (F_o1_number : Fld Z h0 o1 "com/example/acervo/acervo/index/DocumentValue" "number" "J" (.long y0)) (ne_ok_ol : ok ≠ ol) :
    MetFree l (⟨"com/example/acervo/acervo/index/DocumentValue", "equals", "(Ljava/lang/Object;)Z"⟩ : MethodName) (head1 (Jvm.Cond.code (⟨"com/example/acervo/acervo/index/DocumentValue", "equals", "(Ljava/lang/Object;)Z"⟩ : MethodName) prog_82_method_7_code 3 (some .boolean) :: ws) ({ frames := 0, cells := 0, slots := 0, locals := 0 } : Room)) (fun a U => a = #[(.ref o0), (.ref o1)] ∧ Z.Warmed39 U.vm ∧ U.heap = h0) (fun _ _ _ _ _ => True) (fun _ U o U' => ∃ v L, o = .returned v ∧ Q7 Z o0 o1 ok ol x0 y0 h0 n0 v U'.heap L ∧ FrameEnd U o U' L ({ frames := 0, cells := 0, slots := 0, locals := 0 } : Room).cells ({ frames := 0, cells := 0, slots := 0, locals := 0 } : Room).slots) := by
  refine MetFree.of_bodySF (plainFor_of_name pn7) hisR ?_
  intro p e s m args below meth c s₁ Bd hml0 hP hK
  obtain ⟨rfl, hZ, hh⟩ := hP
  have hlk : meth.locks = false := BodyLoose.notSynchronized Bd
  have hx := Bd.exec
  have hby := Bd.bytes
  have hml : c.maxLocals = 3 := hml0
  have hown : s.vm.findClass "com/example/acervo/acervo/index/DocumentValue" = some m.cls := findClass_of_methodNamed Bd.named
  have hnm := (name_of_methodNamed Bd.named Bd.method).1
  have X0 : Stand p l e ({ frames := 0, cells := 0, slots := 0, locals := 0 } : Room) s m #[(.ref o0), (.ref o1)] below meth c s₁ [] 0 0 := Stand.of_body Bd
  have e0 : s₁.heap = h0 := by rw [← hh, Bd.state]; rfl
  have N0 := Fr.nil n0
  obtain ⟨S0, hS0⟩ : ∃ S0, S0 = s₁.setTop (entryFrame m #[(.ref o0), (.ref o1)] 3) := ⟨_, rfl⟩
  have pre0 : ∀ t, Steps p.tables e below (s₁.setTop (mkF m 0 #[.val (.ref o0), .val (.ref o1), .unset] [])) t → Steps p.tables e below S0 t := fun t k => by rw [hS0]; exact castTop (ef7 m o0 o1) k
  have K1 : ∀ t, Steps p.tables e below (s₁.setTop (mkF m 1 #[.val (.ref o0), .val (.ref o1), .unset] [(.ref o1)])) t → Steps p.tables e below S0 t := fun t k => pre0 t (by
    refine XS.aloadN X0.here hx rfl (hb hby d7_0) rfl rfl ?_
    show Steps p.tables e below (s₁.setTop (mkF m 1 #[.val (.ref o0), .val (.ref o1), .unset] [(.ref o1)])) _
    exact k)
  obtain ⟨T2, X2, e2, st2⟩ := instY X0 hx hZ hown (hw _ (List.mem_of_getElem? (i := 28) rfl)) e0 (Ins.self E_o1) (g := (mkF m 1 #[.val (.ref o0), .val (.ref o1), .unset] [(.ref o1)])) rfl rfl (hb hby d7_1)
  have K2 : ∀ t, Steps p.tables e below (T2.setTop (mkF m 4 #[.val (.ref o0), .val (.ref o1), .unset] [(.int (1 : Int32))])) t → Steps p.tables e below S0 t := fun t k => K1 t (st2 t k)
  have K3 : ∀ t, Steps p.tables e below (T2.setTop (mkF m 8 #[.val (.ref o0), .val (.ref o1), .unset] [(.ref o1)])) t → Steps p.tables e below S0 t := fun t k => K2 t (by
    refine XS.ifNo X2.here hx rfl (hb hby d7_4) rfl (XT.i0_eq_f (by decide)) ?_
    show Steps p.tables e below (T2.setTop (mkF m 7 #[.val (.ref o0), .val (.ref o1), .unset] [])) _
    refine XS.aloadN X2.here hx rfl (hb hby d7_7) rfl rfl ?_
    show Steps p.tables e below (T2.setTop (mkF m 8 #[.val (.ref o0), .val (.ref o1), .unset] [(.ref o1)])) _
    exact k)
  obtain ⟨T4, X4, e4, st4⟩ := castY X2 hx hZ hown (hw _ (List.mem_of_getElem? (i := 28) rfl)) e2 (Ins.self E_o1) (g := (mkF m 8 #[.val (.ref o0), .val (.ref o1), .unset] [(.ref o1)])) rfl rfl (hb hby d7_8)
  have K4 : ∀ t, Steps p.tables e below (T4.setTop (mkF m 11 #[.val (.ref o0), .val (.ref o1), .unset] [(.ref o1)])) t → Steps p.tables e below S0 t := fun t k => K3 t (st4 t k)
  have K5 : ∀ t, Steps p.tables e below (T4.setTop (mkF m 13 #[.val (.ref o0), .val (.ref o1), .val (.ref o1)] [(.ref o0)])) t → Steps p.tables e below S0 t := fun t k => K4 t (by
    refine XS.astoreN X4.here hx rfl (hb hby d7_11) rfl rfl (l' := #[.val (.ref o0), .val (.ref o1), .val (.ref o1)]) rfl ?_
    show Steps p.tables e below (T4.setTop (mkF m 12 #[.val (.ref o0), .val (.ref o1), .val (.ref o1)] [])) _
    refine XS.aloadN X4.here hx rfl (hb hby d7_12) rfl rfl ?_
    show Steps p.tables e below (T4.setTop (mkF m 13 #[.val (.ref o0), .val (.ref o1), .val (.ref o1)] [(.ref o0)])) _
    exact k)
  obtain ⟨T6, X6, e6, st6⟩ := getF X4 hx hZ hown (host := "") (Or.inl (hw _ (List.mem_of_getElem? (i := 19) rfl))) Via.refl e4 F_o0_kind (g := (mkF m 13 #[.val (.ref o0), .val (.ref o1), .val (.ref o1)] [(.ref o0)])) rfl rfl (hb hby d7_13)
  have K6 : ∀ t, Steps p.tables e below (T6.setTop (mkF m 16 #[.val (.ref o0), .val (.ref o1), .val (.ref o1)] [(.ref ok)])) t → Steps p.tables e below S0 t := fun t k => K5 t (st6 t k)
  have K7 : ∀ t, Steps p.tables e below (T6.setTop (mkF m 17 #[.val (.ref o0), .val (.ref o1), .val (.ref o1)] [(.ref o1), (.ref ok)])) t → Steps p.tables e below S0 t := fun t k => K6 t (by
    refine XS.aloadN X6.here hx rfl (hb hby d7_16) rfl rfl ?_
    show Steps p.tables e below (T6.setTop (mkF m 17 #[.val (.ref o0), .val (.ref o1), .val (.ref o1)] [(.ref o1), (.ref ok)])) _
    exact k)
  obtain ⟨T8, X8, e8, st8⟩ := getF X6 hx hZ hown (host := "") (Or.inl (hw _ (List.mem_of_getElem? (i := 19) rfl))) Via.refl e6 F_o1_kind (g := (mkF m 17 #[.val (.ref o0), .val (.ref o1), .val (.ref o1)] [(.ref o1), (.ref ok)])) rfl rfl (hb hby d7_17)
  have K8 : ∀ t, Steps p.tables e below (T8.setTop (mkF m 20 #[.val (.ref o0), .val (.ref o1), .val (.ref o1)] [(.ref ol), (.ref ok)])) t → Steps p.tables e below S0 t := fun t k => K7 t (st8 t k)
  have K9 : ∀ t, Steps p.tables e below (T8.setTop (mkF m 40 #[.val (.ref o0), .val (.ref o1), .val (.ref o1)] [(.int (0 : Int32))])) t → Steps p.tables e below S0 t := fun t k => K8 t (by
    refine Jvm.RoadKit.acmp (g := (mkF m 20 #[.val (.ref o0), .val (.ref o1), .val (.ref o1)] [(.ref ol), (.ref ok)])) X8 hx rfl rfl rfl (pc0 := 20) (pc' := 39) (same := false) rfl (hb hby d7_20) rfl (decide_eq_false fun q => ne_ok_ol (Value.ref.inj q)) (by decide) (by decide) ?_
    show Steps p.tables e below (T8.setTop (mkF m 39 #[.val (.ref o0), .val (.ref o1), .val (.ref o1)] [])) _
    refine XS.iconst X8.here hx rfl (hb hby d7_39) ?_
    show Steps p.tables e below (T8.setTop (mkF m 40 #[.val (.ref o0), .val (.ref o1), .val (.ref o1)] [(.int (0 : Int32))])) _
    exact k)
  obtain ⟨fs, hr, hrun, hended, hW, hsame⟩ := X8.leave (v := some (.int (0 : Int32))) (fun h => by rw [Bd.returns] at h; cases h) hlk
  refine ⟨_, _, ?_, hrun, hended, _, _, rfl, ?_, ⟨_, rfl⟩, hW, hsame.mono (by decide) (by decide)⟩
  · rw [← hS0]; exact K9 _ (retN X8 hx (t := .boolean) Bd.returns (by simp) (hb hby d7_40) hr)
  · show Q7 Z o0 o1 ok ol x0 y0 h0 n0 _ T8.heap _
    rw [e8]
    exact ⟨rfl, N0, rfl⟩
theorem d8_0 : decode prog_82_method_7_code 0 = .ok (.aload_n 1, 1) := by decide +kernel
theorem d8_1 : decode prog_82_method_7_code 1 = .ok (.instanceof 21, 3) := by decide +kernel
theorem d8_4 : decode prog_82_method_7_code 4 = .ok (.ifCond .eq 35, 3) := by decide +kernel
theorem d8_39 : decode prog_82_method_7_code 39 = .ok (.iconst 0, 1) := by decide +kernel
theorem d8_40 : decode prog_82_method_7_code 40 = .ok (.ireturn, 1) := by decide +kernel
theorem pn8 : plainName "com/example/acervo/acervo/index/DocumentValue" = true := by first | (simp [plainName, overriddenIn]; done) | decide +kernel
theorem ef8 (m : MethodId) (o0 : Addr) : entryFrame m #[(.ref o0), .null] 3 = mkF m 0 #[.val (.ref o0), .val .null, .unset] [] := by first | (simp [entryFrame, mkF, argsToLocals, Value.category]; done) | rfl
def Q8 (Z : State) (o0 : Addr) (h0 : Heap) (n0 : Nat) (v : Option Value) (h : Heap) (L : List Loc) : Prop := v = some (.int (0 : Int32)) ∧ Fr n0 L ∧ h = h0
set_option maxRecDepth 65536 in
set_option maxHeartbeats 40000000 in
theorem rm8 (l : Launch) (Z : State) (a0 : Array Value) (hw : ∀ d ∈ tables_1, d.before a0 Z = true) (ws : List Jvm.Cond) (o0 : Addr) (h0 : Heap) (n0 : Nat) (Z0 : n0 ≤ h0.size) :
    MetFree l (⟨"com/example/acervo/acervo/index/DocumentValue", "equals", "(Ljava/lang/Object;)Z"⟩ : MethodName) (head1 (Jvm.Cond.code (⟨"com/example/acervo/acervo/index/DocumentValue", "equals", "(Ljava/lang/Object;)Z"⟩ : MethodName) prog_82_method_7_code 3 (some .boolean) :: ws) ({ frames := 0, cells := 0, slots := 0, locals := 0 } : Room)) (fun a U => a = #[(.ref o0), .null] ∧ Z.Warmed39 U.vm ∧ U.heap = h0) (fun _ _ _ _ _ => True) (fun _ U o U' => ∃ v L, o = .returned v ∧ Q8 Z o0 h0 n0 v U'.heap L ∧ FrameEnd U o U' L ({ frames := 0, cells := 0, slots := 0, locals := 0 } : Room).cells ({ frames := 0, cells := 0, slots := 0, locals := 0 } : Room).slots) := by
  refine MetFree.of_bodySF (plainFor_of_name pn8) hisR ?_
  intro p e s m args below meth c s₁ Bd hml0 hP hK
  obtain ⟨rfl, hZ, hh⟩ := hP
  have hlk : meth.locks = false := BodyLoose.notSynchronized Bd
  have hx := Bd.exec
  have hby := Bd.bytes
  have hml : c.maxLocals = 3 := hml0
  have hown : s.vm.findClass "com/example/acervo/acervo/index/DocumentValue" = some m.cls := findClass_of_methodNamed Bd.named
  have hnm := (name_of_methodNamed Bd.named Bd.method).1
  have X0 : Stand p l e ({ frames := 0, cells := 0, slots := 0, locals := 0 } : Room) s m #[(.ref o0), .null] below meth c s₁ [] 0 0 := Stand.of_body Bd
  have e0 : s₁.heap = h0 := by rw [← hh, Bd.state]; rfl
  have N0 := Fr.nil n0
  obtain ⟨S0, hS0⟩ : ∃ S0, S0 = s₁.setTop (entryFrame m #[(.ref o0), .null] 3) := ⟨_, rfl⟩
  have pre0 : ∀ t, Steps p.tables e below (s₁.setTop (mkF m 0 #[.val (.ref o0), .val .null, .unset] [])) t → Steps p.tables e below S0 t := fun t k => by rw [hS0]; exact castTop (ef8 m o0) k
  have K1 : ∀ t, Steps p.tables e below (s₁.setTop (mkF m 1 #[.val (.ref o0), .val .null, .unset] [.null])) t → Steps p.tables e below S0 t := fun t k => pre0 t (by
    refine XS.aloadN X0.here hx rfl (hb hby d8_0) rfl rfl ?_
    show Steps p.tables e below (s₁.setTop (mkF m 1 #[.val (.ref o0), .val .null, .unset] [.null])) _
    exact k)
  have K2 : ∀ t, Steps p.tables e below (s₁.setTop (mkF m 4 #[.val (.ref o0), .val .null, .unset] [(.int (0 : Int32))])) t → Steps p.tables e below S0 t := fun t k => K1 t (by
    refine X0.instanceofNull hx (g := (mkF m 1 #[.val (.ref o0), .val .null, .unset] [.null])) rfl rfl (hb hby d8_1) _ ?_
    show Steps p.tables e below (s₁.setTop (mkF m 4 #[.val (.ref o0), .val .null, .unset] [(.int (0 : Int32))])) _
    exact k)
  have K3 : ∀ t, Steps p.tables e below (s₁.setTop (mkF m 40 #[.val (.ref o0), .val .null, .unset] [(.int (0 : Int32))])) t → Steps p.tables e below S0 t := fun t k => K2 t (by
    refine XS.ifYes X0.here hx rfl (pc0 := 4) (pc' := 39) rfl (hb hby d8_4) rfl (XT.i0_eq_t (by decide)) (by decide) (by decide) ?_
    show Steps p.tables e below (s₁.setTop (mkF m 39 #[.val (.ref o0), .val .null, .unset] [])) _
    refine XS.iconst X0.here hx rfl (hb hby d8_39) ?_
    show Steps p.tables e below (s₁.setTop (mkF m 40 #[.val (.ref o0), .val .null, .unset] [(.int (0 : Int32))])) _
    exact k)
  obtain ⟨fs, hr, hrun, hended, hW, hsame⟩ := X0.leave (v := some (.int (0 : Int32))) (fun h => by rw [Bd.returns] at h; cases h) hlk
  refine ⟨_, _, ?_, hrun, hended, _, _, rfl, ?_, ⟨_, rfl⟩, hW, hsame.mono (by decide) (by decide)⟩
  · rw [← hS0]; exact K3 _ (retN X0 hx (t := .boolean) Bd.returns (by simp) (hb hby d8_40) hr)
  · show Q8 Z o0 h0 n0 _ s₁.heap _
    rw [e0]
    exact ⟨rfl, N0, rfl⟩
theorem d9_0 : decode prog_82_method_7_code 0 = .ok (.aload_n 1, 1) := by decide +kernel
theorem d9_1 : decode prog_82_method_7_code 1 = .ok (.instanceof 21, 3) := by decide +kernel
theorem d9_4 : decode prog_82_method_7_code 4 = .ok (.ifCond .eq 35, 3) := by decide +kernel
theorem d9_39 : decode prog_82_method_7_code 39 = .ok (.iconst 0, 1) := by decide +kernel
theorem d9_40 : decode prog_82_method_7_code 40 = .ok (.ireturn, 1) := by decide +kernel
theorem pn9 : plainName "com/example/acervo/acervo/index/DocumentValue" = true := by first | (simp [plainName, overriddenIn]; done) | decide +kernel
theorem ef9 (m : MethodId) (o0 : Addr) (o1 : Addr) : entryFrame m #[(.ref o0), (.ref o1)] 3 = mkF m 0 #[.val (.ref o0), .val (.ref o1), .unset] [] := by first | (simp [entryFrame, mkF, argsToLocals, Value.category]; done) | rfl
def Q9 (Z : State) (o0 : Addr) (o1 : Addr) (h0 : Heap) (n0 : Nat) (v : Option Value) (h : Heap) (L : List Loc) : Prop := v = some (.int (0 : Int32)) ∧ Fr n0 L ∧ h = h0
set_option maxRecDepth 65536 in
set_option maxHeartbeats 40000000 in
theorem rm9 (l : Launch) (Z : State) (a0 : Array Value) (hw : ∀ d ∈ tables_1, d.before a0 Z = true) (ws : List Jvm.Cond) (o0 : Addr) (o1 : Addr) (h0 : Heap) (n0 : Nat) (Z0 : n0 ≤ h0.size) (E_o1 : Exa Z h0 o1 "java/lang/Long") :
    MetFree l (⟨"com/example/acervo/acervo/index/DocumentValue", "equals", "(Ljava/lang/Object;)Z"⟩ : MethodName) (head1 (Jvm.Cond.code (⟨"com/example/acervo/acervo/index/DocumentValue", "equals", "(Ljava/lang/Object;)Z"⟩ : MethodName) prog_82_method_7_code 3 (some .boolean) :: ws) ({ frames := 0, cells := 0, slots := 0, locals := 0 } : Room)) (fun a U => a = #[(.ref o0), (.ref o1)] ∧ Z.Warmed39 U.vm ∧ U.heap = h0) (fun _ _ _ _ _ => True) (fun _ U o U' => ∃ v L, o = .returned v ∧ Q9 Z o0 o1 h0 n0 v U'.heap L ∧ FrameEnd U o U' L ({ frames := 0, cells := 0, slots := 0, locals := 0 } : Room).cells ({ frames := 0, cells := 0, slots := 0, locals := 0 } : Room).slots) := by
  refine MetFree.of_bodySF (plainFor_of_name pn9) hisR ?_
  intro p e s m args below meth c s₁ Bd hml0 hP hK
  obtain ⟨rfl, hZ, hh⟩ := hP
  have hlk : meth.locks = false := BodyLoose.notSynchronized Bd
  have hx := Bd.exec
  have hby := Bd.bytes
  have hml : c.maxLocals = 3 := hml0
  have hown : s.vm.findClass "com/example/acervo/acervo/index/DocumentValue" = some m.cls := findClass_of_methodNamed Bd.named
  have hnm := (name_of_methodNamed Bd.named Bd.method).1
  have X0 : Stand p l e ({ frames := 0, cells := 0, slots := 0, locals := 0 } : Room) s m #[(.ref o0), (.ref o1)] below meth c s₁ [] 0 0 := Stand.of_body Bd
  have e0 : s₁.heap = h0 := by rw [← hh, Bd.state]; rfl
  have N0 := Fr.nil n0
  obtain ⟨S0, hS0⟩ : ∃ S0, S0 = s₁.setTop (entryFrame m #[(.ref o0), (.ref o1)] 3) := ⟨_, rfl⟩
  have pre0 : ∀ t, Steps p.tables e below (s₁.setTop (mkF m 0 #[.val (.ref o0), .val (.ref o1), .unset] [])) t → Steps p.tables e below S0 t := fun t k => by rw [hS0]; exact castTop (ef9 m o0 o1) k
  have K1 : ∀ t, Steps p.tables e below (s₁.setTop (mkF m 1 #[.val (.ref o0), .val (.ref o1), .unset] [(.ref o1)])) t → Steps p.tables e below S0 t := fun t k => pre0 t (by
    refine XS.aloadN X0.here hx rfl (hb hby d9_0) rfl rfl ?_
    show Steps p.tables e below (s₁.setTop (mkF m 1 #[.val (.ref o0), .val (.ref o1), .unset] [(.ref o1)])) _
    exact k)
  obtain ⟨T2, X2, e2, st2⟩ := instNo X0 hx hZ hown (hw _ (List.mem_of_getElem? (i := 28) rfl)) e0 E_o1 (own_nsno (hw _ (List.mem_of_getElem? (i := 63) rfl)) (hw _ (List.mem_of_getElem? (i := 4) rfl)) (NS.step (hw _ (List.mem_of_getElem? (i := 63) rfl)) (NS.step (hw _ (List.mem_of_getElem? (i := 64) rfl)) (own_nsroot (hw _ (List.mem_of_getElem? (i := 65) rfl)) (hw _ (List.mem_of_getElem? (i := 4) rfl)) (by decide)) (by decide)) (by decide)) (by decide)) (g := (mkF m 1 #[.val (.ref o0), .val (.ref o1), .unset] [(.ref o1)])) rfl rfl (hb hby d9_1)
  have K2 : ∀ t, Steps p.tables e below (T2.setTop (mkF m 4 #[.val (.ref o0), .val (.ref o1), .unset] [(.int (0 : Int32))])) t → Steps p.tables e below S0 t := fun t k => K1 t (st2 t k)
  have K3 : ∀ t, Steps p.tables e below (T2.setTop (mkF m 40 #[.val (.ref o0), .val (.ref o1), .unset] [(.int (0 : Int32))])) t → Steps p.tables e below S0 t := fun t k => K2 t (by
    refine XS.ifYes X2.here hx rfl (pc0 := 4) (pc' := 39) rfl (hb hby d9_4) rfl (XT.i0_eq_t (by decide)) (by decide) (by decide) ?_
    show Steps p.tables e below (T2.setTop (mkF m 39 #[.val (.ref o0), .val (.ref o1), .unset] [])) _
    refine XS.iconst X2.here hx rfl (hb hby d9_39) ?_
    show Steps p.tables e below (T2.setTop (mkF m 40 #[.val (.ref o0), .val (.ref o1), .unset] [(.int (0 : Int32))])) _
    exact k)
  obtain ⟨fs, hr, hrun, hended, hW, hsame⟩ := X2.leave (v := some (.int (0 : Int32))) (fun h => by rw [Bd.returns] at h; cases h) hlk
  refine ⟨_, _, ?_, hrun, hended, _, _, rfl, ?_, ⟨_, rfl⟩, hW, hsame.mono (by decide) (by decide)⟩
  · rw [← hS0]; exact K3 _ (retN X2 hx (t := .boolean) Bd.returns (by simp) (hb hby d9_40) hr)
  · show Q9 Z o0 o1 h0 n0 _ T2.heap _
    rw [e2]
    exact ⟨rfl, N0, rfl⟩
theorem dLn_0 : decode jdk_18_method_1_code 0 = .ok (.aload_n 0, 1) := by decide +kernel
theorem dLn_1 : decode jdk_18_method_1_code 1 = .ok (.invokespecial 1, 3) := by decide +kernel
theorem dLn_4 : decode jdk_18_method_1_code 4 = .ok (.return_, 1) := by decide +kernel
theorem pnLn : plainName "java/lang/Number" = true := by first | (simp [plainName, overriddenIn]; done) | decide +kernel
theorem efLn (m : MethodId) (o0 : Addr) : entryFrame m #[(.ref o0)] 1 = mkF m 0 #[.val (.ref o0)] [] := by first | (simp [entryFrame, mkF, argsToLocals, Value.category]; done) | rfl
def QLn (Z : State) (o0 : Addr) (h0 : Heap) (n0 : Nat) (v : Option Value) (h : Heap) (L : List Loc) : Prop := v = none ∧ Fr n0 L ∧ h = h0
set_option maxRecDepth 65536 in
set_option maxHeartbeats 40000000 in
theorem rmLn (l : Launch) (Z : State) (a0 : Array Value) (hw : ∀ d ∈ tables_1, d.before a0 Z = true) (ws : List Jvm.Cond) (o0 : Addr) (h0 : Heap) (n0 : Nat) (Z0 : n0 ≤ h0.size) :
    MetFree l (⟨"java/lang/Number", "<init>", "()V"⟩ : MethodName) (head1 (Jvm.Cond.code (⟨"java/lang/Number", "<init>", "()V"⟩ : MethodName) jdk_18_method_1_code 1 none :: ws) ({ frames := 1, cells := 0, slots := 0, locals := 12 } : Room)) (fun a U => a = #[(.ref o0)] ∧ Z.Warmed39 U.vm ∧ U.heap = h0) (fun _ _ _ _ _ => True) (fun _ U o U' => ∃ v L, o = .returned v ∧ QLn Z o0 h0 n0 v U'.heap L ∧ FrameEnd U o U' L ({ frames := 1, cells := 0, slots := 0, locals := 12 } : Room).cells ({ frames := 1, cells := 0, slots := 0, locals := 12 } : Room).slots) := by
  refine MetFree.of_bodySF (plainFor_of_name pnLn) hisR ?_
  intro p e s m args below meth c s₁ Bd hml0 hP hK
  obtain ⟨rfl, hZ, hh⟩ := hP
  have hlk : meth.locks = false := BodyLoose.notSynchronized Bd
  have hx := Bd.exec
  have hby := Bd.bytes
  have hml : c.maxLocals = 1 := hml0
  have hown : s.vm.findClass "java/lang/Number" = some m.cls := findClass_of_methodNamed Bd.named
  have hnm := (name_of_methodNamed Bd.named Bd.method).1
  have X0 : Stand p l e ({ frames := 1, cells := 0, slots := 0, locals := 12 } : Room) s m #[(.ref o0)] below meth c s₁ [] 0 0 := Stand.of_body Bd
  have e0 : s₁.heap = h0 := by rw [← hh, Bd.state]; rfl
  have N0 := Fr.nil n0
  obtain ⟨S0, hS0⟩ : ∃ S0, S0 = s₁.setTop (entryFrame m #[(.ref o0)] 1) := ⟨_, rfl⟩
  have pre0 : ∀ t, Steps p.tables e below (s₁.setTop (mkF m 0 #[.val (.ref o0)] [])) t → Steps p.tables e below S0 t := fun t k => by rw [hS0]; exact castTop (efLn m o0) k
  have K1 : ∀ t, Steps p.tables e below (s₁.setTop (mkF m 1 #[.val (.ref o0)] [(.ref o0)])) t → Steps p.tables e below S0 t := fun t k => pre0 t (by
    refine XS.aloadN X0.here hx rfl (hb hby dLn_0) rfl rfl ?_
    show Steps p.tables e below (s₁.setTop (mkF m 1 #[.val (.ref o0)] [(.ref o0)])) _
    exact k)
  have K_2 : ∀ t, Steps p.tables e below (s₁.setTop (mkF m 1 #[.val (.ref o0)] [(.ref o0)])) t → Steps p.tables e below S0 t := K1
  obtain ⟨T3, X3, e3, st3⟩ := initO X0 hx hZ hown (hw _ (List.mem_of_getElem? (i := 60) rfl)) (hw _ (List.mem_of_getElem? (i := 15) rfl)) (hw _ (List.mem_of_getElem? (i := 16) rfl)) e0 (g := (mkF m 1 #[.val (.ref o0)] [(.ref o0)])) rfl (by rw [hml]; rfl) rfl (hb hby dLn_1) (by decide) (W := 0) (by show 2 * 0 + _ ≤ _; exact Nat.le_of_eq rfl) (by decide)
  have K3 : ∀ t, Steps p.tables e below (T3.setTop (mkF m 4 #[.val (.ref o0)] [])) t → Steps p.tables e below S0 t := fun t k => K_2 t (st3 t k)
  obtain ⟨fs, hr, hrun, hended, hW, hsame⟩ := X3.leave (v := none) (fun _ => rfl) hlk
  refine ⟨_, _, ?_, hrun, hended, _, _, rfl, ?_, ⟨_, rfl⟩, hW, hsame.mono (by decide) (by decide)⟩
  · rw [← hS0]; exact K3 _ (X3.returnOut hx Bd.returns (hb hby dLn_4) hr)
  · show QLn Z o0 h0 n0 _ T3.heap _
    rw [e3]
    exact ⟨rfl, N0, rfl⟩
theorem dLi_0 : decode jdk_35_method_26_code 0 = .ok (.aload_n 0, 1) := by decide +kernel
theorem dLi_1 : decode jdk_35_method_26_code 1 = .ok (.invokespecial 270, 3) := by decide +kernel
theorem dLi_4 : decode jdk_35_method_26_code 4 = .ok (.aload_n 0, 1) := by decide +kernel
theorem dLi_5 : decode jdk_35_method_26_code 5 = .ok (.lload_n 1, 1) := by decide +kernel
theorem dLi_6 : decode jdk_35_method_26_code 6 = .ok (.putfield 273, 3) := by decide +kernel
theorem dLi_9 : decode jdk_35_method_26_code 9 = .ok (.return_, 1) := by decide +kernel
theorem pnLi : plainName "java/lang/Long" = true := by first | (simp [plainName, overriddenIn]; done) | decide +kernel
theorem pdLi_0 : parseMethodDescriptor "()V" = some ⟨[], none⟩ := by decide +kernel
theorem efLi (m : MethodId) (o0 : Addr) (q1 : Int64) : entryFrame m #[(.ref o0), (.long q1)] 3 = mkF m 0 #[.val (.ref o0), .val (.long q1), .second] [] := by first | (simp [entryFrame, mkF, argsToLocals, Value.category]; done) | rfl
def QLi (Z : State) (o0 : Addr) (q1 : Int64) (h0 : Heap) (n0 : Nat) (v : Option Value) (h : Heap) (L : List Loc) : Prop := v = none ∧ Fr n0 L ∧ Keep h0 h [o0] ∧ Exa Z h o0 "java/lang/Long" ∧ Fld Z h o0 "java/lang/Long" "value" "J" (.long q1)
set_option maxRecDepth 65536 in
set_option maxHeartbeats 40000000 in
theorem rmLi (l : Launch) (Z : State) (a0 : Array Value) (hw : ∀ d ∈ tables_1, d.before a0 Z = true) (ws : List Jvm.Cond) (o0 : Addr) (q1 : Int64) (h0 : Heap) (n0 : Nat) (Z0 : n0 ≤ h0.size) (E_o0 : Exa Z h0 o0 "java/lang/Long") (F_o0_value : Fld Z h0 o0 "java/lang/Long" "value" "J" (.long (0 : Int64))) (g_o0 : n0 ≤ o0) :
    MetFree l (⟨"java/lang/Long", "<init>", "(J)V"⟩ : MethodName) (head1 (Jvm.Cond.code (⟨"java/lang/Long", "<init>", "(J)V"⟩ : MethodName) jdk_35_method_26_code 3 none :: ws) ({ frames := 2, cells := 0, slots := 0, locals := 24 } : Room)) (fun a U => a = #[(.ref o0), (.long q1)] ∧ Z.Warmed39 U.vm ∧ U.heap = h0) (fun _ _ _ _ _ => True) (fun _ U o U' => ∃ v L, o = .returned v ∧ QLi Z o0 q1 h0 n0 v U'.heap L ∧ FrameEnd U o U' L ({ frames := 2, cells := 0, slots := 0, locals := 24 } : Room).cells ({ frames := 2, cells := 0, slots := 0, locals := 24 } : Room).slots) := by
  refine MetFree.of_bodySF (plainFor_of_name pnLi) hisR ?_
  intro p e s m args below meth c s₁ Bd hml0 hP hK
  obtain ⟨rfl, hZ, hh⟩ := hP
  have hlk : meth.locks = false := BodyLoose.notSynchronized Bd
  have hx := Bd.exec
  have hby := Bd.bytes
  have hml : c.maxLocals = 3 := hml0
  have hown : s.vm.findClass "java/lang/Long" = some m.cls := findClass_of_methodNamed Bd.named
  have hnm := (name_of_methodNamed Bd.named Bd.method).1
  have X0 : Stand p l e ({ frames := 2, cells := 0, slots := 0, locals := 24 } : Room) s m #[(.ref o0), (.long q1)] below meth c s₁ [] 0 0 := Stand.of_body Bd
  have e0 : s₁.heap = h0 := by rw [← hh, Bd.state]; rfl
  have N0 := Fr.nil n0
  obtain ⟨S0, hS0⟩ : ∃ S0, S0 = s₁.setTop (entryFrame m #[(.ref o0), (.long q1)] 3) := ⟨_, rfl⟩
  have pre0 : ∀ t, Steps p.tables e below (s₁.setTop (mkF m 0 #[.val (.ref o0), .val (.long q1), .second] [])) t → Steps p.tables e below S0 t := fun t k => by rw [hS0]; exact castTop (efLi m o0 q1) k
  have K1 : ∀ t, Steps p.tables e below (s₁.setTop (mkF m 1 #[.val (.ref o0), .val (.long q1), .second] [(.ref o0)])) t → Steps p.tables e below S0 t := fun t k => pre0 t (by
    refine XS.aloadN X0.here hx rfl (hb hby dLi_0) rfl rfl ?_
    show Steps p.tables e below (s₁.setTop (mkF m 1 #[.val (.ref o0), .val (.long q1), .second] [(.ref o0)])) _
    exact k)
  have K_2 : ∀ t, Steps p.tables e below (s₁.setTop (mkF m 1 #[.val (.ref o0), .val (.long q1), .second] [(.ref o0)])) t → Steps p.tables e below S0 t := K1
  obtain ⟨_, _, ⟨T3, L3, k3, n3⟩, -, X3, ⟨Lc3, hQ3, l3, y3, z3⟩, st3⟩ := X0.specialBack hx (y := (⟨"java/lang/Number", "<init>", "()V"⟩ : MethodName)) rfl hown (mvT hZ (hw _ (List.mem_of_getElem? (i := 54) rfl))) (mvT hZ (hw _ (List.mem_of_getElem? (i := 55) rfl))) (mvT hZ (hw _ (List.mem_of_getElem? (i := 59) rfl))) (by decide) (backOf (W := 0) (rmLn l Z a0 hw [] o0 h0 n0 Z0 ) hZ (hw _ (List.mem_of_getElem? (i := 59) rfl)) (hw _ (List.mem_of_getElem? (i := 58) rfl)) (by decide) (by decide)) (g := (mkF m 1 #[.val (.ref o0), .val (.long q1), .second] [(.ref o0)])) rfl (by rw [hml]; rfl) (Steps.refl _) (a := o0) (argsL := []) (rest := []) (lenOf pdLi_0 rfl) rfl (by show 2 * 0 + _ ≤ _; exact Nat.le_of_eq rfl) (hb hby dLi_1) (fun _ _ => ⟨rfl, e0, (by decide : 0 + 0 ≤ 0), (by decide : 0 + 0 ≤ 0)⟩)
  dsimp only [Pt.U, Pt.locs, Pt.cells, Pt.slots] at X3 l3 y3 z3 st3 hQ3
  subst l3 y3 z3
  obtain ⟨rfl, N3q, e3⟩ := hQ3
  have N3 := Fr.app N0 N3q
  have K3 : ∀ t, Steps p.tables e below (T3.setTop (mkF m 4 #[.val (.ref o0), .val (.long q1), .second] [])) t → Steps p.tables e below S0 t := fun t k => K_2 t (st3.trans k)
  have K4 : ∀ t, Steps p.tables e below (T3.setTop (mkF m 6 #[.val (.ref o0), .val (.long q1), .second] [(.long q1), (.ref o0)])) t → Steps p.tables e below S0 t := fun t k => K3 t (by
    refine XS.aloadN X3.here hx rfl (hb hby dLi_4) rfl rfl ?_
    show Steps p.tables e below (T3.setTop (mkF m 5 #[.val (.ref o0), .val (.long q1), .second] [(.ref o0)])) _
    refine XS.lloadN X3.here hx rfl (hb hby dLi_5) rfl ?_
    show Steps p.tables e below (T3.setTop (mkF m 6 #[.val (.ref o0), .val (.long q1), .second] [(.long q1), (.ref o0)])) _
    exact k)
  obtain ⟨T5, h5, X5, e5, W5, st5⟩ := putF X3 hx hZ hown (host := "") (Or.inl (hw _ (List.mem_of_getElem? (i := 61) rfl))) Via.refl e3 F_o0_value E_o0 (Or.inr ⟨(hw _ (List.mem_of_getElem? (i := 62) rfl)), rfl, hnm⟩) (hw _ (List.mem_of_getElem? (i := 49) rfl)) (ty := .long) (by decide) rfl rfl (g := (mkF m 6 #[.val (.ref o0), .val (.long q1), .second] [(.long q1), (.ref o0)])) rfl rfl (hb hby dLi_6)
  have F_o0_value__5 := F_o0_value.same W5
  have E_o0__5 := E_o0.wr W5
  have N5 := Fr.snoc X5 N3 g_o0
  have Zs5 : n0 ≤ h5.size := Nat.le_trans Z0 (Nat.le_of_eq W5.size.symm)
  have Kc5 : Keep h0 h5 [o0] := (Keep.refl h0 [o0]).wr W5 (Or.inl (List.mem_of_getElem? (i := 0) rfl))
  have K5 : ∀ t, Steps p.tables e below (T5.setTop (mkF m 9 #[.val (.ref o0), .val (.long q1), .second] [])) t → Steps p.tables e below S0 t := fun t k => K4 t (st5 t k)
  obtain ⟨fs, hr, hrun, hended, hW, hsame⟩ := X5.leave (v := none) (fun _ => rfl) hlk
  refine ⟨_, _, ?_, hrun, hended, _, _, rfl, ?_, ⟨_, rfl⟩, hW, hsame.mono (by decide) (by decide)⟩
  · rw [← hS0]; exact K5 _ (X5.returnOut hx Bd.returns (hb hby dLi_9) hr)
  · show QLi Z o0 q1 h0 n0 _ T5.heap _
    rw [e5]
    exact ⟨rfl, N5, Kc5, E_o0__5, F_o0_value__5⟩
theorem dLlo_0 : decode jdk_35_method_24_code 0 = .ok (.sipush 128, 3) := by decide +kernel
theorem dLlo_3 : decode jdk_35_method_24_code 3 = .ok (.istore_n 2, 1) := by decide +kernel
theorem dLlo_4 : decode jdk_35_method_24_code 4 = .ok (.lload_n 0, 1) := by decide +kernel
theorem dLlo_5 : decode jdk_35_method_24_code 5 = .ok (.ldc2_w 230, 3) := by decide +kernel
theorem dLlo_8 : decode jdk_35_method_24_code 8 = .ok (.lcmp, 1) := by decide +kernel
theorem dLlo_9 : decode jdk_35_method_24_code 9 = .ok (.ifCond .lt 22, 3) := by decide +kernel
theorem dLlo_31 : decode jdk_35_method_24_code 31 = .ok (.new 1, 3) := by decide +kernel
theorem dLlo_34 : decode jdk_35_method_24_code 34 = .ok (.dup, 1) := by decide +kernel
theorem dLlo_35 : decode jdk_35_method_24_code 35 = .ok (.lload_n 0, 1) := by decide +kernel
theorem dLlo_36 : decode jdk_35_method_24_code 36 = .ok (.invokespecial 240, 3) := by decide +kernel
theorem dLlo_39 : decode jdk_35_method_24_code 39 = .ok (.areturn, 1) := by decide +kernel
theorem pnLlo : plainName "java/lang/Long" = true := by first | (simp [plainName, overriddenIn]; done) | decide +kernel
theorem pdLlo_0 : parseMethodDescriptor "(J)V" = some ⟨[.long], none⟩ := by decide +kernel
theorem efLlo (m : MethodId) (q0 : Int64) : entryFrame m #[(.long q0)] 3 = mkF m 0 #[.val (.long q0), .second, .unset] [] := by first | (simp [entryFrame, mkF, argsToLocals, Value.category]; done) | rfl
def QLlo (Z : State) (q0 : Int64) (h0 : Heap) (n0 : Nat) (v : Option Value) (h : Heap) (L : List Loc) : Prop := ∃ (b4 : Addr), v = some (.ref b4) ∧ Fr n0 L ∧ Keep h0 h [] ∧ h0.size ≤ b4 ∧ Exa Z h b4 "java/lang/Long" ∧ Fld Z h b4 "java/lang/Long" "value" "J" (.long q0)
set_option maxRecDepth 65536 in
set_option maxHeartbeats 40000000 in
theorem rmLlo (l : Launch) (Z : State) (a0 : Array Value) (hw : ∀ d ∈ tables_1, d.before a0 Z = true) (ws : List Jvm.Cond) (q0 : Int64) (h0 : Heap) (n0 : Nat) (Z0 : n0 ≤ h0.size) (hlo : q0 < (-128 : Int64)) :
    MetFree l (⟨"java/lang/Long", "valueOf", "(J)Ljava/lang/Long;"⟩ : MethodName) (head1 (Jvm.Cond.code (⟨"java/lang/Long", "valueOf", "(J)Ljava/lang/Long;"⟩ : MethodName) jdk_35_method_24_code 3 (some (.object "java/lang/Long")) :: ws) ({ frames := 3, cells := 1, slots := 1, locals := 39 } : Room)) (fun a U => a = #[(.long q0)] ∧ Z.Warmed39 U.vm ∧ U.heap = h0) (fun _ _ _ _ _ => True) (fun _ U o U' => ∃ v L, o = .returned v ∧ QLlo Z q0 h0 n0 v U'.heap L ∧ FrameEnd U o U' L ({ frames := 3, cells := 1, slots := 1, locals := 39 } : Room).cells ({ frames := 3, cells := 1, slots := 1, locals := 39 } : Room).slots) := by
  refine MetFree.of_bodySF (plainFor_of_name pnLlo) hisR ?_
  intro p e s m args below meth c s₁ Bd hml0 hP hK
  obtain ⟨rfl, hZ, hh⟩ := hP
  have hlk : meth.locks = false := BodyLoose.notSynchronized Bd
  have hx := Bd.exec
  have hby := Bd.bytes
  have hml : c.maxLocals = 3 := hml0
  have hown : s.vm.findClass "java/lang/Long" = some m.cls := findClass_of_methodNamed Bd.named
  have hnm := (name_of_methodNamed Bd.named Bd.method).1
  have X0 : Stand p l e ({ frames := 3, cells := 1, slots := 1, locals := 39 } : Room) s m #[(.long q0)] below meth c s₁ [] 0 0 := Stand.of_body Bd
  have e0 : s₁.heap = h0 := by rw [← hh, Bd.state]; rfl
  have N0 := Fr.nil n0
  obtain ⟨S0, hS0⟩ : ∃ S0, S0 = s₁.setTop (entryFrame m #[(.long q0)] 3) := ⟨_, rfl⟩
  have pre0 : ∀ t, Steps p.tables e below (s₁.setTop (mkF m 0 #[.val (.long q0), .second, .unset] [])) t → Steps p.tables e below S0 t := fun t k => by rw [hS0]; exact castTop (efLlo m q0) k
  have K1 : ∀ t, Steps p.tables e below (s₁.setTop (mkF m 9 #[.val (.long q0), .second, .val (.int (128 : Int32))] [(.int (lcmpW q0 (-128 : Int64)))])) t → Steps p.tables e below S0 t := fun t k => pre0 t (by
    refine XS.sipush X0.here hx rfl (hb hby dLlo_0) ?_
    show Steps p.tables e below (s₁.setTop (mkF m 3 #[.val (.long q0), .second, .unset] [(.int (128 : Int32))])) _
    refine XS.istoreN X0.here hx rfl (hb hby dLlo_3) rfl (l' := #[.val (.long q0), .second, .val (.int (128 : Int32))]) rfl ?_
    show Steps p.tables e below (s₁.setTop (mkF m 4 #[.val (.long q0), .second, .val (.int (128 : Int32))] [])) _
    refine XS.lloadN X0.here hx rfl (hb hby dLlo_4) rfl ?_
    show Steps p.tables e below (s₁.setTop (mkF m 5 #[.val (.long q0), .second, .val (.int (128 : Int32))] [(.long q0)])) _
    refine X0.ldc2Long hx hown (mvT hZ (hw _ (List.mem_of_getElem? (i := 47) rfl))) (g := (mkF m 5 #[.val (.long q0), .second, .val (.int (128 : Int32))] [(.long q0)])) rfl (hb hby dLlo_5) _ ?_
    show Steps p.tables e below (s₁.setTop (mkF m 8 #[.val (.long q0), .second, .val (.int (128 : Int32))] [(.long (-128 : Int64)), (.long q0)])) _
    refine XS.lcmp X0.here hx rfl (hb hby dLlo_8) rfl ?_
    show Steps p.tables e below (s₁.setTop (mkF m 9 #[.val (.long q0), .second, .val (.int (128 : Int32))] [(.int (lcmpW q0 (-128 : Int64)))])) _
    exact k)
  have hf2 : q0 < (-128 : Int64) := hlo
  have K3 : ∀ t, Steps p.tables e below (s₁.setTop (mkF m 31 #[.val (.long q0), .second, .val (.int (128 : Int32))] [])) t → Steps p.tables e below S0 t := fun t k => K1 t (by
    refine XS.ifYes X0.here hx rfl (pc0 := 9) (pc' := 31) rfl (hb hby dLlo_9) rfl (XT.ll_lt_t hf2) (by decide) (by decide) ?_
    show Steps p.tables e below (s₁.setTop (mkF m 31 #[.val (.long q0), .second, .val (.int (128 : Int32))] [])) _
    exact k)
  obtain ⟨T4, h4, X4, e4, E4, A4, D4, -, st4⟩ := newO X0 hx hZ hown (hw _ (List.mem_of_getElem? (i := 48) rfl)) (hw _ (List.mem_of_getElem? (i := 49) rfl)) (hw _ (List.mem_of_getElem? (i := 45) rfl)) e0 (g := (mkF m 31 #[.val (.long q0), .second, .val (.int (128 : Int32))] [])) rfl (hb hby dLlo_31) (by decide) (by decide)
  obtain ⟨b4, g4⟩ : ∃ z, z = h0.size := ⟨_, rfl⟩
  rw [← g4] at A4 D4 st4
  have g_b4 : n0 ≤ b4 := Nat.le_trans Z0 (Nat.le_of_eq g4.symm)
  have Zs4 : n0 ≤ h4.size := Nat.le_trans Z0 E4.1
  have sz_b4 : h0.size ≤ b4 := Nat.le_trans (Keep.refl h0 []).1 (Nat.le_of_eq g4.symm)
  have Kc4 : Keep h0 h4 [] := (Keep.refl h0 []).ext E4
  have F_b4_value : Fld Z h4 b4 "java/lang/Long" "value" "J" (.long (0 : Int64)) := D4 (Or.inr (hw _ (List.mem_of_getElem? (i := 62) rfl))) (ty := .long) (by decide)
  have K4 : ∀ t, Steps p.tables e below (T4.setTop (mkF m 34 #[.val (.long q0), .second, .val (.int (128 : Int32))] [(.ref b4)])) t → Steps p.tables e below S0 t := fun t k => K3 t (st4 t k)
  have K5 : ∀ t, Steps p.tables e below (T4.setTop (mkF m 36 #[.val (.long q0), .second, .val (.int (128 : Int32))] [(.long q0), (.ref b4), (.ref b4)])) t → Steps p.tables e below S0 t := fun t k => K4 t (by
    refine XS.dup X4.here hx rfl (hb hby dLlo_34) rfl rfl ?_
    show Steps p.tables e below (T4.setTop (mkF m 35 #[.val (.long q0), .second, .val (.int (128 : Int32))] [(.ref b4), (.ref b4)])) _
    refine XS.lloadN X4.here hx rfl (hb hby dLlo_35) rfl ?_
    show Steps p.tables e below (T4.setTop (mkF m 36 #[.val (.long q0), .second, .val (.int (128 : Int32))] [(.long q0), (.ref b4), (.ref b4)])) _
    exact k)
  have K_6 : ∀ t, Steps p.tables e below (T4.setTop (mkF m 36 #[.val (.long q0), .second, .val (.int (128 : Int32))] [(.long q0), (.ref b4), (.ref b4)])) t → Steps p.tables e below S0 t := K5
  obtain ⟨_, _, ⟨T7, L7, k7, n7⟩, -, X7, ⟨Lc7, hQ7, l7, y7, z7⟩, st7⟩ := X4.specialBack hx (y := (⟨"java/lang/Long", "<init>", "(J)V"⟩ : MethodName)) rfl hown (mvT hZ (hw _ (List.mem_of_getElem? (i := 50) rfl))) (mvT hZ (hw _ (List.mem_of_getElem? (i := 51) rfl))) (mvT hZ (hw _ (List.mem_of_getElem? (i := 53) rfl))) (by decide) (backOf (W := 1) (rmLi l Z a0 hw [] b4 q0 h4 n0 Zs4 A4 F_b4_value g_b4) hZ (hw _ (List.mem_of_getElem? (i := 53) rfl)) (hw _ (List.mem_of_getElem? (i := 45) rfl)) (by decide) (by decide)) (g := (mkF m 36 #[.val (.long q0), .second, .val (.int (128 : Int32))] [(.long q0), (.ref b4), (.ref b4)])) rfl (by rw [hml]; rfl) (Steps.refl _) (a := b4) (argsL := [(.long q0)]) (rest := [(.ref b4)]) (lenOf pdLlo_0 rfl) rfl (by show 2 * 0 + _ ≤ _; exact Nat.le_of_eq rfl) (hb hby dLlo_36) (fun _ _ => ⟨rfl, e4, (by decide : 1 + 0 ≤ 1), (by decide : 1 + 0 ≤ 1)⟩)
  dsimp only [Pt.U, Pt.locs, Pt.cells, Pt.slots] at X7 l7 y7 z7 st7 hQ7
  subst l7 y7 z7
  obtain ⟨rfl, N7q, Kp7, Fn7_0, Fn7_1⟩ := hQ7
  have N7 := Fr.app N0 N7q
  have Zs7 : n0 ≤ T7.heap.size := Nat.le_trans Zs4 Kp7.1
  have Kc7 : Keep h0 T7.heap [] := Kc4.trans Kp7 (allS (P := fun x => x ∈ [] ∨ h0.size ≤ x) (Or.inr sz_b4) all0)
  have K7 : ∀ t, Steps p.tables e below (T7.setTop (mkF m 39 #[.val (.long q0), .second, .val (.int (128 : Int32))] [(.ref b4)])) t → Steps p.tables e below S0 t := fun t k => K_6 t (st7.trans k)
  obtain ⟨fs, hr, hrun, hended, hW, hsame⟩ := X7.leave (v := some (.ref b4)) (fun h => by rw [Bd.returns] at h; cases h) hlk
  refine ⟨_, _, ?_, hrun, hended, _, _, rfl, ?_, ⟨_, rfl⟩, hW, hsame.mono (by decide) (by decide)⟩
  · rw [← hS0]; exact K7 _ (retOut X7 hx Bd.returns rfl (Or.inr (Or.inr (Or.inr (Or.inr ⟨rfl, rfl, rfl⟩)))) (hb hby dLlo_39) hr)
  · show QLlo Z q0 h0 n0 _ T7.heap _
    exact ⟨b4, rfl, N7, Kc7, sz_b4, Fn7_0, Fn7_1⟩
theorem dLhi_0 : decode jdk_35_method_24_code 0 = .ok (.sipush 128, 3) := by decide +kernel
theorem dLhi_3 : decode jdk_35_method_24_code 3 = .ok (.istore_n 2, 1) := by decide +kernel
theorem dLhi_4 : decode jdk_35_method_24_code 4 = .ok (.lload_n 0, 1) := by decide +kernel
theorem dLhi_5 : decode jdk_35_method_24_code 5 = .ok (.ldc2_w 230, 3) := by decide +kernel
theorem dLhi_8 : decode jdk_35_method_24_code 8 = .ok (.lcmp, 1) := by decide +kernel
theorem dLhi_9 : decode jdk_35_method_24_code 9 = .ok (.ifCond .lt 22, 3) := by decide +kernel
theorem dLhi_12 : decode jdk_35_method_24_code 12 = .ok (.lload_n 0, 1) := by decide +kernel
theorem dLhi_13 : decode jdk_35_method_24_code 13 = .ok (.ldc2_w 232, 3) := by decide +kernel
theorem dLhi_16 : decode jdk_35_method_24_code 16 = .ok (.lcmp, 1) := by decide +kernel
theorem dLhi_17 : decode jdk_35_method_24_code 17 = .ok (.ifCond .gt 14, 3) := by decide +kernel
theorem dLhi_31 : decode jdk_35_method_24_code 31 = .ok (.new 1, 3) := by decide +kernel
theorem dLhi_34 : decode jdk_35_method_24_code 34 = .ok (.dup, 1) := by decide +kernel
theorem dLhi_35 : decode jdk_35_method_24_code 35 = .ok (.lload_n 0, 1) := by decide +kernel
theorem dLhi_36 : decode jdk_35_method_24_code 36 = .ok (.invokespecial 240, 3) := by decide +kernel
theorem dLhi_39 : decode jdk_35_method_24_code 39 = .ok (.areturn, 1) := by decide +kernel
theorem pnLhi : plainName "java/lang/Long" = true := by first | (simp [plainName, overriddenIn]; done) | decide +kernel
theorem pdLhi_0 : parseMethodDescriptor "(J)V" = some ⟨[.long], none⟩ := by decide +kernel
theorem efLhi (m : MethodId) (q0 : Int64) : entryFrame m #[(.long q0)] 3 = mkF m 0 #[.val (.long q0), .second, .unset] [] := by first | (simp [entryFrame, mkF, argsToLocals, Value.category]; done) | rfl
def QLhi (Z : State) (q0 : Int64) (h0 : Heap) (n0 : Nat) (v : Option Value) (h : Heap) (L : List Loc) : Prop := ∃ (b6 : Addr), v = some (.ref b6) ∧ Fr n0 L ∧ Keep h0 h [] ∧ h0.size ≤ b6 ∧ Exa Z h b6 "java/lang/Long" ∧ Fld Z h b6 "java/lang/Long" "value" "J" (.long q0)
set_option maxRecDepth 65536 in
set_option maxHeartbeats 40000000 in
theorem rmLhi (l : Launch) (Z : State) (a0 : Array Value) (hw : ∀ d ∈ tables_1, d.before a0 Z = true) (ws : List Jvm.Cond) (q0 : Int64) (h0 : Heap) (n0 : Nat) (Z0 : n0 ≤ h0.size) (hlo : ¬ q0 < (-128 : Int64)) (hhi : (127 : Int64) < q0) :
    MetFree l (⟨"java/lang/Long", "valueOf", "(J)Ljava/lang/Long;"⟩ : MethodName) (head1 (Jvm.Cond.code (⟨"java/lang/Long", "valueOf", "(J)Ljava/lang/Long;"⟩ : MethodName) jdk_35_method_24_code 3 (some (.object "java/lang/Long")) :: ws) ({ frames := 3, cells := 1, slots := 1, locals := 39 } : Room)) (fun a U => a = #[(.long q0)] ∧ Z.Warmed39 U.vm ∧ U.heap = h0) (fun _ _ _ _ _ => True) (fun _ U o U' => ∃ v L, o = .returned v ∧ QLhi Z q0 h0 n0 v U'.heap L ∧ FrameEnd U o U' L ({ frames := 3, cells := 1, slots := 1, locals := 39 } : Room).cells ({ frames := 3, cells := 1, slots := 1, locals := 39 } : Room).slots) := by
  refine MetFree.of_bodySF (plainFor_of_name pnLhi) hisR ?_
  intro p e s m args below meth c s₁ Bd hml0 hP hK
  obtain ⟨rfl, hZ, hh⟩ := hP
  have hlk : meth.locks = false := BodyLoose.notSynchronized Bd
  have hx := Bd.exec
  have hby := Bd.bytes
  have hml : c.maxLocals = 3 := hml0
  have hown : s.vm.findClass "java/lang/Long" = some m.cls := findClass_of_methodNamed Bd.named
  have hnm := (name_of_methodNamed Bd.named Bd.method).1
  have X0 : Stand p l e ({ frames := 3, cells := 1, slots := 1, locals := 39 } : Room) s m #[(.long q0)] below meth c s₁ [] 0 0 := Stand.of_body Bd
  have e0 : s₁.heap = h0 := by rw [← hh, Bd.state]; rfl
  have N0 := Fr.nil n0
  obtain ⟨S0, hS0⟩ : ∃ S0, S0 = s₁.setTop (entryFrame m #[(.long q0)] 3) := ⟨_, rfl⟩
  have pre0 : ∀ t, Steps p.tables e below (s₁.setTop (mkF m 0 #[.val (.long q0), .second, .unset] [])) t → Steps p.tables e below S0 t := fun t k => by rw [hS0]; exact castTop (efLhi m q0) k
  have K1 : ∀ t, Steps p.tables e below (s₁.setTop (mkF m 9 #[.val (.long q0), .second, .val (.int (128 : Int32))] [(.int (lcmpW q0 (-128 : Int64)))])) t → Steps p.tables e below S0 t := fun t k => pre0 t (by
    refine XS.sipush X0.here hx rfl (hb hby dLhi_0) ?_
    show Steps p.tables e below (s₁.setTop (mkF m 3 #[.val (.long q0), .second, .unset] [(.int (128 : Int32))])) _
    refine XS.istoreN X0.here hx rfl (hb hby dLhi_3) rfl (l' := #[.val (.long q0), .second, .val (.int (128 : Int32))]) rfl ?_
    show Steps p.tables e below (s₁.setTop (mkF m 4 #[.val (.long q0), .second, .val (.int (128 : Int32))] [])) _
    refine XS.lloadN X0.here hx rfl (hb hby dLhi_4) rfl ?_
    show Steps p.tables e below (s₁.setTop (mkF m 5 #[.val (.long q0), .second, .val (.int (128 : Int32))] [(.long q0)])) _
    refine X0.ldc2Long hx hown (mvT hZ (hw _ (List.mem_of_getElem? (i := 47) rfl))) (g := (mkF m 5 #[.val (.long q0), .second, .val (.int (128 : Int32))] [(.long q0)])) rfl (hb hby dLhi_5) _ ?_
    show Steps p.tables e below (s₁.setTop (mkF m 8 #[.val (.long q0), .second, .val (.int (128 : Int32))] [(.long (-128 : Int64)), (.long q0)])) _
    refine XS.lcmp X0.here hx rfl (hb hby dLhi_8) rfl ?_
    show Steps p.tables e below (s₁.setTop (mkF m 9 #[.val (.long q0), .second, .val (.int (128 : Int32))] [(.int (lcmpW q0 (-128 : Int64)))])) _
    exact k)
  have hf2 : ¬ (q0 < (-128 : Int64)) := hlo
  have K3 : ∀ t, Steps p.tables e below (s₁.setTop (mkF m 17 #[.val (.long q0), .second, .val (.int (128 : Int32))] [(.int (lcmpW q0 (127 : Int64)))])) t → Steps p.tables e below S0 t := fun t k => K1 t (by
    refine XS.ifNo X0.here hx rfl (hb hby dLhi_9) rfl (XT.ll_lt_f hf2) ?_
    show Steps p.tables e below (s₁.setTop (mkF m 12 #[.val (.long q0), .second, .val (.int (128 : Int32))] [])) _
    refine XS.lloadN X0.here hx rfl (hb hby dLhi_12) rfl ?_
    show Steps p.tables e below (s₁.setTop (mkF m 13 #[.val (.long q0), .second, .val (.int (128 : Int32))] [(.long q0)])) _
    refine X0.ldc2Long hx hown (mvT hZ (hw _ (List.mem_of_getElem? (i := 66) rfl))) (g := (mkF m 13 #[.val (.long q0), .second, .val (.int (128 : Int32))] [(.long q0)])) rfl (hb hby dLhi_13) _ ?_
    show Steps p.tables e below (s₁.setTop (mkF m 16 #[.val (.long q0), .second, .val (.int (128 : Int32))] [(.long (127 : Int64)), (.long q0)])) _
    refine XS.lcmp X0.here hx rfl (hb hby dLhi_16) rfl ?_
    show Steps p.tables e below (s₁.setTop (mkF m 17 #[.val (.long q0), .second, .val (.int (128 : Int32))] [(.int (lcmpW q0 (127 : Int64)))])) _
    exact k)
  have hf4 : (127 : Int64) < q0 := hhi
  have K5 : ∀ t, Steps p.tables e below (s₁.setTop (mkF m 31 #[.val (.long q0), .second, .val (.int (128 : Int32))] [])) t → Steps p.tables e below S0 t := fun t k => K3 t (by
    refine XS.ifYes X0.here hx rfl (pc0 := 17) (pc' := 31) rfl (hb hby dLhi_17) rfl (XT.ll_gt_t hf4) (by decide) (by decide) ?_
    show Steps p.tables e below (s₁.setTop (mkF m 31 #[.val (.long q0), .second, .val (.int (128 : Int32))] [])) _
    exact k)
  obtain ⟨T6, h6, X6, e6, E6, A6, D6, -, st6⟩ := newO X0 hx hZ hown (hw _ (List.mem_of_getElem? (i := 48) rfl)) (hw _ (List.mem_of_getElem? (i := 49) rfl)) (hw _ (List.mem_of_getElem? (i := 45) rfl)) e0 (g := (mkF m 31 #[.val (.long q0), .second, .val (.int (128 : Int32))] [])) rfl (hb hby dLhi_31) (by decide) (by decide)
  obtain ⟨b6, g6⟩ : ∃ z, z = h0.size := ⟨_, rfl⟩
  rw [← g6] at A6 D6 st6
  have g_b6 : n0 ≤ b6 := Nat.le_trans Z0 (Nat.le_of_eq g6.symm)
  have Zs6 : n0 ≤ h6.size := Nat.le_trans Z0 E6.1
  have sz_b6 : h0.size ≤ b6 := Nat.le_trans (Keep.refl h0 []).1 (Nat.le_of_eq g6.symm)
  have Kc6 : Keep h0 h6 [] := (Keep.refl h0 []).ext E6
  have F_b6_value : Fld Z h6 b6 "java/lang/Long" "value" "J" (.long (0 : Int64)) := D6 (Or.inr (hw _ (List.mem_of_getElem? (i := 62) rfl))) (ty := .long) (by decide)
  have K6 : ∀ t, Steps p.tables e below (T6.setTop (mkF m 34 #[.val (.long q0), .second, .val (.int (128 : Int32))] [(.ref b6)])) t → Steps p.tables e below S0 t := fun t k => K5 t (st6 t k)
  have K7 : ∀ t, Steps p.tables e below (T6.setTop (mkF m 36 #[.val (.long q0), .second, .val (.int (128 : Int32))] [(.long q0), (.ref b6), (.ref b6)])) t → Steps p.tables e below S0 t := fun t k => K6 t (by
    refine XS.dup X6.here hx rfl (hb hby dLhi_34) rfl rfl ?_
    show Steps p.tables e below (T6.setTop (mkF m 35 #[.val (.long q0), .second, .val (.int (128 : Int32))] [(.ref b6), (.ref b6)])) _
    refine XS.lloadN X6.here hx rfl (hb hby dLhi_35) rfl ?_
    show Steps p.tables e below (T6.setTop (mkF m 36 #[.val (.long q0), .second, .val (.int (128 : Int32))] [(.long q0), (.ref b6), (.ref b6)])) _
    exact k)
  have K_8 : ∀ t, Steps p.tables e below (T6.setTop (mkF m 36 #[.val (.long q0), .second, .val (.int (128 : Int32))] [(.long q0), (.ref b6), (.ref b6)])) t → Steps p.tables e below S0 t := K7
  obtain ⟨_, _, ⟨T9, L9, k9, n9⟩, -, X9, ⟨Lc9, hQ9, l9, y9, z9⟩, st9⟩ := X6.specialBack hx (y := (⟨"java/lang/Long", "<init>", "(J)V"⟩ : MethodName)) rfl hown (mvT hZ (hw _ (List.mem_of_getElem? (i := 50) rfl))) (mvT hZ (hw _ (List.mem_of_getElem? (i := 51) rfl))) (mvT hZ (hw _ (List.mem_of_getElem? (i := 53) rfl))) (by decide) (backOf (W := 1) (rmLi l Z a0 hw [] b6 q0 h6 n0 Zs6 A6 F_b6_value g_b6) hZ (hw _ (List.mem_of_getElem? (i := 53) rfl)) (hw _ (List.mem_of_getElem? (i := 45) rfl)) (by decide) (by decide)) (g := (mkF m 36 #[.val (.long q0), .second, .val (.int (128 : Int32))] [(.long q0), (.ref b6), (.ref b6)])) rfl (by rw [hml]; rfl) (Steps.refl _) (a := b6) (argsL := [(.long q0)]) (rest := [(.ref b6)]) (lenOf pdLhi_0 rfl) rfl (by show 2 * 0 + _ ≤ _; exact Nat.le_of_eq rfl) (hb hby dLhi_36) (fun _ _ => ⟨rfl, e6, (by decide : 1 + 0 ≤ 1), (by decide : 1 + 0 ≤ 1)⟩)
  dsimp only [Pt.U, Pt.locs, Pt.cells, Pt.slots] at X9 l9 y9 z9 st9 hQ9
  subst l9 y9 z9
  obtain ⟨rfl, N9q, Kp9, Fn9_0, Fn9_1⟩ := hQ9
  have N9 := Fr.app N0 N9q
  have Zs9 : n0 ≤ T9.heap.size := Nat.le_trans Zs6 Kp9.1
  have Kc9 : Keep h0 T9.heap [] := Kc6.trans Kp9 (allS (P := fun x => x ∈ [] ∨ h0.size ≤ x) (Or.inr sz_b6) all0)
  have K9 : ∀ t, Steps p.tables e below (T9.setTop (mkF m 39 #[.val (.long q0), .second, .val (.int (128 : Int32))] [(.ref b6)])) t → Steps p.tables e below S0 t := fun t k => K_8 t (st9.trans k)
  obtain ⟨fs, hr, hrun, hended, hW, hsame⟩ := X9.leave (v := some (.ref b6)) (fun h => by rw [Bd.returns] at h; cases h) hlk
  refine ⟨_, _, ?_, hrun, hended, _, _, rfl, ?_, ⟨_, rfl⟩, hW, hsame.mono (by decide) (by decide)⟩
  · rw [← hS0]; exact K9 _ (retOut X9 hx Bd.returns rfl (Or.inr (Or.inr (Or.inr (Or.inr ⟨rfl, rfl, rfl⟩)))) (hb hby dLhi_39) hr)
  · show QLhi Z q0 h0 n0 _ T9.heap _
    exact ⟨b6, rfl, N9, Kc9, sz_b6, Fn9_0, Fn9_1⟩
theorem dLca_0 : decode jdk_35_method_24_code 0 = .ok (.sipush 128, 3) := by decide +kernel
theorem dLca_3 : decode jdk_35_method_24_code 3 = .ok (.istore_n 2, 1) := by decide +kernel
theorem dLca_4 : decode jdk_35_method_24_code 4 = .ok (.lload_n 0, 1) := by decide +kernel
theorem dLca_5 : decode jdk_35_method_24_code 5 = .ok (.ldc2_w 230, 3) := by decide +kernel
theorem dLca_8 : decode jdk_35_method_24_code 8 = .ok (.lcmp, 1) := by decide +kernel
theorem dLca_9 : decode jdk_35_method_24_code 9 = .ok (.ifCond .lt 22, 3) := by decide +kernel
theorem dLca_12 : decode jdk_35_method_24_code 12 = .ok (.lload_n 0, 1) := by decide +kernel
theorem dLca_13 : decode jdk_35_method_24_code 13 = .ok (.ldc2_w 232, 3) := by decide +kernel
theorem dLca_16 : decode jdk_35_method_24_code 16 = .ok (.lcmp, 1) := by decide +kernel
theorem dLca_17 : decode jdk_35_method_24_code 17 = .ok (.ifCond .gt 14, 3) := by decide +kernel
theorem dLca_20 : decode jdk_35_method_24_code 20 = .ok (.getstatic 234, 3) := by decide +kernel
theorem dLca_23 : decode jdk_35_method_24_code 23 = .ok (.lload_n 0, 1) := by decide +kernel
theorem dLca_24 : decode jdk_35_method_24_code 24 = .ok (.l2i, 1) := by decide +kernel
theorem dLca_25 : decode jdk_35_method_24_code 25 = .ok (.sipush 128, 3) := by decide +kernel
theorem dLca_28 : decode jdk_35_method_24_code 28 = .ok (.iadd, 1) := by decide +kernel
theorem dLca_29 : decode jdk_35_method_24_code 29 = .ok (.aaload, 1) := by decide +kernel
theorem dLca_30 : decode jdk_35_method_24_code 30 = .ok (.areturn, 1) := by decide +kernel
theorem pnLca : plainName "java/lang/Long" = true := by first | (simp [plainName, overriddenIn]; done) | decide +kernel
theorem efLca (m : MethodId) (q0 : Int64) : entryFrame m #[(.long q0)] 3 = mkF m 0 #[.val (.long q0), .second, .unset] [] := by first | (simp [entryFrame, mkF, argsToLocals, Value.category]; done) | rfl
def QLca (Z : State) (q0 : Int64) (oc : Addr) (cl : Cell) (oe : Addr) (h0 : Heap) (n0 : Nat) (v : Option Value) (h : Heap) (L : List Loc) : Prop := v = some (.ref oe) ∧ Fr n0 L ∧ h = h0
set_option maxRecDepth 65536 in
set_option maxHeartbeats 40000000 in
theorem rmLca (l : Launch) (Z : State) (a0 : Array Value) (hw : ∀ d ∈ tables_1, d.before a0 Z = true) (ws : List Jvm.Cond) (q0 : Int64) (oc : Addr) (cl : Cell) (oe : Addr) (h0 : Heap) (n0 : Nat) (Z0 : n0 ≤ h0.size) (S_Long_LongCache_cache : Sta Z h0 "java/lang/Long$LongCache" "cache" "[Ljava/lang/Long;" (.ref oc)) (Ar_oc : Arr Z h0 oc cl (.object "java/lang/Long")) (hlo : ¬ q0 < (-128 : Int64)) (hhi : ¬ (127 : Int64) < q0) (hin : ¬ (((q0.toInt32) + (128 : Int32)) < 0 ∨ cl.slots.size ≤ ((q0.toInt32) + (128 : Int32)).toNatClampNeg)) (hat : cl.slots[((q0.toInt32) + (128 : Int32)).toNatClampNeg]? = some (.ref oe)) :
    MetFree l (⟨"java/lang/Long", "valueOf", "(J)Ljava/lang/Long;"⟩ : MethodName) (head1 (Jvm.Cond.code (⟨"java/lang/Long", "valueOf", "(J)Ljava/lang/Long;"⟩ : MethodName) jdk_35_method_24_code 3 (some (.object "java/lang/Long")) :: ws) ({ frames := 0, cells := 0, slots := 0, locals := 0 } : Room)) (fun a U => a = #[(.long q0)] ∧ Z.Warmed39 U.vm ∧ U.heap = h0) (fun _ _ _ _ _ => True) (fun _ U o U' => ∃ v L, o = .returned v ∧ QLca Z q0 oc cl oe h0 n0 v U'.heap L ∧ FrameEnd U o U' L ({ frames := 0, cells := 0, slots := 0, locals := 0 } : Room).cells ({ frames := 0, cells := 0, slots := 0, locals := 0 } : Room).slots) := by
  refine MetFree.of_bodySF (plainFor_of_name pnLca) hisR ?_
  intro p e s m args below meth c s₁ Bd hml0 hP hK
  obtain ⟨rfl, hZ, hh⟩ := hP
  have hlk : meth.locks = false := BodyLoose.notSynchronized Bd
  have hx := Bd.exec
  have hby := Bd.bytes
  have hml : c.maxLocals = 3 := hml0
  have hown : s.vm.findClass "java/lang/Long" = some m.cls := findClass_of_methodNamed Bd.named
  have hnm := (name_of_methodNamed Bd.named Bd.method).1
  have X0 : Stand p l e ({ frames := 0, cells := 0, slots := 0, locals := 0 } : Room) s m #[(.long q0)] below meth c s₁ [] 0 0 := Stand.of_body Bd
  have e0 : s₁.heap = h0 := by rw [← hh, Bd.state]; rfl
  have N0 := Fr.nil n0
  obtain ⟨S0, hS0⟩ : ∃ S0, S0 = s₁.setTop (entryFrame m #[(.long q0)] 3) := ⟨_, rfl⟩
  have pre0 : ∀ t, Steps p.tables e below (s₁.setTop (mkF m 0 #[.val (.long q0), .second, .unset] [])) t → Steps p.tables e below S0 t := fun t k => by rw [hS0]; exact castTop (efLca m q0) k
  have K1 : ∀ t, Steps p.tables e below (s₁.setTop (mkF m 9 #[.val (.long q0), .second, .val (.int (128 : Int32))] [(.int (lcmpW q0 (-128 : Int64)))])) t → Steps p.tables e below S0 t := fun t k => pre0 t (by
    refine XS.sipush X0.here hx rfl (hb hby dLca_0) ?_
    show Steps p.tables e below (s₁.setTop (mkF m 3 #[.val (.long q0), .second, .unset] [(.int (128 : Int32))])) _
    refine XS.istoreN X0.here hx rfl (hb hby dLca_3) rfl (l' := #[.val (.long q0), .second, .val (.int (128 : Int32))]) rfl ?_
    show Steps p.tables e below (s₁.setTop (mkF m 4 #[.val (.long q0), .second, .val (.int (128 : Int32))] [])) _
    refine XS.lloadN X0.here hx rfl (hb hby dLca_4) rfl ?_
    show Steps p.tables e below (s₁.setTop (mkF m 5 #[.val (.long q0), .second, .val (.int (128 : Int32))] [(.long q0)])) _
    refine X0.ldc2Long hx hown (mvT hZ (hw _ (List.mem_of_getElem? (i := 47) rfl))) (g := (mkF m 5 #[.val (.long q0), .second, .val (.int (128 : Int32))] [(.long q0)])) rfl (hb hby dLca_5) _ ?_
    show Steps p.tables e below (s₁.setTop (mkF m 8 #[.val (.long q0), .second, .val (.int (128 : Int32))] [(.long (-128 : Int64)), (.long q0)])) _
    refine XS.lcmp X0.here hx rfl (hb hby dLca_8) rfl ?_
    show Steps p.tables e below (s₁.setTop (mkF m 9 #[.val (.long q0), .second, .val (.int (128 : Int32))] [(.int (lcmpW q0 (-128 : Int64)))])) _
    exact k)
  have hf2 : ¬ (q0 < (-128 : Int64)) := hlo
  have K3 : ∀ t, Steps p.tables e below (s₁.setTop (mkF m 17 #[.val (.long q0), .second, .val (.int (128 : Int32))] [(.int (lcmpW q0 (127 : Int64)))])) t → Steps p.tables e below S0 t := fun t k => K1 t (by
    refine XS.ifNo X0.here hx rfl (hb hby dLca_9) rfl (XT.ll_lt_f hf2) ?_
    show Steps p.tables e below (s₁.setTop (mkF m 12 #[.val (.long q0), .second, .val (.int (128 : Int32))] [])) _
    refine XS.lloadN X0.here hx rfl (hb hby dLca_12) rfl ?_
    show Steps p.tables e below (s₁.setTop (mkF m 13 #[.val (.long q0), .second, .val (.int (128 : Int32))] [(.long q0)])) _
    refine X0.ldc2Long hx hown (mvT hZ (hw _ (List.mem_of_getElem? (i := 66) rfl))) (g := (mkF m 13 #[.val (.long q0), .second, .val (.int (128 : Int32))] [(.long q0)])) rfl (hb hby dLca_13) _ ?_
    show Steps p.tables e below (s₁.setTop (mkF m 16 #[.val (.long q0), .second, .val (.int (128 : Int32))] [(.long (127 : Int64)), (.long q0)])) _
    refine XS.lcmp X0.here hx rfl (hb hby dLca_16) rfl ?_
    show Steps p.tables e below (s₁.setTop (mkF m 17 #[.val (.long q0), .second, .val (.int (128 : Int32))] [(.int (lcmpW q0 (127 : Int64)))])) _
    exact k)
  have hf4 : ¬ ((127 : Int64) < q0) := hhi
  have K5 : ∀ t, Steps p.tables e below (s₁.setTop (mkF m 20 #[.val (.long q0), .second, .val (.int (128 : Int32))] [])) t → Steps p.tables e below S0 t := fun t k => K3 t (by
    refine XS.ifNo X0.here hx rfl (hb hby dLca_17) rfl (XT.ll_gt_f hf4) ?_
    show Steps p.tables e below (s₁.setTop (mkF m 20 #[.val (.long q0), .second, .val (.int (128 : Int32))] [])) _
    exact k)
  obtain ⟨T6, X6, e6, st6⟩ := getS2 X0 hx hZ hown (host := "") (Or.inl (hw _ (List.mem_of_getElem? (i := 67) rfl))) Via.refl e0 S_Long_LongCache_cache (g := (mkF m 20 #[.val (.long q0), .second, .val (.int (128 : Int32))] [])) rfl (hb hby dLca_20)
  have K6 : ∀ t, Steps p.tables e below (T6.setTop (mkF m 23 #[.val (.long q0), .second, .val (.int (128 : Int32))] [(.ref oc)])) t → Steps p.tables e below S0 t := fun t k => K5 t (st6 t k)
  have K7 : ∀ t, Steps p.tables e below (T6.setTop (mkF m 29 #[.val (.long q0), .second, .val (.int (128 : Int32))] [(.int ((q0.toInt32) + (128 : Int32))), (.ref oc)])) t → Steps p.tables e below S0 t := fun t k => K6 t (by
    refine XS.lloadN X6.here hx rfl (hb hby dLca_23) rfl ?_
    show Steps p.tables e below (T6.setTop (mkF m 24 #[.val (.long q0), .second, .val (.int (128 : Int32))] [(.long q0), (.ref oc)])) _
    refine XS.l2i X6.here hx rfl (hb hby dLca_24) rfl ?_
    show Steps p.tables e below (T6.setTop (mkF m 25 #[.val (.long q0), .second, .val (.int (128 : Int32))] [(.int (q0.toInt32)), (.ref oc)])) _
    refine XS.sipush X6.here hx rfl (hb hby dLca_25) ?_
    show Steps p.tables e below (T6.setTop (mkF m 28 #[.val (.long q0), .second, .val (.int (128 : Int32))] [(.int (128 : Int32)), (.int (q0.toInt32)), (.ref oc)])) _
    refine XS.iadd X6.here hx rfl (hb hby dLca_28) rfl ?_
    show Steps p.tables e below (T6.setTop (mkF m 29 #[.val (.long q0), .second, .val (.int (128 : Int32))] [(.int ((q0.toInt32) + (128 : Int32))), (.ref oc)])) _
    exact k)
  have K_8 : ∀ t, Steps p.tables e below (T6.setTop (mkF m 29 #[.val (.long q0), .second, .val (.int (128 : Int32))] [(.int ((q0.toInt32) + (128 : Int32))), (.ref oc)])) t → Steps p.tables e below S0 t := K7
  have K9 : ∀ t, Steps p.tables e below (T6.setTop (mkF m 30 #[.val (.long q0), .second, .val (.int (128 : Int32))] [(.ref oe)])) t → Steps p.tables e below S0 t := fun t k => K_8 t (X6.aaload hx (j := ((q0.toInt32) + (128 : Int32))) (v := (.ref oe)) (by rw [e6]; exact Ar_oc.1) (State.isArrayOf_alike hZ.alike Ar_oc.2.1) rfl Ar_oc.2.2 hin hat (g := (mkF m 29 #[.val (.long q0), .second, .val (.int (128 : Int32))] [(.int ((q0.toInt32) + (128 : Int32))), (.ref oc)])) rfl rfl (hb hby dLca_29) _ k)
  obtain ⟨fs, hr, hrun, hended, hW, hsame⟩ := X6.leave (v := some (.ref oe)) (fun h => by rw [Bd.returns] at h; cases h) hlk
  refine ⟨_, _, ?_, hrun, hended, _, _, rfl, ?_, ⟨_, rfl⟩, hW, hsame.mono (by decide) (by decide)⟩
  · rw [← hS0]; exact K9 _ (retOut X6 hx Bd.returns rfl (Or.inr (Or.inr (Or.inr (Or.inr ⟨rfl, rfl, rfl⟩)))) (hb hby dLca_30) hr)
  · show QLca Z q0 oc cl oe h0 n0 _ T6.heap _
    rw [e6]
    exact ⟨rfl, N0, rfl⟩
theorem pn0 : plainName "com/example/acervo/acervo/index/DocumentValueEqualsPinLaw" = true := by first | (simp [plainName, overriddenIn]; done) | decide +kernel
theorem pd0_0 : parseMethodDescriptor "(J)J" = some ⟨[.long], some .long⟩ := by decide +kernel
theorem pd0_1 : parseMethodDescriptor "(Lcom/example/acervo/acervo/index/DocumentValue$Kind;J)V" = some ⟨[(.object "com/example/acervo/acervo/index/DocumentValue$Kind"), .long], none⟩ := by decide +kernel
theorem pd0_2 : parseMethodDescriptor "(Ljava/lang/Object;)Z" = some ⟨[(.object "java/lang/Object")], some .boolean⟩ := by decide +kernel
theorem pd0_3 : parseMethodDescriptor "(J)Ljava/lang/Long;" = some ⟨[.long], some (.object "java/lang/Long")⟩ := by decide +kernel
theorem ef0 (m : MethodId) (p0 : Int32) (q1 : Int64) (q2 : Int64) (p3 : Int32) : entryFrame m #[(.int p0), (.long q1), (.long q2), (.int p3)] maxLocals = mkF m 0 #[.val (.int p0), .val (.long q1), .second, .val (.long q2), .second, .val (.int p3), .unset, .unset, .unset, .unset, .unset, .unset, .unset, .unset, .unset, .unset, .unset, .unset, .unset, .unset, .unset] [] := by first | (simp [entryFrame, mkF, argsToLocals, Value.category, maxLocals]; done) | rfl
def Q0 (Z : State) (p0 : Int32) (q1 : Int64) (q2 : Int64) (p3 : Int32) (ob1 : Addr) (ob2 : Addr) (oc : Addr) (cc : Cell) (h0 : Heap) (n0 : Nat) (v : Option Value) (h : Heap) (L : List Loc) : Prop := v = some (.int (w0_r10 p0 q1 q2 p3)) ∧ Fr n0 L
set_option maxRecDepth 65536 in
set_option maxHeartbeats 40000000 in
theorem rm0 (l : Launch) (Z : State) (a0 : Array Value) (hw : ∀ d ∈ tables_1, d.before a0 Z = true) (ws : List Jvm.Cond) (p0 : Int32) (q1 : Int64) (q2 : Int64) (p3 : Int32) (ob1 : Addr) (ob2 : Addr) (oc : Addr) (cc : Cell) (h0 : Heap) (n0 : Nat) (Z0 : n0 ≤ h0.size) (S_DocumentValue_Kind_NUMBER : Sta Z Z.heap "com/example/acervo/acervo/index/DocumentValue$Kind" "NUMBER" "Lcom/example/acervo/acervo/index/DocumentValue$Kind;" (.ref ob1)) (S_DocumentValue_Kind_DATE : Sta Z Z.heap "com/example/acervo/acervo/index/DocumentValue$Kind" "DATE" "Lcom/example/acervo/acervo/index/DocumentValue$Kind;" (.ref ob2)) (E_ob1 : Exa Z Z.heap ob1 "com/example/acervo/acervo/index/DocumentValue$Kind") (E_ob2 : Exa Z Z.heap ob2 "com/example/acervo/acervo/index/DocumentValue$Kind") (S_Long_LongCache_cache : Sta Z Z.heap "java/lang/Long$LongCache" "cache" "[Ljava/lang/Long;" (.ref oc)) (Ar_oc : Arr Z Z.heap oc cc (.object "java/lang/Long")) (hcache : ∀ x : Int64, ¬ x < (-128 : Int64) → ¬ (127 : Int64) < x → ∃ oe : Addr, ¬ (((x.toInt32) + (128 : Int32)) < 0 ∨ cc.slots.size ≤ ((x.toInt32) + (128 : Int32)).toNatClampNeg) ∧ cc.slots[((x.toInt32) + (128 : Int32)).toNatClampNeg]? = some (.ref oe) ∧ Exa Z Z.heap oe "java/lang/Long") (OL0 : Old Z n0 h0) (ne_ob1_ob2 : ob1 ≠ ob2) :
    MetFree l x (head1 (Jvm.Cond.code x code maxLocals ret :: ws) room_1) (fun a U => a = #[(.int p0), (.long q1), (.long q2), (.int p3)] ∧ Z.Warmed39 U.vm ∧ U.heap = h0) (fun _ _ _ _ _ => True) (fun _ U o U' => ∃ v L, o = .returned v ∧ Q0 Z p0 q1 q2 p3 ob1 ob2 oc cc h0 n0 v U'.heap L ∧ FrameEnd U o U' L 3 5) := by
  refine MetFree.of_bodySF (plainFor_of_name pn0) hisR ?_
  intro p e s m args below meth c s₁ Bd hml0 hP hK
  obtain ⟨rfl, hZ, hh⟩ := hP
  have hlk : meth.locks = false := BodyLoose.notSynchronized Bd
  have hx := Bd.exec
  have hby := Bd.bytes
  have hml : c.maxLocals = 21 := hml0
  have hown : s.vm.findClass "com/example/acervo/acervo/index/DocumentValueEqualsPinLaw" = some m.cls := findClass_of_methodNamed Bd.named
  have hnm := (name_of_methodNamed Bd.named Bd.method).1
  have X0 : Stand p l e room_1 s m #[(.int p0), (.long q1), (.long q2), (.int p3)] below meth c s₁ [] 0 0 := Stand.of_body Bd
  have e0 : s₁.heap = h0 := by rw [← hh, Bd.state]; rfl
  have N0 := Fr.nil n0
  obtain ⟨S0, hS0⟩ : ∃ S0, S0 = s₁.setTop (entryFrame m #[(.int p0), (.long q1), (.long q2), (.int p3)] maxLocals) := ⟨_, rfl⟩
  have pre0 : ∀ t, Steps p.tables e below (s₁.setTop (mkF m 0 #[.val (.int p0), .val (.long q1), .second, .val (.long q2), .second, .val (.int p3), .unset, .unset, .unset, .unset, .unset, .unset, .unset, .unset, .unset, .unset, .unset, .unset, .unset, .unset, .unset] [])) t → Steps p.tables e below S0 t := fun t k => by rw [hS0]; exact castTop (ef0 m p0 q1 q2 p3) k
  have S_DocumentValue_Kind_NUMBER__0 := S_DocumentValue_Kind_NUMBER.ext OL0.2
  have S_DocumentValue_Kind_DATE__0 := S_DocumentValue_Kind_DATE.ext OL0.2
  have E_ob1__0 := E_ob1.ext OL0.2
  have E_ob2__0 := E_ob2.ext OL0.2
  have S_Long_LongCache_cache__0 := S_Long_LongCache_cache.ext OL0.2
  have Ar_oc__0 := Ar_oc.ext OL0.2
  have K1 : ∀ t, Steps p.tables e below (s₁.setTop (mkF m 3 #[.val (.int p0), .val (.long q1), .second, .val (.long q2), .second, .val (.int p3), .unset, .unset, .unset, .unset, .unset, .unset, .unset, .unset, .unset, .unset, .unset, .unset, .unset, .unset, .unset] [(.int (p0 &&& (1 : Int32)))])) t → Steps p.tables e below S0 t := fun t k => pre0 t (by
    refine XS.iloadN X0.here hx rfl (hb hby at_0) rfl ?_
    show Steps p.tables e below (s₁.setTop (mkF m 1 #[.val (.int p0), .val (.long q1), .second, .val (.long q2), .second, .val (.int p3), .unset, .unset, .unset, .unset, .unset, .unset, .unset, .unset, .unset, .unset, .unset, .unset, .unset, .unset, .unset] [(.int p0)])) _
    refine XS.iconst X0.here hx rfl (hb hby at_1) ?_
    show Steps p.tables e below (s₁.setTop (mkF m 2 #[.val (.int p0), .val (.long q1), .second, .val (.long q2), .second, .val (.int p3), .unset, .unset, .unset, .unset, .unset, .unset, .unset, .unset, .unset, .unset, .unset, .unset, .unset, .unset, .unset] [(.int (1 : Int32)), (.int p0)])) _
    refine XS.iand X0.here hx rfl (hb hby at_2) rfl ?_
    show Steps p.tables e below (s₁.setTop (mkF m 3 #[.val (.int p0), .val (.long q1), .second, .val (.long q2), .second, .val (.int p3), .unset, .unset, .unset, .unset, .unset, .unset, .unset, .unset, .unset, .unset, .unset, .unset, .unset, .unset, .unset] [(.int (p0 &&& (1 : Int32)))])) _
    exact k)
  obtain ⟨T2, lo2, X2, N2, e2, K2⟩ : ∃ (T' : State) (locs' : List Loc), Stand p l e room_1 s m #[(.int p0), (.long q1), (.long q2), (.int p3)] below meth c T' locs' 0 0 ∧ Fr n0 locs' ∧ T'.heap = h0 ∧ ∀ t, Steps p.tables e below (T'.setTop (mkF m 11 #[.val (.int p0), .val (.long q1), .second, .val (.long q2), .second, .val (.int p3), .unset, .unset, .unset, .unset, .unset, .unset, .unset, .unset, .unset, .unset, .unset, .unset, .unset, .unset, .unset] [(.int (w0_m1 p0))])) t → Steps p.tables e below S0 t := by
    by_cases hc3_0 : (p0 &&& (1 : Int32)) = (0 : Int32)
    · -- yes
      have K3 : ∀ t, Steps p.tables e below (s₁.setTop (mkF m 11 #[.val (.int p0), .val (.long q1), .second, .val (.long q2), .second, .val (.int p3), .unset, .unset, .unset, .unset, .unset, .unset, .unset, .unset, .unset, .unset, .unset, .unset, .unset, .unset, .unset] [(.int (0 : Int32))])) t → Steps p.tables e below S0 t := fun t k => K1 t (by
        refine XS.ifYes X0.here hx rfl (pc0 := 3) (pc' := 10) rfl (hb hby at_3) rfl (XT.i0_eq_t hc3_0) (by decide) (by decide) ?_
        show Steps p.tables e below (s₁.setTop (mkF m 10 #[.val (.int p0), .val (.long q1), .second, .val (.long q2), .second, .val (.int p3), .unset, .unset, .unset, .unset, .unset, .unset, .unset, .unset, .unset, .unset, .unset, .unset, .unset, .unset, .unset] [])) _
        refine XS.iconst X0.here hx rfl (hb hby at_10) ?_
        show Steps p.tables e below (s₁.setTop (mkF m 11 #[.val (.int p0), .val (.long q1), .second, .val (.long q2), .second, .val (.int p3), .unset, .unset, .unset, .unset, .unset, .unset, .unset, .unset, .unset, .unset, .unset, .unset, .unset, .unset, .unset] [(.int (0 : Int32))])) _
        exact k)
      have q4 : (w0_m1 p0) = (0 : Int32) := by unfold w0_m1; rw [if_pos hc3_0]
      exact ⟨s₁, _, X0, N0, e0, fun t k => K3 t (by rw [q4] at k; exact k)⟩
    · -- no
      have K5 : ∀ t, Steps p.tables e below (s₁.setTop (mkF m 11 #[.val (.int p0), .val (.long q1), .second, .val (.long q2), .second, .val (.int p3), .unset, .unset, .unset, .unset, .unset, .unset, .unset, .unset, .unset, .unset, .unset, .unset, .unset, .unset, .unset] [(.int (1 : Int32))])) t → Steps p.tables e below S0 t := fun t k => K1 t (by
        refine XS.ifNo X0.here hx rfl (hb hby at_3) rfl (XT.i0_eq_f hc3_0) ?_
        show Steps p.tables e below (s₁.setTop (mkF m 6 #[.val (.int p0), .val (.long q1), .second, .val (.long q2), .second, .val (.int p3), .unset, .unset, .unset, .unset, .unset, .unset, .unset, .unset, .unset, .unset, .unset, .unset, .unset, .unset, .unset] [])) _
        refine XS.iconst X0.here hx rfl (hb hby at_6) ?_
        show Steps p.tables e below (s₁.setTop (mkF m 7 #[.val (.int p0), .val (.long q1), .second, .val (.long q2), .second, .val (.int p3), .unset, .unset, .unset, .unset, .unset, .unset, .unset, .unset, .unset, .unset, .unset, .unset, .unset, .unset, .unset] [(.int (1 : Int32))])) _
        refine XS.goto X0.here hx rfl (pc0 := 7) (pc' := 11) rfl (hb hby at_7) (by decide) (by decide) ?_
        show Steps p.tables e below (s₁.setTop (mkF m 11 #[.val (.int p0), .val (.long q1), .second, .val (.long q2), .second, .val (.int p3), .unset, .unset, .unset, .unset, .unset, .unset, .unset, .unset, .unset, .unset, .unset, .unset, .unset, .unset, .unset] [(.int (1 : Int32))])) _
        exact k)
      have q6 : (w0_m1 p0) = (1 : Int32) := by unfold w0_m1; rw [if_neg hc3_0]
      exact ⟨s₁, _, X0, N0, e0, fun t k => K5 t (by rw [q6] at k; exact k)⟩
  have K7 : ∀ t, Steps p.tables e below (T2.setTop (mkF m 16 #[.val (.int p0), .val (.long q1), .second, .val (.long q2), .second, .val (.int p3), .val (.int (w0_m1 p0)), .unset, .unset, .unset, .unset, .unset, .unset, .unset, .unset, .unset, .unset, .unset, .unset, .unset, .unset] [(.int (p0 &&& (2 : Int32)))])) t → Steps p.tables e below S0 t := fun t k => K2 t (by
    refine XS.istore X2.here hx rfl (hb hby at_11) rfl (l' := #[.val (.int p0), .val (.long q1), .second, .val (.long q2), .second, .val (.int p3), .val (.int (w0_m1 p0)), .unset, .unset, .unset, .unset, .unset, .unset, .unset, .unset, .unset, .unset, .unset, .unset, .unset, .unset]) rfl ?_
    show Steps p.tables e below (T2.setTop (mkF m 13 #[.val (.int p0), .val (.long q1), .second, .val (.long q2), .second, .val (.int p3), .val (.int (w0_m1 p0)), .unset, .unset, .unset, .unset, .unset, .unset, .unset, .unset, .unset, .unset, .unset, .unset, .unset, .unset] [])) _
    refine XS.iloadN X2.here hx rfl (hb hby at_13) rfl ?_
    show Steps p.tables e below (T2.setTop (mkF m 14 #[.val (.int p0), .val (.long q1), .second, .val (.long q2), .second, .val (.int p3), .val (.int (w0_m1 p0)), .unset, .unset, .unset, .unset, .unset, .unset, .unset, .unset, .unset, .unset, .unset, .unset, .unset, .unset] [(.int p0)])) _
    refine XS.iconst X2.here hx rfl (hb hby at_14) ?_
    show Steps p.tables e below (T2.setTop (mkF m 15 #[.val (.int p0), .val (.long q1), .second, .val (.long q2), .second, .val (.int p3), .val (.int (w0_m1 p0)), .unset, .unset, .unset, .unset, .unset, .unset, .unset, .unset, .unset, .unset, .unset, .unset, .unset, .unset] [(.int (2 : Int32)), (.int p0)])) _
    refine XS.iand X2.here hx rfl (hb hby at_15) rfl ?_
    show Steps p.tables e below (T2.setTop (mkF m 16 #[.val (.int p0), .val (.long q1), .second, .val (.long q2), .second, .val (.int p3), .val (.int (w0_m1 p0)), .unset, .unset, .unset, .unset, .unset, .unset, .unset, .unset, .unset, .unset, .unset, .unset, .unset, .unset] [(.int (p0 &&& (2 : Int32)))])) _
    exact k)
  obtain ⟨T8, lo8, X8, N8, e8, K8⟩ : ∃ (T' : State) (locs' : List Loc), Stand p l e room_1 s m #[(.int p0), (.long q1), (.long q2), (.int p3)] below meth c T' locs' 0 0 ∧ Fr n0 locs' ∧ T'.heap = h0 ∧ ∀ t, Steps p.tables e below (T'.setTop (mkF m 24 #[.val (.int p0), .val (.long q1), .second, .val (.long q2), .second, .val (.int p3), .val (.int (w0_m1 p0)), .unset, .unset, .unset, .unset, .unset, .unset, .unset, .unset, .unset, .unset, .unset, .unset, .unset, .unset] [(.int (w0_m2 p0))])) t → Steps p.tables e below S0 t := by
    by_cases hc16_0 : (p0 &&& (2 : Int32)) = (0 : Int32)
    · -- yes
      have K9 : ∀ t, Steps p.tables e below (T2.setTop (mkF m 24 #[.val (.int p0), .val (.long q1), .second, .val (.long q2), .second, .val (.int p3), .val (.int (w0_m1 p0)), .unset, .unset, .unset, .unset, .unset, .unset, .unset, .unset, .unset, .unset, .unset, .unset, .unset, .unset] [(.int (0 : Int32))])) t → Steps p.tables e below S0 t := fun t k => K7 t (by
        refine XS.ifYes X2.here hx rfl (pc0 := 16) (pc' := 23) rfl (hb hby at_16) rfl (XT.i0_eq_t hc16_0) (by decide) (by decide) ?_
        show Steps p.tables e below (T2.setTop (mkF m 23 #[.val (.int p0), .val (.long q1), .second, .val (.long q2), .second, .val (.int p3), .val (.int (w0_m1 p0)), .unset, .unset, .unset, .unset, .unset, .unset, .unset, .unset, .unset, .unset, .unset, .unset, .unset, .unset] [])) _
        refine XS.iconst X2.here hx rfl (hb hby at_23) ?_
        show Steps p.tables e below (T2.setTop (mkF m 24 #[.val (.int p0), .val (.long q1), .second, .val (.long q2), .second, .val (.int p3), .val (.int (w0_m1 p0)), .unset, .unset, .unset, .unset, .unset, .unset, .unset, .unset, .unset, .unset, .unset, .unset, .unset, .unset] [(.int (0 : Int32))])) _
        exact k)
      have q10 : (w0_m2 p0) = (0 : Int32) := by unfold w0_m2; rw [if_pos hc16_0]
      exact ⟨T2, _, X2, N2, e2, fun t k => K9 t (by rw [q10] at k; exact k)⟩
    · -- no
      have K11 : ∀ t, Steps p.tables e below (T2.setTop (mkF m 24 #[.val (.int p0), .val (.long q1), .second, .val (.long q2), .second, .val (.int p3), .val (.int (w0_m1 p0)), .unset, .unset, .unset, .unset, .unset, .unset, .unset, .unset, .unset, .unset, .unset, .unset, .unset, .unset] [(.int (1 : Int32))])) t → Steps p.tables e below S0 t := fun t k => K7 t (by
        refine XS.ifNo X2.here hx rfl (hb hby at_16) rfl (XT.i0_eq_f hc16_0) ?_
        show Steps p.tables e below (T2.setTop (mkF m 19 #[.val (.int p0), .val (.long q1), .second, .val (.long q2), .second, .val (.int p3), .val (.int (w0_m1 p0)), .unset, .unset, .unset, .unset, .unset, .unset, .unset, .unset, .unset, .unset, .unset, .unset, .unset, .unset] [])) _
        refine XS.iconst X2.here hx rfl (hb hby at_19) ?_
        show Steps p.tables e below (T2.setTop (mkF m 20 #[.val (.int p0), .val (.long q1), .second, .val (.long q2), .second, .val (.int p3), .val (.int (w0_m1 p0)), .unset, .unset, .unset, .unset, .unset, .unset, .unset, .unset, .unset, .unset, .unset, .unset, .unset, .unset] [(.int (1 : Int32))])) _
        refine XS.goto X2.here hx rfl (pc0 := 20) (pc' := 24) rfl (hb hby at_20) (by decide) (by decide) ?_
        show Steps p.tables e below (T2.setTop (mkF m 24 #[.val (.int p0), .val (.long q1), .second, .val (.long q2), .second, .val (.int p3), .val (.int (w0_m1 p0)), .unset, .unset, .unset, .unset, .unset, .unset, .unset, .unset, .unset, .unset, .unset, .unset, .unset, .unset] [(.int (1 : Int32))])) _
        exact k)
      have q12 : (w0_m2 p0) = (1 : Int32) := by unfold w0_m2; rw [if_neg hc16_0]
      exact ⟨T2, _, X2, N2, e2, fun t k => K11 t (by rw [q12] at k; exact k)⟩
  have K13 : ∀ t, Steps p.tables e below (T8.setTop (mkF m 34 #[.val (.int p0), .val (.long q1), .second, .val (.long q2), .second, .val (.int p3), .val (.int (w0_m1 p0)), .val (.int (w0_m2 p0)), .val (.int (p3 &&& (3 : Int32))), .unset, .unset, .unset, .unset, .unset, .unset, .unset, .unset, .unset, .unset, .unset, .unset] [(.int (p3 &&& (3 : Int32)))])) t → Steps p.tables e below S0 t := fun t k => K8 t (by
    refine XS.istore X8.here hx rfl (hb hby at_24) rfl (l' := #[.val (.int p0), .val (.long q1), .second, .val (.long q2), .second, .val (.int p3), .val (.int (w0_m1 p0)), .val (.int (w0_m2 p0)), .unset, .unset, .unset, .unset, .unset, .unset, .unset, .unset, .unset, .unset, .unset, .unset, .unset]) rfl ?_
    show Steps p.tables e below (T8.setTop (mkF m 26 #[.val (.int p0), .val (.long q1), .second, .val (.long q2), .second, .val (.int p3), .val (.int (w0_m1 p0)), .val (.int (w0_m2 p0)), .unset, .unset, .unset, .unset, .unset, .unset, .unset, .unset, .unset, .unset, .unset, .unset, .unset] [])) _
    refine XS.iload X8.here hx rfl (hb hby at_26) rfl ?_
    show Steps p.tables e below (T8.setTop (mkF m 28 #[.val (.int p0), .val (.long q1), .second, .val (.long q2), .second, .val (.int p3), .val (.int (w0_m1 p0)), .val (.int (w0_m2 p0)), .unset, .unset, .unset, .unset, .unset, .unset, .unset, .unset, .unset, .unset, .unset, .unset, .unset] [(.int p3)])) _
    refine XS.iconst X8.here hx rfl (hb hby at_28) ?_
    show Steps p.tables e below (T8.setTop (mkF m 29 #[.val (.int p0), .val (.long q1), .second, .val (.long q2), .second, .val (.int p3), .val (.int (w0_m1 p0)), .val (.int (w0_m2 p0)), .unset, .unset, .unset, .unset, .unset, .unset, .unset, .unset, .unset, .unset, .unset, .unset, .unset] [(.int (3 : Int32)), (.int p3)])) _
    refine XS.iand X8.here hx rfl (hb hby at_29) rfl ?_
    show Steps p.tables e below (T8.setTop (mkF m 30 #[.val (.int p0), .val (.long q1), .second, .val (.long q2), .second, .val (.int p3), .val (.int (w0_m1 p0)), .val (.int (w0_m2 p0)), .unset, .unset, .unset, .unset, .unset, .unset, .unset, .unset, .unset, .unset, .unset, .unset, .unset] [(.int (p3 &&& (3 : Int32)))])) _
    refine XS.istore X8.here hx rfl (hb hby at_30) rfl (l' := #[.val (.int p0), .val (.long q1), .second, .val (.long q2), .second, .val (.int p3), .val (.int (w0_m1 p0)), .val (.int (w0_m2 p0)), .val (.int (p3 &&& (3 : Int32))), .unset, .unset, .unset, .unset, .unset, .unset, .unset, .unset, .unset, .unset, .unset, .unset]) rfl ?_
    show Steps p.tables e below (T8.setTop (mkF m 32 #[.val (.int p0), .val (.long q1), .second, .val (.long q2), .second, .val (.int p3), .val (.int (w0_m1 p0)), .val (.int (w0_m2 p0)), .val (.int (p3 &&& (3 : Int32))), .unset, .unset, .unset, .unset, .unset, .unset, .unset, .unset, .unset, .unset, .unset, .unset] [])) _
    refine XS.iload X8.here hx rfl (hb hby at_32) rfl ?_
    show Steps p.tables e below (T8.setTop (mkF m 34 #[.val (.int p0), .val (.long q1), .second, .val (.long q2), .second, .val (.int p3), .val (.int (w0_m1 p0)), .val (.int (w0_m2 p0)), .val (.int (p3 &&& (3 : Int32))), .unset, .unset, .unset, .unset, .unset, .unset, .unset, .unset, .unset, .unset, .unset, .unset] [(.int (p3 &&& (3 : Int32)))])) _
    exact k)
  obtain ⟨T14, lo14, X14, N14, e14, K14⟩ : ∃ (T' : State) (locs' : List Loc), Stand p l e room_1 s m #[(.int p0), (.long q1), (.long q2), (.int p3)] below meth c T' locs' 0 0 ∧ Fr n0 locs' ∧ T'.heap = h0 ∧ ∀ t, Steps p.tables e below (T'.setTop (mkF m 66 #[.val (.int p0), .val (.long q1), .second, .val (.long q2), .second, .val (.int p3), .val (.int (w0_m1 p0)), .val (.int (w0_m2 p0)), .val (.int (p3 &&& (3 : Int32))), .unset, .unset, .unset, .unset, .unset, .unset, .unset, .unset, .unset, .unset, .unset, .unset] [(.long (w0_m3 q1 q2 p3))])) t → Steps p.tables e below S0 t := by
    by_cases hc34_0 : (p3 &&& (3 : Int32)) = (0 : Int32)
    · -- yes
      have K15 : ∀ t, Steps p.tables e below (T8.setTop (mkF m 66 #[.val (.int p0), .val (.long q1), .second, .val (.long q2), .second, .val (.int p3), .val (.int (w0_m1 p0)), .val (.int (w0_m2 p0)), .val (.int (p3 &&& (3 : Int32))), .unset, .unset, .unset, .unset, .unset, .unset, .unset, .unset, .unset, .unset, .unset, .unset] [(.long q1)])) t → Steps p.tables e below S0 t := fun t k => K13 t (by
        refine XS.ifNo X8.here hx rfl (hb hby at_34) rfl (XT.i0_ne_f hc34_0) ?_
        show Steps p.tables e below (T8.setTop (mkF m 37 #[.val (.int p0), .val (.long q1), .second, .val (.long q2), .second, .val (.int p3), .val (.int (w0_m1 p0)), .val (.int (w0_m2 p0)), .val (.int (p3 &&& (3 : Int32))), .unset, .unset, .unset, .unset, .unset, .unset, .unset, .unset, .unset, .unset, .unset, .unset] [])) _
        refine XS.lloadN X8.here hx rfl (hb hby at_37) rfl ?_
        show Steps p.tables e below (T8.setTop (mkF m 38 #[.val (.int p0), .val (.long q1), .second, .val (.long q2), .second, .val (.int p3), .val (.int (w0_m1 p0)), .val (.int (w0_m2 p0)), .val (.int (p3 &&& (3 : Int32))), .unset, .unset, .unset, .unset, .unset, .unset, .unset, .unset, .unset, .unset, .unset, .unset] [(.long q1)])) _
        refine XS.goto X8.here hx rfl (pc0 := 38) (pc' := 66) rfl (hb hby at_38) (by decide) (by decide) ?_
        show Steps p.tables e below (T8.setTop (mkF m 66 #[.val (.int p0), .val (.long q1), .second, .val (.long q2), .second, .val (.int p3), .val (.int (w0_m1 p0)), .val (.int (w0_m2 p0)), .val (.int (p3 &&& (3 : Int32))), .unset, .unset, .unset, .unset, .unset, .unset, .unset, .unset, .unset, .unset, .unset, .unset] [(.long q1)])) _
        exact k)
      have q16 : (w0_m3 q1 q2 p3) = q1 := by unfold w0_m3; rw [if_pos hc34_0]
      exact ⟨T8, _, X8, N8, e8, fun t k => K15 t (by rw [q16] at k; exact k)⟩
    · -- no
      have K17 : ∀ t, Steps p.tables e below (T8.setTop (mkF m 44 #[.val (.int p0), .val (.long q1), .second, .val (.long q2), .second, .val (.int p3), .val (.int (w0_m1 p0)), .val (.int (w0_m2 p0)), .val (.int (p3 &&& (3 : Int32))), .unset, .unset, .unset, .unset, .unset, .unset, .unset, .unset, .unset, .unset, .unset, .unset] [(.int (1 : Int32)), (.int (p3 &&& (3 : Int32)))])) t → Steps p.tables e below S0 t := fun t k => K13 t (by
        refine XS.ifYes X8.here hx rfl (pc0 := 34) (pc' := 41) rfl (hb hby at_34) rfl (XT.i0_ne_t hc34_0) (by decide) (by decide) ?_
        show Steps p.tables e below (T8.setTop (mkF m 41 #[.val (.int p0), .val (.long q1), .second, .val (.long q2), .second, .val (.int p3), .val (.int (w0_m1 p0)), .val (.int (w0_m2 p0)), .val (.int (p3 &&& (3 : Int32))), .unset, .unset, .unset, .unset, .unset, .unset, .unset, .unset, .unset, .unset, .unset, .unset] [])) _
        refine XS.iload X8.here hx rfl (hb hby at_41) rfl ?_
        show Steps p.tables e below (T8.setTop (mkF m 43 #[.val (.int p0), .val (.long q1), .second, .val (.long q2), .second, .val (.int p3), .val (.int (w0_m1 p0)), .val (.int (w0_m2 p0)), .val (.int (p3 &&& (3 : Int32))), .unset, .unset, .unset, .unset, .unset, .unset, .unset, .unset, .unset, .unset, .unset, .unset] [(.int (p3 &&& (3 : Int32)))])) _
        refine XS.iconst X8.here hx rfl (hb hby at_43) ?_
        show Steps p.tables e below (T8.setTop (mkF m 44 #[.val (.int p0), .val (.long q1), .second, .val (.long q2), .second, .val (.int p3), .val (.int (w0_m1 p0)), .val (.int (w0_m2 p0)), .val (.int (p3 &&& (3 : Int32))), .unset, .unset, .unset, .unset, .unset, .unset, .unset, .unset, .unset, .unset, .unset, .unset] [(.int (1 : Int32)), (.int (p3 &&& (3 : Int32)))])) _
        exact k)
      by_cases hc44_1 : (p3 &&& (3 : Int32)) = (1 : Int32)
      · -- yes
        have K18 : ∀ t, Steps p.tables e below (T8.setTop (mkF m 66 #[.val (.int p0), .val (.long q1), .second, .val (.long q2), .second, .val (.int p3), .val (.int (w0_m1 p0)), .val (.int (w0_m2 p0)), .val (.int (p3 &&& (3 : Int32))), .unset, .unset, .unset, .unset, .unset, .unset, .unset, .unset, .unset, .unset, .unset, .unset] [(.long (q1 + (1 : Int64)))])) t → Steps p.tables e below S0 t := fun t k => K17 t (by
          refine XS.icmpNo X8.here hx rfl (hb hby at_44) rfl (XT.ii_ne_f hc44_1) ?_
          show Steps p.tables e below (T8.setTop (mkF m 47 #[.val (.int p0), .val (.long q1), .second, .val (.long q2), .second, .val (.int p3), .val (.int (w0_m1 p0)), .val (.int (w0_m2 p0)), .val (.int (p3 &&& (3 : Int32))), .unset, .unset, .unset, .unset, .unset, .unset, .unset, .unset, .unset, .unset, .unset, .unset] [])) _
          refine XS.lloadN X8.here hx rfl (hb hby at_47) rfl ?_
          show Steps p.tables e below (T8.setTop (mkF m 48 #[.val (.int p0), .val (.long q1), .second, .val (.long q2), .second, .val (.int p3), .val (.int (w0_m1 p0)), .val (.int (w0_m2 p0)), .val (.int (p3 &&& (3 : Int32))), .unset, .unset, .unset, .unset, .unset, .unset, .unset, .unset, .unset, .unset, .unset, .unset] [(.long q1)])) _
          refine XS.lconst X8.here hx rfl (hb hby at_48) ?_
          show Steps p.tables e below (T8.setTop (mkF m 49 #[.val (.int p0), .val (.long q1), .second, .val (.long q2), .second, .val (.int p3), .val (.int (w0_m1 p0)), .val (.int (w0_m2 p0)), .val (.int (p3 &&& (3 : Int32))), .unset, .unset, .unset, .unset, .unset, .unset, .unset, .unset, .unset, .unset, .unset, .unset] [(.long (1 : Int64)), (.long q1)])) _
          refine XS.ladd X8.here hx rfl (hb hby at_49) rfl ?_
          show Steps p.tables e below (T8.setTop (mkF m 50 #[.val (.int p0), .val (.long q1), .second, .val (.long q2), .second, .val (.int p3), .val (.int (w0_m1 p0)), .val (.int (w0_m2 p0)), .val (.int (p3 &&& (3 : Int32))), .unset, .unset, .unset, .unset, .unset, .unset, .unset, .unset, .unset, .unset, .unset, .unset] [(.long (q1 + (1 : Int64)))])) _
          refine XS.goto X8.here hx rfl (pc0 := 50) (pc' := 66) rfl (hb hby at_50) (by decide) (by decide) ?_
          show Steps p.tables e below (T8.setTop (mkF m 66 #[.val (.int p0), .val (.long q1), .second, .val (.long q2), .second, .val (.int p3), .val (.int (w0_m1 p0)), .val (.int (w0_m2 p0)), .val (.int (p3 &&& (3 : Int32))), .unset, .unset, .unset, .unset, .unset, .unset, .unset, .unset, .unset, .unset, .unset, .unset] [(.long (q1 + (1 : Int64)))])) _
          exact k)
        have q19 : (w0_m3 q1 q2 p3) = (q1 + (1 : Int64)) := by unfold w0_m3; rw [if_neg hc34_0, if_pos hc44_1]
        exact ⟨T8, _, X8, N8, e8, fun t k => K18 t (by rw [q19] at k; exact k)⟩
      · -- no
        have K20 : ∀ t, Steps p.tables e below (T8.setTop (mkF m 56 #[.val (.int p0), .val (.long q1), .second, .val (.long q2), .second, .val (.int p3), .val (.int (w0_m1 p0)), .val (.int (w0_m2 p0)), .val (.int (p3 &&& (3 : Int32))), .unset, .unset, .unset, .unset, .unset, .unset, .unset, .unset, .unset, .unset, .unset, .unset] [(.int (2 : Int32)), (.int (p3 &&& (3 : Int32)))])) t → Steps p.tables e below S0 t := fun t k => K17 t (by
          refine XS.icmpYes X8.here hx rfl (pc0 := 44) (pc' := 53) rfl (hb hby at_44) rfl (XT.ii_ne_t hc44_1) (by decide) (by decide) ?_
          show Steps p.tables e below (T8.setTop (mkF m 53 #[.val (.int p0), .val (.long q1), .second, .val (.long q2), .second, .val (.int p3), .val (.int (w0_m1 p0)), .val (.int (w0_m2 p0)), .val (.int (p3 &&& (3 : Int32))), .unset, .unset, .unset, .unset, .unset, .unset, .unset, .unset, .unset, .unset, .unset, .unset] [])) _
          refine XS.iload X8.here hx rfl (hb hby at_53) rfl ?_
          show Steps p.tables e below (T8.setTop (mkF m 55 #[.val (.int p0), .val (.long q1), .second, .val (.long q2), .second, .val (.int p3), .val (.int (w0_m1 p0)), .val (.int (w0_m2 p0)), .val (.int (p3 &&& (3 : Int32))), .unset, .unset, .unset, .unset, .unset, .unset, .unset, .unset, .unset, .unset, .unset, .unset] [(.int (p3 &&& (3 : Int32)))])) _
          refine XS.iconst X8.here hx rfl (hb hby at_55) ?_
          show Steps p.tables e below (T8.setTop (mkF m 56 #[.val (.int p0), .val (.long q1), .second, .val (.long q2), .second, .val (.int p3), .val (.int (w0_m1 p0)), .val (.int (w0_m2 p0)), .val (.int (p3 &&& (3 : Int32))), .unset, .unset, .unset, .unset, .unset, .unset, .unset, .unset, .unset, .unset, .unset, .unset] [(.int (2 : Int32)), (.int (p3 &&& (3 : Int32)))])) _
          exact k)
        by_cases hc56_2 : (p3 &&& (3 : Int32)) = (2 : Int32)
        · -- yes
          have K21 : ∀ t, Steps p.tables e below (T8.setTop (mkF m 66 #[.val (.int p0), .val (.long q1), .second, .val (.long q2), .second, .val (.int p3), .val (.int (w0_m1 p0)), .val (.int (w0_m2 p0)), .val (.int (p3 &&& (3 : Int32))), .unset, .unset, .unset, .unset, .unset, .unset, .unset, .unset, .unset, .unset, .unset, .unset] [(.long (q1 - (1 : Int64)))])) t → Steps p.tables e below S0 t := fun t k => K20 t (by
            refine XS.icmpNo X8.here hx rfl (hb hby at_56) rfl (XT.ii_ne_f hc56_2) ?_
            show Steps p.tables e below (T8.setTop (mkF m 59 #[.val (.int p0), .val (.long q1), .second, .val (.long q2), .second, .val (.int p3), .val (.int (w0_m1 p0)), .val (.int (w0_m2 p0)), .val (.int (p3 &&& (3 : Int32))), .unset, .unset, .unset, .unset, .unset, .unset, .unset, .unset, .unset, .unset, .unset, .unset] [])) _
            refine XS.lloadN X8.here hx rfl (hb hby at_59) rfl ?_
            show Steps p.tables e below (T8.setTop (mkF m 60 #[.val (.int p0), .val (.long q1), .second, .val (.long q2), .second, .val (.int p3), .val (.int (w0_m1 p0)), .val (.int (w0_m2 p0)), .val (.int (p3 &&& (3 : Int32))), .unset, .unset, .unset, .unset, .unset, .unset, .unset, .unset, .unset, .unset, .unset, .unset] [(.long q1)])) _
            refine XS.lconst X8.here hx rfl (hb hby at_60) ?_
            show Steps p.tables e below (T8.setTop (mkF m 61 #[.val (.int p0), .val (.long q1), .second, .val (.long q2), .second, .val (.int p3), .val (.int (w0_m1 p0)), .val (.int (w0_m2 p0)), .val (.int (p3 &&& (3 : Int32))), .unset, .unset, .unset, .unset, .unset, .unset, .unset, .unset, .unset, .unset, .unset, .unset] [(.long (1 : Int64)), (.long q1)])) _
            refine XS.lsub X8.here hx rfl (hb hby at_61) rfl ?_
            show Steps p.tables e below (T8.setTop (mkF m 62 #[.val (.int p0), .val (.long q1), .second, .val (.long q2), .second, .val (.int p3), .val (.int (w0_m1 p0)), .val (.int (w0_m2 p0)), .val (.int (p3 &&& (3 : Int32))), .unset, .unset, .unset, .unset, .unset, .unset, .unset, .unset, .unset, .unset, .unset, .unset] [(.long (q1 - (1 : Int64)))])) _
            refine XS.goto X8.here hx rfl (pc0 := 62) (pc' := 66) rfl (hb hby at_62) (by decide) (by decide) ?_
            show Steps p.tables e below (T8.setTop (mkF m 66 #[.val (.int p0), .val (.long q1), .second, .val (.long q2), .second, .val (.int p3), .val (.int (w0_m1 p0)), .val (.int (w0_m2 p0)), .val (.int (p3 &&& (3 : Int32))), .unset, .unset, .unset, .unset, .unset, .unset, .unset, .unset, .unset, .unset, .unset, .unset] [(.long (q1 - (1 : Int64)))])) _
            exact k)
          have q22 : (w0_m3 q1 q2 p3) = (q1 - (1 : Int64)) := by unfold w0_m3; rw [if_neg hc34_0, if_neg hc44_1, if_pos hc56_2]
          exact ⟨T8, _, X8, N8, e8, fun t k => K21 t (by rw [q22] at k; exact k)⟩
        · -- no
          have K23 : ∀ t, Steps p.tables e below (T8.setTop (mkF m 66 #[.val (.int p0), .val (.long q1), .second, .val (.long q2), .second, .val (.int p3), .val (.int (w0_m1 p0)), .val (.int (w0_m2 p0)), .val (.int (p3 &&& (3 : Int32))), .unset, .unset, .unset, .unset, .unset, .unset, .unset, .unset, .unset, .unset, .unset, .unset] [(.long q2)])) t → Steps p.tables e below S0 t := fun t k => K20 t (by
            refine XS.icmpYes X8.here hx rfl (pc0 := 56) (pc' := 65) rfl (hb hby at_56) rfl (XT.ii_ne_t hc56_2) (by decide) (by decide) ?_
            show Steps p.tables e below (T8.setTop (mkF m 65 #[.val (.int p0), .val (.long q1), .second, .val (.long q2), .second, .val (.int p3), .val (.int (w0_m1 p0)), .val (.int (w0_m2 p0)), .val (.int (p3 &&& (3 : Int32))), .unset, .unset, .unset, .unset, .unset, .unset, .unset, .unset, .unset, .unset, .unset, .unset] [])) _
            refine XS.lloadN X8.here hx rfl (hb hby at_65) rfl ?_
            show Steps p.tables e below (T8.setTop (mkF m 66 #[.val (.int p0), .val (.long q1), .second, .val (.long q2), .second, .val (.int p3), .val (.int (w0_m1 p0)), .val (.int (w0_m2 p0)), .val (.int (p3 &&& (3 : Int32))), .unset, .unset, .unset, .unset, .unset, .unset, .unset, .unset, .unset, .unset, .unset, .unset] [(.long q2)])) _
            exact k)
          have q24 : (w0_m3 q1 q2 p3) = q2 := by unfold w0_m3; rw [if_neg hc34_0, if_neg hc44_1, if_neg hc56_2]
          exact ⟨T8, _, X8, N8, e8, fun t k => K23 t (by rw [q24] at k; exact k)⟩
  have K25 : ∀ t, Steps p.tables e below (T14.setTop (mkF m 77 #[.val (.int p0), .val (.long q1), .second, .val (.long q2), .second, .val (.int p3), .val (.int (w0_m1 p0)), .val (.int (w0_m2 p0)), .val (.int (p3 &&& (3 : Int32))), .val (.long (w0_m3 q1 q2 p3)), .second, .val (.long q1), .second, .val (.long (w0_m3 q1 q2 p3)), .second, .unset, .unset, .unset, .unset, .unset, .unset] [(.int (w0_m1 p0))])) t → Steps p.tables e below S0 t := fun t k => K14 t (by
    refine XS.lstore X14.here hx rfl (hb hby at_66) rfl (l' := #[.val (.int p0), .val (.long q1), .second, .val (.long q2), .second, .val (.int p3), .val (.int (w0_m1 p0)), .val (.int (w0_m2 p0)), .val (.int (p3 &&& (3 : Int32))), .val (.long (w0_m3 q1 q2 p3)), .second, .unset, .unset, .unset, .unset, .unset, .unset, .unset, .unset, .unset, .unset]) rfl ?_
    show Steps p.tables e below (T14.setTop (mkF m 68 #[.val (.int p0), .val (.long q1), .second, .val (.long q2), .second, .val (.int p3), .val (.int (w0_m1 p0)), .val (.int (w0_m2 p0)), .val (.int (p3 &&& (3 : Int32))), .val (.long (w0_m3 q1 q2 p3)), .second, .unset, .unset, .unset, .unset, .unset, .unset, .unset, .unset, .unset, .unset] [])) _
    refine XS.lloadN X14.here hx rfl (hb hby at_68) rfl ?_
    show Steps p.tables e below (T14.setTop (mkF m 69 #[.val (.int p0), .val (.long q1), .second, .val (.long q2), .second, .val (.int p3), .val (.int (w0_m1 p0)), .val (.int (w0_m2 p0)), .val (.int (p3 &&& (3 : Int32))), .val (.long (w0_m3 q1 q2 p3)), .second, .unset, .unset, .unset, .unset, .unset, .unset, .unset, .unset, .unset, .unset] [(.long q1)])) _
    refine XS.lstore X14.here hx rfl (hb hby at_69) rfl (l' := #[.val (.int p0), .val (.long q1), .second, .val (.long q2), .second, .val (.int p3), .val (.int (w0_m1 p0)), .val (.int (w0_m2 p0)), .val (.int (p3 &&& (3 : Int32))), .val (.long (w0_m3 q1 q2 p3)), .second, .val (.long q1), .second, .unset, .unset, .unset, .unset, .unset, .unset, .unset, .unset]) rfl ?_
    show Steps p.tables e below (T14.setTop (mkF m 71 #[.val (.int p0), .val (.long q1), .second, .val (.long q2), .second, .val (.int p3), .val (.int (w0_m1 p0)), .val (.int (w0_m2 p0)), .val (.int (p3 &&& (3 : Int32))), .val (.long (w0_m3 q1 q2 p3)), .second, .val (.long q1), .second, .unset, .unset, .unset, .unset, .unset, .unset, .unset, .unset] [])) _
    refine XS.lload X14.here hx rfl (hb hby at_71) rfl ?_
    show Steps p.tables e below (T14.setTop (mkF m 73 #[.val (.int p0), .val (.long q1), .second, .val (.long q2), .second, .val (.int p3), .val (.int (w0_m1 p0)), .val (.int (w0_m2 p0)), .val (.int (p3 &&& (3 : Int32))), .val (.long (w0_m3 q1 q2 p3)), .second, .val (.long q1), .second, .unset, .unset, .unset, .unset, .unset, .unset, .unset, .unset] [(.long (w0_m3 q1 q2 p3))])) _
    refine XS.lstore X14.here hx rfl (hb hby at_73) rfl (l' := #[.val (.int p0), .val (.long q1), .second, .val (.long q2), .second, .val (.int p3), .val (.int (w0_m1 p0)), .val (.int (w0_m2 p0)), .val (.int (p3 &&& (3 : Int32))), .val (.long (w0_m3 q1 q2 p3)), .second, .val (.long q1), .second, .val (.long (w0_m3 q1 q2 p3)), .second, .unset, .unset, .unset, .unset, .unset, .unset]) rfl ?_
    show Steps p.tables e below (T14.setTop (mkF m 75 #[.val (.int p0), .val (.long q1), .second, .val (.long q2), .second, .val (.int p3), .val (.int (w0_m1 p0)), .val (.int (w0_m2 p0)), .val (.int (p3 &&& (3 : Int32))), .val (.long (w0_m3 q1 q2 p3)), .second, .val (.long q1), .second, .val (.long (w0_m3 q1 q2 p3)), .second, .unset, .unset, .unset, .unset, .unset, .unset] [])) _
    refine XS.iload X14.here hx rfl (hb hby at_75) rfl ?_
    show Steps p.tables e below (T14.setTop (mkF m 77 #[.val (.int p0), .val (.long q1), .second, .val (.long q2), .second, .val (.int p3), .val (.int (w0_m1 p0)), .val (.int (w0_m2 p0)), .val (.int (p3 &&& (3 : Int32))), .val (.long (w0_m3 q1 q2 p3)), .second, .val (.long q1), .second, .val (.long (w0_m3 q1 q2 p3)), .second, .unset, .unset, .unset, .unset, .unset, .unset] [(.int (w0_m1 p0))])) _
    exact k)
  obtain ⟨T26, lo26, X26, N26, e26, K26⟩ : ∃ (T' : State) (locs' : List Loc), Stand p l e room_1 s m #[(.int p0), (.long q1), (.long q2), (.int p3)] below meth c T' locs' 0 0 ∧ Fr n0 locs' ∧ T'.heap = h0 ∧ ∀ t, Steps p.tables e below (T'.setTop (mkF m 98 #[.val (.int p0), .val (.long q1), .second, .val (.long q2), .second, .val (.int p3), .val (.int (w0_m1 p0)), .val (.int (w0_m2 p0)), .val (.int (p3 &&& (3 : Int32))), .val (.long (w0_m3 q1 q2 p3)), .second, .val (.long (w0_m4 p0 q1)), .second, .val (.long (w0_m5 p0 q1 q2 p3)), .second, .unset, .unset, .unset, .unset, .unset, .unset] [])) t → Steps p.tables e below S0 t := by
    by_cases hc77_0 : (w0_m1 p0) = (0 : Int32)
    · -- yes
      have K27 : ∀ t, Steps p.tables e below (T14.setTop (mkF m 82 #[.val (.int p0), .val (.long q1), .second, .val (.long q2), .second, .val (.int p3), .val (.int (w0_m1 p0)), .val (.int (w0_m2 p0)), .val (.int (p3 &&& (3 : Int32))), .val (.long (w0_m3 q1 q2 p3)), .second, .val (.long q1), .second, .val (.long (w0_m3 q1 q2 p3)), .second, .unset, .unset, .unset, .unset, .unset, .unset] [(.int (w0_m2 p0))])) t → Steps p.tables e below S0 t := fun t k => K25 t (by
        refine XS.ifNo X14.here hx rfl (hb hby at_77) rfl (XT.i0_ne_f hc77_0) ?_
        show Steps p.tables e below (T14.setTop (mkF m 80 #[.val (.int p0), .val (.long q1), .second, .val (.long q2), .second, .val (.int p3), .val (.int (w0_m1 p0)), .val (.int (w0_m2 p0)), .val (.int (p3 &&& (3 : Int32))), .val (.long (w0_m3 q1 q2 p3)), .second, .val (.long q1), .second, .val (.long (w0_m3 q1 q2 p3)), .second, .unset, .unset, .unset, .unset, .unset, .unset] [])) _
        refine XS.iload X14.here hx rfl (hb hby at_80) rfl ?_
        show Steps p.tables e below (T14.setTop (mkF m 82 #[.val (.int p0), .val (.long q1), .second, .val (.long q2), .second, .val (.int p3), .val (.int (w0_m1 p0)), .val (.int (w0_m2 p0)), .val (.int (p3 &&& (3 : Int32))), .val (.long (w0_m3 q1 q2 p3)), .second, .val (.long q1), .second, .val (.long (w0_m3 q1 q2 p3)), .second, .unset, .unset, .unset, .unset, .unset, .unset] [(.int (w0_m2 p0))])) _
        exact k)
      by_cases hc82_1 : (w0_m2 p0) = (0 : Int32)
      · -- yes
        have K28 : ∀ t, Steps p.tables e below (T14.setTop (mkF m 98 #[.val (.int p0), .val (.long q1), .second, .val (.long q2), .second, .val (.int p3), .val (.int (w0_m1 p0)), .val (.int (w0_m2 p0)), .val (.int (p3 &&& (3 : Int32))), .val (.long (w0_m3 q1 q2 p3)), .second, .val (.long q1), .second, .val (.long (w0_m3 q1 q2 p3)), .second, .unset, .unset, .unset, .unset, .unset, .unset] [])) t → Steps p.tables e below S0 t := fun t k => K27 t (by
          refine XS.ifYes X14.here hx rfl (pc0 := 82) (pc' := 98) rfl (hb hby at_82) rfl (XT.i0_eq_t hc82_1) (by decide) (by decide) ?_
          show Steps p.tables e below (T14.setTop (mkF m 98 #[.val (.int p0), .val (.long q1), .second, .val (.long q2), .second, .val (.int p3), .val (.int (w0_m1 p0)), .val (.int (w0_m2 p0)), .val (.int (p3 &&& (3 : Int32))), .val (.long (w0_m3 q1 q2 p3)), .second, .val (.long q1), .second, .val (.long (w0_m3 q1 q2 p3)), .second, .unset, .unset, .unset, .unset, .unset, .unset] [])) _
          exact k)
        have q29 : (w0_m4 p0 q1) = q1 := by unfold w0_m4; rw [if_pos hc77_0, if_pos hc82_1]
        have q30 : (w0_m5 p0 q1 q2 p3) = (w0_m3 q1 q2 p3) := by unfold w0_m5; rw [if_pos hc77_0, if_pos hc82_1]
        exact ⟨T14, _, X14, N14, e14, fun t k => K28 t (by rw [q29, q30] at k; exact k)⟩
      · -- no
        have K31 : ∀ t, Steps p.tables e below (T14.setTop (mkF m 86 #[.val (.int p0), .val (.long q1), .second, .val (.long q2), .second, .val (.int p3), .val (.int (w0_m1 p0)), .val (.int (w0_m2 p0)), .val (.int (p3 &&& (3 : Int32))), .val (.long (w0_m3 q1 q2 p3)), .second, .val (.long q1), .second, .val (.long (w0_m3 q1 q2 p3)), .second, .unset, .unset, .unset, .unset, .unset, .unset] [(.long q1)])) t → Steps p.tables e below S0 t := fun t k => K27 t (by
          refine XS.ifNo X14.here hx rfl (hb hby at_82) rfl (XT.i0_eq_f hc82_1) ?_
          show Steps p.tables e below (T14.setTop (mkF m 85 #[.val (.int p0), .val (.long q1), .second, .val (.long q2), .second, .val (.int p3), .val (.int (w0_m1 p0)), .val (.int (w0_m2 p0)), .val (.int (p3 &&& (3 : Int32))), .val (.long (w0_m3 q1 q2 p3)), .second, .val (.long q1), .second, .val (.long (w0_m3 q1 q2 p3)), .second, .unset, .unset, .unset, .unset, .unset, .unset] [])) _
          refine XS.lloadN X14.here hx rfl (hb hby at_85) rfl ?_
          show Steps p.tables e below (T14.setTop (mkF m 86 #[.val (.int p0), .val (.long q1), .second, .val (.long q2), .second, .val (.int p3), .val (.int (w0_m1 p0)), .val (.int (w0_m2 p0)), .val (.int (p3 &&& (3 : Int32))), .val (.long (w0_m3 q1 q2 p3)), .second, .val (.long q1), .second, .val (.long (w0_m3 q1 q2 p3)), .second, .unset, .unset, .unset, .unset, .unset, .unset] [(.long q1)])) _
          exact k)
        have K_32 : ∀ t, Steps p.tables e below (T14.setTop (mkF m 86 #[.val (.int p0), .val (.long q1), .second, .val (.long q2), .second, .val (.int p3), .val (.int (w0_m1 p0)), .val (.int (w0_m2 p0)), .val (.int (p3 &&& (3 : Int32))), .val (.long (w0_m3 q1 q2 p3)), .second, .val (.long q1), .second, .val (.long (w0_m3 q1 q2 p3)), .second, .unset, .unset, .unset, .unset, .unset, .unset] [(.long q1)])) t → Steps p.tables e below S0 t := K31
        obtain ⟨_, _, ⟨T33, L33, k33, n33⟩, -, X33, ⟨Lc33, hQ33, l33, y33, z33⟩, st33⟩ := Jvm.LawKit.callS X14 hx (y := (⟨"com/example/acervo/acervo/index/DocumentValueEqualsPinLaw", "day", "(J)J"⟩ : MethodName)) hown (mvT hZ (hw _ (List.mem_of_getElem? (i := 30) rfl))) (mvT hZ (hw _ (List.mem_of_getElem? (i := 31) rfl))) (mvT hZ (hw _ (List.mem_of_getElem? (i := 32) rfl))) (mvT hZ (hw _ (List.mem_of_getElem? (i := 33) rfl))) (by decide) (backOf (W := 0) (rm3 l Z a0 hw [] q1 h0 n0 Z0 ) hZ (hw _ (List.mem_of_getElem? (i := 33) rfl)) (hw _ (List.mem_of_getElem? (i := 32) rfl)) (by decide) (by decide)) (g := (mkF m 86 #[.val (.int p0), .val (.long q1), .second, .val (.long q2), .second, .val (.int p3), .val (.int (w0_m1 p0)), .val (.int (w0_m2 p0)), .val (.int (p3 &&& (3 : Int32))), .val (.long (w0_m3 q1 q2 p3)), .second, .val (.long q1), .second, .val (.long (w0_m3 q1 q2 p3)), .second, .unset, .unset, .unset, .unset, .unset, .unset] [(.long q1)])) rfl (by rw [hml]; rfl) (argsL := [(.long q1)]) (rest := []) (lenOf pd0_0 rfl) rfl (by show 2 * 0 + _ ≤ _; exact Nat.le_of_eq rfl) (hb hby at_86) (fun _ _ => ⟨rfl, e14, (by decide : 0 + 0 ≤ 16), (by decide : 0 + 0 ≤ 128)⟩)
        dsimp only [Pt.U, Pt.locs, Pt.cells, Pt.slots] at X33 l33 y33 z33 st33 hQ33
        subst l33 y33 z33
        obtain ⟨rfl, N33q, e33⟩ := hQ33
        have N33 := Fr.app N14 N33q
        have K33 : ∀ t, Steps p.tables e below (T33.setTop (mkF m 89 #[.val (.int p0), .val (.long q1), .second, .val (.long q2), .second, .val (.int p3), .val (.int (w0_m1 p0)), .val (.int (w0_m2 p0)), .val (.int (p3 &&& (3 : Int32))), .val (.long (w0_m3 q1 q2 p3)), .second, .val (.long q1), .second, .val (.long (w0_m3 q1 q2 p3)), .second, .unset, .unset, .unset, .unset, .unset, .unset] [(.long (w3_r2 q1))])) t → Steps p.tables e below S0 t := fun t k => K_32 t (st33 t k)
        have K34 : ∀ t, Steps p.tables e below (T33.setTop (mkF m 93 #[.val (.int p0), .val (.long q1), .second, .val (.long q2), .second, .val (.int p3), .val (.int (w0_m1 p0)), .val (.int (w0_m2 p0)), .val (.int (p3 &&& (3 : Int32))), .val (.long (w0_m3 q1 q2 p3)), .second, .val (.long (w3_r2 q1)), .second, .val (.long (w0_m3 q1 q2 p3)), .second, .unset, .unset, .unset, .unset, .unset, .unset] [(.long (w0_m3 q1 q2 p3))])) t → Steps p.tables e below S0 t := fun t k => K33 t (by
          refine XS.lstore X33.here hx rfl (hb hby at_89) rfl (l' := #[.val (.int p0), .val (.long q1), .second, .val (.long q2), .second, .val (.int p3), .val (.int (w0_m1 p0)), .val (.int (w0_m2 p0)), .val (.int (p3 &&& (3 : Int32))), .val (.long (w0_m3 q1 q2 p3)), .second, .val (.long (w3_r2 q1)), .second, .val (.long (w0_m3 q1 q2 p3)), .second, .unset, .unset, .unset, .unset, .unset, .unset]) rfl ?_
          show Steps p.tables e below (T33.setTop (mkF m 91 #[.val (.int p0), .val (.long q1), .second, .val (.long q2), .second, .val (.int p3), .val (.int (w0_m1 p0)), .val (.int (w0_m2 p0)), .val (.int (p3 &&& (3 : Int32))), .val (.long (w0_m3 q1 q2 p3)), .second, .val (.long (w3_r2 q1)), .second, .val (.long (w0_m3 q1 q2 p3)), .second, .unset, .unset, .unset, .unset, .unset, .unset] [])) _
          refine XS.lload X33.here hx rfl (hb hby at_91) rfl ?_
          show Steps p.tables e below (T33.setTop (mkF m 93 #[.val (.int p0), .val (.long q1), .second, .val (.long q2), .second, .val (.int p3), .val (.int (w0_m1 p0)), .val (.int (w0_m2 p0)), .val (.int (p3 &&& (3 : Int32))), .val (.long (w0_m3 q1 q2 p3)), .second, .val (.long (w3_r2 q1)), .second, .val (.long (w0_m3 q1 q2 p3)), .second, .unset, .unset, .unset, .unset, .unset, .unset] [(.long (w0_m3 q1 q2 p3))])) _
          exact k)
        have K_35 : ∀ t, Steps p.tables e below (T33.setTop (mkF m 93 #[.val (.int p0), .val (.long q1), .second, .val (.long q2), .second, .val (.int p3), .val (.int (w0_m1 p0)), .val (.int (w0_m2 p0)), .val (.int (p3 &&& (3 : Int32))), .val (.long (w0_m3 q1 q2 p3)), .second, .val (.long (w3_r2 q1)), .second, .val (.long (w0_m3 q1 q2 p3)), .second, .unset, .unset, .unset, .unset, .unset, .unset] [(.long (w0_m3 q1 q2 p3))])) t → Steps p.tables e below S0 t := K34
        obtain ⟨_, _, ⟨T36, L36, k36, n36⟩, -, X36, ⟨Lc36, hQ36, l36, y36, z36⟩, st36⟩ := Jvm.LawKit.callS X33 hx (y := (⟨"com/example/acervo/acervo/index/DocumentValueEqualsPinLaw", "day", "(J)J"⟩ : MethodName)) hown (mvT hZ (hw _ (List.mem_of_getElem? (i := 30) rfl))) (mvT hZ (hw _ (List.mem_of_getElem? (i := 31) rfl))) (mvT hZ (hw _ (List.mem_of_getElem? (i := 32) rfl))) (mvT hZ (hw _ (List.mem_of_getElem? (i := 33) rfl))) (by decide) (backOf (W := 0) (rm3 l Z a0 hw [] (w0_m3 q1 q2 p3) h0 n0 Z0 ) hZ (hw _ (List.mem_of_getElem? (i := 33) rfl)) (hw _ (List.mem_of_getElem? (i := 32) rfl)) (by decide) (by decide)) (g := (mkF m 93 #[.val (.int p0), .val (.long q1), .second, .val (.long q2), .second, .val (.int p3), .val (.int (w0_m1 p0)), .val (.int (w0_m2 p0)), .val (.int (p3 &&& (3 : Int32))), .val (.long (w0_m3 q1 q2 p3)), .second, .val (.long (w3_r2 q1)), .second, .val (.long (w0_m3 q1 q2 p3)), .second, .unset, .unset, .unset, .unset, .unset, .unset] [(.long (w0_m3 q1 q2 p3))])) rfl (by rw [hml]; rfl) (argsL := [(.long (w0_m3 q1 q2 p3))]) (rest := []) (lenOf pd0_0 rfl) rfl (by show 2 * 0 + _ ≤ _; exact Nat.le_of_eq rfl) (hb hby at_93) (fun _ _ => ⟨rfl, e33, (by decide : 0 + 0 ≤ 16), (by decide : 0 + 0 ≤ 128)⟩)
        dsimp only [Pt.U, Pt.locs, Pt.cells, Pt.slots] at X36 l36 y36 z36 st36 hQ36
        subst l36 y36 z36
        obtain ⟨rfl, N36q, e36⟩ := hQ36
        have N36 := Fr.app N33 N36q
        have K36 : ∀ t, Steps p.tables e below (T36.setTop (mkF m 96 #[.val (.int p0), .val (.long q1), .second, .val (.long q2), .second, .val (.int p3), .val (.int (w0_m1 p0)), .val (.int (w0_m2 p0)), .val (.int (p3 &&& (3 : Int32))), .val (.long (w0_m3 q1 q2 p3)), .second, .val (.long (w3_r2 q1)), .second, .val (.long (w0_m3 q1 q2 p3)), .second, .unset, .unset, .unset, .unset, .unset, .unset] [(.long (w3_r2 (w0_m3 q1 q2 p3)))])) t → Steps p.tables e below S0 t := fun t k => K_35 t (st36 t k)
        have K37 : ∀ t, Steps p.tables e below (T36.setTop (mkF m 98 #[.val (.int p0), .val (.long q1), .second, .val (.long q2), .second, .val (.int p3), .val (.int (w0_m1 p0)), .val (.int (w0_m2 p0)), .val (.int (p3 &&& (3 : Int32))), .val (.long (w0_m3 q1 q2 p3)), .second, .val (.long (w3_r2 q1)), .second, .val (.long (w3_r2 (w0_m3 q1 q2 p3))), .second, .unset, .unset, .unset, .unset, .unset, .unset] [])) t → Steps p.tables e below S0 t := fun t k => K36 t (by
          refine XS.lstore X36.here hx rfl (hb hby at_96) rfl (l' := #[.val (.int p0), .val (.long q1), .second, .val (.long q2), .second, .val (.int p3), .val (.int (w0_m1 p0)), .val (.int (w0_m2 p0)), .val (.int (p3 &&& (3 : Int32))), .val (.long (w0_m3 q1 q2 p3)), .second, .val (.long (w3_r2 q1)), .second, .val (.long (w3_r2 (w0_m3 q1 q2 p3))), .second, .unset, .unset, .unset, .unset, .unset, .unset]) rfl ?_
          show Steps p.tables e below (T36.setTop (mkF m 98 #[.val (.int p0), .val (.long q1), .second, .val (.long q2), .second, .val (.int p3), .val (.int (w0_m1 p0)), .val (.int (w0_m2 p0)), .val (.int (p3 &&& (3 : Int32))), .val (.long (w0_m3 q1 q2 p3)), .second, .val (.long (w3_r2 q1)), .second, .val (.long (w3_r2 (w0_m3 q1 q2 p3))), .second, .unset, .unset, .unset, .unset, .unset, .unset] [])) _
          exact k)
        have q38 : (w0_m4 p0 q1) = (w3_r2 q1) := by unfold w0_m4; rw [if_pos hc77_0, if_neg hc82_1]
        have q39 : (w0_m5 p0 q1 q2 p3) = (w3_r2 (w0_m3 q1 q2 p3)) := by unfold w0_m5; rw [if_pos hc77_0, if_neg hc82_1]
        exact ⟨T36, _, X36, N36, e36, fun t k => K37 t (by rw [q38, q39] at k; exact k)⟩
    · -- no
      have K40 : ∀ t, Steps p.tables e below (T14.setTop (mkF m 86 #[.val (.int p0), .val (.long q1), .second, .val (.long q2), .second, .val (.int p3), .val (.int (w0_m1 p0)), .val (.int (w0_m2 p0)), .val (.int (p3 &&& (3 : Int32))), .val (.long (w0_m3 q1 q2 p3)), .second, .val (.long q1), .second, .val (.long (w0_m3 q1 q2 p3)), .second, .unset, .unset, .unset, .unset, .unset, .unset] [(.long q1)])) t → Steps p.tables e below S0 t := fun t k => K25 t (by
        refine XS.ifYes X14.here hx rfl (pc0 := 77) (pc' := 85) rfl (hb hby at_77) rfl (XT.i0_ne_t hc77_0) (by decide) (by decide) ?_
        show Steps p.tables e below (T14.setTop (mkF m 85 #[.val (.int p0), .val (.long q1), .second, .val (.long q2), .second, .val (.int p3), .val (.int (w0_m1 p0)), .val (.int (w0_m2 p0)), .val (.int (p3 &&& (3 : Int32))), .val (.long (w0_m3 q1 q2 p3)), .second, .val (.long q1), .second, .val (.long (w0_m3 q1 q2 p3)), .second, .unset, .unset, .unset, .unset, .unset, .unset] [])) _
        refine XS.lloadN X14.here hx rfl (hb hby at_85) rfl ?_
        show Steps p.tables e below (T14.setTop (mkF m 86 #[.val (.int p0), .val (.long q1), .second, .val (.long q2), .second, .val (.int p3), .val (.int (w0_m1 p0)), .val (.int (w0_m2 p0)), .val (.int (p3 &&& (3 : Int32))), .val (.long (w0_m3 q1 q2 p3)), .second, .val (.long q1), .second, .val (.long (w0_m3 q1 q2 p3)), .second, .unset, .unset, .unset, .unset, .unset, .unset] [(.long q1)])) _
        exact k)
      have K_41 : ∀ t, Steps p.tables e below (T14.setTop (mkF m 86 #[.val (.int p0), .val (.long q1), .second, .val (.long q2), .second, .val (.int p3), .val (.int (w0_m1 p0)), .val (.int (w0_m2 p0)), .val (.int (p3 &&& (3 : Int32))), .val (.long (w0_m3 q1 q2 p3)), .second, .val (.long q1), .second, .val (.long (w0_m3 q1 q2 p3)), .second, .unset, .unset, .unset, .unset, .unset, .unset] [(.long q1)])) t → Steps p.tables e below S0 t := K40
      obtain ⟨_, _, ⟨T42, L42, k42, n42⟩, -, X42, ⟨Lc42, hQ42, l42, y42, z42⟩, st42⟩ := Jvm.LawKit.callS X14 hx (y := (⟨"com/example/acervo/acervo/index/DocumentValueEqualsPinLaw", "day", "(J)J"⟩ : MethodName)) hown (mvT hZ (hw _ (List.mem_of_getElem? (i := 30) rfl))) (mvT hZ (hw _ (List.mem_of_getElem? (i := 31) rfl))) (mvT hZ (hw _ (List.mem_of_getElem? (i := 32) rfl))) (mvT hZ (hw _ (List.mem_of_getElem? (i := 33) rfl))) (by decide) (backOf (W := 0) (rm3 l Z a0 hw [] q1 h0 n0 Z0 ) hZ (hw _ (List.mem_of_getElem? (i := 33) rfl)) (hw _ (List.mem_of_getElem? (i := 32) rfl)) (by decide) (by decide)) (g := (mkF m 86 #[.val (.int p0), .val (.long q1), .second, .val (.long q2), .second, .val (.int p3), .val (.int (w0_m1 p0)), .val (.int (w0_m2 p0)), .val (.int (p3 &&& (3 : Int32))), .val (.long (w0_m3 q1 q2 p3)), .second, .val (.long q1), .second, .val (.long (w0_m3 q1 q2 p3)), .second, .unset, .unset, .unset, .unset, .unset, .unset] [(.long q1)])) rfl (by rw [hml]; rfl) (argsL := [(.long q1)]) (rest := []) (lenOf pd0_0 rfl) rfl (by show 2 * 0 + _ ≤ _; exact Nat.le_of_eq rfl) (hb hby at_86) (fun _ _ => ⟨rfl, e14, (by decide : 0 + 0 ≤ 16), (by decide : 0 + 0 ≤ 128)⟩)
      dsimp only [Pt.U, Pt.locs, Pt.cells, Pt.slots] at X42 l42 y42 z42 st42 hQ42
      subst l42 y42 z42
      obtain ⟨rfl, N42q, e42⟩ := hQ42
      have N42 := Fr.app N14 N42q
      have K42 : ∀ t, Steps p.tables e below (T42.setTop (mkF m 89 #[.val (.int p0), .val (.long q1), .second, .val (.long q2), .second, .val (.int p3), .val (.int (w0_m1 p0)), .val (.int (w0_m2 p0)), .val (.int (p3 &&& (3 : Int32))), .val (.long (w0_m3 q1 q2 p3)), .second, .val (.long q1), .second, .val (.long (w0_m3 q1 q2 p3)), .second, .unset, .unset, .unset, .unset, .unset, .unset] [(.long (w3_r2 q1))])) t → Steps p.tables e below S0 t := fun t k => K_41 t (st42 t k)
      have K43 : ∀ t, Steps p.tables e below (T42.setTop (mkF m 93 #[.val (.int p0), .val (.long q1), .second, .val (.long q2), .second, .val (.int p3), .val (.int (w0_m1 p0)), .val (.int (w0_m2 p0)), .val (.int (p3 &&& (3 : Int32))), .val (.long (w0_m3 q1 q2 p3)), .second, .val (.long (w3_r2 q1)), .second, .val (.long (w0_m3 q1 q2 p3)), .second, .unset, .unset, .unset, .unset, .unset, .unset] [(.long (w0_m3 q1 q2 p3))])) t → Steps p.tables e below S0 t := fun t k => K42 t (by
        refine XS.lstore X42.here hx rfl (hb hby at_89) rfl (l' := #[.val (.int p0), .val (.long q1), .second, .val (.long q2), .second, .val (.int p3), .val (.int (w0_m1 p0)), .val (.int (w0_m2 p0)), .val (.int (p3 &&& (3 : Int32))), .val (.long (w0_m3 q1 q2 p3)), .second, .val (.long (w3_r2 q1)), .second, .val (.long (w0_m3 q1 q2 p3)), .second, .unset, .unset, .unset, .unset, .unset, .unset]) rfl ?_
        show Steps p.tables e below (T42.setTop (mkF m 91 #[.val (.int p0), .val (.long q1), .second, .val (.long q2), .second, .val (.int p3), .val (.int (w0_m1 p0)), .val (.int (w0_m2 p0)), .val (.int (p3 &&& (3 : Int32))), .val (.long (w0_m3 q1 q2 p3)), .second, .val (.long (w3_r2 q1)), .second, .val (.long (w0_m3 q1 q2 p3)), .second, .unset, .unset, .unset, .unset, .unset, .unset] [])) _
        refine XS.lload X42.here hx rfl (hb hby at_91) rfl ?_
        show Steps p.tables e below (T42.setTop (mkF m 93 #[.val (.int p0), .val (.long q1), .second, .val (.long q2), .second, .val (.int p3), .val (.int (w0_m1 p0)), .val (.int (w0_m2 p0)), .val (.int (p3 &&& (3 : Int32))), .val (.long (w0_m3 q1 q2 p3)), .second, .val (.long (w3_r2 q1)), .second, .val (.long (w0_m3 q1 q2 p3)), .second, .unset, .unset, .unset, .unset, .unset, .unset] [(.long (w0_m3 q1 q2 p3))])) _
        exact k)
      have K_44 : ∀ t, Steps p.tables e below (T42.setTop (mkF m 93 #[.val (.int p0), .val (.long q1), .second, .val (.long q2), .second, .val (.int p3), .val (.int (w0_m1 p0)), .val (.int (w0_m2 p0)), .val (.int (p3 &&& (3 : Int32))), .val (.long (w0_m3 q1 q2 p3)), .second, .val (.long (w3_r2 q1)), .second, .val (.long (w0_m3 q1 q2 p3)), .second, .unset, .unset, .unset, .unset, .unset, .unset] [(.long (w0_m3 q1 q2 p3))])) t → Steps p.tables e below S0 t := K43
      obtain ⟨_, _, ⟨T45, L45, k45, n45⟩, -, X45, ⟨Lc45, hQ45, l45, y45, z45⟩, st45⟩ := Jvm.LawKit.callS X42 hx (y := (⟨"com/example/acervo/acervo/index/DocumentValueEqualsPinLaw", "day", "(J)J"⟩ : MethodName)) hown (mvT hZ (hw _ (List.mem_of_getElem? (i := 30) rfl))) (mvT hZ (hw _ (List.mem_of_getElem? (i := 31) rfl))) (mvT hZ (hw _ (List.mem_of_getElem? (i := 32) rfl))) (mvT hZ (hw _ (List.mem_of_getElem? (i := 33) rfl))) (by decide) (backOf (W := 0) (rm3 l Z a0 hw [] (w0_m3 q1 q2 p3) h0 n0 Z0 ) hZ (hw _ (List.mem_of_getElem? (i := 33) rfl)) (hw _ (List.mem_of_getElem? (i := 32) rfl)) (by decide) (by decide)) (g := (mkF m 93 #[.val (.int p0), .val (.long q1), .second, .val (.long q2), .second, .val (.int p3), .val (.int (w0_m1 p0)), .val (.int (w0_m2 p0)), .val (.int (p3 &&& (3 : Int32))), .val (.long (w0_m3 q1 q2 p3)), .second, .val (.long (w3_r2 q1)), .second, .val (.long (w0_m3 q1 q2 p3)), .second, .unset, .unset, .unset, .unset, .unset, .unset] [(.long (w0_m3 q1 q2 p3))])) rfl (by rw [hml]; rfl) (argsL := [(.long (w0_m3 q1 q2 p3))]) (rest := []) (lenOf pd0_0 rfl) rfl (by show 2 * 0 + _ ≤ _; exact Nat.le_of_eq rfl) (hb hby at_93) (fun _ _ => ⟨rfl, e42, (by decide : 0 + 0 ≤ 16), (by decide : 0 + 0 ≤ 128)⟩)
      dsimp only [Pt.U, Pt.locs, Pt.cells, Pt.slots] at X45 l45 y45 z45 st45 hQ45
      subst l45 y45 z45
      obtain ⟨rfl, N45q, e45⟩ := hQ45
      have N45 := Fr.app N42 N45q
      have K45 : ∀ t, Steps p.tables e below (T45.setTop (mkF m 96 #[.val (.int p0), .val (.long q1), .second, .val (.long q2), .second, .val (.int p3), .val (.int (w0_m1 p0)), .val (.int (w0_m2 p0)), .val (.int (p3 &&& (3 : Int32))), .val (.long (w0_m3 q1 q2 p3)), .second, .val (.long (w3_r2 q1)), .second, .val (.long (w0_m3 q1 q2 p3)), .second, .unset, .unset, .unset, .unset, .unset, .unset] [(.long (w3_r2 (w0_m3 q1 q2 p3)))])) t → Steps p.tables e below S0 t := fun t k => K_44 t (st45 t k)
      have K46 : ∀ t, Steps p.tables e below (T45.setTop (mkF m 98 #[.val (.int p0), .val (.long q1), .second, .val (.long q2), .second, .val (.int p3), .val (.int (w0_m1 p0)), .val (.int (w0_m2 p0)), .val (.int (p3 &&& (3 : Int32))), .val (.long (w0_m3 q1 q2 p3)), .second, .val (.long (w3_r2 q1)), .second, .val (.long (w3_r2 (w0_m3 q1 q2 p3))), .second, .unset, .unset, .unset, .unset, .unset, .unset] [])) t → Steps p.tables e below S0 t := fun t k => K45 t (by
        refine XS.lstore X45.here hx rfl (hb hby at_96) rfl (l' := #[.val (.int p0), .val (.long q1), .second, .val (.long q2), .second, .val (.int p3), .val (.int (w0_m1 p0)), .val (.int (w0_m2 p0)), .val (.int (p3 &&& (3 : Int32))), .val (.long (w0_m3 q1 q2 p3)), .second, .val (.long (w3_r2 q1)), .second, .val (.long (w3_r2 (w0_m3 q1 q2 p3))), .second, .unset, .unset, .unset, .unset, .unset, .unset]) rfl ?_
        show Steps p.tables e below (T45.setTop (mkF m 98 #[.val (.int p0), .val (.long q1), .second, .val (.long q2), .second, .val (.int p3), .val (.int (w0_m1 p0)), .val (.int (w0_m2 p0)), .val (.int (p3 &&& (3 : Int32))), .val (.long (w0_m3 q1 q2 p3)), .second, .val (.long (w3_r2 q1)), .second, .val (.long (w3_r2 (w0_m3 q1 q2 p3))), .second, .unset, .unset, .unset, .unset, .unset, .unset] [])) _
        exact k)
      have q47 : (w0_m4 p0 q1) = (w3_r2 q1) := by unfold w0_m4; rw [if_neg hc77_0]
      have q48 : (w0_m5 p0 q1 q2 p3) = (w3_r2 (w0_m3 q1 q2 p3)) := by unfold w0_m5; rw [if_neg hc77_0]
      exact ⟨T45, _, X45, N45, e45, fun t k => K46 t (by rw [q47, q48] at k; exact k)⟩
  have K49 : ∀ t, Steps p.tables e below (T26.setTop (mkF m 100 #[.val (.int p0), .val (.long q1), .second, .val (.long q2), .second, .val (.int p3), .val (.int (w0_m1 p0)), .val (.int (w0_m2 p0)), .val (.int (p3 &&& (3 : Int32))), .val (.long (w0_m3 q1 q2 p3)), .second, .val (.long (w0_m4 p0 q1)), .second, .val (.long (w0_m5 p0 q1 q2 p3)), .second, .unset, .unset, .unset, .unset, .unset, .unset] [(.int (w0_m1 p0))])) t → Steps p.tables e below S0 t := fun t k => K26 t (by
    refine XS.iload X26.here hx rfl (hb hby at_98) rfl ?_
    show Steps p.tables e below (T26.setTop (mkF m 100 #[.val (.int p0), .val (.long q1), .second, .val (.long q2), .second, .val (.int p3), .val (.int (w0_m1 p0)), .val (.int (w0_m2 p0)), .val (.int (p3 &&& (3 : Int32))), .val (.long (w0_m3 q1 q2 p3)), .second, .val (.long (w0_m4 p0 q1)), .second, .val (.long (w0_m5 p0 q1 q2 p3)), .second, .unset, .unset, .unset, .unset, .unset, .unset] [(.int (w0_m1 p0))])) _
    exact k)
  by_cases hc100_0 : (w0_m1 p0) = (0 : Int32)
  · -- yes
    have K50 : ∀ t, Steps p.tables e below (T26.setTop (mkF m 109 #[.val (.int p0), .val (.long q1), .second, .val (.long q2), .second, .val (.int p3), .val (.int (w0_m1 p0)), .val (.int (w0_m2 p0)), .val (.int (p3 &&& (3 : Int32))), .val (.long (w0_m3 q1 q2 p3)), .second, .val (.long (w0_m4 p0 q1)), .second, .val (.long (w0_m5 p0 q1 q2 p3)), .second, .unset, .unset, .unset, .unset, .unset, .unset] [])) t → Steps p.tables e below S0 t := fun t k => K49 t (by
      refine XS.ifYes X26.here hx rfl (pc0 := 100) (pc' := 109) rfl (hb hby at_100) rfl (XT.i0_eq_t hc100_0) (by decide) (by decide) ?_
      show Steps p.tables e below (T26.setTop (mkF m 109 #[.val (.int p0), .val (.long q1), .second, .val (.long q2), .second, .val (.int p3), .val (.int (w0_m1 p0)), .val (.int (w0_m2 p0)), .val (.int (p3 &&& (3 : Int32))), .val (.long (w0_m3 q1 q2 p3)), .second, .val (.long (w0_m4 p0 q1)), .second, .val (.long (w0_m5 p0 q1 q2 p3)), .second, .unset, .unset, .unset, .unset, .unset, .unset] [])) _
      exact k)
    obtain ⟨T51, X51, e51, st51⟩ := getS2 X26 hx hZ hown (host := "") (Or.inl (hw _ (List.mem_of_getElem? (i := 0) rfl))) Via.refl e26 S_DocumentValue_Kind_NUMBER__0 (g := (mkF m 109 #[.val (.int p0), .val (.long q1), .second, .val (.long q2), .second, .val (.int p3), .val (.int (w0_m1 p0)), .val (.int (w0_m2 p0)), .val (.int (p3 &&& (3 : Int32))), .val (.long (w0_m3 q1 q2 p3)), .second, .val (.long (w0_m4 p0 q1)), .second, .val (.long (w0_m5 p0 q1 q2 p3)), .second, .unset, .unset, .unset, .unset, .unset, .unset] [])) rfl (hb hby at_109)
    have K51 : ∀ t, Steps p.tables e below (T51.setTop (mkF m 112 #[.val (.int p0), .val (.long q1), .second, .val (.long q2), .second, .val (.int p3), .val (.int (w0_m1 p0)), .val (.int (w0_m2 p0)), .val (.int (p3 &&& (3 : Int32))), .val (.long (w0_m3 q1 q2 p3)), .second, .val (.long (w0_m4 p0 q1)), .second, .val (.long (w0_m5 p0 q1 q2 p3)), .second, .unset, .unset, .unset, .unset, .unset, .unset] [(.ref ob1)])) t → Steps p.tables e below S0 t := fun t k => K50 t (st51 t k)
    have K52 : ∀ t, Steps p.tables e below (T51.setTop (mkF m 116 #[.val (.int p0), .val (.long q1), .second, .val (.long q2), .second, .val (.int p3), .val (.int (w0_m1 p0)), .val (.int (w0_m2 p0)), .val (.int (p3 &&& (3 : Int32))), .val (.long (w0_m3 q1 q2 p3)), .second, .val (.long (w0_m4 p0 q1)), .second, .val (.long (w0_m5 p0 q1 q2 p3)), .second, .val (.ref ob1), .unset, .unset, .unset, .unset, .unset] [(.int (w0_m2 p0))])) t → Steps p.tables e below S0 t := fun t k => K51 t (by
      refine XS.astore X51.here hx rfl (hb hby at_112) rfl rfl (l' := #[.val (.int p0), .val (.long q1), .second, .val (.long q2), .second, .val (.int p3), .val (.int (w0_m1 p0)), .val (.int (w0_m2 p0)), .val (.int (p3 &&& (3 : Int32))), .val (.long (w0_m3 q1 q2 p3)), .second, .val (.long (w0_m4 p0 q1)), .second, .val (.long (w0_m5 p0 q1 q2 p3)), .second, .val (.ref ob1), .unset, .unset, .unset, .unset, .unset]) rfl ?_
      show Steps p.tables e below (T51.setTop (mkF m 114 #[.val (.int p0), .val (.long q1), .second, .val (.long q2), .second, .val (.int p3), .val (.int (w0_m1 p0)), .val (.int (w0_m2 p0)), .val (.int (p3 &&& (3 : Int32))), .val (.long (w0_m3 q1 q2 p3)), .second, .val (.long (w0_m4 p0 q1)), .second, .val (.long (w0_m5 p0 q1 q2 p3)), .second, .val (.ref ob1), .unset, .unset, .unset, .unset, .unset] [])) _
      refine XS.iload X51.here hx rfl (hb hby at_114) rfl ?_
      show Steps p.tables e below (T51.setTop (mkF m 116 #[.val (.int p0), .val (.long q1), .second, .val (.long q2), .second, .val (.int p3), .val (.int (w0_m1 p0)), .val (.int (w0_m2 p0)), .val (.int (p3 &&& (3 : Int32))), .val (.long (w0_m3 q1 q2 p3)), .second, .val (.long (w0_m4 p0 q1)), .second, .val (.long (w0_m5 p0 q1 q2 p3)), .second, .val (.ref ob1), .unset, .unset, .unset, .unset, .unset] [(.int (w0_m2 p0))])) _
      exact k)
    by_cases hc116_1 : (w0_m2 p0) = (0 : Int32)
    · -- yes
      have K53 : ∀ t, Steps p.tables e below (T51.setTop (mkF m 125 #[.val (.int p0), .val (.long q1), .second, .val (.long q2), .second, .val (.int p3), .val (.int (w0_m1 p0)), .val (.int (w0_m2 p0)), .val (.int (p3 &&& (3 : Int32))), .val (.long (w0_m3 q1 q2 p3)), .second, .val (.long (w0_m4 p0 q1)), .second, .val (.long (w0_m5 p0 q1 q2 p3)), .second, .val (.ref ob1), .unset, .unset, .unset, .unset, .unset] [])) t → Steps p.tables e below S0 t := fun t k => K52 t (by
        refine XS.ifYes X51.here hx rfl (pc0 := 116) (pc' := 125) rfl (hb hby at_116) rfl (XT.i0_eq_t hc116_1) (by decide) (by decide) ?_
        show Steps p.tables e below (T51.setTop (mkF m 125 #[.val (.int p0), .val (.long q1), .second, .val (.long q2), .second, .val (.int p3), .val (.int (w0_m1 p0)), .val (.int (w0_m2 p0)), .val (.int (p3 &&& (3 : Int32))), .val (.long (w0_m3 q1 q2 p3)), .second, .val (.long (w0_m4 p0 q1)), .second, .val (.long (w0_m5 p0 q1 q2 p3)), .second, .val (.ref ob1), .unset, .unset, .unset, .unset, .unset] [])) _
        exact k)
      obtain ⟨T54, X54, e54, st54⟩ := getS2 X51 hx hZ hown (host := "") (Or.inl (hw _ (List.mem_of_getElem? (i := 0) rfl))) Via.refl e51 S_DocumentValue_Kind_NUMBER__0 (g := (mkF m 125 #[.val (.int p0), .val (.long q1), .second, .val (.long q2), .second, .val (.int p3), .val (.int (w0_m1 p0)), .val (.int (w0_m2 p0)), .val (.int (p3 &&& (3 : Int32))), .val (.long (w0_m3 q1 q2 p3)), .second, .val (.long (w0_m4 p0 q1)), .second, .val (.long (w0_m5 p0 q1 q2 p3)), .second, .val (.ref ob1), .unset, .unset, .unset, .unset, .unset] [])) rfl (hb hby at_125)
      have K54 : ∀ t, Steps p.tables e below (T54.setTop (mkF m 128 #[.val (.int p0), .val (.long q1), .second, .val (.long q2), .second, .val (.int p3), .val (.int (w0_m1 p0)), .val (.int (w0_m2 p0)), .val (.int (p3 &&& (3 : Int32))), .val (.long (w0_m3 q1 q2 p3)), .second, .val (.long (w0_m4 p0 q1)), .second, .val (.long (w0_m5 p0 q1 q2 p3)), .second, .val (.ref ob1), .unset, .unset, .unset, .unset, .unset] [(.ref ob1)])) t → Steps p.tables e below S0 t := fun t k => K53 t (st54 t k)
      have K55 : ∀ t, Steps p.tables e below (T54.setTop (mkF m 130 #[.val (.int p0), .val (.long q1), .second, .val (.long q2), .second, .val (.int p3), .val (.int (w0_m1 p0)), .val (.int (w0_m2 p0)), .val (.int (p3 &&& (3 : Int32))), .val (.long (w0_m3 q1 q2 p3)), .second, .val (.long (w0_m4 p0 q1)), .second, .val (.long (w0_m5 p0 q1 q2 p3)), .second, .val (.ref ob1), .val (.ref ob1), .unset, .unset, .unset, .unset] [])) t → Steps p.tables e below S0 t := fun t k => K54 t (by
        refine XS.astore X54.here hx rfl (hb hby at_128) rfl rfl (l' := #[.val (.int p0), .val (.long q1), .second, .val (.long q2), .second, .val (.int p3), .val (.int (w0_m1 p0)), .val (.int (w0_m2 p0)), .val (.int (p3 &&& (3 : Int32))), .val (.long (w0_m3 q1 q2 p3)), .second, .val (.long (w0_m4 p0 q1)), .second, .val (.long (w0_m5 p0 q1 q2 p3)), .second, .val (.ref ob1), .val (.ref ob1), .unset, .unset, .unset, .unset]) rfl ?_
        show Steps p.tables e below (T54.setTop (mkF m 130 #[.val (.int p0), .val (.long q1), .second, .val (.long q2), .second, .val (.int p3), .val (.int (w0_m1 p0)), .val (.int (w0_m2 p0)), .val (.int (p3 &&& (3 : Int32))), .val (.long (w0_m3 q1 q2 p3)), .second, .val (.long (w0_m4 p0 q1)), .second, .val (.long (w0_m5 p0 q1 q2 p3)), .second, .val (.ref ob1), .val (.ref ob1), .unset, .unset, .unset, .unset] [])) _
        exact k)
      obtain ⟨T56, h56, X56, e56, E56, A56, D56, -, st56⟩ := newO X54 hx hZ hown (hw _ (List.mem_of_getElem? (i := 3) rfl)) (hw _ (List.mem_of_getElem? (i := 4) rfl)) (hw _ (List.mem_of_getElem? (i := 5) rfl)) e54 (g := (mkF m 130 #[.val (.int p0), .val (.long q1), .second, .val (.long q2), .second, .val (.int p3), .val (.int (w0_m1 p0)), .val (.int (w0_m2 p0)), .val (.int (p3 &&& (3 : Int32))), .val (.long (w0_m3 q1 q2 p3)), .second, .val (.long (w0_m4 p0 q1)), .second, .val (.long (w0_m5 p0 q1 q2 p3)), .second, .val (.ref ob1), .val (.ref ob1), .unset, .unset, .unset, .unset] [])) rfl (hb hby at_130) (by decide) (by decide)
      obtain ⟨b56, g56⟩ : ∃ z, z = h0.size := ⟨_, rfl⟩
      rw [← g56] at A56 D56 st56
      have ne_ob1_b56 : ob1 ≠ b56 := Nat.ne_of_lt (Nat.lt_of_lt_of_le E_ob1__0.lt (Nat.le_of_eq g56.symm))
      have ne_ob2_b56 : ob2 ≠ b56 := Nat.ne_of_lt (Nat.lt_of_lt_of_le E_ob2__0.lt (Nat.le_of_eq g56.symm))
      have ne_oc_b56 : oc ≠ b56 := Nat.ne_of_lt (Nat.lt_of_lt_of_le Ar_oc__0.lt (Nat.le_of_eq g56.symm))
      have OL56 := OL0.ext E56
      have S_DocumentValue_Kind_NUMBER__56 := S_DocumentValue_Kind_NUMBER.ext OL56.2
      have S_DocumentValue_Kind_DATE__56 := S_DocumentValue_Kind_DATE.ext OL56.2
      have E_ob1__56 := E_ob1.ext OL56.2
      have E_ob2__56 := E_ob2.ext OL56.2
      have S_Long_LongCache_cache__56 := S_Long_LongCache_cache.ext OL56.2
      have Ar_oc__56 := Ar_oc.ext OL56.2
      have g_b56 : n0 ≤ b56 := Nat.le_trans Z0 (Nat.le_of_eq g56.symm)
      have Zs56 : n0 ≤ h56.size := Nat.le_trans Z0 E56.1
      have F_b56_kind : Fld Z h56 b56 "com/example/acervo/acervo/index/DocumentValue" "kind" "Lcom/example/acervo/acervo/index/DocumentValue$Kind;" .null := D56 (Or.inr (hw _ (List.mem_of_getElem? (i := 20) rfl))) (ty := (.object "com/example/acervo/acervo/index/DocumentValue$Kind")) (by decide)
      have F_b56_number : Fld Z h56 b56 "com/example/acervo/acervo/index/DocumentValue" "number" "J" (.long (0 : Int64)) := D56 (Or.inr (hw _ (List.mem_of_getElem? (i := 22) rfl))) (ty := .long) (by decide)
      have K56 : ∀ t, Steps p.tables e below (T56.setTop (mkF m 133 #[.val (.int p0), .val (.long q1), .second, .val (.long q2), .second, .val (.int p3), .val (.int (w0_m1 p0)), .val (.int (w0_m2 p0)), .val (.int (p3 &&& (3 : Int32))), .val (.long (w0_m3 q1 q2 p3)), .second, .val (.long (w0_m4 p0 q1)), .second, .val (.long (w0_m5 p0 q1 q2 p3)), .second, .val (.ref ob1), .val (.ref ob1), .unset, .unset, .unset, .unset] [(.ref b56)])) t → Steps p.tables e below S0 t := fun t k => K55 t (st56 t k)
      have K57 : ∀ t, Steps p.tables e below (T56.setTop (mkF m 138 #[.val (.int p0), .val (.long q1), .second, .val (.long q2), .second, .val (.int p3), .val (.int (w0_m1 p0)), .val (.int (w0_m2 p0)), .val (.int (p3 &&& (3 : Int32))), .val (.long (w0_m3 q1 q2 p3)), .second, .val (.long (w0_m4 p0 q1)), .second, .val (.long (w0_m5 p0 q1 q2 p3)), .second, .val (.ref ob1), .val (.ref ob1), .unset, .unset, .unset, .unset] [(.long (w0_m4 p0 q1)), (.ref ob1), (.ref b56), (.ref b56)])) t → Steps p.tables e below S0 t := fun t k => K56 t (by
        refine XS.dup X56.here hx rfl (hb hby at_133) rfl rfl ?_
        show Steps p.tables e below (T56.setTop (mkF m 134 #[.val (.int p0), .val (.long q1), .second, .val (.long q2), .second, .val (.int p3), .val (.int (w0_m1 p0)), .val (.int (w0_m2 p0)), .val (.int (p3 &&& (3 : Int32))), .val (.long (w0_m3 q1 q2 p3)), .second, .val (.long (w0_m4 p0 q1)), .second, .val (.long (w0_m5 p0 q1 q2 p3)), .second, .val (.ref ob1), .val (.ref ob1), .unset, .unset, .unset, .unset] [(.ref b56), (.ref b56)])) _
        refine XS.aload X56.here hx rfl (hb hby at_134) rfl rfl ?_
        show Steps p.tables e below (T56.setTop (mkF m 136 #[.val (.int p0), .val (.long q1), .second, .val (.long q2), .second, .val (.int p3), .val (.int (w0_m1 p0)), .val (.int (w0_m2 p0)), .val (.int (p3 &&& (3 : Int32))), .val (.long (w0_m3 q1 q2 p3)), .second, .val (.long (w0_m4 p0 q1)), .second, .val (.long (w0_m5 p0 q1 q2 p3)), .second, .val (.ref ob1), .val (.ref ob1), .unset, .unset, .unset, .unset] [(.ref ob1), (.ref b56), (.ref b56)])) _
        refine XS.lload X56.here hx rfl (hb hby at_136) rfl ?_
        show Steps p.tables e below (T56.setTop (mkF m 138 #[.val (.int p0), .val (.long q1), .second, .val (.long q2), .second, .val (.int p3), .val (.int (w0_m1 p0)), .val (.int (w0_m2 p0)), .val (.int (p3 &&& (3 : Int32))), .val (.long (w0_m3 q1 q2 p3)), .second, .val (.long (w0_m4 p0 q1)), .second, .val (.long (w0_m5 p0 q1 q2 p3)), .second, .val (.ref ob1), .val (.ref ob1), .unset, .unset, .unset, .unset] [(.long (w0_m4 p0 q1)), (.ref ob1), (.ref b56), (.ref b56)])) _
        exact k)
      have K_58 : ∀ t, Steps p.tables e below (T56.setTop (mkF m 138 #[.val (.int p0), .val (.long q1), .second, .val (.long q2), .second, .val (.int p3), .val (.int (w0_m1 p0)), .val (.int (w0_m2 p0)), .val (.int (p3 &&& (3 : Int32))), .val (.long (w0_m3 q1 q2 p3)), .second, .val (.long (w0_m4 p0 q1)), .second, .val (.long (w0_m5 p0 q1 q2 p3)), .second, .val (.ref ob1), .val (.ref ob1), .unset, .unset, .unset, .unset] [(.long (w0_m4 p0 q1)), (.ref ob1), (.ref b56), (.ref b56)])) t → Steps p.tables e below S0 t := K57
      obtain ⟨_, _, ⟨T59, L59, k59, n59⟩, -, X59, ⟨Lc59, hQ59, l59, y59, z59⟩, st59⟩ := X56.specialBack hx (y := (⟨"com/example/acervo/acervo/index/DocumentValue", "<init>", "(Lcom/example/acervo/acervo/index/DocumentValue$Kind;J)V"⟩ : MethodName)) rfl hown (mvT hZ (hw _ (List.mem_of_getElem? (i := 6) rfl))) (mvT hZ (hw _ (List.mem_of_getElem? (i := 7) rfl))) (mvT hZ (hw _ (List.mem_of_getElem? (i := 8) rfl))) (by decide) (backOf (W := 1) (rm5 l Z a0 hw [] b56 ob1 (w0_m4 p0 q1) ob2 h56 n0 Zs56 A56 F_b56_kind F_b56_number g_b56 S_DocumentValue_Kind_DATE__56 ne_ob1_ob2) hZ (hw _ (List.mem_of_getElem? (i := 8) rfl)) (hw _ (List.mem_of_getElem? (i := 5) rfl)) (by decide) (by decide)) (g := (mkF m 138 #[.val (.int p0), .val (.long q1), .second, .val (.long q2), .second, .val (.int p3), .val (.int (w0_m1 p0)), .val (.int (w0_m2 p0)), .val (.int (p3 &&& (3 : Int32))), .val (.long (w0_m3 q1 q2 p3)), .second, .val (.long (w0_m4 p0 q1)), .second, .val (.long (w0_m5 p0 q1 q2 p3)), .second, .val (.ref ob1), .val (.ref ob1), .unset, .unset, .unset, .unset] [(.long (w0_m4 p0 q1)), (.ref ob1), (.ref b56), (.ref b56)])) rfl (by rw [hml]; rfl) (Steps.refl _) (a := b56) (argsL := [(.ref ob1), (.long (w0_m4 p0 q1))]) (rest := [(.ref b56)]) (lenOf pd0_1 rfl) rfl (by show 2 * 0 + _ ≤ _; exact Nat.le_of_eq rfl) (hb hby at_138) (fun _ _ => ⟨rfl, e56, (by decide : 1 + 0 ≤ 16), (by decide : 2 + 0 ≤ 128)⟩)
      dsimp only [Pt.U, Pt.locs, Pt.cells, Pt.slots] at X59 l59 y59 z59 st59 hQ59
      subst l59 y59 z59
      obtain ⟨rfl, N59q, Kp59, Fn59_0, Fn59_1, Fn59_2⟩ := hQ59
      have N59 := Fr.app N26 N59q
      have OL59 := OL56.keep Kp59 (allS (P := fun x => n0 ≤ x) g_b56 all0)
      have S_DocumentValue_Kind_NUMBER__59 := S_DocumentValue_Kind_NUMBER.ext OL59.2
      have S_DocumentValue_Kind_DATE__59 := S_DocumentValue_Kind_DATE.ext OL59.2
      have E_ob1__59 := E_ob1.ext OL59.2
      have E_ob2__59 := E_ob2.ext OL59.2
      have S_Long_LongCache_cache__59 := S_Long_LongCache_cache.ext OL59.2
      have Ar_oc__59 := Ar_oc.ext OL59.2
      have Zs59 : n0 ≤ T59.heap.size := Nat.le_trans Zs56 Kp59.1
      have K59 : ∀ t, Steps p.tables e below (T59.setTop (mkF m 141 #[.val (.int p0), .val (.long q1), .second, .val (.long q2), .second, .val (.int p3), .val (.int (w0_m1 p0)), .val (.int (w0_m2 p0)), .val (.int (p3 &&& (3 : Int32))), .val (.long (w0_m3 q1 q2 p3)), .second, .val (.long (w0_m4 p0 q1)), .second, .val (.long (w0_m5 p0 q1 q2 p3)), .second, .val (.ref ob1), .val (.ref ob1), .unset, .unset, .unset, .unset] [(.ref b56)])) t → Steps p.tables e below S0 t := fun t k => K_58 t (st59.trans k)
      have K60 : ∀ t, Steps p.tables e below (T59.setTop (mkF m 143 #[.val (.int p0), .val (.long q1), .second, .val (.long q2), .second, .val (.int p3), .val (.int (w0_m1 p0)), .val (.int (w0_m2 p0)), .val (.int (p3 &&& (3 : Int32))), .val (.long (w0_m3 q1 q2 p3)), .second, .val (.long (w0_m4 p0 q1)), .second, .val (.long (w0_m5 p0 q1 q2 p3)), .second, .val (.ref ob1), .val (.ref ob1), .val (.ref b56), .unset, .unset, .unset] [])) t → Steps p.tables e below S0 t := fun t k => K59 t (by
        refine XS.astore X59.here hx rfl (hb hby at_141) rfl rfl (l' := #[.val (.int p0), .val (.long q1), .second, .val (.long q2), .second, .val (.int p3), .val (.int (w0_m1 p0)), .val (.int (w0_m2 p0)), .val (.int (p3 &&& (3 : Int32))), .val (.long (w0_m3 q1 q2 p3)), .second, .val (.long (w0_m4 p0 q1)), .second, .val (.long (w0_m5 p0 q1 q2 p3)), .second, .val (.ref ob1), .val (.ref ob1), .val (.ref b56), .unset, .unset, .unset]) rfl ?_
        show Steps p.tables e below (T59.setTop (mkF m 143 #[.val (.int p0), .val (.long q1), .second, .val (.long q2), .second, .val (.int p3), .val (.int (w0_m1 p0)), .val (.int (w0_m2 p0)), .val (.int (p3 &&& (3 : Int32))), .val (.long (w0_m3 q1 q2 p3)), .second, .val (.long (w0_m4 p0 q1)), .second, .val (.long (w0_m5 p0 q1 q2 p3)), .second, .val (.ref ob1), .val (.ref ob1), .val (.ref b56), .unset, .unset, .unset] [])) _
        exact k)
      obtain ⟨T61, h61, X61, e61, E61, A61, D61, -, st61⟩ := newO X59 hx hZ hown (hw _ (List.mem_of_getElem? (i := 3) rfl)) (hw _ (List.mem_of_getElem? (i := 4) rfl)) (hw _ (List.mem_of_getElem? (i := 5) rfl)) rfl (g := (mkF m 143 #[.val (.int p0), .val (.long q1), .second, .val (.long q2), .second, .val (.int p3), .val (.int (w0_m1 p0)), .val (.int (w0_m2 p0)), .val (.int (p3 &&& (3 : Int32))), .val (.long (w0_m3 q1 q2 p3)), .second, .val (.long (w0_m4 p0 q1)), .second, .val (.long (w0_m5 p0 q1 q2 p3)), .second, .val (.ref ob1), .val (.ref ob1), .val (.ref b56), .unset, .unset, .unset] [])) rfl (hb hby at_143) (by decide) (by decide)
      obtain ⟨b61, g61⟩ : ∃ z, z = T59.heap.size := ⟨_, rfl⟩
      rw [← g61] at A61 D61 st61
      have ne_ob1_b61 : ob1 ≠ b61 := Nat.ne_of_lt (Nat.lt_of_lt_of_le E_ob1__59.lt (Nat.le_of_eq g61.symm))
      have ne_ob2_b61 : ob2 ≠ b61 := Nat.ne_of_lt (Nat.lt_of_lt_of_le E_ob2__59.lt (Nat.le_of_eq g61.symm))
      have ne_oc_b61 : oc ≠ b61 := Nat.ne_of_lt (Nat.lt_of_lt_of_le Ar_oc__59.lt (Nat.le_of_eq g61.symm))
      have ne_b56_b61 : b56 ≠ b61 := Nat.ne_of_lt (Nat.lt_of_lt_of_le Fn59_0.lt (Nat.le_of_eq g61.symm))
      have OL61 := OL59.ext E61
      have S_DocumentValue_Kind_NUMBER__61 := S_DocumentValue_Kind_NUMBER.ext OL61.2
      have S_DocumentValue_Kind_DATE__61 := S_DocumentValue_Kind_DATE.ext OL61.2
      have E_ob1__61 := E_ob1.ext OL61.2
      have E_ob2__61 := E_ob2.ext OL61.2
      have S_Long_LongCache_cache__61 := S_Long_LongCache_cache.ext OL61.2
      have Ar_oc__61 := Ar_oc.ext OL61.2
      have Fn59_0__61 := Fn59_0.ext E61
      have Fn59_1__61 := Fn59_1.ext E61
      have Fn59_2__61 := Fn59_2.ext E61
      have g_b61 : n0 ≤ b61 := Nat.le_trans Zs59 (Nat.le_of_eq g61.symm)
      have Zs61 : n0 ≤ h61.size := Nat.le_trans Zs59 E61.1
      have F_b61_kind : Fld Z h61 b61 "com/example/acervo/acervo/index/DocumentValue" "kind" "Lcom/example/acervo/acervo/index/DocumentValue$Kind;" .null := D61 (Or.inr (hw _ (List.mem_of_getElem? (i := 20) rfl))) (ty := (.object "com/example/acervo/acervo/index/DocumentValue$Kind")) (by decide)
      have F_b61_number : Fld Z h61 b61 "com/example/acervo/acervo/index/DocumentValue" "number" "J" (.long (0 : Int64)) := D61 (Or.inr (hw _ (List.mem_of_getElem? (i := 22) rfl))) (ty := .long) (by decide)
      have K61 : ∀ t, Steps p.tables e below (T61.setTop (mkF m 146 #[.val (.int p0), .val (.long q1), .second, .val (.long q2), .second, .val (.int p3), .val (.int (w0_m1 p0)), .val (.int (w0_m2 p0)), .val (.int (p3 &&& (3 : Int32))), .val (.long (w0_m3 q1 q2 p3)), .second, .val (.long (w0_m4 p0 q1)), .second, .val (.long (w0_m5 p0 q1 q2 p3)), .second, .val (.ref ob1), .val (.ref ob1), .val (.ref b56), .unset, .unset, .unset] [(.ref b61)])) t → Steps p.tables e below S0 t := fun t k => K60 t (st61 t k)
      have K62 : ∀ t, Steps p.tables e below (T61.setTop (mkF m 151 #[.val (.int p0), .val (.long q1), .second, .val (.long q2), .second, .val (.int p3), .val (.int (w0_m1 p0)), .val (.int (w0_m2 p0)), .val (.int (p3 &&& (3 : Int32))), .val (.long (w0_m3 q1 q2 p3)), .second, .val (.long (w0_m4 p0 q1)), .second, .val (.long (w0_m5 p0 q1 q2 p3)), .second, .val (.ref ob1), .val (.ref ob1), .val (.ref b56), .unset, .unset, .unset] [(.long (w0_m5 p0 q1 q2 p3)), (.ref ob1), (.ref b61), (.ref b61)])) t → Steps p.tables e below S0 t := fun t k => K61 t (by
        refine XS.dup X61.here hx rfl (hb hby at_146) rfl rfl ?_
        show Steps p.tables e below (T61.setTop (mkF m 147 #[.val (.int p0), .val (.long q1), .second, .val (.long q2), .second, .val (.int p3), .val (.int (w0_m1 p0)), .val (.int (w0_m2 p0)), .val (.int (p3 &&& (3 : Int32))), .val (.long (w0_m3 q1 q2 p3)), .second, .val (.long (w0_m4 p0 q1)), .second, .val (.long (w0_m5 p0 q1 q2 p3)), .second, .val (.ref ob1), .val (.ref ob1), .val (.ref b56), .unset, .unset, .unset] [(.ref b61), (.ref b61)])) _
        refine XS.aload X61.here hx rfl (hb hby at_147) rfl rfl ?_
        show Steps p.tables e below (T61.setTop (mkF m 149 #[.val (.int p0), .val (.long q1), .second, .val (.long q2), .second, .val (.int p3), .val (.int (w0_m1 p0)), .val (.int (w0_m2 p0)), .val (.int (p3 &&& (3 : Int32))), .val (.long (w0_m3 q1 q2 p3)), .second, .val (.long (w0_m4 p0 q1)), .second, .val (.long (w0_m5 p0 q1 q2 p3)), .second, .val (.ref ob1), .val (.ref ob1), .val (.ref b56), .unset, .unset, .unset] [(.ref ob1), (.ref b61), (.ref b61)])) _
        refine XS.lload X61.here hx rfl (hb hby at_149) rfl ?_
        show Steps p.tables e below (T61.setTop (mkF m 151 #[.val (.int p0), .val (.long q1), .second, .val (.long q2), .second, .val (.int p3), .val (.int (w0_m1 p0)), .val (.int (w0_m2 p0)), .val (.int (p3 &&& (3 : Int32))), .val (.long (w0_m3 q1 q2 p3)), .second, .val (.long (w0_m4 p0 q1)), .second, .val (.long (w0_m5 p0 q1 q2 p3)), .second, .val (.ref ob1), .val (.ref ob1), .val (.ref b56), .unset, .unset, .unset] [(.long (w0_m5 p0 q1 q2 p3)), (.ref ob1), (.ref b61), (.ref b61)])) _
        exact k)
      have K_63 : ∀ t, Steps p.tables e below (T61.setTop (mkF m 151 #[.val (.int p0), .val (.long q1), .second, .val (.long q2), .second, .val (.int p3), .val (.int (w0_m1 p0)), .val (.int (w0_m2 p0)), .val (.int (p3 &&& (3 : Int32))), .val (.long (w0_m3 q1 q2 p3)), .second, .val (.long (w0_m4 p0 q1)), .second, .val (.long (w0_m5 p0 q1 q2 p3)), .second, .val (.ref ob1), .val (.ref ob1), .val (.ref b56), .unset, .unset, .unset] [(.long (w0_m5 p0 q1 q2 p3)), (.ref ob1), (.ref b61), (.ref b61)])) t → Steps p.tables e below S0 t := K62
      obtain ⟨_, _, ⟨T64, L64, k64, n64⟩, -, X64, ⟨Lc64, hQ64, l64, y64, z64⟩, st64⟩ := X61.specialBack hx (y := (⟨"com/example/acervo/acervo/index/DocumentValue", "<init>", "(Lcom/example/acervo/acervo/index/DocumentValue$Kind;J)V"⟩ : MethodName)) rfl hown (mvT hZ (hw _ (List.mem_of_getElem? (i := 6) rfl))) (mvT hZ (hw _ (List.mem_of_getElem? (i := 7) rfl))) (mvT hZ (hw _ (List.mem_of_getElem? (i := 8) rfl))) (by decide) (backOf (W := 1) (rm5 l Z a0 hw [] b61 ob1 (w0_m5 p0 q1 q2 p3) ob2 h61 n0 Zs61 A61 F_b61_kind F_b61_number g_b61 S_DocumentValue_Kind_DATE__61 ne_ob1_ob2) hZ (hw _ (List.mem_of_getElem? (i := 8) rfl)) (hw _ (List.mem_of_getElem? (i := 5) rfl)) (by decide) (by decide)) (g := (mkF m 151 #[.val (.int p0), .val (.long q1), .second, .val (.long q2), .second, .val (.int p3), .val (.int (w0_m1 p0)), .val (.int (w0_m2 p0)), .val (.int (p3 &&& (3 : Int32))), .val (.long (w0_m3 q1 q2 p3)), .second, .val (.long (w0_m4 p0 q1)), .second, .val (.long (w0_m5 p0 q1 q2 p3)), .second, .val (.ref ob1), .val (.ref ob1), .val (.ref b56), .unset, .unset, .unset] [(.long (w0_m5 p0 q1 q2 p3)), (.ref ob1), (.ref b61), (.ref b61)])) rfl (by rw [hml]; rfl) (Steps.refl _) (a := b61) (argsL := [(.ref ob1), (.long (w0_m5 p0 q1 q2 p3))]) (rest := [(.ref b61)]) (lenOf pd0_1 rfl) rfl (by show 2 * 0 + _ ≤ _; exact Nat.le_of_eq rfl) (hb hby at_151) (fun _ _ => ⟨rfl, e61, (by decide : 2 + 0 ≤ 16), (by decide : 4 + 0 ≤ 128)⟩)
      dsimp only [Pt.U, Pt.locs, Pt.cells, Pt.slots] at X64 l64 y64 z64 st64 hQ64
      subst l64 y64 z64
      obtain ⟨rfl, N64q, Kp64, Fn64_0, Fn64_1, Fn64_2⟩ := hQ64
      have N64 := Fr.app N59 N64q
      have OL64 := OL61.keep Kp64 (allS (P := fun x => n0 ≤ x) g_b61 all0)
      have S_DocumentValue_Kind_NUMBER__64 := S_DocumentValue_Kind_NUMBER.ext OL64.2
      have S_DocumentValue_Kind_DATE__64 := S_DocumentValue_Kind_DATE.ext OL64.2
      have E_ob1__64 := E_ob1.ext OL64.2
      have E_ob2__64 := E_ob2.ext OL64.2
      have S_Long_LongCache_cache__64 := S_Long_LongCache_cache.ext OL64.2
      have Ar_oc__64 := Ar_oc.ext OL64.2
      have Fn59_0__64 := Fn59_0__61.keep Kp64
      have Fn59_1__64 := Fn59_1__61.keep Kp64 (ninS ne_b56_b61 nin0)
      have Fn59_2__64 := Fn59_2__61.keep Kp64 (ninS ne_b56_b61 nin0)
      have Zs64 : n0 ≤ T64.heap.size := Nat.le_trans Zs61 Kp64.1
      have K64 : ∀ t, Steps p.tables e below (T64.setTop (mkF m 154 #[.val (.int p0), .val (.long q1), .second, .val (.long q2), .second, .val (.int p3), .val (.int (w0_m1 p0)), .val (.int (w0_m2 p0)), .val (.int (p3 &&& (3 : Int32))), .val (.long (w0_m3 q1 q2 p3)), .second, .val (.long (w0_m4 p0 q1)), .second, .val (.long (w0_m5 p0 q1 q2 p3)), .second, .val (.ref ob1), .val (.ref ob1), .val (.ref b56), .unset, .unset, .unset] [(.ref b61)])) t → Steps p.tables e below S0 t := fun t k => K_63 t (st64.trans k)
      have K65 : ∀ t, Steps p.tables e below (T64.setTop (mkF m 167 #[.val (.int p0), .val (.long q1), .second, .val (.long q2), .second, .val (.int p3), .val (.int (w0_m1 p0)), .val (.int (w0_m2 p0)), .val (.int (p3 &&& (3 : Int32))), .val (.long (w0_m3 q1 q2 p3)), .second, .val (.long (w0_m4 p0 q1)), .second, .val (.long (w0_m5 p0 q1 q2 p3)), .second, .val (.ref ob1), .val (.ref ob1), .val (.ref b56), .val (.ref b61), .val (.int (w0_6 p3)), .unset] [(.int (1 : Int32)), (.int (w0_6 p3))])) t → Steps p.tables e below S0 t := fun t k => K64 t (by
        refine XS.astore X64.here hx rfl (hb hby at_154) rfl rfl (l' := #[.val (.int p0), .val (.long q1), .second, .val (.long q2), .second, .val (.int p3), .val (.int (w0_m1 p0)), .val (.int (w0_m2 p0)), .val (.int (p3 &&& (3 : Int32))), .val (.long (w0_m3 q1 q2 p3)), .second, .val (.long (w0_m4 p0 q1)), .second, .val (.long (w0_m5 p0 q1 q2 p3)), .second, .val (.ref ob1), .val (.ref ob1), .val (.ref b56), .val (.ref b61), .unset, .unset]) rfl ?_
        show Steps p.tables e below (T64.setTop (mkF m 156 #[.val (.int p0), .val (.long q1), .second, .val (.long q2), .second, .val (.int p3), .val (.int (w0_m1 p0)), .val (.int (w0_m2 p0)), .val (.int (p3 &&& (3 : Int32))), .val (.long (w0_m3 q1 q2 p3)), .second, .val (.long (w0_m4 p0 q1)), .second, .val (.long (w0_m5 p0 q1 q2 p3)), .second, .val (.ref ob1), .val (.ref ob1), .val (.ref b56), .val (.ref b61), .unset, .unset] [])) _
        refine XS.iload X64.here hx rfl (hb hby at_156) rfl ?_
        show Steps p.tables e below (T64.setTop (mkF m 158 #[.val (.int p0), .val (.long q1), .second, .val (.long q2), .second, .val (.int p3), .val (.int (w0_m1 p0)), .val (.int (w0_m2 p0)), .val (.int (p3 &&& (3 : Int32))), .val (.long (w0_m3 q1 q2 p3)), .second, .val (.long (w0_m4 p0 q1)), .second, .val (.long (w0_m5 p0 q1 q2 p3)), .second, .val (.ref ob1), .val (.ref ob1), .val (.ref b56), .val (.ref b61), .unset, .unset] [(.int p3)])) _
        refine XS.iconst X64.here hx rfl (hb hby at_158) ?_
        show Steps p.tables e below (T64.setTop (mkF m 159 #[.val (.int p0), .val (.long q1), .second, .val (.long q2), .second, .val (.int p3), .val (.int (w0_m1 p0)), .val (.int (w0_m2 p0)), .val (.int (p3 &&& (3 : Int32))), .val (.long (w0_m3 q1 q2 p3)), .second, .val (.long (w0_m4 p0 q1)), .second, .val (.long (w0_m5 p0 q1 q2 p3)), .second, .val (.ref ob1), .val (.ref ob1), .val (.ref b56), .val (.ref b61), .unset, .unset] [(.int (2 : Int32)), (.int p3)])) _
        refine XS.ishr X64.here hx rfl (hb hby at_159) rfl ?_
        show Steps p.tables e below (T64.setTop (mkF m 160 #[.val (.int p0), .val (.long q1), .second, .val (.long q2), .second, .val (.int p3), .val (.int (w0_m1 p0)), .val (.int (w0_m2 p0)), .val (.int (p3 &&& (3 : Int32))), .val (.long (w0_m3 q1 q2 p3)), .second, .val (.long (w0_m4 p0 q1)), .second, .val (.long (w0_m5 p0 q1 q2 p3)), .second, .val (.ref ob1), .val (.ref ob1), .val (.ref b56), .val (.ref b61), .unset, .unset] [(.int (p3 >>> ((2 : Int32) &&& 31)))])) _
        refine XS.iconst X64.here hx rfl (hb hby at_160) ?_
        show Steps p.tables e below (T64.setTop (mkF m 161 #[.val (.int p0), .val (.long q1), .second, .val (.long q2), .second, .val (.int p3), .val (.int (w0_m1 p0)), .val (.int (w0_m2 p0)), .val (.int (p3 &&& (3 : Int32))), .val (.long (w0_m3 q1 q2 p3)), .second, .val (.long (w0_m4 p0 q1)), .second, .val (.long (w0_m5 p0 q1 q2 p3)), .second, .val (.ref ob1), .val (.ref ob1), .val (.ref b56), .val (.ref b61), .unset, .unset] [(.int (3 : Int32)), (.int (p3 >>> ((2 : Int32) &&& 31)))])) _
        refine XS.iand X64.here hx rfl (hb hby at_161) rfl ?_
        show Steps p.tables e below (T64.setTop (mkF m 162 #[.val (.int p0), .val (.long q1), .second, .val (.long q2), .second, .val (.int p3), .val (.int (w0_m1 p0)), .val (.int (w0_m2 p0)), .val (.int (p3 &&& (3 : Int32))), .val (.long (w0_m3 q1 q2 p3)), .second, .val (.long (w0_m4 p0 q1)), .second, .val (.long (w0_m5 p0 q1 q2 p3)), .second, .val (.ref ob1), .val (.ref ob1), .val (.ref b56), .val (.ref b61), .unset, .unset] [(.int ((p3 >>> ((2 : Int32) &&& 31)) &&& (3 : Int32)))])) _
        refine XS.istore X64.here hx rfl (hb hby at_162) rfl (l' := #[.val (.int p0), .val (.long q1), .second, .val (.long q2), .second, .val (.int p3), .val (.int (w0_m1 p0)), .val (.int (w0_m2 p0)), .val (.int (p3 &&& (3 : Int32))), .val (.long (w0_m3 q1 q2 p3)), .second, .val (.long (w0_m4 p0 q1)), .second, .val (.long (w0_m5 p0 q1 q2 p3)), .second, .val (.ref ob1), .val (.ref ob1), .val (.ref b56), .val (.ref b61), .val (.int (w0_6 p3)), .unset]) rfl ?_
        show Steps p.tables e below (T64.setTop (mkF m 164 #[.val (.int p0), .val (.long q1), .second, .val (.long q2), .second, .val (.int p3), .val (.int (w0_m1 p0)), .val (.int (w0_m2 p0)), .val (.int (p3 &&& (3 : Int32))), .val (.long (w0_m3 q1 q2 p3)), .second, .val (.long (w0_m4 p0 q1)), .second, .val (.long (w0_m5 p0 q1 q2 p3)), .second, .val (.ref ob1), .val (.ref ob1), .val (.ref b56), .val (.ref b61), .val (.int (w0_6 p3)), .unset] [])) _
        refine XS.iload X64.here hx rfl (hb hby at_164) rfl ?_
        show Steps p.tables e below (T64.setTop (mkF m 166 #[.val (.int p0), .val (.long q1), .second, .val (.long q2), .second, .val (.int p3), .val (.int (w0_m1 p0)), .val (.int (w0_m2 p0)), .val (.int (p3 &&& (3 : Int32))), .val (.long (w0_m3 q1 q2 p3)), .second, .val (.long (w0_m4 p0 q1)), .second, .val (.long (w0_m5 p0 q1 q2 p3)), .second, .val (.ref ob1), .val (.ref ob1), .val (.ref b56), .val (.ref b61), .val (.int (w0_6 p3)), .unset] [(.int (w0_6 p3))])) _
        refine XS.iconst X64.here hx rfl (hb hby at_166) ?_
        show Steps p.tables e below (T64.setTop (mkF m 167 #[.val (.int p0), .val (.long q1), .second, .val (.long q2), .second, .val (.int p3), .val (.int (w0_m1 p0)), .val (.int (w0_m2 p0)), .val (.int (p3 &&& (3 : Int32))), .val (.long (w0_m3 q1 q2 p3)), .second, .val (.long (w0_m4 p0 q1)), .second, .val (.long (w0_m5 p0 q1 q2 p3)), .second, .val (.ref ob1), .val (.ref ob1), .val (.ref b56), .val (.ref b61), .val (.int (w0_6 p3)), .unset] [(.int (1 : Int32)), (.int (w0_6 p3))])) _
        exact k)
      by_cases hc167_2 : (w0_6 p3) = (1 : Int32)
      · -- yes
        have K66 : ∀ t, Steps p.tables e below (T64.setTop (mkF m 173 #[.val (.int p0), .val (.long q1), .second, .val (.long q2), .second, .val (.int p3), .val (.int (w0_m1 p0)), .val (.int (w0_m2 p0)), .val (.int (p3 &&& (3 : Int32))), .val (.long (w0_m3 q1 q2 p3)), .second, .val (.long (w0_m4 p0 q1)), .second, .val (.long (w0_m5 p0 q1 q2 p3)), .second, .val (.ref ob1), .val (.ref ob1), .val (.ref b56), .val (.ref b61), .val (.int (w0_6 p3)), .unset] [.null, (.ref b56)])) t → Steps p.tables e below S0 t := fun t k => K65 t (by
          refine XS.icmpNo X64.here hx rfl (hb hby at_167) rfl (XT.ii_ne_f hc167_2) ?_
          show Steps p.tables e below (T64.setTop (mkF m 170 #[.val (.int p0), .val (.long q1), .second, .val (.long q2), .second, .val (.int p3), .val (.int (w0_m1 p0)), .val (.int (w0_m2 p0)), .val (.int (p3 &&& (3 : Int32))), .val (.long (w0_m3 q1 q2 p3)), .second, .val (.long (w0_m4 p0 q1)), .second, .val (.long (w0_m5 p0 q1 q2 p3)), .second, .val (.ref ob1), .val (.ref ob1), .val (.ref b56), .val (.ref b61), .val (.int (w0_6 p3)), .unset] [])) _
          refine XS.aload X64.here hx rfl (hb hby at_170) rfl rfl ?_
          show Steps p.tables e below (T64.setTop (mkF m 172 #[.val (.int p0), .val (.long q1), .second, .val (.long q2), .second, .val (.int p3), .val (.int (w0_m1 p0)), .val (.int (w0_m2 p0)), .val (.int (p3 &&& (3 : Int32))), .val (.long (w0_m3 q1 q2 p3)), .second, .val (.long (w0_m4 p0 q1)), .second, .val (.long (w0_m5 p0 q1 q2 p3)), .second, .val (.ref ob1), .val (.ref ob1), .val (.ref b56), .val (.ref b61), .val (.int (w0_6 p3)), .unset] [(.ref b56)])) _
          refine XS.aconstNull X64.here hx rfl (hb hby at_172) ?_
          show Steps p.tables e below (T64.setTop (mkF m 173 #[.val (.int p0), .val (.long q1), .second, .val (.long q2), .second, .val (.int p3), .val (.int (w0_m1 p0)), .val (.int (w0_m2 p0)), .val (.int (p3 &&& (3 : Int32))), .val (.long (w0_m3 q1 q2 p3)), .second, .val (.long (w0_m4 p0 q1)), .second, .val (.long (w0_m5 p0 q1 q2 p3)), .second, .val (.ref ob1), .val (.ref ob1), .val (.ref b56), .val (.ref b61), .val (.int (w0_6 p3)), .unset] [.null, (.ref b56)])) _
          exact k)
        have K_67 : ∀ t, Steps p.tables e below (T64.setTop (mkF m 173 #[.val (.int p0), .val (.long q1), .second, .val (.long q2), .second, .val (.int p3), .val (.int (w0_m1 p0)), .val (.int (w0_m2 p0)), .val (.int (p3 &&& (3 : Int32))), .val (.long (w0_m3 q1 q2 p3)), .second, .val (.long (w0_m4 p0 q1)), .second, .val (.long (w0_m5 p0 q1 q2 p3)), .second, .val (.ref ob1), .val (.ref ob1), .val (.ref b56), .val (.ref b61), .val (.int (w0_6 p3)), .unset] [.null, (.ref b56)])) t → Steps p.tables e below S0 t := K66
        obtain ⟨cq68, kq68, q68a, q68b, q68c⟩ := isOf hZ rfl Fn59_0__64
        obtain ⟨_, _, ⟨T68, L68, k68, n68⟩, -, X68, ⟨Lc68, hQ68, l68, y68, z68⟩, st68⟩ := X64.virtualBack hx (y := (⟨"com/example/acervo/acervo/index/DocumentValue", "equals", "(Ljava/lang/Object;)Z"⟩ : MethodName)) (z := (⟨"com/example/acervo/acervo/index/DocumentValue", "equals", "(Ljava/lang/Object;)Z"⟩ : MethodName)) hown (mvT hZ (hw _ (List.mem_of_getElem? (i := 23) rfl))) (mvT hZ (hw _ (List.mem_of_getElem? (i := 24) rfl))) (notFace_of_selects (args := #[]) (mvT hZ (hw _ (List.mem_of_getElem? (i := 26) rfl)))) (mvT hZ (hw _ (List.mem_of_getElem? (i := 26) rfl))) (mvT hZ (hw _ (List.mem_of_getElem? (i := 25) rfl))) (by decide) (backOf (W := 0) (rm8 l Z a0 hw [] b56 T64.heap n0 Zs64 ) hZ (hw _ (List.mem_of_getElem? (i := 27) rfl)) (hw _ (List.mem_of_getElem? (i := 5) rfl)) (by decide) (by decide)) q68a q68c (g := (mkF m 173 #[.val (.int p0), .val (.long q1), .second, .val (.long q2), .second, .val (.int p3), .val (.int (w0_m1 p0)), .val (.int (w0_m2 p0)), .val (.int (p3 &&& (3 : Int32))), .val (.long (w0_m3 q1 q2 p3)), .second, .val (.long (w0_m4 p0 q1)), .second, .val (.long (w0_m5 p0 q1 q2 p3)), .second, .val (.ref ob1), .val (.ref ob1), .val (.ref b56), .val (.ref b61), .val (.int (w0_6 p3)), .unset] [.null, (.ref b56)])) rfl (by rw [hml]; rfl) (Steps.refl _) (argsL := [.null]) (rest := []) (lenOf pd0_2 rfl) rfl (by show 2 * 0 + _ ≤ _; exact Nat.le_of_eq rfl) (hb hby at_173) (fun _ _ => ⟨rfl, rfl, (by decide : 2 + 0 ≤ 16), (by decide : 4 + 0 ≤ 128)⟩)
        dsimp only [Pt.U, Pt.locs, Pt.cells, Pt.slots] at X68 l68 y68 z68 st68 hQ68
        subst l68 y68 z68
        obtain ⟨rfl, N68q, e68⟩ := hQ68
        have N68 := Fr.app N64 N68q
        have K68 : ∀ t, Steps p.tables e below (T68.setTop (mkF m 176 #[.val (.int p0), .val (.long q1), .second, .val (.long q2), .second, .val (.int p3), .val (.int (w0_m1 p0)), .val (.int (w0_m2 p0)), .val (.int (p3 &&& (3 : Int32))), .val (.long (w0_m3 q1 q2 p3)), .second, .val (.long (w0_m4 p0 q1)), .second, .val (.long (w0_m5 p0 q1 q2 p3)), .second, .val (.ref ob1), .val (.ref ob1), .val (.ref b56), .val (.ref b61), .val (.int (w0_6 p3)), .unset] [(.int (0 : Int32))])) t → Steps p.tables e below S0 t := fun t k => K_67 t (st68.trans k)
        have K69 : ∀ t, Steps p.tables e below (T68.setTop (mkF m 184 #[.val (.int p0), .val (.long q1), .second, .val (.long q2), .second, .val (.int p3), .val (.int (w0_m1 p0)), .val (.int (w0_m2 p0)), .val (.int (p3 &&& (3 : Int32))), .val (.long (w0_m3 q1 q2 p3)), .second, .val (.long (w0_m4 p0 q1)), .second, .val (.long (w0_m5 p0 q1 q2 p3)), .second, .val (.ref ob1), .val (.ref ob1), .val (.ref b56), .val (.ref b61), .val (.int (w0_6 p3)), .unset] [(.int (1 : Int32))])) t → Steps p.tables e below S0 t := fun t k => K68 t (by
          refine XS.ifNo X68.here hx rfl (hb hby at_176) rfl (XT.i0_ne_f (by decide)) ?_
          show Steps p.tables e below (T68.setTop (mkF m 179 #[.val (.int p0), .val (.long q1), .second, .val (.long q2), .second, .val (.int p3), .val (.int (w0_m1 p0)), .val (.int (w0_m2 p0)), .val (.int (p3 &&& (3 : Int32))), .val (.long (w0_m3 q1 q2 p3)), .second, .val (.long (w0_m4 p0 q1)), .second, .val (.long (w0_m5 p0 q1 q2 p3)), .second, .val (.ref ob1), .val (.ref ob1), .val (.ref b56), .val (.ref b61), .val (.int (w0_6 p3)), .unset] [])) _
          refine XS.iconst X68.here hx rfl (hb hby at_179) ?_
          show Steps p.tables e below (T68.setTop (mkF m 180 #[.val (.int p0), .val (.long q1), .second, .val (.long q2), .second, .val (.int p3), .val (.int (w0_m1 p0)), .val (.int (w0_m2 p0)), .val (.int (p3 &&& (3 : Int32))), .val (.long (w0_m3 q1 q2 p3)), .second, .val (.long (w0_m4 p0 q1)), .second, .val (.long (w0_m5 p0 q1 q2 p3)), .second, .val (.ref ob1), .val (.ref ob1), .val (.ref b56), .val (.ref b61), .val (.int (w0_6 p3)), .unset] [(.int (1 : Int32))])) _
          refine XS.goto X68.here hx rfl (pc0 := 180) (pc' := 184) rfl (hb hby at_180) (by decide) (by decide) ?_
          show Steps p.tables e below (T68.setTop (mkF m 184 #[.val (.int p0), .val (.long q1), .second, .val (.long q2), .second, .val (.int p3), .val (.int (w0_m1 p0)), .val (.int (w0_m2 p0)), .val (.int (p3 &&& (3 : Int32))), .val (.long (w0_m3 q1 q2 p3)), .second, .val (.long (w0_m4 p0 q1)), .second, .val (.long (w0_m5 p0 q1 q2 p3)), .second, .val (.ref ob1), .val (.ref ob1), .val (.ref b56), .val (.ref b61), .val (.int (w0_6 p3)), .unset] [(.int (1 : Int32))])) _
          exact k)
        obtain ⟨fs, hr, hrun, hended, hW, hsame⟩ := X68.leave (v := some (.int (1 : Int32))) (fun h => by rw [Bd.returns] at h; cases h) hlk
        refine ⟨_, _, ?_, hrun, hended, _, _, rfl, ?_, ⟨_, rfl⟩, hW, hsame.mono (by decide) (by decide)⟩
        · rw [← hS0]; exact K69 _ (retN X68 hx (t := .boolean) Bd.returns (by simp) (hb hby at_184) hr)
        · show Q0 Z p0 q1 q2 p3 ob1 ob2 oc cc h0 n0 _ T68.heap _
          rw [e68]
          have qr : (1 : Int32) = (w0_r10 p0 q1 q2 p3) := by unfold w0_r10; rw [if_pos hc100_0, if_pos hc116_1, if_pos hc167_2]
          exact ⟨congrArg (fun z => some (Value.int z)) qr, N68⟩
      · -- no
        have K70 : ∀ t, Steps p.tables e below (T64.setTop (mkF m 188 #[.val (.int p0), .val (.long q1), .second, .val (.long q2), .second, .val (.int p3), .val (.int (w0_m1 p0)), .val (.int (w0_m2 p0)), .val (.int (p3 &&& (3 : Int32))), .val (.long (w0_m3 q1 q2 p3)), .second, .val (.long (w0_m4 p0 q1)), .second, .val (.long (w0_m5 p0 q1 q2 p3)), .second, .val (.ref ob1), .val (.ref ob1), .val (.ref b56), .val (.ref b61), .val (.int (w0_6 p3)), .unset] [(.int (2 : Int32)), (.int (w0_6 p3))])) t → Steps p.tables e below S0 t := fun t k => K65 t (by
          refine XS.icmpYes X64.here hx rfl (pc0 := 167) (pc' := 185) rfl (hb hby at_167) rfl (XT.ii_ne_t hc167_2) (by decide) (by decide) ?_
          show Steps p.tables e below (T64.setTop (mkF m 185 #[.val (.int p0), .val (.long q1), .second, .val (.long q2), .second, .val (.int p3), .val (.int (w0_m1 p0)), .val (.int (w0_m2 p0)), .val (.int (p3 &&& (3 : Int32))), .val (.long (w0_m3 q1 q2 p3)), .second, .val (.long (w0_m4 p0 q1)), .second, .val (.long (w0_m5 p0 q1 q2 p3)), .second, .val (.ref ob1), .val (.ref ob1), .val (.ref b56), .val (.ref b61), .val (.int (w0_6 p3)), .unset] [])) _
          refine XS.iload X64.here hx rfl (hb hby at_185) rfl ?_
          show Steps p.tables e below (T64.setTop (mkF m 187 #[.val (.int p0), .val (.long q1), .second, .val (.long q2), .second, .val (.int p3), .val (.int (w0_m1 p0)), .val (.int (w0_m2 p0)), .val (.int (p3 &&& (3 : Int32))), .val (.long (w0_m3 q1 q2 p3)), .second, .val (.long (w0_m4 p0 q1)), .second, .val (.long (w0_m5 p0 q1 q2 p3)), .second, .val (.ref ob1), .val (.ref ob1), .val (.ref b56), .val (.ref b61), .val (.int (w0_6 p3)), .unset] [(.int (w0_6 p3))])) _
          refine XS.iconst X64.here hx rfl (hb hby at_187) ?_
          show Steps p.tables e below (T64.setTop (mkF m 188 #[.val (.int p0), .val (.long q1), .second, .val (.long q2), .second, .val (.int p3), .val (.int (w0_m1 p0)), .val (.int (w0_m2 p0)), .val (.int (p3 &&& (3 : Int32))), .val (.long (w0_m3 q1 q2 p3)), .second, .val (.long (w0_m4 p0 q1)), .second, .val (.long (w0_m5 p0 q1 q2 p3)), .second, .val (.ref ob1), .val (.ref ob1), .val (.ref b56), .val (.ref b61), .val (.int (w0_6 p3)), .unset] [(.int (2 : Int32)), (.int (w0_6 p3))])) _
          exact k)
        by_cases hc188_3 : (w0_6 p3) = (2 : Int32)
        · -- yes
          have K71 : ∀ t, Steps p.tables e below (T64.setTop (mkF m 195 #[.val (.int p0), .val (.long q1), .second, .val (.long q2), .second, .val (.int p3), .val (.int (w0_m1 p0)), .val (.int (w0_m2 p0)), .val (.int (p3 &&& (3 : Int32))), .val (.long (w0_m3 q1 q2 p3)), .second, .val (.long (w0_m4 p0 q1)), .second, .val (.long (w0_m5 p0 q1 q2 p3)), .second, .val (.ref ob1), .val (.ref ob1), .val (.ref b56), .val (.ref b61), .val (.int (w0_6 p3)), .unset] [(.long (w0_m4 p0 q1)), (.ref b56)])) t → Steps p.tables e below S0 t := fun t k => K70 t (by
            refine XS.icmpNo X64.here hx rfl (hb hby at_188) rfl (XT.ii_ne_f hc188_3) ?_
            show Steps p.tables e below (T64.setTop (mkF m 191 #[.val (.int p0), .val (.long q1), .second, .val (.long q2), .second, .val (.int p3), .val (.int (w0_m1 p0)), .val (.int (w0_m2 p0)), .val (.int (p3 &&& (3 : Int32))), .val (.long (w0_m3 q1 q2 p3)), .second, .val (.long (w0_m4 p0 q1)), .second, .val (.long (w0_m5 p0 q1 q2 p3)), .second, .val (.ref ob1), .val (.ref ob1), .val (.ref b56), .val (.ref b61), .val (.int (w0_6 p3)), .unset] [])) _
            refine XS.aload X64.here hx rfl (hb hby at_191) rfl rfl ?_
            show Steps p.tables e below (T64.setTop (mkF m 193 #[.val (.int p0), .val (.long q1), .second, .val (.long q2), .second, .val (.int p3), .val (.int (w0_m1 p0)), .val (.int (w0_m2 p0)), .val (.int (p3 &&& (3 : Int32))), .val (.long (w0_m3 q1 q2 p3)), .second, .val (.long (w0_m4 p0 q1)), .second, .val (.long (w0_m5 p0 q1 q2 p3)), .second, .val (.ref ob1), .val (.ref ob1), .val (.ref b56), .val (.ref b61), .val (.int (w0_6 p3)), .unset] [(.ref b56)])) _
            refine XS.lload X64.here hx rfl (hb hby at_193) rfl ?_
            show Steps p.tables e below (T64.setTop (mkF m 195 #[.val (.int p0), .val (.long q1), .second, .val (.long q2), .second, .val (.int p3), .val (.int (w0_m1 p0)), .val (.int (w0_m2 p0)), .val (.int (p3 &&& (3 : Int32))), .val (.long (w0_m3 q1 q2 p3)), .second, .val (.long (w0_m4 p0 q1)), .second, .val (.long (w0_m5 p0 q1 q2 p3)), .second, .val (.ref ob1), .val (.ref ob1), .val (.ref b56), .val (.ref b61), .val (.int (w0_6 p3)), .unset] [(.long (w0_m4 p0 q1)), (.ref b56)])) _
            exact k)
          by_cases hc195_4 : (w0_m4 p0 q1) < (-128 : Int64)
          · -- yes
            have K_72 : ∀ t, Steps p.tables e below (T64.setTop (mkF m 195 #[.val (.int p0), .val (.long q1), .second, .val (.long q2), .second, .val (.int p3), .val (.int (w0_m1 p0)), .val (.int (w0_m2 p0)), .val (.int (p3 &&& (3 : Int32))), .val (.long (w0_m3 q1 q2 p3)), .second, .val (.long (w0_m4 p0 q1)), .second, .val (.long (w0_m5 p0 q1 q2 p3)), .second, .val (.ref ob1), .val (.ref ob1), .val (.ref b56), .val (.ref b61), .val (.int (w0_6 p3)), .unset] [(.long (w0_m4 p0 q1)), (.ref b56)])) t → Steps p.tables e below S0 t := K71
            obtain ⟨_, _, ⟨T73, L73, k73, n73⟩, -, X73, ⟨Lc73, hQ73, l73, y73, z73⟩, st73⟩ := Jvm.LawKit.callS X64 hx (y := (⟨"java/lang/Long", "valueOf", "(J)Ljava/lang/Long;"⟩ : MethodName)) hown (mvT hZ (hw _ (List.mem_of_getElem? (i := 43) rfl))) (mvT hZ (hw _ (List.mem_of_getElem? (i := 44) rfl))) (mvT hZ (hw _ (List.mem_of_getElem? (i := 45) rfl))) (mvT hZ (hw _ (List.mem_of_getElem? (i := 46) rfl))) (by decide) (backOf (W := 1) (rmLlo l Z a0 hw [] (w0_m4 p0 q1) T64.heap n0 Zs64 hc195_4) hZ (hw _ (List.mem_of_getElem? (i := 46) rfl)) (hw _ (List.mem_of_getElem? (i := 45) rfl)) (by decide) (by decide)) (g := (mkF m 195 #[.val (.int p0), .val (.long q1), .second, .val (.long q2), .second, .val (.int p3), .val (.int (w0_m1 p0)), .val (.int (w0_m2 p0)), .val (.int (p3 &&& (3 : Int32))), .val (.long (w0_m3 q1 q2 p3)), .second, .val (.long (w0_m4 p0 q1)), .second, .val (.long (w0_m5 p0 q1 q2 p3)), .second, .val (.ref ob1), .val (.ref ob1), .val (.ref b56), .val (.ref b61), .val (.int (w0_6 p3)), .unset] [(.long (w0_m4 p0 q1)), (.ref b56)])) rfl (by rw [hml]; rfl) (argsL := [(.long (w0_m4 p0 q1))]) (rest := [(.ref b56)]) (lenOf pd0_3 rfl) rfl (by show 2 * 0 + _ ≤ _; exact Nat.le_of_eq rfl) (hb hby at_195) (fun _ _ => ⟨rfl, rfl, (by decide : 2 + 1 ≤ 16), (by decide : 4 + 1 ≤ 128)⟩)
            dsimp only [Pt.U, Pt.locs, Pt.cells, Pt.slots] at X73 l73 y73 z73 st73 hQ73
            subst l73 y73 z73
            obtain ⟨b73_4, rfl, N73q, Kp73, lb_b73_4, Fn73_0, Fn73_1⟩ := hQ73
            have N73 := Fr.app N64 N73q
            have g_b73_4 : n0 ≤ b73_4 := Nat.le_trans Zs64 lb_b73_4
            have ne_ob1_b73_4 : ob1 ≠ b73_4 := Nat.ne_of_lt (Nat.lt_of_lt_of_le E_ob1__64.lt lb_b73_4)
            have ne_ob2_b73_4 : ob2 ≠ b73_4 := Nat.ne_of_lt (Nat.lt_of_lt_of_le E_ob2__64.lt lb_b73_4)
            have ne_oc_b73_4 : oc ≠ b73_4 := Nat.ne_of_lt (Nat.lt_of_lt_of_le Ar_oc__64.lt lb_b73_4)
            have ne_b56_b73_4 : b56 ≠ b73_4 := Nat.ne_of_lt (Nat.lt_of_lt_of_le Fn59_0__64.lt lb_b73_4)
            have ne_b61_b73_4 : b61 ≠ b73_4 := Nat.ne_of_lt (Nat.lt_of_lt_of_le Fn64_0.lt lb_b73_4)
            have OL73 := OL64.keep Kp73 all0
            have S_DocumentValue_Kind_NUMBER__73 := S_DocumentValue_Kind_NUMBER.ext OL73.2
            have S_DocumentValue_Kind_DATE__73 := S_DocumentValue_Kind_DATE.ext OL73.2
            have E_ob1__73 := E_ob1.ext OL73.2
            have E_ob2__73 := E_ob2.ext OL73.2
            have S_Long_LongCache_cache__73 := S_Long_LongCache_cache.ext OL73.2
            have Ar_oc__73 := Ar_oc.ext OL73.2
            have Fn59_0__73 := Fn59_0__64.keep Kp73
            have Fn59_1__73 := Fn59_1__64.keep Kp73 nin0
            have Fn59_2__73 := Fn59_2__64.keep Kp73 nin0
            have Fn64_0__73 := Fn64_0.keep Kp73
            have Fn64_1__73 := Fn64_1.keep Kp73 nin0
            have Fn64_2__73 := Fn64_2.keep Kp73 nin0
            have Zs73 : n0 ≤ T73.heap.size := Nat.le_trans Zs64 Kp73.1
            have K73 : ∀ t, Steps p.tables e below (T73.setTop (mkF m 198 #[.val (.int p0), .val (.long q1), .second, .val (.long q2), .second, .val (.int p3), .val (.int (w0_m1 p0)), .val (.int (w0_m2 p0)), .val (.int (p3 &&& (3 : Int32))), .val (.long (w0_m3 q1 q2 p3)), .second, .val (.long (w0_m4 p0 q1)), .second, .val (.long (w0_m5 p0 q1 q2 p3)), .second, .val (.ref ob1), .val (.ref ob1), .val (.ref b56), .val (.ref b61), .val (.int (w0_6 p3)), .unset] [(.ref b73_4), (.ref b56)])) t → Steps p.tables e below S0 t := fun t k => K_72 t (st73 t k)
            have K_74 : ∀ t, Steps p.tables e below (T73.setTop (mkF m 198 #[.val (.int p0), .val (.long q1), .second, .val (.long q2), .second, .val (.int p3), .val (.int (w0_m1 p0)), .val (.int (w0_m2 p0)), .val (.int (p3 &&& (3 : Int32))), .val (.long (w0_m3 q1 q2 p3)), .second, .val (.long (w0_m4 p0 q1)), .second, .val (.long (w0_m5 p0 q1 q2 p3)), .second, .val (.ref ob1), .val (.ref ob1), .val (.ref b56), .val (.ref b61), .val (.int (w0_6 p3)), .unset] [(.ref b73_4), (.ref b56)])) t → Steps p.tables e below S0 t := K73
            obtain ⟨cq75, kq75, q75a, q75b, q75c⟩ := isOf hZ rfl Fn59_0__73
            obtain ⟨_, _, ⟨T75, L75, k75, n75⟩, -, X75, ⟨Lc75, hQ75, l75, y75, z75⟩, st75⟩ := X73.virtualBack hx (y := (⟨"com/example/acervo/acervo/index/DocumentValue", "equals", "(Ljava/lang/Object;)Z"⟩ : MethodName)) (z := (⟨"com/example/acervo/acervo/index/DocumentValue", "equals", "(Ljava/lang/Object;)Z"⟩ : MethodName)) hown (mvT hZ (hw _ (List.mem_of_getElem? (i := 23) rfl))) (mvT hZ (hw _ (List.mem_of_getElem? (i := 24) rfl))) (notFace_of_selects (args := #[]) (mvT hZ (hw _ (List.mem_of_getElem? (i := 26) rfl)))) (mvT hZ (hw _ (List.mem_of_getElem? (i := 26) rfl))) (mvT hZ (hw _ (List.mem_of_getElem? (i := 25) rfl))) (by decide) (backOf (W := 0) (rm9 l Z a0 hw [] b56 b73_4 T73.heap n0 Zs73 Fn73_0) hZ (hw _ (List.mem_of_getElem? (i := 27) rfl)) (hw _ (List.mem_of_getElem? (i := 5) rfl)) (by decide) (by decide)) q75a q75c (g := (mkF m 198 #[.val (.int p0), .val (.long q1), .second, .val (.long q2), .second, .val (.int p3), .val (.int (w0_m1 p0)), .val (.int (w0_m2 p0)), .val (.int (p3 &&& (3 : Int32))), .val (.long (w0_m3 q1 q2 p3)), .second, .val (.long (w0_m4 p0 q1)), .second, .val (.long (w0_m5 p0 q1 q2 p3)), .second, .val (.ref ob1), .val (.ref ob1), .val (.ref b56), .val (.ref b61), .val (.int (w0_6 p3)), .unset] [(.ref b73_4), (.ref b56)])) rfl (by rw [hml]; rfl) (Steps.refl _) (argsL := [(.ref b73_4)]) (rest := []) (lenOf pd0_2 rfl) rfl (by show 2 * 0 + _ ≤ _; exact Nat.le_of_eq rfl) (hb hby at_198) (fun _ _ => ⟨rfl, rfl, (by decide : 3 + 0 ≤ 16), (by decide : 5 + 0 ≤ 128)⟩)
            dsimp only [Pt.U, Pt.locs, Pt.cells, Pt.slots] at X75 l75 y75 z75 st75 hQ75
            subst l75 y75 z75
            obtain ⟨rfl, N75q, e75⟩ := hQ75
            have N75 := Fr.app N73 N75q
            have K75 : ∀ t, Steps p.tables e below (T75.setTop (mkF m 201 #[.val (.int p0), .val (.long q1), .second, .val (.long q2), .second, .val (.int p3), .val (.int (w0_m1 p0)), .val (.int (w0_m2 p0)), .val (.int (p3 &&& (3 : Int32))), .val (.long (w0_m3 q1 q2 p3)), .second, .val (.long (w0_m4 p0 q1)), .second, .val (.long (w0_m5 p0 q1 q2 p3)), .second, .val (.ref ob1), .val (.ref ob1), .val (.ref b56), .val (.ref b61), .val (.int (w0_6 p3)), .unset] [(.int (0 : Int32))])) t → Steps p.tables e below S0 t := fun t k => K_74 t (st75.trans k)
            have K76 : ∀ t, Steps p.tables e below (T75.setTop (mkF m 209 #[.val (.int p0), .val (.long q1), .second, .val (.long q2), .second, .val (.int p3), .val (.int (w0_m1 p0)), .val (.int (w0_m2 p0)), .val (.int (p3 &&& (3 : Int32))), .val (.long (w0_m3 q1 q2 p3)), .second, .val (.long (w0_m4 p0 q1)), .second, .val (.long (w0_m5 p0 q1 q2 p3)), .second, .val (.ref ob1), .val (.ref ob1), .val (.ref b56), .val (.ref b61), .val (.int (w0_6 p3)), .unset] [(.int (1 : Int32))])) t → Steps p.tables e below S0 t := fun t k => K75 t (by
              refine XS.ifNo X75.here hx rfl (hb hby at_201) rfl (XT.i0_ne_f (by decide)) ?_
              show Steps p.tables e below (T75.setTop (mkF m 204 #[.val (.int p0), .val (.long q1), .second, .val (.long q2), .second, .val (.int p3), .val (.int (w0_m1 p0)), .val (.int (w0_m2 p0)), .val (.int (p3 &&& (3 : Int32))), .val (.long (w0_m3 q1 q2 p3)), .second, .val (.long (w0_m4 p0 q1)), .second, .val (.long (w0_m5 p0 q1 q2 p3)), .second, .val (.ref ob1), .val (.ref ob1), .val (.ref b56), .val (.ref b61), .val (.int (w0_6 p3)), .unset] [])) _
              refine XS.iconst X75.here hx rfl (hb hby at_204) ?_
              show Steps p.tables e below (T75.setTop (mkF m 205 #[.val (.int p0), .val (.long q1), .second, .val (.long q2), .second, .val (.int p3), .val (.int (w0_m1 p0)), .val (.int (w0_m2 p0)), .val (.int (p3 &&& (3 : Int32))), .val (.long (w0_m3 q1 q2 p3)), .second, .val (.long (w0_m4 p0 q1)), .second, .val (.long (w0_m5 p0 q1 q2 p3)), .second, .val (.ref ob1), .val (.ref ob1), .val (.ref b56), .val (.ref b61), .val (.int (w0_6 p3)), .unset] [(.int (1 : Int32))])) _
              refine XS.goto X75.here hx rfl (pc0 := 205) (pc' := 209) rfl (hb hby at_205) (by decide) (by decide) ?_
              show Steps p.tables e below (T75.setTop (mkF m 209 #[.val (.int p0), .val (.long q1), .second, .val (.long q2), .second, .val (.int p3), .val (.int (w0_m1 p0)), .val (.int (w0_m2 p0)), .val (.int (p3 &&& (3 : Int32))), .val (.long (w0_m3 q1 q2 p3)), .second, .val (.long (w0_m4 p0 q1)), .second, .val (.long (w0_m5 p0 q1 q2 p3)), .second, .val (.ref ob1), .val (.ref ob1), .val (.ref b56), .val (.ref b61), .val (.int (w0_6 p3)), .unset] [(.int (1 : Int32))])) _
              exact k)
            obtain ⟨fs, hr, hrun, hended, hW, hsame⟩ := X75.leave (v := some (.int (1 : Int32))) (fun h => by rw [Bd.returns] at h; cases h) hlk
            refine ⟨_, _, ?_, hrun, hended, _, _, rfl, ?_, ⟨_, rfl⟩, hW, hsame.mono (by decide) (by decide)⟩
            · rw [← hS0]; exact K76 _ (retN X75 hx (t := .boolean) Bd.returns (by simp) (hb hby at_209) hr)
            · show Q0 Z p0 q1 q2 p3 ob1 ob2 oc cc h0 n0 _ T75.heap _
              rw [e75]
              have qr : (1 : Int32) = (w0_r10 p0 q1 q2 p3) := by unfold w0_r10; rw [if_pos hc100_0, if_pos hc116_1, if_neg hc167_2, if_pos hc188_3]
              exact ⟨congrArg (fun z => some (Value.int z)) qr, N75⟩
          · -- no
            by_cases hc195_5 : (127 : Int64) < (w0_m4 p0 q1)
            · -- yes
              have K_77 : ∀ t, Steps p.tables e below (T64.setTop (mkF m 195 #[.val (.int p0), .val (.long q1), .second, .val (.long q2), .second, .val (.int p3), .val (.int (w0_m1 p0)), .val (.int (w0_m2 p0)), .val (.int (p3 &&& (3 : Int32))), .val (.long (w0_m3 q1 q2 p3)), .second, .val (.long (w0_m4 p0 q1)), .second, .val (.long (w0_m5 p0 q1 q2 p3)), .second, .val (.ref ob1), .val (.ref ob1), .val (.ref b56), .val (.ref b61), .val (.int (w0_6 p3)), .unset] [(.long (w0_m4 p0 q1)), (.ref b56)])) t → Steps p.tables e below S0 t := K71
              obtain ⟨_, _, ⟨T78, L78, k78, n78⟩, -, X78, ⟨Lc78, hQ78, l78, y78, z78⟩, st78⟩ := Jvm.LawKit.callS X64 hx (y := (⟨"java/lang/Long", "valueOf", "(J)Ljava/lang/Long;"⟩ : MethodName)) hown (mvT hZ (hw _ (List.mem_of_getElem? (i := 43) rfl))) (mvT hZ (hw _ (List.mem_of_getElem? (i := 44) rfl))) (mvT hZ (hw _ (List.mem_of_getElem? (i := 45) rfl))) (mvT hZ (hw _ (List.mem_of_getElem? (i := 46) rfl))) (by decide) (backOf (W := 1) (rmLhi l Z a0 hw [] (w0_m4 p0 q1) T64.heap n0 Zs64 hc195_4 hc195_5) hZ (hw _ (List.mem_of_getElem? (i := 46) rfl)) (hw _ (List.mem_of_getElem? (i := 45) rfl)) (by decide) (by decide)) (g := (mkF m 195 #[.val (.int p0), .val (.long q1), .second, .val (.long q2), .second, .val (.int p3), .val (.int (w0_m1 p0)), .val (.int (w0_m2 p0)), .val (.int (p3 &&& (3 : Int32))), .val (.long (w0_m3 q1 q2 p3)), .second, .val (.long (w0_m4 p0 q1)), .second, .val (.long (w0_m5 p0 q1 q2 p3)), .second, .val (.ref ob1), .val (.ref ob1), .val (.ref b56), .val (.ref b61), .val (.int (w0_6 p3)), .unset] [(.long (w0_m4 p0 q1)), (.ref b56)])) rfl (by rw [hml]; rfl) (argsL := [(.long (w0_m4 p0 q1))]) (rest := [(.ref b56)]) (lenOf pd0_3 rfl) rfl (by show 2 * 0 + _ ≤ _; exact Nat.le_of_eq rfl) (hb hby at_195) (fun _ _ => ⟨rfl, rfl, (by decide : 2 + 1 ≤ 16), (by decide : 4 + 1 ≤ 128)⟩)
              dsimp only [Pt.U, Pt.locs, Pt.cells, Pt.slots] at X78 l78 y78 z78 st78 hQ78
              subst l78 y78 z78
              obtain ⟨b78_6, rfl, N78q, Kp78, lb_b78_6, Fn78_0, Fn78_1⟩ := hQ78
              have N78 := Fr.app N64 N78q
              have g_b78_6 : n0 ≤ b78_6 := Nat.le_trans Zs64 lb_b78_6
              have ne_ob1_b78_6 : ob1 ≠ b78_6 := Nat.ne_of_lt (Nat.lt_of_lt_of_le E_ob1__64.lt lb_b78_6)
              have ne_ob2_b78_6 : ob2 ≠ b78_6 := Nat.ne_of_lt (Nat.lt_of_lt_of_le E_ob2__64.lt lb_b78_6)
              have ne_oc_b78_6 : oc ≠ b78_6 := Nat.ne_of_lt (Nat.lt_of_lt_of_le Ar_oc__64.lt lb_b78_6)
              have ne_b56_b78_6 : b56 ≠ b78_6 := Nat.ne_of_lt (Nat.lt_of_lt_of_le Fn59_0__64.lt lb_b78_6)
              have ne_b61_b78_6 : b61 ≠ b78_6 := Nat.ne_of_lt (Nat.lt_of_lt_of_le Fn64_0.lt lb_b78_6)
              have OL78 := OL64.keep Kp78 all0
              have S_DocumentValue_Kind_NUMBER__78 := S_DocumentValue_Kind_NUMBER.ext OL78.2
              have S_DocumentValue_Kind_DATE__78 := S_DocumentValue_Kind_DATE.ext OL78.2
              have E_ob1__78 := E_ob1.ext OL78.2
              have E_ob2__78 := E_ob2.ext OL78.2
              have S_Long_LongCache_cache__78 := S_Long_LongCache_cache.ext OL78.2
              have Ar_oc__78 := Ar_oc.ext OL78.2
              have Fn59_0__78 := Fn59_0__64.keep Kp78
              have Fn59_1__78 := Fn59_1__64.keep Kp78 nin0
              have Fn59_2__78 := Fn59_2__64.keep Kp78 nin0
              have Fn64_0__78 := Fn64_0.keep Kp78
              have Fn64_1__78 := Fn64_1.keep Kp78 nin0
              have Fn64_2__78 := Fn64_2.keep Kp78 nin0
              have Zs78 : n0 ≤ T78.heap.size := Nat.le_trans Zs64 Kp78.1
              have K78 : ∀ t, Steps p.tables e below (T78.setTop (mkF m 198 #[.val (.int p0), .val (.long q1), .second, .val (.long q2), .second, .val (.int p3), .val (.int (w0_m1 p0)), .val (.int (w0_m2 p0)), .val (.int (p3 &&& (3 : Int32))), .val (.long (w0_m3 q1 q2 p3)), .second, .val (.long (w0_m4 p0 q1)), .second, .val (.long (w0_m5 p0 q1 q2 p3)), .second, .val (.ref ob1), .val (.ref ob1), .val (.ref b56), .val (.ref b61), .val (.int (w0_6 p3)), .unset] [(.ref b78_6), (.ref b56)])) t → Steps p.tables e below S0 t := fun t k => K_77 t (st78 t k)
              have K_79 : ∀ t, Steps p.tables e below (T78.setTop (mkF m 198 #[.val (.int p0), .val (.long q1), .second, .val (.long q2), .second, .val (.int p3), .val (.int (w0_m1 p0)), .val (.int (w0_m2 p0)), .val (.int (p3 &&& (3 : Int32))), .val (.long (w0_m3 q1 q2 p3)), .second, .val (.long (w0_m4 p0 q1)), .second, .val (.long (w0_m5 p0 q1 q2 p3)), .second, .val (.ref ob1), .val (.ref ob1), .val (.ref b56), .val (.ref b61), .val (.int (w0_6 p3)), .unset] [(.ref b78_6), (.ref b56)])) t → Steps p.tables e below S0 t := K78
              obtain ⟨cq80, kq80, q80a, q80b, q80c⟩ := isOf hZ rfl Fn59_0__78
              obtain ⟨_, _, ⟨T80, L80, k80, n80⟩, -, X80, ⟨Lc80, hQ80, l80, y80, z80⟩, st80⟩ := X78.virtualBack hx (y := (⟨"com/example/acervo/acervo/index/DocumentValue", "equals", "(Ljava/lang/Object;)Z"⟩ : MethodName)) (z := (⟨"com/example/acervo/acervo/index/DocumentValue", "equals", "(Ljava/lang/Object;)Z"⟩ : MethodName)) hown (mvT hZ (hw _ (List.mem_of_getElem? (i := 23) rfl))) (mvT hZ (hw _ (List.mem_of_getElem? (i := 24) rfl))) (notFace_of_selects (args := #[]) (mvT hZ (hw _ (List.mem_of_getElem? (i := 26) rfl)))) (mvT hZ (hw _ (List.mem_of_getElem? (i := 26) rfl))) (mvT hZ (hw _ (List.mem_of_getElem? (i := 25) rfl))) (by decide) (backOf (W := 0) (rm9 l Z a0 hw [] b56 b78_6 T78.heap n0 Zs78 Fn78_0) hZ (hw _ (List.mem_of_getElem? (i := 27) rfl)) (hw _ (List.mem_of_getElem? (i := 5) rfl)) (by decide) (by decide)) q80a q80c (g := (mkF m 198 #[.val (.int p0), .val (.long q1), .second, .val (.long q2), .second, .val (.int p3), .val (.int (w0_m1 p0)), .val (.int (w0_m2 p0)), .val (.int (p3 &&& (3 : Int32))), .val (.long (w0_m3 q1 q2 p3)), .second, .val (.long (w0_m4 p0 q1)), .second, .val (.long (w0_m5 p0 q1 q2 p3)), .second, .val (.ref ob1), .val (.ref ob1), .val (.ref b56), .val (.ref b61), .val (.int (w0_6 p3)), .unset] [(.ref b78_6), (.ref b56)])) rfl (by rw [hml]; rfl) (Steps.refl _) (argsL := [(.ref b78_6)]) (rest := []) (lenOf pd0_2 rfl) rfl (by show 2 * 0 + _ ≤ _; exact Nat.le_of_eq rfl) (hb hby at_198) (fun _ _ => ⟨rfl, rfl, (by decide : 3 + 0 ≤ 16), (by decide : 5 + 0 ≤ 128)⟩)
              dsimp only [Pt.U, Pt.locs, Pt.cells, Pt.slots] at X80 l80 y80 z80 st80 hQ80
              subst l80 y80 z80
              obtain ⟨rfl, N80q, e80⟩ := hQ80
              have N80 := Fr.app N78 N80q
              have K80 : ∀ t, Steps p.tables e below (T80.setTop (mkF m 201 #[.val (.int p0), .val (.long q1), .second, .val (.long q2), .second, .val (.int p3), .val (.int (w0_m1 p0)), .val (.int (w0_m2 p0)), .val (.int (p3 &&& (3 : Int32))), .val (.long (w0_m3 q1 q2 p3)), .second, .val (.long (w0_m4 p0 q1)), .second, .val (.long (w0_m5 p0 q1 q2 p3)), .second, .val (.ref ob1), .val (.ref ob1), .val (.ref b56), .val (.ref b61), .val (.int (w0_6 p3)), .unset] [(.int (0 : Int32))])) t → Steps p.tables e below S0 t := fun t k => K_79 t (st80.trans k)
              have K81 : ∀ t, Steps p.tables e below (T80.setTop (mkF m 209 #[.val (.int p0), .val (.long q1), .second, .val (.long q2), .second, .val (.int p3), .val (.int (w0_m1 p0)), .val (.int (w0_m2 p0)), .val (.int (p3 &&& (3 : Int32))), .val (.long (w0_m3 q1 q2 p3)), .second, .val (.long (w0_m4 p0 q1)), .second, .val (.long (w0_m5 p0 q1 q2 p3)), .second, .val (.ref ob1), .val (.ref ob1), .val (.ref b56), .val (.ref b61), .val (.int (w0_6 p3)), .unset] [(.int (1 : Int32))])) t → Steps p.tables e below S0 t := fun t k => K80 t (by
                refine XS.ifNo X80.here hx rfl (hb hby at_201) rfl (XT.i0_ne_f (by decide)) ?_
                show Steps p.tables e below (T80.setTop (mkF m 204 #[.val (.int p0), .val (.long q1), .second, .val (.long q2), .second, .val (.int p3), .val (.int (w0_m1 p0)), .val (.int (w0_m2 p0)), .val (.int (p3 &&& (3 : Int32))), .val (.long (w0_m3 q1 q2 p3)), .second, .val (.long (w0_m4 p0 q1)), .second, .val (.long (w0_m5 p0 q1 q2 p3)), .second, .val (.ref ob1), .val (.ref ob1), .val (.ref b56), .val (.ref b61), .val (.int (w0_6 p3)), .unset] [])) _
                refine XS.iconst X80.here hx rfl (hb hby at_204) ?_
                show Steps p.tables e below (T80.setTop (mkF m 205 #[.val (.int p0), .val (.long q1), .second, .val (.long q2), .second, .val (.int p3), .val (.int (w0_m1 p0)), .val (.int (w0_m2 p0)), .val (.int (p3 &&& (3 : Int32))), .val (.long (w0_m3 q1 q2 p3)), .second, .val (.long (w0_m4 p0 q1)), .second, .val (.long (w0_m5 p0 q1 q2 p3)), .second, .val (.ref ob1), .val (.ref ob1), .val (.ref b56), .val (.ref b61), .val (.int (w0_6 p3)), .unset] [(.int (1 : Int32))])) _
                refine XS.goto X80.here hx rfl (pc0 := 205) (pc' := 209) rfl (hb hby at_205) (by decide) (by decide) ?_
                show Steps p.tables e below (T80.setTop (mkF m 209 #[.val (.int p0), .val (.long q1), .second, .val (.long q2), .second, .val (.int p3), .val (.int (w0_m1 p0)), .val (.int (w0_m2 p0)), .val (.int (p3 &&& (3 : Int32))), .val (.long (w0_m3 q1 q2 p3)), .second, .val (.long (w0_m4 p0 q1)), .second, .val (.long (w0_m5 p0 q1 q2 p3)), .second, .val (.ref ob1), .val (.ref ob1), .val (.ref b56), .val (.ref b61), .val (.int (w0_6 p3)), .unset] [(.int (1 : Int32))])) _
                exact k)
              obtain ⟨fs, hr, hrun, hended, hW, hsame⟩ := X80.leave (v := some (.int (1 : Int32))) (fun h => by rw [Bd.returns] at h; cases h) hlk
              refine ⟨_, _, ?_, hrun, hended, _, _, rfl, ?_, ⟨_, rfl⟩, hW, hsame.mono (by decide) (by decide)⟩
              · rw [← hS0]; exact K81 _ (retN X80 hx (t := .boolean) Bd.returns (by simp) (hb hby at_209) hr)
              · show Q0 Z p0 q1 q2 p3 ob1 ob2 oc cc h0 n0 _ T80.heap _
                rw [e80]
                have qr : (1 : Int32) = (w0_r10 p0 q1 q2 p3) := by unfold w0_r10; rw [if_pos hc100_0, if_pos hc116_1, if_neg hc167_2, if_pos hc188_3]
                exact ⟨congrArg (fun z => some (Value.int z)) qr, N80⟩
            · -- no
              obtain ⟨oe, hin82, hat82, Eo82⟩ := hcache (w0_m4 p0 q1) hc195_4 hc195_5
              have Ee82 := Eo82.ext OL64.2
              have K_83 : ∀ t, Steps p.tables e below (T64.setTop (mkF m 195 #[.val (.int p0), .val (.long q1), .second, .val (.long q2), .second, .val (.int p3), .val (.int (w0_m1 p0)), .val (.int (w0_m2 p0)), .val (.int (p3 &&& (3 : Int32))), .val (.long (w0_m3 q1 q2 p3)), .second, .val (.long (w0_m4 p0 q1)), .second, .val (.long (w0_m5 p0 q1 q2 p3)), .second, .val (.ref ob1), .val (.ref ob1), .val (.ref b56), .val (.ref b61), .val (.int (w0_6 p3)), .unset] [(.long (w0_m4 p0 q1)), (.ref b56)])) t → Steps p.tables e below S0 t := K71
              obtain ⟨_, _, ⟨T84, L84, k84, n84⟩, -, X84, ⟨Lc84, hQ84, l84, y84, z84⟩, st84⟩ := Jvm.LawKit.callS X64 hx (y := (⟨"java/lang/Long", "valueOf", "(J)Ljava/lang/Long;"⟩ : MethodName)) hown (mvT hZ (hw _ (List.mem_of_getElem? (i := 43) rfl))) (mvT hZ (hw _ (List.mem_of_getElem? (i := 44) rfl))) (mvT hZ (hw _ (List.mem_of_getElem? (i := 45) rfl))) (mvT hZ (hw _ (List.mem_of_getElem? (i := 46) rfl))) (by decide) (backOf (W := 1) (rmLca l Z a0 hw [] (w0_m4 p0 q1) oc cc oe T64.heap n0 Zs64 S_Long_LongCache_cache__64 Ar_oc__64 hc195_4 hc195_5 hin82 hat82) hZ (hw _ (List.mem_of_getElem? (i := 46) rfl)) (hw _ (List.mem_of_getElem? (i := 45) rfl)) (by decide) (by decide)) (g := (mkF m 195 #[.val (.int p0), .val (.long q1), .second, .val (.long q2), .second, .val (.int p3), .val (.int (w0_m1 p0)), .val (.int (w0_m2 p0)), .val (.int (p3 &&& (3 : Int32))), .val (.long (w0_m3 q1 q2 p3)), .second, .val (.long (w0_m4 p0 q1)), .second, .val (.long (w0_m5 p0 q1 q2 p3)), .second, .val (.ref ob1), .val (.ref ob1), .val (.ref b56), .val (.ref b61), .val (.int (w0_6 p3)), .unset] [(.long (w0_m4 p0 q1)), (.ref b56)])) rfl (by rw [hml]; rfl) (argsL := [(.long (w0_m4 p0 q1))]) (rest := [(.ref b56)]) (lenOf pd0_3 rfl) rfl (by show 2 * 0 + _ ≤ _; exact Nat.le_of_eq rfl) (hb hby at_195) (fun _ _ => ⟨rfl, rfl, (by decide : 2 + 0 ≤ 16), (by decide : 4 + 0 ≤ 128)⟩)
              dsimp only [Pt.U, Pt.locs, Pt.cells, Pt.slots] at X84 l84 y84 z84 st84 hQ84
              subst l84 y84 z84
              obtain ⟨rfl, N84q, e84⟩ := hQ84
              have N84 := Fr.app N64 N84q
              have K84 : ∀ t, Steps p.tables e below (T84.setTop (mkF m 198 #[.val (.int p0), .val (.long q1), .second, .val (.long q2), .second, .val (.int p3), .val (.int (w0_m1 p0)), .val (.int (w0_m2 p0)), .val (.int (p3 &&& (3 : Int32))), .val (.long (w0_m3 q1 q2 p3)), .second, .val (.long (w0_m4 p0 q1)), .second, .val (.long (w0_m5 p0 q1 q2 p3)), .second, .val (.ref ob1), .val (.ref ob1), .val (.ref b56), .val (.ref b61), .val (.int (w0_6 p3)), .unset] [(.ref oe), (.ref b56)])) t → Steps p.tables e below S0 t := fun t k => K_83 t (st84 t k)
              have K_85 : ∀ t, Steps p.tables e below (T84.setTop (mkF m 198 #[.val (.int p0), .val (.long q1), .second, .val (.long q2), .second, .val (.int p3), .val (.int (w0_m1 p0)), .val (.int (w0_m2 p0)), .val (.int (p3 &&& (3 : Int32))), .val (.long (w0_m3 q1 q2 p3)), .second, .val (.long (w0_m4 p0 q1)), .second, .val (.long (w0_m5 p0 q1 q2 p3)), .second, .val (.ref ob1), .val (.ref ob1), .val (.ref b56), .val (.ref b61), .val (.int (w0_6 p3)), .unset] [(.ref oe), (.ref b56)])) t → Steps p.tables e below S0 t := K84
              obtain ⟨cq86, kq86, q86a, q86b, q86c⟩ := isOf hZ e84 Fn59_0__64
              obtain ⟨_, _, ⟨T86, L86, k86, n86⟩, -, X86, ⟨Lc86, hQ86, l86, y86, z86⟩, st86⟩ := X84.virtualBack hx (y := (⟨"com/example/acervo/acervo/index/DocumentValue", "equals", "(Ljava/lang/Object;)Z"⟩ : MethodName)) (z := (⟨"com/example/acervo/acervo/index/DocumentValue", "equals", "(Ljava/lang/Object;)Z"⟩ : MethodName)) hown (mvT hZ (hw _ (List.mem_of_getElem? (i := 23) rfl))) (mvT hZ (hw _ (List.mem_of_getElem? (i := 24) rfl))) (notFace_of_selects (args := #[]) (mvT hZ (hw _ (List.mem_of_getElem? (i := 26) rfl)))) (mvT hZ (hw _ (List.mem_of_getElem? (i := 26) rfl))) (mvT hZ (hw _ (List.mem_of_getElem? (i := 25) rfl))) (by decide) (backOf (W := 0) (rm9 l Z a0 hw [] b56 oe T64.heap n0 Zs64 Ee82) hZ (hw _ (List.mem_of_getElem? (i := 27) rfl)) (hw _ (List.mem_of_getElem? (i := 5) rfl)) (by decide) (by decide)) q86a q86c (g := (mkF m 198 #[.val (.int p0), .val (.long q1), .second, .val (.long q2), .second, .val (.int p3), .val (.int (w0_m1 p0)), .val (.int (w0_m2 p0)), .val (.int (p3 &&& (3 : Int32))), .val (.long (w0_m3 q1 q2 p3)), .second, .val (.long (w0_m4 p0 q1)), .second, .val (.long (w0_m5 p0 q1 q2 p3)), .second, .val (.ref ob1), .val (.ref ob1), .val (.ref b56), .val (.ref b61), .val (.int (w0_6 p3)), .unset] [(.ref oe), (.ref b56)])) rfl (by rw [hml]; rfl) (Steps.refl _) (argsL := [(.ref oe)]) (rest := []) (lenOf pd0_2 rfl) rfl (by show 2 * 0 + _ ≤ _; exact Nat.le_of_eq rfl) (hb hby at_198) (fun _ _ => ⟨rfl, e84, (by decide : 2 + 0 ≤ 16), (by decide : 4 + 0 ≤ 128)⟩)
              dsimp only [Pt.U, Pt.locs, Pt.cells, Pt.slots] at X86 l86 y86 z86 st86 hQ86
              subst l86 y86 z86
              obtain ⟨rfl, N86q, e86⟩ := hQ86
              have N86 := Fr.app N84 N86q
              have K86 : ∀ t, Steps p.tables e below (T86.setTop (mkF m 201 #[.val (.int p0), .val (.long q1), .second, .val (.long q2), .second, .val (.int p3), .val (.int (w0_m1 p0)), .val (.int (w0_m2 p0)), .val (.int (p3 &&& (3 : Int32))), .val (.long (w0_m3 q1 q2 p3)), .second, .val (.long (w0_m4 p0 q1)), .second, .val (.long (w0_m5 p0 q1 q2 p3)), .second, .val (.ref ob1), .val (.ref ob1), .val (.ref b56), .val (.ref b61), .val (.int (w0_6 p3)), .unset] [(.int (0 : Int32))])) t → Steps p.tables e below S0 t := fun t k => K_85 t (st86.trans k)
              have K87 : ∀ t, Steps p.tables e below (T86.setTop (mkF m 209 #[.val (.int p0), .val (.long q1), .second, .val (.long q2), .second, .val (.int p3), .val (.int (w0_m1 p0)), .val (.int (w0_m2 p0)), .val (.int (p3 &&& (3 : Int32))), .val (.long (w0_m3 q1 q2 p3)), .second, .val (.long (w0_m4 p0 q1)), .second, .val (.long (w0_m5 p0 q1 q2 p3)), .second, .val (.ref ob1), .val (.ref ob1), .val (.ref b56), .val (.ref b61), .val (.int (w0_6 p3)), .unset] [(.int (1 : Int32))])) t → Steps p.tables e below S0 t := fun t k => K86 t (by
                refine XS.ifNo X86.here hx rfl (hb hby at_201) rfl (XT.i0_ne_f (by decide)) ?_
                show Steps p.tables e below (T86.setTop (mkF m 204 #[.val (.int p0), .val (.long q1), .second, .val (.long q2), .second, .val (.int p3), .val (.int (w0_m1 p0)), .val (.int (w0_m2 p0)), .val (.int (p3 &&& (3 : Int32))), .val (.long (w0_m3 q1 q2 p3)), .second, .val (.long (w0_m4 p0 q1)), .second, .val (.long (w0_m5 p0 q1 q2 p3)), .second, .val (.ref ob1), .val (.ref ob1), .val (.ref b56), .val (.ref b61), .val (.int (w0_6 p3)), .unset] [])) _
                refine XS.iconst X86.here hx rfl (hb hby at_204) ?_
                show Steps p.tables e below (T86.setTop (mkF m 205 #[.val (.int p0), .val (.long q1), .second, .val (.long q2), .second, .val (.int p3), .val (.int (w0_m1 p0)), .val (.int (w0_m2 p0)), .val (.int (p3 &&& (3 : Int32))), .val (.long (w0_m3 q1 q2 p3)), .second, .val (.long (w0_m4 p0 q1)), .second, .val (.long (w0_m5 p0 q1 q2 p3)), .second, .val (.ref ob1), .val (.ref ob1), .val (.ref b56), .val (.ref b61), .val (.int (w0_6 p3)), .unset] [(.int (1 : Int32))])) _
                refine XS.goto X86.here hx rfl (pc0 := 205) (pc' := 209) rfl (hb hby at_205) (by decide) (by decide) ?_
                show Steps p.tables e below (T86.setTop (mkF m 209 #[.val (.int p0), .val (.long q1), .second, .val (.long q2), .second, .val (.int p3), .val (.int (w0_m1 p0)), .val (.int (w0_m2 p0)), .val (.int (p3 &&& (3 : Int32))), .val (.long (w0_m3 q1 q2 p3)), .second, .val (.long (w0_m4 p0 q1)), .second, .val (.long (w0_m5 p0 q1 q2 p3)), .second, .val (.ref ob1), .val (.ref ob1), .val (.ref b56), .val (.ref b61), .val (.int (w0_6 p3)), .unset] [(.int (1 : Int32))])) _
                exact k)
              obtain ⟨fs, hr, hrun, hended, hW, hsame⟩ := X86.leave (v := some (.int (1 : Int32))) (fun h => by rw [Bd.returns] at h; cases h) hlk
              refine ⟨_, _, ?_, hrun, hended, _, _, rfl, ?_, ⟨_, rfl⟩, hW, hsame.mono (by decide) (by decide)⟩
              · rw [← hS0]; exact K87 _ (retN X86 hx (t := .boolean) Bd.returns (by simp) (hb hby at_209) hr)
              · show Q0 Z p0 q1 q2 p3 ob1 ob2 oc cc h0 n0 _ T86.heap _
                rw [e86]
                have qr : (1 : Int32) = (w0_r10 p0 q1 q2 p3) := by unfold w0_r10; rw [if_pos hc100_0, if_pos hc116_1, if_neg hc167_2, if_pos hc188_3]
                exact ⟨congrArg (fun z => some (Value.int z)) qr, N86⟩
        · -- no
          have K88 : ∀ t, Steps p.tables e below (T64.setTop (mkF m 213 #[.val (.int p0), .val (.long q1), .second, .val (.long q2), .second, .val (.int p3), .val (.int (w0_m1 p0)), .val (.int (w0_m2 p0)), .val (.int (p3 &&& (3 : Int32))), .val (.long (w0_m3 q1 q2 p3)), .second, .val (.long (w0_m4 p0 q1)), .second, .val (.long (w0_m5 p0 q1 q2 p3)), .second, .val (.ref ob1), .val (.ref ob1), .val (.ref b56), .val (.ref b61), .val (.int (w0_6 p3)), .unset] [(.int (3 : Int32)), (.int (w0_6 p3))])) t → Steps p.tables e below S0 t := fun t k => K70 t (by
            refine XS.icmpYes X64.here hx rfl (pc0 := 188) (pc' := 210) rfl (hb hby at_188) rfl (XT.ii_ne_t hc188_3) (by decide) (by decide) ?_
            show Steps p.tables e below (T64.setTop (mkF m 210 #[.val (.int p0), .val (.long q1), .second, .val (.long q2), .second, .val (.int p3), .val (.int (w0_m1 p0)), .val (.int (w0_m2 p0)), .val (.int (p3 &&& (3 : Int32))), .val (.long (w0_m3 q1 q2 p3)), .second, .val (.long (w0_m4 p0 q1)), .second, .val (.long (w0_m5 p0 q1 q2 p3)), .second, .val (.ref ob1), .val (.ref ob1), .val (.ref b56), .val (.ref b61), .val (.int (w0_6 p3)), .unset] [])) _
            refine XS.iload X64.here hx rfl (hb hby at_210) rfl ?_
            show Steps p.tables e below (T64.setTop (mkF m 212 #[.val (.int p0), .val (.long q1), .second, .val (.long q2), .second, .val (.int p3), .val (.int (w0_m1 p0)), .val (.int (w0_m2 p0)), .val (.int (p3 &&& (3 : Int32))), .val (.long (w0_m3 q1 q2 p3)), .second, .val (.long (w0_m4 p0 q1)), .second, .val (.long (w0_m5 p0 q1 q2 p3)), .second, .val (.ref ob1), .val (.ref ob1), .val (.ref b56), .val (.ref b61), .val (.int (w0_6 p3)), .unset] [(.int (w0_6 p3))])) _
            refine XS.iconst X64.here hx rfl (hb hby at_212) ?_
            show Steps p.tables e below (T64.setTop (mkF m 213 #[.val (.int p0), .val (.long q1), .second, .val (.long q2), .second, .val (.int p3), .val (.int (w0_m1 p0)), .val (.int (w0_m2 p0)), .val (.int (p3 &&& (3 : Int32))), .val (.long (w0_m3 q1 q2 p3)), .second, .val (.long (w0_m4 p0 q1)), .second, .val (.long (w0_m5 p0 q1 q2 p3)), .second, .val (.ref ob1), .val (.ref ob1), .val (.ref b56), .val (.ref b61), .val (.int (w0_6 p3)), .unset] [(.int (3 : Int32)), (.int (w0_6 p3))])) _
            exact k)
          by_cases hc213_4 : (w0_6 p3) = (3 : Int32)
          · -- yes
            have K89 : ∀ t, Steps p.tables e below (T64.setTop (mkF m 220 #[.val (.int p0), .val (.long q1), .second, .val (.long q2), .second, .val (.int p3), .val (.int (w0_m1 p0)), .val (.int (w0_m2 p0)), .val (.int (p3 &&& (3 : Int32))), .val (.long (w0_m3 q1 q2 p3)), .second, .val (.long (w0_m4 p0 q1)), .second, .val (.long (w0_m5 p0 q1 q2 p3)), .second, .val (.ref ob1), .val (.ref ob1), .val (.ref b56), .val (.ref b61), .val (.int (w0_6 p3)), .unset] [(.ref b56), (.ref b56)])) t → Steps p.tables e below S0 t := fun t k => K88 t (by
              refine XS.icmpNo X64.here hx rfl (hb hby at_213) rfl (XT.ii_ne_f hc213_4) ?_
              show Steps p.tables e below (T64.setTop (mkF m 216 #[.val (.int p0), .val (.long q1), .second, .val (.long q2), .second, .val (.int p3), .val (.int (w0_m1 p0)), .val (.int (w0_m2 p0)), .val (.int (p3 &&& (3 : Int32))), .val (.long (w0_m3 q1 q2 p3)), .second, .val (.long (w0_m4 p0 q1)), .second, .val (.long (w0_m5 p0 q1 q2 p3)), .second, .val (.ref ob1), .val (.ref ob1), .val (.ref b56), .val (.ref b61), .val (.int (w0_6 p3)), .unset] [])) _
              refine XS.aload X64.here hx rfl (hb hby at_216) rfl rfl ?_
              show Steps p.tables e below (T64.setTop (mkF m 218 #[.val (.int p0), .val (.long q1), .second, .val (.long q2), .second, .val (.int p3), .val (.int (w0_m1 p0)), .val (.int (w0_m2 p0)), .val (.int (p3 &&& (3 : Int32))), .val (.long (w0_m3 q1 q2 p3)), .second, .val (.long (w0_m4 p0 q1)), .second, .val (.long (w0_m5 p0 q1 q2 p3)), .second, .val (.ref ob1), .val (.ref ob1), .val (.ref b56), .val (.ref b61), .val (.int (w0_6 p3)), .unset] [(.ref b56)])) _
              refine XS.aload X64.here hx rfl (hb hby at_218) rfl rfl ?_
              show Steps p.tables e below (T64.setTop (mkF m 220 #[.val (.int p0), .val (.long q1), .second, .val (.long q2), .second, .val (.int p3), .val (.int (w0_m1 p0)), .val (.int (w0_m2 p0)), .val (.int (p3 &&& (3 : Int32))), .val (.long (w0_m3 q1 q2 p3)), .second, .val (.long (w0_m4 p0 q1)), .second, .val (.long (w0_m5 p0 q1 q2 p3)), .second, .val (.ref ob1), .val (.ref ob1), .val (.ref b56), .val (.ref b61), .val (.int (w0_6 p3)), .unset] [(.ref b56), (.ref b56)])) _
              exact k)
            have K_90 : ∀ t, Steps p.tables e below (T64.setTop (mkF m 220 #[.val (.int p0), .val (.long q1), .second, .val (.long q2), .second, .val (.int p3), .val (.int (w0_m1 p0)), .val (.int (w0_m2 p0)), .val (.int (p3 &&& (3 : Int32))), .val (.long (w0_m3 q1 q2 p3)), .second, .val (.long (w0_m4 p0 q1)), .second, .val (.long (w0_m5 p0 q1 q2 p3)), .second, .val (.ref ob1), .val (.ref ob1), .val (.ref b56), .val (.ref b61), .val (.int (w0_6 p3)), .unset] [(.ref b56), (.ref b56)])) t → Steps p.tables e below S0 t := K89
            obtain ⟨cq91, kq91, q91a, q91b, q91c⟩ := isOf hZ rfl Fn59_0__64
            obtain ⟨_, _, ⟨T91, L91, k91, n91⟩, -, X91, ⟨Lc91, hQ91, l91, y91, z91⟩, st91⟩ := X64.virtualBack hx (y := (⟨"com/example/acervo/acervo/index/DocumentValue", "equals", "(Ljava/lang/Object;)Z"⟩ : MethodName)) (z := (⟨"com/example/acervo/acervo/index/DocumentValue", "equals", "(Ljava/lang/Object;)Z"⟩ : MethodName)) hown (mvT hZ (hw _ (List.mem_of_getElem? (i := 23) rfl))) (mvT hZ (hw _ (List.mem_of_getElem? (i := 24) rfl))) (notFace_of_selects (args := #[]) (mvT hZ (hw _ (List.mem_of_getElem? (i := 26) rfl)))) (mvT hZ (hw _ (List.mem_of_getElem? (i := 26) rfl))) (mvT hZ (hw _ (List.mem_of_getElem? (i := 25) rfl))) (by decide) (backOf (W := 0) (rm6 l Z a0 hw [] b56 b56 ob1 (w0_m4 p0 q1) (w0_m4 p0 q1) T64.heap n0 Zs64 Fn59_0__64 Fn59_1__64 Fn59_2__64 Fn59_1__64 Fn59_2__64) hZ (hw _ (List.mem_of_getElem? (i := 27) rfl)) (hw _ (List.mem_of_getElem? (i := 5) rfl)) (by decide) (by decide)) q91a q91c (g := (mkF m 220 #[.val (.int p0), .val (.long q1), .second, .val (.long q2), .second, .val (.int p3), .val (.int (w0_m1 p0)), .val (.int (w0_m2 p0)), .val (.int (p3 &&& (3 : Int32))), .val (.long (w0_m3 q1 q2 p3)), .second, .val (.long (w0_m4 p0 q1)), .second, .val (.long (w0_m5 p0 q1 q2 p3)), .second, .val (.ref ob1), .val (.ref ob1), .val (.ref b56), .val (.ref b61), .val (.int (w0_6 p3)), .unset] [(.ref b56), (.ref b56)])) rfl (by rw [hml]; rfl) (Steps.refl _) (argsL := [(.ref b56)]) (rest := []) (lenOf pd0_2 rfl) rfl (by show 2 * 0 + _ ≤ _; exact Nat.le_of_eq rfl) (hb hby at_220) (fun _ _ => ⟨rfl, rfl, (by decide : 2 + 0 ≤ 16), (by decide : 4 + 0 ≤ 128)⟩)
            dsimp only [Pt.U, Pt.locs, Pt.cells, Pt.slots] at X91 l91 y91 z91 st91 hQ91
            subst l91 y91 z91
            obtain ⟨rfl, N91q, e91⟩ := hQ91
            have N91 := Fr.app N64 N91q
            have K91 : ∀ t, Steps p.tables e below (T91.setTop (mkF m 223 #[.val (.int p0), .val (.long q1), .second, .val (.long q2), .second, .val (.int p3), .val (.int (w0_m1 p0)), .val (.int (w0_m2 p0)), .val (.int (p3 &&& (3 : Int32))), .val (.long (w0_m3 q1 q2 p3)), .second, .val (.long (w0_m4 p0 q1)), .second, .val (.long (w0_m5 p0 q1 q2 p3)), .second, .val (.ref ob1), .val (.ref ob1), .val (.ref b56), .val (.ref b61), .val (.int (w0_6 p3)), .unset] [(.int (w6_r1 (w0_m4 p0 q1) (w0_m4 p0 q1)))])) t → Steps p.tables e below S0 t := fun t k => K_90 t (st91.trans k)
            obtain ⟨fs, hr, hrun, hended, hW, hsame⟩ := X91.leave (v := some (.int (nar .boolean (w6_r1 (w0_m4 p0 q1) (w0_m4 p0 q1))))) (fun h => by rw [Bd.returns] at h; cases h) hlk
            refine ⟨_, _, ?_, hrun, hended, _, _, rfl, ?_, ⟨_, rfl⟩, hW, hsame.mono (by decide) (by decide)⟩
            · rw [← hS0]; exact K91 _ (retN X91 hx (t := .boolean) Bd.returns (by simp) (hb hby at_223) hr)
            · show Q0 Z p0 q1 q2 p3 ob1 ob2 oc cc h0 n0 _ T91.heap _
              rw [e91]
              have qr : (nar .boolean (w6_r1 (w0_m4 p0 q1) (w0_m4 p0 q1))) = (w0_r10 p0 q1 q2 p3) := by unfold w0_r10; rw [if_pos hc100_0, if_pos hc116_1, if_neg hc167_2, if_neg hc188_3, if_pos hc213_4]
              exact ⟨congrArg (fun z => some (Value.int z)) qr, N91⟩
          · -- no
            have K92 : ∀ t, Steps p.tables e below (T64.setTop (mkF m 228 #[.val (.int p0), .val (.long q1), .second, .val (.long q2), .second, .val (.int p3), .val (.int (w0_m1 p0)), .val (.int (w0_m2 p0)), .val (.int (p3 &&& (3 : Int32))), .val (.long (w0_m3 q1 q2 p3)), .second, .val (.long (w0_m4 p0 q1)), .second, .val (.long (w0_m5 p0 q1 q2 p3)), .second, .val (.ref ob1), .val (.ref ob1), .val (.ref b56), .val (.ref b61), .val (.int (w0_6 p3)), .unset] [(.ref ob1), (.ref ob1)])) t → Steps p.tables e below S0 t := fun t k => K88 t (by
              refine XS.icmpYes X64.here hx rfl (pc0 := 213) (pc' := 224) rfl (hb hby at_213) rfl (XT.ii_ne_t hc213_4) (by decide) (by decide) ?_
              show Steps p.tables e below (T64.setTop (mkF m 224 #[.val (.int p0), .val (.long q1), .second, .val (.long q2), .second, .val (.int p3), .val (.int (w0_m1 p0)), .val (.int (w0_m2 p0)), .val (.int (p3 &&& (3 : Int32))), .val (.long (w0_m3 q1 q2 p3)), .second, .val (.long (w0_m4 p0 q1)), .second, .val (.long (w0_m5 p0 q1 q2 p3)), .second, .val (.ref ob1), .val (.ref ob1), .val (.ref b56), .val (.ref b61), .val (.int (w0_6 p3)), .unset] [])) _
              refine XS.aload X64.here hx rfl (hb hby at_224) rfl rfl ?_
              show Steps p.tables e below (T64.setTop (mkF m 226 #[.val (.int p0), .val (.long q1), .second, .val (.long q2), .second, .val (.int p3), .val (.int (w0_m1 p0)), .val (.int (w0_m2 p0)), .val (.int (p3 &&& (3 : Int32))), .val (.long (w0_m3 q1 q2 p3)), .second, .val (.long (w0_m4 p0 q1)), .second, .val (.long (w0_m5 p0 q1 q2 p3)), .second, .val (.ref ob1), .val (.ref ob1), .val (.ref b56), .val (.ref b61), .val (.int (w0_6 p3)), .unset] [(.ref ob1)])) _
              refine XS.aload X64.here hx rfl (hb hby at_226) rfl rfl ?_
              show Steps p.tables e below (T64.setTop (mkF m 228 #[.val (.int p0), .val (.long q1), .second, .val (.long q2), .second, .val (.int p3), .val (.int (w0_m1 p0)), .val (.int (w0_m2 p0)), .val (.int (p3 &&& (3 : Int32))), .val (.long (w0_m3 q1 q2 p3)), .second, .val (.long (w0_m4 p0 q1)), .second, .val (.long (w0_m5 p0 q1 q2 p3)), .second, .val (.ref ob1), .val (.ref ob1), .val (.ref b56), .val (.ref b61), .val (.int (w0_6 p3)), .unset] [(.ref ob1), (.ref ob1)])) _
              exact k)
            have K93 : ∀ t, Steps p.tables e below (T64.setTop (mkF m 236 #[.val (.int p0), .val (.long q1), .second, .val (.long q2), .second, .val (.int p3), .val (.int (w0_m1 p0)), .val (.int (w0_m2 p0)), .val (.int (p3 &&& (3 : Int32))), .val (.long (w0_m3 q1 q2 p3)), .second, .val (.long (w0_m4 p0 q1)), .second, .val (.long (w0_m5 p0 q1 q2 p3)), .second, .val (.ref ob1), .val (.ref ob1), .val (.ref b56), .val (.ref b61), .val (.int (w0_6 p3)), .unset] [(.int (lcmpW (w0_m4 p0 q1) (w0_m5 p0 q1 q2 p3)))])) t → Steps p.tables e below S0 t := fun t k => K92 t (by
              refine Jvm.RoadKit.acmp (g := (mkF m 228 #[.val (.int p0), .val (.long q1), .second, .val (.long q2), .second, .val (.int p3), .val (.int (w0_m1 p0)), .val (.int (w0_m2 p0)), .val (.int (p3 &&& (3 : Int32))), .val (.long (w0_m3 q1 q2 p3)), .second, .val (.long (w0_m4 p0 q1)), .second, .val (.long (w0_m5 p0 q1 q2 p3)), .second, .val (.ref ob1), .val (.ref ob1), .val (.ref b56), .val (.ref b61), .val (.int (w0_6 p3)), .unset] [(.ref ob1), (.ref ob1)])) X64 hx rfl rfl rfl (pc0 := 228) (pc' := 231) (same := true) rfl (hb hby at_228) rfl (decide_eq_true rfl) (by decide) (by decide) ?_
              show Steps p.tables e below (T64.setTop (mkF m 231 #[.val (.int p0), .val (.long q1), .second, .val (.long q2), .second, .val (.int p3), .val (.int (w0_m1 p0)), .val (.int (w0_m2 p0)), .val (.int (p3 &&& (3 : Int32))), .val (.long (w0_m3 q1 q2 p3)), .second, .val (.long (w0_m4 p0 q1)), .second, .val (.long (w0_m5 p0 q1 q2 p3)), .second, .val (.ref ob1), .val (.ref ob1), .val (.ref b56), .val (.ref b61), .val (.int (w0_6 p3)), .unset] [])) _
              refine XS.lload X64.here hx rfl (hb hby at_231) rfl ?_
              show Steps p.tables e below (T64.setTop (mkF m 233 #[.val (.int p0), .val (.long q1), .second, .val (.long q2), .second, .val (.int p3), .val (.int (w0_m1 p0)), .val (.int (w0_m2 p0)), .val (.int (p3 &&& (3 : Int32))), .val (.long (w0_m3 q1 q2 p3)), .second, .val (.long (w0_m4 p0 q1)), .second, .val (.long (w0_m5 p0 q1 q2 p3)), .second, .val (.ref ob1), .val (.ref ob1), .val (.ref b56), .val (.ref b61), .val (.int (w0_6 p3)), .unset] [(.long (w0_m4 p0 q1))])) _
              refine XS.lload X64.here hx rfl (hb hby at_233) rfl ?_
              show Steps p.tables e below (T64.setTop (mkF m 235 #[.val (.int p0), .val (.long q1), .second, .val (.long q2), .second, .val (.int p3), .val (.int (w0_m1 p0)), .val (.int (w0_m2 p0)), .val (.int (p3 &&& (3 : Int32))), .val (.long (w0_m3 q1 q2 p3)), .second, .val (.long (w0_m4 p0 q1)), .second, .val (.long (w0_m5 p0 q1 q2 p3)), .second, .val (.ref ob1), .val (.ref ob1), .val (.ref b56), .val (.ref b61), .val (.int (w0_6 p3)), .unset] [(.long (w0_m5 p0 q1 q2 p3)), (.long (w0_m4 p0 q1))])) _
              refine XS.lcmp X64.here hx rfl (hb hby at_235) rfl ?_
              show Steps p.tables e below (T64.setTop (mkF m 236 #[.val (.int p0), .val (.long q1), .second, .val (.long q2), .second, .val (.int p3), .val (.int (w0_m1 p0)), .val (.int (w0_m2 p0)), .val (.int (p3 &&& (3 : Int32))), .val (.long (w0_m3 q1 q2 p3)), .second, .val (.long (w0_m4 p0 q1)), .second, .val (.long (w0_m5 p0 q1 q2 p3)), .second, .val (.ref ob1), .val (.ref ob1), .val (.ref b56), .val (.ref b61), .val (.int (w0_6 p3)), .unset] [(.int (lcmpW (w0_m4 p0 q1) (w0_m5 p0 q1 q2 p3)))])) _
              exact k)
            obtain ⟨T94, lo94, X94, N94, e94, K94⟩ : ∃ (T' : State) (locs' : List Loc), Stand p l e room_1 s m #[(.int p0), (.long q1), (.long q2), (.int p3)] below meth c T' locs' 2 4 ∧ Fr n0 locs' ∧ T'.heap = T64.heap ∧ ∀ t, Steps p.tables e below (T'.setTop (mkF m 244 #[.val (.int p0), .val (.long q1), .second, .val (.long q2), .second, .val (.int p3), .val (.int (w0_m1 p0)), .val (.int (w0_m2 p0)), .val (.int (p3 &&& (3 : Int32))), .val (.long (w0_m3 q1 q2 p3)), .second, .val (.long (w0_m4 p0 q1)), .second, .val (.long (w0_m5 p0 q1 q2 p3)), .second, .val (.ref ob1), .val (.ref ob1), .val (.ref b56), .val (.ref b61), .val (.int (w0_6 p3)), .unset] [(.int (w0_m7 p0 q1 q2 p3))])) t → Steps p.tables e below S0 t := by
              by_cases hc236_5 : (w0_m4 p0 q1) = (w0_m5 p0 q1 q2 p3)
              · -- yes
                have K95 : ∀ t, Steps p.tables e below (T64.setTop (mkF m 244 #[.val (.int p0), .val (.long q1), .second, .val (.long q2), .second, .val (.int p3), .val (.int (w0_m1 p0)), .val (.int (w0_m2 p0)), .val (.int (p3 &&& (3 : Int32))), .val (.long (w0_m3 q1 q2 p3)), .second, .val (.long (w0_m4 p0 q1)), .second, .val (.long (w0_m5 p0 q1 q2 p3)), .second, .val (.ref ob1), .val (.ref ob1), .val (.ref b56), .val (.ref b61), .val (.int (w0_6 p3)), .unset] [(.int (1 : Int32))])) t → Steps p.tables e below S0 t := fun t k => K93 t (by
                  refine XS.ifNo X64.here hx rfl (hb hby at_236) rfl (XT.ll_ne_f hc236_5) ?_
                  show Steps p.tables e below (T64.setTop (mkF m 239 #[.val (.int p0), .val (.long q1), .second, .val (.long q2), .second, .val (.int p3), .val (.int (w0_m1 p0)), .val (.int (w0_m2 p0)), .val (.int (p3 &&& (3 : Int32))), .val (.long (w0_m3 q1 q2 p3)), .second, .val (.long (w0_m4 p0 q1)), .second, .val (.long (w0_m5 p0 q1 q2 p3)), .second, .val (.ref ob1), .val (.ref ob1), .val (.ref b56), .val (.ref b61), .val (.int (w0_6 p3)), .unset] [])) _
                  refine XS.iconst X64.here hx rfl (hb hby at_239) ?_
                  show Steps p.tables e below (T64.setTop (mkF m 240 #[.val (.int p0), .val (.long q1), .second, .val (.long q2), .second, .val (.int p3), .val (.int (w0_m1 p0)), .val (.int (w0_m2 p0)), .val (.int (p3 &&& (3 : Int32))), .val (.long (w0_m3 q1 q2 p3)), .second, .val (.long (w0_m4 p0 q1)), .second, .val (.long (w0_m5 p0 q1 q2 p3)), .second, .val (.ref ob1), .val (.ref ob1), .val (.ref b56), .val (.ref b61), .val (.int (w0_6 p3)), .unset] [(.int (1 : Int32))])) _
                  refine XS.goto X64.here hx rfl (pc0 := 240) (pc' := 244) rfl (hb hby at_240) (by decide) (by decide) ?_
                  show Steps p.tables e below (T64.setTop (mkF m 244 #[.val (.int p0), .val (.long q1), .second, .val (.long q2), .second, .val (.int p3), .val (.int (w0_m1 p0)), .val (.int (w0_m2 p0)), .val (.int (p3 &&& (3 : Int32))), .val (.long (w0_m3 q1 q2 p3)), .second, .val (.long (w0_m4 p0 q1)), .second, .val (.long (w0_m5 p0 q1 q2 p3)), .second, .val (.ref ob1), .val (.ref ob1), .val (.ref b56), .val (.ref b61), .val (.int (w0_6 p3)), .unset] [(.int (1 : Int32))])) _
                  exact k)
                have q96 : (w0_m7 p0 q1 q2 p3) = (1 : Int32) := by unfold w0_m7; rw [if_pos hc236_5]
                exact ⟨T64, _, X64, N64, rfl, fun t k => K95 t (by rw [q96] at k; exact k)⟩
              · -- no
                have K97 : ∀ t, Steps p.tables e below (T64.setTop (mkF m 244 #[.val (.int p0), .val (.long q1), .second, .val (.long q2), .second, .val (.int p3), .val (.int (w0_m1 p0)), .val (.int (w0_m2 p0)), .val (.int (p3 &&& (3 : Int32))), .val (.long (w0_m3 q1 q2 p3)), .second, .val (.long (w0_m4 p0 q1)), .second, .val (.long (w0_m5 p0 q1 q2 p3)), .second, .val (.ref ob1), .val (.ref ob1), .val (.ref b56), .val (.ref b61), .val (.int (w0_6 p3)), .unset] [(.int (0 : Int32))])) t → Steps p.tables e below S0 t := fun t k => K93 t (by
                  refine XS.ifYes X64.here hx rfl (pc0 := 236) (pc' := 243) rfl (hb hby at_236) rfl (XT.ll_ne_t hc236_5) (by decide) (by decide) ?_
                  show Steps p.tables e below (T64.setTop (mkF m 243 #[.val (.int p0), .val (.long q1), .second, .val (.long q2), .second, .val (.int p3), .val (.int (w0_m1 p0)), .val (.int (w0_m2 p0)), .val (.int (p3 &&& (3 : Int32))), .val (.long (w0_m3 q1 q2 p3)), .second, .val (.long (w0_m4 p0 q1)), .second, .val (.long (w0_m5 p0 q1 q2 p3)), .second, .val (.ref ob1), .val (.ref ob1), .val (.ref b56), .val (.ref b61), .val (.int (w0_6 p3)), .unset] [])) _
                  refine XS.iconst X64.here hx rfl (hb hby at_243) ?_
                  show Steps p.tables e below (T64.setTop (mkF m 244 #[.val (.int p0), .val (.long q1), .second, .val (.long q2), .second, .val (.int p3), .val (.int (w0_m1 p0)), .val (.int (w0_m2 p0)), .val (.int (p3 &&& (3 : Int32))), .val (.long (w0_m3 q1 q2 p3)), .second, .val (.long (w0_m4 p0 q1)), .second, .val (.long (w0_m5 p0 q1 q2 p3)), .second, .val (.ref ob1), .val (.ref ob1), .val (.ref b56), .val (.ref b61), .val (.int (w0_6 p3)), .unset] [(.int (0 : Int32))])) _
                  exact k)
                have q98 : (w0_m7 p0 q1 q2 p3) = (0 : Int32) := by unfold w0_m7; rw [if_neg hc236_5]
                exact ⟨T64, _, X64, N64, rfl, fun t k => K97 t (by rw [q98] at k; exact k)⟩
            have K99 : ∀ t, Steps p.tables e below (T94.setTop (mkF m 250 #[.val (.int p0), .val (.long q1), .second, .val (.long q2), .second, .val (.int p3), .val (.int (w0_m1 p0)), .val (.int (w0_m2 p0)), .val (.int (p3 &&& (3 : Int32))), .val (.long (w0_m3 q1 q2 p3)), .second, .val (.long (w0_m4 p0 q1)), .second, .val (.long (w0_m5 p0 q1 q2 p3)), .second, .val (.ref ob1), .val (.ref ob1), .val (.ref b56), .val (.ref b61), .val (.int (w0_6 p3)), .val (.int (w0_m7 p0 q1 q2 p3))] [(.ref b61), (.ref b56)])) t → Steps p.tables e below S0 t := fun t k => K94 t (by
              refine XS.istore X94.here hx rfl (hb hby at_244) rfl (l' := #[.val (.int p0), .val (.long q1), .second, .val (.long q2), .second, .val (.int p3), .val (.int (w0_m1 p0)), .val (.int (w0_m2 p0)), .val (.int (p3 &&& (3 : Int32))), .val (.long (w0_m3 q1 q2 p3)), .second, .val (.long (w0_m4 p0 q1)), .second, .val (.long (w0_m5 p0 q1 q2 p3)), .second, .val (.ref ob1), .val (.ref ob1), .val (.ref b56), .val (.ref b61), .val (.int (w0_6 p3)), .val (.int (w0_m7 p0 q1 q2 p3))]) rfl ?_
              show Steps p.tables e below (T94.setTop (mkF m 246 #[.val (.int p0), .val (.long q1), .second, .val (.long q2), .second, .val (.int p3), .val (.int (w0_m1 p0)), .val (.int (w0_m2 p0)), .val (.int (p3 &&& (3 : Int32))), .val (.long (w0_m3 q1 q2 p3)), .second, .val (.long (w0_m4 p0 q1)), .second, .val (.long (w0_m5 p0 q1 q2 p3)), .second, .val (.ref ob1), .val (.ref ob1), .val (.ref b56), .val (.ref b61), .val (.int (w0_6 p3)), .val (.int (w0_m7 p0 q1 q2 p3))] [])) _
              refine XS.aload X94.here hx rfl (hb hby at_246) rfl rfl ?_
              show Steps p.tables e below (T94.setTop (mkF m 248 #[.val (.int p0), .val (.long q1), .second, .val (.long q2), .second, .val (.int p3), .val (.int (w0_m1 p0)), .val (.int (w0_m2 p0)), .val (.int (p3 &&& (3 : Int32))), .val (.long (w0_m3 q1 q2 p3)), .second, .val (.long (w0_m4 p0 q1)), .second, .val (.long (w0_m5 p0 q1 q2 p3)), .second, .val (.ref ob1), .val (.ref ob1), .val (.ref b56), .val (.ref b61), .val (.int (w0_6 p3)), .val (.int (w0_m7 p0 q1 q2 p3))] [(.ref b56)])) _
              refine XS.aload X94.here hx rfl (hb hby at_248) rfl rfl ?_
              show Steps p.tables e below (T94.setTop (mkF m 250 #[.val (.int p0), .val (.long q1), .second, .val (.long q2), .second, .val (.int p3), .val (.int (w0_m1 p0)), .val (.int (w0_m2 p0)), .val (.int (p3 &&& (3 : Int32))), .val (.long (w0_m3 q1 q2 p3)), .second, .val (.long (w0_m4 p0 q1)), .second, .val (.long (w0_m5 p0 q1 q2 p3)), .second, .val (.ref ob1), .val (.ref ob1), .val (.ref b56), .val (.ref b61), .val (.int (w0_6 p3)), .val (.int (w0_m7 p0 q1 q2 p3))] [(.ref b61), (.ref b56)])) _
              exact k)
            have K_100 : ∀ t, Steps p.tables e below (T94.setTop (mkF m 250 #[.val (.int p0), .val (.long q1), .second, .val (.long q2), .second, .val (.int p3), .val (.int (w0_m1 p0)), .val (.int (w0_m2 p0)), .val (.int (p3 &&& (3 : Int32))), .val (.long (w0_m3 q1 q2 p3)), .second, .val (.long (w0_m4 p0 q1)), .second, .val (.long (w0_m5 p0 q1 q2 p3)), .second, .val (.ref ob1), .val (.ref ob1), .val (.ref b56), .val (.ref b61), .val (.int (w0_6 p3)), .val (.int (w0_m7 p0 q1 q2 p3))] [(.ref b61), (.ref b56)])) t → Steps p.tables e below S0 t := K99
            obtain ⟨cq101, kq101, q101a, q101b, q101c⟩ := isOf hZ e94 Fn59_0__64
            obtain ⟨_, _, ⟨T101, L101, k101, n101⟩, -, X101, ⟨Lc101, hQ101, l101, y101, z101⟩, st101⟩ := X94.virtualBack hx (y := (⟨"com/example/acervo/acervo/index/DocumentValue", "equals", "(Ljava/lang/Object;)Z"⟩ : MethodName)) (z := (⟨"com/example/acervo/acervo/index/DocumentValue", "equals", "(Ljava/lang/Object;)Z"⟩ : MethodName)) hown (mvT hZ (hw _ (List.mem_of_getElem? (i := 23) rfl))) (mvT hZ (hw _ (List.mem_of_getElem? (i := 24) rfl))) (notFace_of_selects (args := #[]) (mvT hZ (hw _ (List.mem_of_getElem? (i := 26) rfl)))) (mvT hZ (hw _ (List.mem_of_getElem? (i := 26) rfl))) (mvT hZ (hw _ (List.mem_of_getElem? (i := 25) rfl))) (by decide) (backOf (W := 0) (rm6 l Z a0 hw [] b56 b61 ob1 (w0_m4 p0 q1) (w0_m5 p0 q1 q2 p3) T64.heap n0 Zs64 Fn64_0 Fn59_1__64 Fn59_2__64 Fn64_1 Fn64_2) hZ (hw _ (List.mem_of_getElem? (i := 27) rfl)) (hw _ (List.mem_of_getElem? (i := 5) rfl)) (by decide) (by decide)) q101a q101c (g := (mkF m 250 #[.val (.int p0), .val (.long q1), .second, .val (.long q2), .second, .val (.int p3), .val (.int (w0_m1 p0)), .val (.int (w0_m2 p0)), .val (.int (p3 &&& (3 : Int32))), .val (.long (w0_m3 q1 q2 p3)), .second, .val (.long (w0_m4 p0 q1)), .second, .val (.long (w0_m5 p0 q1 q2 p3)), .second, .val (.ref ob1), .val (.ref ob1), .val (.ref b56), .val (.ref b61), .val (.int (w0_6 p3)), .val (.int (w0_m7 p0 q1 q2 p3))] [(.ref b61), (.ref b56)])) rfl (by rw [hml]; rfl) (Steps.refl _) (argsL := [(.ref b61)]) (rest := []) (lenOf pd0_2 rfl) rfl (by show 2 * 0 + _ ≤ _; exact Nat.le_of_eq rfl) (hb hby at_250) (fun _ _ => ⟨rfl, e94, (by decide : 2 + 0 ≤ 16), (by decide : 4 + 0 ≤ 128)⟩)
            dsimp only [Pt.U, Pt.locs, Pt.cells, Pt.slots] at X101 l101 y101 z101 st101 hQ101
            subst l101 y101 z101
            obtain ⟨rfl, N101q, e101⟩ := hQ101
            have N101 := Fr.app N94 N101q
            have K101 : ∀ t, Steps p.tables e below (T101.setTop (mkF m 253 #[.val (.int p0), .val (.long q1), .second, .val (.long q2), .second, .val (.int p3), .val (.int (w0_m1 p0)), .val (.int (w0_m2 p0)), .val (.int (p3 &&& (3 : Int32))), .val (.long (w0_m3 q1 q2 p3)), .second, .val (.long (w0_m4 p0 q1)), .second, .val (.long (w0_m5 p0 q1 q2 p3)), .second, .val (.ref ob1), .val (.ref ob1), .val (.ref b56), .val (.ref b61), .val (.int (w0_6 p3)), .val (.int (w0_m7 p0 q1 q2 p3))] [(.int (w0_8 p0 q1 q2 p3))])) t → Steps p.tables e below S0 t := fun t k => K_100 t (st101.trans k)
            have K102 : ∀ t, Steps p.tables e below (T101.setTop (mkF m 255 #[.val (.int p0), .val (.long q1), .second, .val (.long q2), .second, .val (.int p3), .val (.int (w0_m1 p0)), .val (.int (w0_m2 p0)), .val (.int (p3 &&& (3 : Int32))), .val (.long (w0_m3 q1 q2 p3)), .second, .val (.long (w0_m4 p0 q1)), .second, .val (.long (w0_m5 p0 q1 q2 p3)), .second, .val (.ref ob1), .val (.ref ob1), .val (.ref b56), .val (.ref b61), .val (.int (w0_6 p3)), .val (.int (w0_m7 p0 q1 q2 p3))] [(.int (w0_m7 p0 q1 q2 p3)), (.int (w0_8 p0 q1 q2 p3))])) t → Steps p.tables e below S0 t := fun t k => K101 t (by
              refine XS.iload X101.here hx rfl (hb hby at_253) rfl ?_
              show Steps p.tables e below (T101.setTop (mkF m 255 #[.val (.int p0), .val (.long q1), .second, .val (.long q2), .second, .val (.int p3), .val (.int (w0_m1 p0)), .val (.int (w0_m2 p0)), .val (.int (p3 &&& (3 : Int32))), .val (.long (w0_m3 q1 q2 p3)), .second, .val (.long (w0_m4 p0 q1)), .second, .val (.long (w0_m5 p0 q1 q2 p3)), .second, .val (.ref ob1), .val (.ref ob1), .val (.ref b56), .val (.ref b61), .val (.int (w0_6 p3)), .val (.int (w0_m7 p0 q1 q2 p3))] [(.int (w0_m7 p0 q1 q2 p3)), (.int (w0_8 p0 q1 q2 p3))])) _
              exact k)
            by_cases hc255_5 : (w0_8 p0 q1 q2 p3) = (w0_m7 p0 q1 q2 p3)
            · -- yes
              have K103 : ∀ t, Steps p.tables e below (T101.setTop (mkF m 262 #[.val (.int p0), .val (.long q1), .second, .val (.long q2), .second, .val (.int p3), .val (.int (w0_m1 p0)), .val (.int (w0_m2 p0)), .val (.int (p3 &&& (3 : Int32))), .val (.long (w0_m3 q1 q2 p3)), .second, .val (.long (w0_m4 p0 q1)), .second, .val (.long (w0_m5 p0 q1 q2 p3)), .second, .val (.ref ob1), .val (.ref ob1), .val (.ref b56), .val (.ref b61), .val (.int (w0_6 p3)), .val (.int (w0_m7 p0 q1 q2 p3))] [(.ref b56), (.ref b61)])) t → Steps p.tables e below S0 t := fun t k => K102 t (by
                refine XS.icmpNo X101.here hx rfl (hb hby at_255) rfl (XT.ii_ne_f hc255_5) ?_
                show Steps p.tables e below (T101.setTop (mkF m 258 #[.val (.int p0), .val (.long q1), .second, .val (.long q2), .second, .val (.int p3), .val (.int (w0_m1 p0)), .val (.int (w0_m2 p0)), .val (.int (p3 &&& (3 : Int32))), .val (.long (w0_m3 q1 q2 p3)), .second, .val (.long (w0_m4 p0 q1)), .second, .val (.long (w0_m5 p0 q1 q2 p3)), .second, .val (.ref ob1), .val (.ref ob1), .val (.ref b56), .val (.ref b61), .val (.int (w0_6 p3)), .val (.int (w0_m7 p0 q1 q2 p3))] [])) _
                refine XS.aload X101.here hx rfl (hb hby at_258) rfl rfl ?_
                show Steps p.tables e below (T101.setTop (mkF m 260 #[.val (.int p0), .val (.long q1), .second, .val (.long q2), .second, .val (.int p3), .val (.int (w0_m1 p0)), .val (.int (w0_m2 p0)), .val (.int (p3 &&& (3 : Int32))), .val (.long (w0_m3 q1 q2 p3)), .second, .val (.long (w0_m4 p0 q1)), .second, .val (.long (w0_m5 p0 q1 q2 p3)), .second, .val (.ref ob1), .val (.ref ob1), .val (.ref b56), .val (.ref b61), .val (.int (w0_6 p3)), .val (.int (w0_m7 p0 q1 q2 p3))] [(.ref b61)])) _
                refine XS.aload X101.here hx rfl (hb hby at_260) rfl rfl ?_
                show Steps p.tables e below (T101.setTop (mkF m 262 #[.val (.int p0), .val (.long q1), .second, .val (.long q2), .second, .val (.int p3), .val (.int (w0_m1 p0)), .val (.int (w0_m2 p0)), .val (.int (p3 &&& (3 : Int32))), .val (.long (w0_m3 q1 q2 p3)), .second, .val (.long (w0_m4 p0 q1)), .second, .val (.long (w0_m5 p0 q1 q2 p3)), .second, .val (.ref ob1), .val (.ref ob1), .val (.ref b56), .val (.ref b61), .val (.int (w0_6 p3)), .val (.int (w0_m7 p0 q1 q2 p3))] [(.ref b56), (.ref b61)])) _
                exact k)
              have K_104 : ∀ t, Steps p.tables e below (T101.setTop (mkF m 262 #[.val (.int p0), .val (.long q1), .second, .val (.long q2), .second, .val (.int p3), .val (.int (w0_m1 p0)), .val (.int (w0_m2 p0)), .val (.int (p3 &&& (3 : Int32))), .val (.long (w0_m3 q1 q2 p3)), .second, .val (.long (w0_m4 p0 q1)), .second, .val (.long (w0_m5 p0 q1 q2 p3)), .second, .val (.ref ob1), .val (.ref ob1), .val (.ref b56), .val (.ref b61), .val (.int (w0_6 p3)), .val (.int (w0_m7 p0 q1 q2 p3))] [(.ref b56), (.ref b61)])) t → Steps p.tables e below S0 t := K103
              obtain ⟨cq105, kq105, q105a, q105b, q105c⟩ := isOf hZ e101 Fn64_0
              obtain ⟨_, _, ⟨T105, L105, k105, n105⟩, -, X105, ⟨Lc105, hQ105, l105, y105, z105⟩, st105⟩ := X101.virtualBack hx (y := (⟨"com/example/acervo/acervo/index/DocumentValue", "equals", "(Ljava/lang/Object;)Z"⟩ : MethodName)) (z := (⟨"com/example/acervo/acervo/index/DocumentValue", "equals", "(Ljava/lang/Object;)Z"⟩ : MethodName)) hown (mvT hZ (hw _ (List.mem_of_getElem? (i := 23) rfl))) (mvT hZ (hw _ (List.mem_of_getElem? (i := 24) rfl))) (notFace_of_selects (args := #[]) (mvT hZ (hw _ (List.mem_of_getElem? (i := 26) rfl)))) (mvT hZ (hw _ (List.mem_of_getElem? (i := 26) rfl))) (mvT hZ (hw _ (List.mem_of_getElem? (i := 25) rfl))) (by decide) (backOf (W := 0) (rm6 l Z a0 hw [] b61 b56 ob1 (w0_m5 p0 q1 q2 p3) (w0_m4 p0 q1) T64.heap n0 Zs64 Fn59_0__64 Fn64_1 Fn64_2 Fn59_1__64 Fn59_2__64) hZ (hw _ (List.mem_of_getElem? (i := 27) rfl)) (hw _ (List.mem_of_getElem? (i := 5) rfl)) (by decide) (by decide)) q105a q105c (g := (mkF m 262 #[.val (.int p0), .val (.long q1), .second, .val (.long q2), .second, .val (.int p3), .val (.int (w0_m1 p0)), .val (.int (w0_m2 p0)), .val (.int (p3 &&& (3 : Int32))), .val (.long (w0_m3 q1 q2 p3)), .second, .val (.long (w0_m4 p0 q1)), .second, .val (.long (w0_m5 p0 q1 q2 p3)), .second, .val (.ref ob1), .val (.ref ob1), .val (.ref b56), .val (.ref b61), .val (.int (w0_6 p3)), .val (.int (w0_m7 p0 q1 q2 p3))] [(.ref b56), (.ref b61)])) rfl (by rw [hml]; rfl) (Steps.refl _) (argsL := [(.ref b56)]) (rest := []) (lenOf pd0_2 rfl) rfl (by show 2 * 0 + _ ≤ _; exact Nat.le_of_eq rfl) (hb hby at_262) (fun _ _ => ⟨rfl, e101, (by decide : 2 + 0 ≤ 16), (by decide : 4 + 0 ≤ 128)⟩)
              dsimp only [Pt.U, Pt.locs, Pt.cells, Pt.slots] at X105 l105 y105 z105 st105 hQ105
              subst l105 y105 z105
              obtain ⟨rfl, N105q, e105⟩ := hQ105
              have N105 := Fr.app N101 N105q
              have K105 : ∀ t, Steps p.tables e below (T105.setTop (mkF m 265 #[.val (.int p0), .val (.long q1), .second, .val (.long q2), .second, .val (.int p3), .val (.int (w0_m1 p0)), .val (.int (w0_m2 p0)), .val (.int (p3 &&& (3 : Int32))), .val (.long (w0_m3 q1 q2 p3)), .second, .val (.long (w0_m4 p0 q1)), .second, .val (.long (w0_m5 p0 q1 q2 p3)), .second, .val (.ref ob1), .val (.ref ob1), .val (.ref b56), .val (.ref b61), .val (.int (w0_6 p3)), .val (.int (w0_m7 p0 q1 q2 p3))] [(.int (w0_9 p0 q1 q2 p3))])) t → Steps p.tables e below S0 t := fun t k => K_104 t (st105.trans k)
              have K106 : ∀ t, Steps p.tables e below (T105.setTop (mkF m 267 #[.val (.int p0), .val (.long q1), .second, .val (.long q2), .second, .val (.int p3), .val (.int (w0_m1 p0)), .val (.int (w0_m2 p0)), .val (.int (p3 &&& (3 : Int32))), .val (.long (w0_m3 q1 q2 p3)), .second, .val (.long (w0_m4 p0 q1)), .second, .val (.long (w0_m5 p0 q1 q2 p3)), .second, .val (.ref ob1), .val (.ref ob1), .val (.ref b56), .val (.ref b61), .val (.int (w0_6 p3)), .val (.int (w0_m7 p0 q1 q2 p3))] [(.int (w0_m7 p0 q1 q2 p3)), (.int (w0_9 p0 q1 q2 p3))])) t → Steps p.tables e below S0 t := fun t k => K105 t (by
                refine XS.iload X105.here hx rfl (hb hby at_265) rfl ?_
                show Steps p.tables e below (T105.setTop (mkF m 267 #[.val (.int p0), .val (.long q1), .second, .val (.long q2), .second, .val (.int p3), .val (.int (w0_m1 p0)), .val (.int (w0_m2 p0)), .val (.int (p3 &&& (3 : Int32))), .val (.long (w0_m3 q1 q2 p3)), .second, .val (.long (w0_m4 p0 q1)), .second, .val (.long (w0_m5 p0 q1 q2 p3)), .second, .val (.ref ob1), .val (.ref ob1), .val (.ref b56), .val (.ref b61), .val (.int (w0_6 p3)), .val (.int (w0_m7 p0 q1 q2 p3))] [(.int (w0_m7 p0 q1 q2 p3)), (.int (w0_9 p0 q1 q2 p3))])) _
                exact k)
              by_cases hc267_6 : (w0_9 p0 q1 q2 p3) = (w0_m7 p0 q1 q2 p3)
              · -- yes
                have K107 : ∀ t, Steps p.tables e below (T105.setTop (mkF m 275 #[.val (.int p0), .val (.long q1), .second, .val (.long q2), .second, .val (.int p3), .val (.int (w0_m1 p0)), .val (.int (w0_m2 p0)), .val (.int (p3 &&& (3 : Int32))), .val (.long (w0_m3 q1 q2 p3)), .second, .val (.long (w0_m4 p0 q1)), .second, .val (.long (w0_m5 p0 q1 q2 p3)), .second, .val (.ref ob1), .val (.ref ob1), .val (.ref b56), .val (.ref b61), .val (.int (w0_6 p3)), .val (.int (w0_m7 p0 q1 q2 p3))] [(.int (1 : Int32))])) t → Steps p.tables e below S0 t := fun t k => K106 t (by
                  refine XS.icmpNo X105.here hx rfl (hb hby at_267) rfl (XT.ii_ne_f hc267_6) ?_
                  show Steps p.tables e below (T105.setTop (mkF m 270 #[.val (.int p0), .val (.long q1), .second, .val (.long q2), .second, .val (.int p3), .val (.int (w0_m1 p0)), .val (.int (w0_m2 p0)), .val (.int (p3 &&& (3 : Int32))), .val (.long (w0_m3 q1 q2 p3)), .second, .val (.long (w0_m4 p0 q1)), .second, .val (.long (w0_m5 p0 q1 q2 p3)), .second, .val (.ref ob1), .val (.ref ob1), .val (.ref b56), .val (.ref b61), .val (.int (w0_6 p3)), .val (.int (w0_m7 p0 q1 q2 p3))] [])) _
                  refine XS.iconst X105.here hx rfl (hb hby at_270) ?_
                  show Steps p.tables e below (T105.setTop (mkF m 271 #[.val (.int p0), .val (.long q1), .second, .val (.long q2), .second, .val (.int p3), .val (.int (w0_m1 p0)), .val (.int (w0_m2 p0)), .val (.int (p3 &&& (3 : Int32))), .val (.long (w0_m3 q1 q2 p3)), .second, .val (.long (w0_m4 p0 q1)), .second, .val (.long (w0_m5 p0 q1 q2 p3)), .second, .val (.ref ob1), .val (.ref ob1), .val (.ref b56), .val (.ref b61), .val (.int (w0_6 p3)), .val (.int (w0_m7 p0 q1 q2 p3))] [(.int (1 : Int32))])) _
                  refine XS.goto X105.here hx rfl (pc0 := 271) (pc' := 275) rfl (hb hby at_271) (by decide) (by decide) ?_
                  show Steps p.tables e below (T105.setTop (mkF m 275 #[.val (.int p0), .val (.long q1), .second, .val (.long q2), .second, .val (.int p3), .val (.int (w0_m1 p0)), .val (.int (w0_m2 p0)), .val (.int (p3 &&& (3 : Int32))), .val (.long (w0_m3 q1 q2 p3)), .second, .val (.long (w0_m4 p0 q1)), .second, .val (.long (w0_m5 p0 q1 q2 p3)), .second, .val (.ref ob1), .val (.ref ob1), .val (.ref b56), .val (.ref b61), .val (.int (w0_6 p3)), .val (.int (w0_m7 p0 q1 q2 p3))] [(.int (1 : Int32))])) _
                  exact k)
                obtain ⟨fs, hr, hrun, hended, hW, hsame⟩ := X105.leave (v := some (.int (1 : Int32))) (fun h => by rw [Bd.returns] at h; cases h) hlk
                refine ⟨_, _, ?_, hrun, hended, _, _, rfl, ?_, ⟨_, rfl⟩, hW, hsame.mono (by decide) (by decide)⟩
                · rw [← hS0]; exact K107 _ (retN X105 hx (t := .boolean) Bd.returns (by simp) (hb hby at_275) hr)
                · show Q0 Z p0 q1 q2 p3 ob1 ob2 oc cc h0 n0 _ T105.heap _
                  rw [e105]
                  have qr : (1 : Int32) = (w0_r10 p0 q1 q2 p3) := by unfold w0_r10; rw [if_pos hc100_0, if_pos hc116_1, if_neg hc167_2, if_neg hc188_3, if_neg hc213_4, if_pos hc255_5, if_pos hc267_6]
                  exact ⟨congrArg (fun z => some (Value.int z)) qr, N105⟩
              · -- no
                have K108 : ∀ t, Steps p.tables e below (T105.setTop (mkF m 275 #[.val (.int p0), .val (.long q1), .second, .val (.long q2), .second, .val (.int p3), .val (.int (w0_m1 p0)), .val (.int (w0_m2 p0)), .val (.int (p3 &&& (3 : Int32))), .val (.long (w0_m3 q1 q2 p3)), .second, .val (.long (w0_m4 p0 q1)), .second, .val (.long (w0_m5 p0 q1 q2 p3)), .second, .val (.ref ob1), .val (.ref ob1), .val (.ref b56), .val (.ref b61), .val (.int (w0_6 p3)), .val (.int (w0_m7 p0 q1 q2 p3))] [(.int (0 : Int32))])) t → Steps p.tables e below S0 t := fun t k => K106 t (by
                  refine XS.icmpYes X105.here hx rfl (pc0 := 267) (pc' := 274) rfl (hb hby at_267) rfl (XT.ii_ne_t hc267_6) (by decide) (by decide) ?_
                  show Steps p.tables e below (T105.setTop (mkF m 274 #[.val (.int p0), .val (.long q1), .second, .val (.long q2), .second, .val (.int p3), .val (.int (w0_m1 p0)), .val (.int (w0_m2 p0)), .val (.int (p3 &&& (3 : Int32))), .val (.long (w0_m3 q1 q2 p3)), .second, .val (.long (w0_m4 p0 q1)), .second, .val (.long (w0_m5 p0 q1 q2 p3)), .second, .val (.ref ob1), .val (.ref ob1), .val (.ref b56), .val (.ref b61), .val (.int (w0_6 p3)), .val (.int (w0_m7 p0 q1 q2 p3))] [])) _
                  refine XS.iconst X105.here hx rfl (hb hby at_274) ?_
                  show Steps p.tables e below (T105.setTop (mkF m 275 #[.val (.int p0), .val (.long q1), .second, .val (.long q2), .second, .val (.int p3), .val (.int (w0_m1 p0)), .val (.int (w0_m2 p0)), .val (.int (p3 &&& (3 : Int32))), .val (.long (w0_m3 q1 q2 p3)), .second, .val (.long (w0_m4 p0 q1)), .second, .val (.long (w0_m5 p0 q1 q2 p3)), .second, .val (.ref ob1), .val (.ref ob1), .val (.ref b56), .val (.ref b61), .val (.int (w0_6 p3)), .val (.int (w0_m7 p0 q1 q2 p3))] [(.int (0 : Int32))])) _
                  exact k)
                obtain ⟨fs, hr, hrun, hended, hW, hsame⟩ := X105.leave (v := some (.int (0 : Int32))) (fun h => by rw [Bd.returns] at h; cases h) hlk
                refine ⟨_, _, ?_, hrun, hended, _, _, rfl, ?_, ⟨_, rfl⟩, hW, hsame.mono (by decide) (by decide)⟩
                · rw [← hS0]; exact K108 _ (retN X105 hx (t := .boolean) Bd.returns (by simp) (hb hby at_275) hr)
                · show Q0 Z p0 q1 q2 p3 ob1 ob2 oc cc h0 n0 _ T105.heap _
                  rw [e105]
                  have qr : (0 : Int32) = (w0_r10 p0 q1 q2 p3) := by unfold w0_r10; rw [if_pos hc100_0, if_pos hc116_1, if_neg hc167_2, if_neg hc188_3, if_neg hc213_4, if_pos hc255_5, if_neg hc267_6]
                  exact ⟨congrArg (fun z => some (Value.int z)) qr, N105⟩
            · -- no
              have K109 : ∀ t, Steps p.tables e below (T101.setTop (mkF m 275 #[.val (.int p0), .val (.long q1), .second, .val (.long q2), .second, .val (.int p3), .val (.int (w0_m1 p0)), .val (.int (w0_m2 p0)), .val (.int (p3 &&& (3 : Int32))), .val (.long (w0_m3 q1 q2 p3)), .second, .val (.long (w0_m4 p0 q1)), .second, .val (.long (w0_m5 p0 q1 q2 p3)), .second, .val (.ref ob1), .val (.ref ob1), .val (.ref b56), .val (.ref b61), .val (.int (w0_6 p3)), .val (.int (w0_m7 p0 q1 q2 p3))] [(.int (0 : Int32))])) t → Steps p.tables e below S0 t := fun t k => K102 t (by
                refine XS.icmpYes X101.here hx rfl (pc0 := 255) (pc' := 274) rfl (hb hby at_255) rfl (XT.ii_ne_t hc255_5) (by decide) (by decide) ?_
                show Steps p.tables e below (T101.setTop (mkF m 274 #[.val (.int p0), .val (.long q1), .second, .val (.long q2), .second, .val (.int p3), .val (.int (w0_m1 p0)), .val (.int (w0_m2 p0)), .val (.int (p3 &&& (3 : Int32))), .val (.long (w0_m3 q1 q2 p3)), .second, .val (.long (w0_m4 p0 q1)), .second, .val (.long (w0_m5 p0 q1 q2 p3)), .second, .val (.ref ob1), .val (.ref ob1), .val (.ref b56), .val (.ref b61), .val (.int (w0_6 p3)), .val (.int (w0_m7 p0 q1 q2 p3))] [])) _
                refine XS.iconst X101.here hx rfl (hb hby at_274) ?_
                show Steps p.tables e below (T101.setTop (mkF m 275 #[.val (.int p0), .val (.long q1), .second, .val (.long q2), .second, .val (.int p3), .val (.int (w0_m1 p0)), .val (.int (w0_m2 p0)), .val (.int (p3 &&& (3 : Int32))), .val (.long (w0_m3 q1 q2 p3)), .second, .val (.long (w0_m4 p0 q1)), .second, .val (.long (w0_m5 p0 q1 q2 p3)), .second, .val (.ref ob1), .val (.ref ob1), .val (.ref b56), .val (.ref b61), .val (.int (w0_6 p3)), .val (.int (w0_m7 p0 q1 q2 p3))] [(.int (0 : Int32))])) _
                exact k)
              obtain ⟨fs, hr, hrun, hended, hW, hsame⟩ := X101.leave (v := some (.int (0 : Int32))) (fun h => by rw [Bd.returns] at h; cases h) hlk
              refine ⟨_, _, ?_, hrun, hended, _, _, rfl, ?_, ⟨_, rfl⟩, hW, hsame.mono (by decide) (by decide)⟩
              · rw [← hS0]; exact K109 _ (retN X101 hx (t := .boolean) Bd.returns (by simp) (hb hby at_275) hr)
              · show Q0 Z p0 q1 q2 p3 ob1 ob2 oc cc h0 n0 _ T101.heap _
                rw [e101]
                have qr : (0 : Int32) = (w0_r10 p0 q1 q2 p3) := by unfold w0_r10; rw [if_pos hc100_0, if_pos hc116_1, if_neg hc167_2, if_neg hc188_3, if_neg hc213_4, if_neg hc255_5]
                exact ⟨congrArg (fun z => some (Value.int z)) qr, N101⟩
    · -- no
      have K110 : ∀ t, Steps p.tables e below (T51.setTop (mkF m 119 #[.val (.int p0), .val (.long q1), .second, .val (.long q2), .second, .val (.int p3), .val (.int (w0_m1 p0)), .val (.int (w0_m2 p0)), .val (.int (p3 &&& (3 : Int32))), .val (.long (w0_m3 q1 q2 p3)), .second, .val (.long (w0_m4 p0 q1)), .second, .val (.long (w0_m5 p0 q1 q2 p3)), .second, .val (.ref ob1), .unset, .unset, .unset, .unset, .unset] [])) t → Steps p.tables e below S0 t := fun t k => K52 t (by
        refine XS.ifNo X51.here hx rfl (hb hby at_116) rfl (XT.i0_eq_f hc116_1) ?_
        show Steps p.tables e below (T51.setTop (mkF m 119 #[.val (.int p0), .val (.long q1), .second, .val (.long q2), .second, .val (.int p3), .val (.int (w0_m1 p0)), .val (.int (w0_m2 p0)), .val (.int (p3 &&& (3 : Int32))), .val (.long (w0_m3 q1 q2 p3)), .second, .val (.long (w0_m4 p0 q1)), .second, .val (.long (w0_m5 p0 q1 q2 p3)), .second, .val (.ref ob1), .unset, .unset, .unset, .unset, .unset] [])) _
        exact k)
      obtain ⟨T111, X111, e111, st111⟩ := getS2 X51 hx hZ hown (host := "") (Or.inl (hw _ (List.mem_of_getElem? (i := 37) rfl))) Via.refl e51 S_DocumentValue_Kind_DATE__0 (g := (mkF m 119 #[.val (.int p0), .val (.long q1), .second, .val (.long q2), .second, .val (.int p3), .val (.int (w0_m1 p0)), .val (.int (w0_m2 p0)), .val (.int (p3 &&& (3 : Int32))), .val (.long (w0_m3 q1 q2 p3)), .second, .val (.long (w0_m4 p0 q1)), .second, .val (.long (w0_m5 p0 q1 q2 p3)), .second, .val (.ref ob1), .unset, .unset, .unset, .unset, .unset] [])) rfl (hb hby at_119)
      have K111 : ∀ t, Steps p.tables e below (T111.setTop (mkF m 122 #[.val (.int p0), .val (.long q1), .second, .val (.long q2), .second, .val (.int p3), .val (.int (w0_m1 p0)), .val (.int (w0_m2 p0)), .val (.int (p3 &&& (3 : Int32))), .val (.long (w0_m3 q1 q2 p3)), .second, .val (.long (w0_m4 p0 q1)), .second, .val (.long (w0_m5 p0 q1 q2 p3)), .second, .val (.ref ob1), .unset, .unset, .unset, .unset, .unset] [(.ref ob2)])) t → Steps p.tables e below S0 t := fun t k => K110 t (st111 t k)
      have K112 : ∀ t, Steps p.tables e below (T111.setTop (mkF m 130 #[.val (.int p0), .val (.long q1), .second, .val (.long q2), .second, .val (.int p3), .val (.int (w0_m1 p0)), .val (.int (w0_m2 p0)), .val (.int (p3 &&& (3 : Int32))), .val (.long (w0_m3 q1 q2 p3)), .second, .val (.long (w0_m4 p0 q1)), .second, .val (.long (w0_m5 p0 q1 q2 p3)), .second, .val (.ref ob1), .val (.ref ob2), .unset, .unset, .unset, .unset] [])) t → Steps p.tables e below S0 t := fun t k => K111 t (by
        refine XS.goto X111.here hx rfl (pc0 := 122) (pc' := 128) rfl (hb hby at_122) (by decide) (by decide) ?_
        show Steps p.tables e below (T111.setTop (mkF m 128 #[.val (.int p0), .val (.long q1), .second, .val (.long q2), .second, .val (.int p3), .val (.int (w0_m1 p0)), .val (.int (w0_m2 p0)), .val (.int (p3 &&& (3 : Int32))), .val (.long (w0_m3 q1 q2 p3)), .second, .val (.long (w0_m4 p0 q1)), .second, .val (.long (w0_m5 p0 q1 q2 p3)), .second, .val (.ref ob1), .unset, .unset, .unset, .unset, .unset] [(.ref ob2)])) _
        refine XS.astore X111.here hx rfl (hb hby at_128) rfl rfl (l' := #[.val (.int p0), .val (.long q1), .second, .val (.long q2), .second, .val (.int p3), .val (.int (w0_m1 p0)), .val (.int (w0_m2 p0)), .val (.int (p3 &&& (3 : Int32))), .val (.long (w0_m3 q1 q2 p3)), .second, .val (.long (w0_m4 p0 q1)), .second, .val (.long (w0_m5 p0 q1 q2 p3)), .second, .val (.ref ob1), .val (.ref ob2), .unset, .unset, .unset, .unset]) rfl ?_
        show Steps p.tables e below (T111.setTop (mkF m 130 #[.val (.int p0), .val (.long q1), .second, .val (.long q2), .second, .val (.int p3), .val (.int (w0_m1 p0)), .val (.int (w0_m2 p0)), .val (.int (p3 &&& (3 : Int32))), .val (.long (w0_m3 q1 q2 p3)), .second, .val (.long (w0_m4 p0 q1)), .second, .val (.long (w0_m5 p0 q1 q2 p3)), .second, .val (.ref ob1), .val (.ref ob2), .unset, .unset, .unset, .unset] [])) _
        exact k)
      obtain ⟨T113, h113, X113, e113, E113, A113, D113, -, st113⟩ := newO X111 hx hZ hown (hw _ (List.mem_of_getElem? (i := 3) rfl)) (hw _ (List.mem_of_getElem? (i := 4) rfl)) (hw _ (List.mem_of_getElem? (i := 5) rfl)) e111 (g := (mkF m 130 #[.val (.int p0), .val (.long q1), .second, .val (.long q2), .second, .val (.int p3), .val (.int (w0_m1 p0)), .val (.int (w0_m2 p0)), .val (.int (p3 &&& (3 : Int32))), .val (.long (w0_m3 q1 q2 p3)), .second, .val (.long (w0_m4 p0 q1)), .second, .val (.long (w0_m5 p0 q1 q2 p3)), .second, .val (.ref ob1), .val (.ref ob2), .unset, .unset, .unset, .unset] [])) rfl (hb hby at_130) (by decide) (by decide)
      obtain ⟨b113, g113⟩ : ∃ z, z = h0.size := ⟨_, rfl⟩
      rw [← g113] at A113 D113 st113
      have ne_ob1_b113 : ob1 ≠ b113 := Nat.ne_of_lt (Nat.lt_of_lt_of_le E_ob1__0.lt (Nat.le_of_eq g113.symm))
      have ne_ob2_b113 : ob2 ≠ b113 := Nat.ne_of_lt (Nat.lt_of_lt_of_le E_ob2__0.lt (Nat.le_of_eq g113.symm))
      have ne_oc_b113 : oc ≠ b113 := Nat.ne_of_lt (Nat.lt_of_lt_of_le Ar_oc__0.lt (Nat.le_of_eq g113.symm))
      have OL113 := OL0.ext E113
      have S_DocumentValue_Kind_NUMBER__113 := S_DocumentValue_Kind_NUMBER.ext OL113.2
      have S_DocumentValue_Kind_DATE__113 := S_DocumentValue_Kind_DATE.ext OL113.2
      have E_ob1__113 := E_ob1.ext OL113.2
      have E_ob2__113 := E_ob2.ext OL113.2
      have S_Long_LongCache_cache__113 := S_Long_LongCache_cache.ext OL113.2
      have Ar_oc__113 := Ar_oc.ext OL113.2
      have g_b113 : n0 ≤ b113 := Nat.le_trans Z0 (Nat.le_of_eq g113.symm)
      have Zs113 : n0 ≤ h113.size := Nat.le_trans Z0 E113.1
      have F_b113_kind : Fld Z h113 b113 "com/example/acervo/acervo/index/DocumentValue" "kind" "Lcom/example/acervo/acervo/index/DocumentValue$Kind;" .null := D113 (Or.inr (hw _ (List.mem_of_getElem? (i := 20) rfl))) (ty := (.object "com/example/acervo/acervo/index/DocumentValue$Kind")) (by decide)
      have F_b113_number : Fld Z h113 b113 "com/example/acervo/acervo/index/DocumentValue" "number" "J" (.long (0 : Int64)) := D113 (Or.inr (hw _ (List.mem_of_getElem? (i := 22) rfl))) (ty := .long) (by decide)
      have K113 : ∀ t, Steps p.tables e below (T113.setTop (mkF m 133 #[.val (.int p0), .val (.long q1), .second, .val (.long q2), .second, .val (.int p3), .val (.int (w0_m1 p0)), .val (.int (w0_m2 p0)), .val (.int (p3 &&& (3 : Int32))), .val (.long (w0_m3 q1 q2 p3)), .second, .val (.long (w0_m4 p0 q1)), .second, .val (.long (w0_m5 p0 q1 q2 p3)), .second, .val (.ref ob1), .val (.ref ob2), .unset, .unset, .unset, .unset] [(.ref b113)])) t → Steps p.tables e below S0 t := fun t k => K112 t (st113 t k)
      have K114 : ∀ t, Steps p.tables e below (T113.setTop (mkF m 138 #[.val (.int p0), .val (.long q1), .second, .val (.long q2), .second, .val (.int p3), .val (.int (w0_m1 p0)), .val (.int (w0_m2 p0)), .val (.int (p3 &&& (3 : Int32))), .val (.long (w0_m3 q1 q2 p3)), .second, .val (.long (w0_m4 p0 q1)), .second, .val (.long (w0_m5 p0 q1 q2 p3)), .second, .val (.ref ob1), .val (.ref ob2), .unset, .unset, .unset, .unset] [(.long (w0_m4 p0 q1)), (.ref ob1), (.ref b113), (.ref b113)])) t → Steps p.tables e below S0 t := fun t k => K113 t (by
        refine XS.dup X113.here hx rfl (hb hby at_133) rfl rfl ?_
        show Steps p.tables e below (T113.setTop (mkF m 134 #[.val (.int p0), .val (.long q1), .second, .val (.long q2), .second, .val (.int p3), .val (.int (w0_m1 p0)), .val (.int (w0_m2 p0)), .val (.int (p3 &&& (3 : Int32))), .val (.long (w0_m3 q1 q2 p3)), .second, .val (.long (w0_m4 p0 q1)), .second, .val (.long (w0_m5 p0 q1 q2 p3)), .second, .val (.ref ob1), .val (.ref ob2), .unset, .unset, .unset, .unset] [(.ref b113), (.ref b113)])) _
        refine XS.aload X113.here hx rfl (hb hby at_134) rfl rfl ?_
        show Steps p.tables e below (T113.setTop (mkF m 136 #[.val (.int p0), .val (.long q1), .second, .val (.long q2), .second, .val (.int p3), .val (.int (w0_m1 p0)), .val (.int (w0_m2 p0)), .val (.int (p3 &&& (3 : Int32))), .val (.long (w0_m3 q1 q2 p3)), .second, .val (.long (w0_m4 p0 q1)), .second, .val (.long (w0_m5 p0 q1 q2 p3)), .second, .val (.ref ob1), .val (.ref ob2), .unset, .unset, .unset, .unset] [(.ref ob1), (.ref b113), (.ref b113)])) _
        refine XS.lload X113.here hx rfl (hb hby at_136) rfl ?_
        show Steps p.tables e below (T113.setTop (mkF m 138 #[.val (.int p0), .val (.long q1), .second, .val (.long q2), .second, .val (.int p3), .val (.int (w0_m1 p0)), .val (.int (w0_m2 p0)), .val (.int (p3 &&& (3 : Int32))), .val (.long (w0_m3 q1 q2 p3)), .second, .val (.long (w0_m4 p0 q1)), .second, .val (.long (w0_m5 p0 q1 q2 p3)), .second, .val (.ref ob1), .val (.ref ob2), .unset, .unset, .unset, .unset] [(.long (w0_m4 p0 q1)), (.ref ob1), (.ref b113), (.ref b113)])) _
        exact k)
      have K_115 : ∀ t, Steps p.tables e below (T113.setTop (mkF m 138 #[.val (.int p0), .val (.long q1), .second, .val (.long q2), .second, .val (.int p3), .val (.int (w0_m1 p0)), .val (.int (w0_m2 p0)), .val (.int (p3 &&& (3 : Int32))), .val (.long (w0_m3 q1 q2 p3)), .second, .val (.long (w0_m4 p0 q1)), .second, .val (.long (w0_m5 p0 q1 q2 p3)), .second, .val (.ref ob1), .val (.ref ob2), .unset, .unset, .unset, .unset] [(.long (w0_m4 p0 q1)), (.ref ob1), (.ref b113), (.ref b113)])) t → Steps p.tables e below S0 t := K114
      obtain ⟨_, _, ⟨T116, L116, k116, n116⟩, -, X116, ⟨Lc116, hQ116, l116, y116, z116⟩, st116⟩ := X113.specialBack hx (y := (⟨"com/example/acervo/acervo/index/DocumentValue", "<init>", "(Lcom/example/acervo/acervo/index/DocumentValue$Kind;J)V"⟩ : MethodName)) rfl hown (mvT hZ (hw _ (List.mem_of_getElem? (i := 6) rfl))) (mvT hZ (hw _ (List.mem_of_getElem? (i := 7) rfl))) (mvT hZ (hw _ (List.mem_of_getElem? (i := 8) rfl))) (by decide) (backOf (W := 1) (rm5 l Z a0 hw [] b113 ob1 (w0_m4 p0 q1) ob2 h113 n0 Zs113 A113 F_b113_kind F_b113_number g_b113 S_DocumentValue_Kind_DATE__113 ne_ob1_ob2) hZ (hw _ (List.mem_of_getElem? (i := 8) rfl)) (hw _ (List.mem_of_getElem? (i := 5) rfl)) (by decide) (by decide)) (g := (mkF m 138 #[.val (.int p0), .val (.long q1), .second, .val (.long q2), .second, .val (.int p3), .val (.int (w0_m1 p0)), .val (.int (w0_m2 p0)), .val (.int (p3 &&& (3 : Int32))), .val (.long (w0_m3 q1 q2 p3)), .second, .val (.long (w0_m4 p0 q1)), .second, .val (.long (w0_m5 p0 q1 q2 p3)), .second, .val (.ref ob1), .val (.ref ob2), .unset, .unset, .unset, .unset] [(.long (w0_m4 p0 q1)), (.ref ob1), (.ref b113), (.ref b113)])) rfl (by rw [hml]; rfl) (Steps.refl _) (a := b113) (argsL := [(.ref ob1), (.long (w0_m4 p0 q1))]) (rest := [(.ref b113)]) (lenOf pd0_1 rfl) rfl (by show 2 * 0 + _ ≤ _; exact Nat.le_of_eq rfl) (hb hby at_138) (fun _ _ => ⟨rfl, e113, (by decide : 1 + 0 ≤ 16), (by decide : 2 + 0 ≤ 128)⟩)
      dsimp only [Pt.U, Pt.locs, Pt.cells, Pt.slots] at X116 l116 y116 z116 st116 hQ116
      subst l116 y116 z116
      obtain ⟨rfl, N116q, Kp116, Fn116_0, Fn116_1, Fn116_2⟩ := hQ116
      have N116 := Fr.app N26 N116q
      have OL116 := OL113.keep Kp116 (allS (P := fun x => n0 ≤ x) g_b113 all0)
      have S_DocumentValue_Kind_NUMBER__116 := S_DocumentValue_Kind_NUMBER.ext OL116.2
      have S_DocumentValue_Kind_DATE__116 := S_DocumentValue_Kind_DATE.ext OL116.2
      have E_ob1__116 := E_ob1.ext OL116.2
      have E_ob2__116 := E_ob2.ext OL116.2
      have S_Long_LongCache_cache__116 := S_Long_LongCache_cache.ext OL116.2
      have Ar_oc__116 := Ar_oc.ext OL116.2
      have Zs116 : n0 ≤ T116.heap.size := Nat.le_trans Zs113 Kp116.1
      have K116 : ∀ t, Steps p.tables e below (T116.setTop (mkF m 141 #[.val (.int p0), .val (.long q1), .second, .val (.long q2), .second, .val (.int p3), .val (.int (w0_m1 p0)), .val (.int (w0_m2 p0)), .val (.int (p3 &&& (3 : Int32))), .val (.long (w0_m3 q1 q2 p3)), .second, .val (.long (w0_m4 p0 q1)), .second, .val (.long (w0_m5 p0 q1 q2 p3)), .second, .val (.ref ob1), .val (.ref ob2), .unset, .unset, .unset, .unset] [(.ref b113)])) t → Steps p.tables e below S0 t := fun t k => K_115 t (st116.trans k)
      have K117 : ∀ t, Steps p.tables e below (T116.setTop (mkF m 143 #[.val (.int p0), .val (.long q1), .second, .val (.long q2), .second, .val (.int p3), .val (.int (w0_m1 p0)), .val (.int (w0_m2 p0)), .val (.int (p3 &&& (3 : Int32))), .val (.long (w0_m3 q1 q2 p3)), .second, .val (.long (w0_m4 p0 q1)), .second, .val (.long (w0_m5 p0 q1 q2 p3)), .second, .val (.ref ob1), .val (.ref ob2), .val (.ref b113), .unset, .unset, .unset] [])) t → Steps p.tables e below S0 t := fun t k => K116 t (by
        refine XS.astore X116.here hx rfl (hb hby at_141) rfl rfl (l' := #[.val (.int p0), .val (.long q1), .second, .val (.long q2), .second, .val (.int p3), .val (.int (w0_m1 p0)), .val (.int (w0_m2 p0)), .val (.int (p3 &&& (3 : Int32))), .val (.long (w0_m3 q1 q2 p3)), .second, .val (.long (w0_m4 p0 q1)), .second, .val (.long (w0_m5 p0 q1 q2 p3)), .second, .val (.ref ob1), .val (.ref ob2), .val (.ref b113), .unset, .unset, .unset]) rfl ?_
        show Steps p.tables e below (T116.setTop (mkF m 143 #[.val (.int p0), .val (.long q1), .second, .val (.long q2), .second, .val (.int p3), .val (.int (w0_m1 p0)), .val (.int (w0_m2 p0)), .val (.int (p3 &&& (3 : Int32))), .val (.long (w0_m3 q1 q2 p3)), .second, .val (.long (w0_m4 p0 q1)), .second, .val (.long (w0_m5 p0 q1 q2 p3)), .second, .val (.ref ob1), .val (.ref ob2), .val (.ref b113), .unset, .unset, .unset] [])) _
        exact k)
      obtain ⟨T118, h118, X118, e118, E118, A118, D118, -, st118⟩ := newO X116 hx hZ hown (hw _ (List.mem_of_getElem? (i := 3) rfl)) (hw _ (List.mem_of_getElem? (i := 4) rfl)) (hw _ (List.mem_of_getElem? (i := 5) rfl)) rfl (g := (mkF m 143 #[.val (.int p0), .val (.long q1), .second, .val (.long q2), .second, .val (.int p3), .val (.int (w0_m1 p0)), .val (.int (w0_m2 p0)), .val (.int (p3 &&& (3 : Int32))), .val (.long (w0_m3 q1 q2 p3)), .second, .val (.long (w0_m4 p0 q1)), .second, .val (.long (w0_m5 p0 q1 q2 p3)), .second, .val (.ref ob1), .val (.ref ob2), .val (.ref b113), .unset, .unset, .unset] [])) rfl (hb hby at_143) (by decide) (by decide)
      obtain ⟨b118, g118⟩ : ∃ z, z = T116.heap.size := ⟨_, rfl⟩
      rw [← g118] at A118 D118 st118
      have ne_ob1_b118 : ob1 ≠ b118 := Nat.ne_of_lt (Nat.lt_of_lt_of_le E_ob1__116.lt (Nat.le_of_eq g118.symm))
      have ne_ob2_b118 : ob2 ≠ b118 := Nat.ne_of_lt (Nat.lt_of_lt_of_le E_ob2__116.lt (Nat.le_of_eq g118.symm))
      have ne_oc_b118 : oc ≠ b118 := Nat.ne_of_lt (Nat.lt_of_lt_of_le Ar_oc__116.lt (Nat.le_of_eq g118.symm))
      have ne_b113_b118 : b113 ≠ b118 := Nat.ne_of_lt (Nat.lt_of_lt_of_le Fn116_0.lt (Nat.le_of_eq g118.symm))
      have OL118 := OL116.ext E118
      have S_DocumentValue_Kind_NUMBER__118 := S_DocumentValue_Kind_NUMBER.ext OL118.2
      have S_DocumentValue_Kind_DATE__118 := S_DocumentValue_Kind_DATE.ext OL118.2
      have E_ob1__118 := E_ob1.ext OL118.2
      have E_ob2__118 := E_ob2.ext OL118.2
      have S_Long_LongCache_cache__118 := S_Long_LongCache_cache.ext OL118.2
      have Ar_oc__118 := Ar_oc.ext OL118.2
      have Fn116_0__118 := Fn116_0.ext E118
      have Fn116_1__118 := Fn116_1.ext E118
      have Fn116_2__118 := Fn116_2.ext E118
      have g_b118 : n0 ≤ b118 := Nat.le_trans Zs116 (Nat.le_of_eq g118.symm)
      have Zs118 : n0 ≤ h118.size := Nat.le_trans Zs116 E118.1
      have F_b118_kind : Fld Z h118 b118 "com/example/acervo/acervo/index/DocumentValue" "kind" "Lcom/example/acervo/acervo/index/DocumentValue$Kind;" .null := D118 (Or.inr (hw _ (List.mem_of_getElem? (i := 20) rfl))) (ty := (.object "com/example/acervo/acervo/index/DocumentValue$Kind")) (by decide)
      have F_b118_number : Fld Z h118 b118 "com/example/acervo/acervo/index/DocumentValue" "number" "J" (.long (0 : Int64)) := D118 (Or.inr (hw _ (List.mem_of_getElem? (i := 22) rfl))) (ty := .long) (by decide)
      have K118 : ∀ t, Steps p.tables e below (T118.setTop (mkF m 146 #[.val (.int p0), .val (.long q1), .second, .val (.long q2), .second, .val (.int p3), .val (.int (w0_m1 p0)), .val (.int (w0_m2 p0)), .val (.int (p3 &&& (3 : Int32))), .val (.long (w0_m3 q1 q2 p3)), .second, .val (.long (w0_m4 p0 q1)), .second, .val (.long (w0_m5 p0 q1 q2 p3)), .second, .val (.ref ob1), .val (.ref ob2), .val (.ref b113), .unset, .unset, .unset] [(.ref b118)])) t → Steps p.tables e below S0 t := fun t k => K117 t (st118 t k)
      have K119 : ∀ t, Steps p.tables e below (T118.setTop (mkF m 151 #[.val (.int p0), .val (.long q1), .second, .val (.long q2), .second, .val (.int p3), .val (.int (w0_m1 p0)), .val (.int (w0_m2 p0)), .val (.int (p3 &&& (3 : Int32))), .val (.long (w0_m3 q1 q2 p3)), .second, .val (.long (w0_m4 p0 q1)), .second, .val (.long (w0_m5 p0 q1 q2 p3)), .second, .val (.ref ob1), .val (.ref ob2), .val (.ref b113), .unset, .unset, .unset] [(.long (w0_m5 p0 q1 q2 p3)), (.ref ob2), (.ref b118), (.ref b118)])) t → Steps p.tables e below S0 t := fun t k => K118 t (by
        refine XS.dup X118.here hx rfl (hb hby at_146) rfl rfl ?_
        show Steps p.tables e below (T118.setTop (mkF m 147 #[.val (.int p0), .val (.long q1), .second, .val (.long q2), .second, .val (.int p3), .val (.int (w0_m1 p0)), .val (.int (w0_m2 p0)), .val (.int (p3 &&& (3 : Int32))), .val (.long (w0_m3 q1 q2 p3)), .second, .val (.long (w0_m4 p0 q1)), .second, .val (.long (w0_m5 p0 q1 q2 p3)), .second, .val (.ref ob1), .val (.ref ob2), .val (.ref b113), .unset, .unset, .unset] [(.ref b118), (.ref b118)])) _
        refine XS.aload X118.here hx rfl (hb hby at_147) rfl rfl ?_
        show Steps p.tables e below (T118.setTop (mkF m 149 #[.val (.int p0), .val (.long q1), .second, .val (.long q2), .second, .val (.int p3), .val (.int (w0_m1 p0)), .val (.int (w0_m2 p0)), .val (.int (p3 &&& (3 : Int32))), .val (.long (w0_m3 q1 q2 p3)), .second, .val (.long (w0_m4 p0 q1)), .second, .val (.long (w0_m5 p0 q1 q2 p3)), .second, .val (.ref ob1), .val (.ref ob2), .val (.ref b113), .unset, .unset, .unset] [(.ref ob2), (.ref b118), (.ref b118)])) _
        refine XS.lload X118.here hx rfl (hb hby at_149) rfl ?_
        show Steps p.tables e below (T118.setTop (mkF m 151 #[.val (.int p0), .val (.long q1), .second, .val (.long q2), .second, .val (.int p3), .val (.int (w0_m1 p0)), .val (.int (w0_m2 p0)), .val (.int (p3 &&& (3 : Int32))), .val (.long (w0_m3 q1 q2 p3)), .second, .val (.long (w0_m4 p0 q1)), .second, .val (.long (w0_m5 p0 q1 q2 p3)), .second, .val (.ref ob1), .val (.ref ob2), .val (.ref b113), .unset, .unset, .unset] [(.long (w0_m5 p0 q1 q2 p3)), (.ref ob2), (.ref b118), (.ref b118)])) _
        exact k)
      have K_120 : ∀ t, Steps p.tables e below (T118.setTop (mkF m 151 #[.val (.int p0), .val (.long q1), .second, .val (.long q2), .second, .val (.int p3), .val (.int (w0_m1 p0)), .val (.int (w0_m2 p0)), .val (.int (p3 &&& (3 : Int32))), .val (.long (w0_m3 q1 q2 p3)), .second, .val (.long (w0_m4 p0 q1)), .second, .val (.long (w0_m5 p0 q1 q2 p3)), .second, .val (.ref ob1), .val (.ref ob2), .val (.ref b113), .unset, .unset, .unset] [(.long (w0_m5 p0 q1 q2 p3)), (.ref ob2), (.ref b118), (.ref b118)])) t → Steps p.tables e below S0 t := K119
      obtain ⟨_, _, ⟨T121, L121, k121, n121⟩, -, X121, ⟨Lc121, hQ121, l121, y121, z121⟩, st121⟩ := X118.specialBack hx (y := (⟨"com/example/acervo/acervo/index/DocumentValue", "<init>", "(Lcom/example/acervo/acervo/index/DocumentValue$Kind;J)V"⟩ : MethodName)) rfl hown (mvT hZ (hw _ (List.mem_of_getElem? (i := 6) rfl))) (mvT hZ (hw _ (List.mem_of_getElem? (i := 7) rfl))) (mvT hZ (hw _ (List.mem_of_getElem? (i := 8) rfl))) (by decide) (backOf (W := 1) (rm4 l Z a0 hw [] b118 ob2 (w0_m5 p0 q1 q2 p3) h118 n0 Zs118 A118 F_b118_kind F_b118_number g_b118 S_DocumentValue_Kind_DATE__118 (own_day2 p0 q1 q2 p3 hc116_1)) hZ (hw _ (List.mem_of_getElem? (i := 8) rfl)) (hw _ (List.mem_of_getElem? (i := 5) rfl)) (by decide) (by decide)) (g := (mkF m 151 #[.val (.int p0), .val (.long q1), .second, .val (.long q2), .second, .val (.int p3), .val (.int (w0_m1 p0)), .val (.int (w0_m2 p0)), .val (.int (p3 &&& (3 : Int32))), .val (.long (w0_m3 q1 q2 p3)), .second, .val (.long (w0_m4 p0 q1)), .second, .val (.long (w0_m5 p0 q1 q2 p3)), .second, .val (.ref ob1), .val (.ref ob2), .val (.ref b113), .unset, .unset, .unset] [(.long (w0_m5 p0 q1 q2 p3)), (.ref ob2), (.ref b118), (.ref b118)])) rfl (by rw [hml]; rfl) (Steps.refl _) (a := b118) (argsL := [(.ref ob2), (.long (w0_m5 p0 q1 q2 p3))]) (rest := [(.ref b118)]) (lenOf pd0_1 rfl) rfl (by show 2 * 0 + _ ≤ _; exact Nat.le_of_eq rfl) (hb hby at_151) (fun _ _ => ⟨rfl, e118, (by decide : 2 + 0 ≤ 16), (by decide : 4 + 0 ≤ 128)⟩)
      dsimp only [Pt.U, Pt.locs, Pt.cells, Pt.slots] at X121 l121 y121 z121 st121 hQ121
      subst l121 y121 z121
      obtain ⟨rfl, N121q, Kp121, Fn121_0, Fn121_1, Fn121_2⟩ := hQ121
      have N121 := Fr.app N116 N121q
      have OL121 := OL118.keep Kp121 (allS (P := fun x => n0 ≤ x) g_b118 all0)
      have S_DocumentValue_Kind_NUMBER__121 := S_DocumentValue_Kind_NUMBER.ext OL121.2
      have S_DocumentValue_Kind_DATE__121 := S_DocumentValue_Kind_DATE.ext OL121.2
      have E_ob1__121 := E_ob1.ext OL121.2
      have E_ob2__121 := E_ob2.ext OL121.2
      have S_Long_LongCache_cache__121 := S_Long_LongCache_cache.ext OL121.2
      have Ar_oc__121 := Ar_oc.ext OL121.2
      have Fn116_0__121 := Fn116_0__118.keep Kp121
      have Fn116_1__121 := Fn116_1__118.keep Kp121 (ninS ne_b113_b118 nin0)
      have Fn116_2__121 := Fn116_2__118.keep Kp121 (ninS ne_b113_b118 nin0)
      have Zs121 : n0 ≤ T121.heap.size := Nat.le_trans Zs118 Kp121.1
      have K121 : ∀ t, Steps p.tables e below (T121.setTop (mkF m 154 #[.val (.int p0), .val (.long q1), .second, .val (.long q2), .second, .val (.int p3), .val (.int (w0_m1 p0)), .val (.int (w0_m2 p0)), .val (.int (p3 &&& (3 : Int32))), .val (.long (w0_m3 q1 q2 p3)), .second, .val (.long (w0_m4 p0 q1)), .second, .val (.long (w0_m5 p0 q1 q2 p3)), .second, .val (.ref ob1), .val (.ref ob2), .val (.ref b113), .unset, .unset, .unset] [(.ref b118)])) t → Steps p.tables e below S0 t := fun t k => K_120 t (st121.trans k)
      have K122 : ∀ t, Steps p.tables e below (T121.setTop (mkF m 167 #[.val (.int p0), .val (.long q1), .second, .val (.long q2), .second, .val (.int p3), .val (.int (w0_m1 p0)), .val (.int (w0_m2 p0)), .val (.int (p3 &&& (3 : Int32))), .val (.long (w0_m3 q1 q2 p3)), .second, .val (.long (w0_m4 p0 q1)), .second, .val (.long (w0_m5 p0 q1 q2 p3)), .second, .val (.ref ob1), .val (.ref ob2), .val (.ref b113), .val (.ref b118), .val (.int (w0_6 p3)), .unset] [(.int (1 : Int32)), (.int (w0_6 p3))])) t → Steps p.tables e below S0 t := fun t k => K121 t (by
        refine XS.astore X121.here hx rfl (hb hby at_154) rfl rfl (l' := #[.val (.int p0), .val (.long q1), .second, .val (.long q2), .second, .val (.int p3), .val (.int (w0_m1 p0)), .val (.int (w0_m2 p0)), .val (.int (p3 &&& (3 : Int32))), .val (.long (w0_m3 q1 q2 p3)), .second, .val (.long (w0_m4 p0 q1)), .second, .val (.long (w0_m5 p0 q1 q2 p3)), .second, .val (.ref ob1), .val (.ref ob2), .val (.ref b113), .val (.ref b118), .unset, .unset]) rfl ?_
        show Steps p.tables e below (T121.setTop (mkF m 156 #[.val (.int p0), .val (.long q1), .second, .val (.long q2), .second, .val (.int p3), .val (.int (w0_m1 p0)), .val (.int (w0_m2 p0)), .val (.int (p3 &&& (3 : Int32))), .val (.long (w0_m3 q1 q2 p3)), .second, .val (.long (w0_m4 p0 q1)), .second, .val (.long (w0_m5 p0 q1 q2 p3)), .second, .val (.ref ob1), .val (.ref ob2), .val (.ref b113), .val (.ref b118), .unset, .unset] [])) _
        refine XS.iload X121.here hx rfl (hb hby at_156) rfl ?_
        show Steps p.tables e below (T121.setTop (mkF m 158 #[.val (.int p0), .val (.long q1), .second, .val (.long q2), .second, .val (.int p3), .val (.int (w0_m1 p0)), .val (.int (w0_m2 p0)), .val (.int (p3 &&& (3 : Int32))), .val (.long (w0_m3 q1 q2 p3)), .second, .val (.long (w0_m4 p0 q1)), .second, .val (.long (w0_m5 p0 q1 q2 p3)), .second, .val (.ref ob1), .val (.ref ob2), .val (.ref b113), .val (.ref b118), .unset, .unset] [(.int p3)])) _
        refine XS.iconst X121.here hx rfl (hb hby at_158) ?_
        show Steps p.tables e below (T121.setTop (mkF m 159 #[.val (.int p0), .val (.long q1), .second, .val (.long q2), .second, .val (.int p3), .val (.int (w0_m1 p0)), .val (.int (w0_m2 p0)), .val (.int (p3 &&& (3 : Int32))), .val (.long (w0_m3 q1 q2 p3)), .second, .val (.long (w0_m4 p0 q1)), .second, .val (.long (w0_m5 p0 q1 q2 p3)), .second, .val (.ref ob1), .val (.ref ob2), .val (.ref b113), .val (.ref b118), .unset, .unset] [(.int (2 : Int32)), (.int p3)])) _
        refine XS.ishr X121.here hx rfl (hb hby at_159) rfl ?_
        show Steps p.tables e below (T121.setTop (mkF m 160 #[.val (.int p0), .val (.long q1), .second, .val (.long q2), .second, .val (.int p3), .val (.int (w0_m1 p0)), .val (.int (w0_m2 p0)), .val (.int (p3 &&& (3 : Int32))), .val (.long (w0_m3 q1 q2 p3)), .second, .val (.long (w0_m4 p0 q1)), .second, .val (.long (w0_m5 p0 q1 q2 p3)), .second, .val (.ref ob1), .val (.ref ob2), .val (.ref b113), .val (.ref b118), .unset, .unset] [(.int (p3 >>> ((2 : Int32) &&& 31)))])) _
        refine XS.iconst X121.here hx rfl (hb hby at_160) ?_
        show Steps p.tables e below (T121.setTop (mkF m 161 #[.val (.int p0), .val (.long q1), .second, .val (.long q2), .second, .val (.int p3), .val (.int (w0_m1 p0)), .val (.int (w0_m2 p0)), .val (.int (p3 &&& (3 : Int32))), .val (.long (w0_m3 q1 q2 p3)), .second, .val (.long (w0_m4 p0 q1)), .second, .val (.long (w0_m5 p0 q1 q2 p3)), .second, .val (.ref ob1), .val (.ref ob2), .val (.ref b113), .val (.ref b118), .unset, .unset] [(.int (3 : Int32)), (.int (p3 >>> ((2 : Int32) &&& 31)))])) _
        refine XS.iand X121.here hx rfl (hb hby at_161) rfl ?_
        show Steps p.tables e below (T121.setTop (mkF m 162 #[.val (.int p0), .val (.long q1), .second, .val (.long q2), .second, .val (.int p3), .val (.int (w0_m1 p0)), .val (.int (w0_m2 p0)), .val (.int (p3 &&& (3 : Int32))), .val (.long (w0_m3 q1 q2 p3)), .second, .val (.long (w0_m4 p0 q1)), .second, .val (.long (w0_m5 p0 q1 q2 p3)), .second, .val (.ref ob1), .val (.ref ob2), .val (.ref b113), .val (.ref b118), .unset, .unset] [(.int ((p3 >>> ((2 : Int32) &&& 31)) &&& (3 : Int32)))])) _
        refine XS.istore X121.here hx rfl (hb hby at_162) rfl (l' := #[.val (.int p0), .val (.long q1), .second, .val (.long q2), .second, .val (.int p3), .val (.int (w0_m1 p0)), .val (.int (w0_m2 p0)), .val (.int (p3 &&& (3 : Int32))), .val (.long (w0_m3 q1 q2 p3)), .second, .val (.long (w0_m4 p0 q1)), .second, .val (.long (w0_m5 p0 q1 q2 p3)), .second, .val (.ref ob1), .val (.ref ob2), .val (.ref b113), .val (.ref b118), .val (.int (w0_6 p3)), .unset]) rfl ?_
        show Steps p.tables e below (T121.setTop (mkF m 164 #[.val (.int p0), .val (.long q1), .second, .val (.long q2), .second, .val (.int p3), .val (.int (w0_m1 p0)), .val (.int (w0_m2 p0)), .val (.int (p3 &&& (3 : Int32))), .val (.long (w0_m3 q1 q2 p3)), .second, .val (.long (w0_m4 p0 q1)), .second, .val (.long (w0_m5 p0 q1 q2 p3)), .second, .val (.ref ob1), .val (.ref ob2), .val (.ref b113), .val (.ref b118), .val (.int (w0_6 p3)), .unset] [])) _
        refine XS.iload X121.here hx rfl (hb hby at_164) rfl ?_
        show Steps p.tables e below (T121.setTop (mkF m 166 #[.val (.int p0), .val (.long q1), .second, .val (.long q2), .second, .val (.int p3), .val (.int (w0_m1 p0)), .val (.int (w0_m2 p0)), .val (.int (p3 &&& (3 : Int32))), .val (.long (w0_m3 q1 q2 p3)), .second, .val (.long (w0_m4 p0 q1)), .second, .val (.long (w0_m5 p0 q1 q2 p3)), .second, .val (.ref ob1), .val (.ref ob2), .val (.ref b113), .val (.ref b118), .val (.int (w0_6 p3)), .unset] [(.int (w0_6 p3))])) _
        refine XS.iconst X121.here hx rfl (hb hby at_166) ?_
        show Steps p.tables e below (T121.setTop (mkF m 167 #[.val (.int p0), .val (.long q1), .second, .val (.long q2), .second, .val (.int p3), .val (.int (w0_m1 p0)), .val (.int (w0_m2 p0)), .val (.int (p3 &&& (3 : Int32))), .val (.long (w0_m3 q1 q2 p3)), .second, .val (.long (w0_m4 p0 q1)), .second, .val (.long (w0_m5 p0 q1 q2 p3)), .second, .val (.ref ob1), .val (.ref ob2), .val (.ref b113), .val (.ref b118), .val (.int (w0_6 p3)), .unset] [(.int (1 : Int32)), (.int (w0_6 p3))])) _
        exact k)
      by_cases hc167_2 : (w0_6 p3) = (1 : Int32)
      · -- yes
        have K123 : ∀ t, Steps p.tables e below (T121.setTop (mkF m 173 #[.val (.int p0), .val (.long q1), .second, .val (.long q2), .second, .val (.int p3), .val (.int (w0_m1 p0)), .val (.int (w0_m2 p0)), .val (.int (p3 &&& (3 : Int32))), .val (.long (w0_m3 q1 q2 p3)), .second, .val (.long (w0_m4 p0 q1)), .second, .val (.long (w0_m5 p0 q1 q2 p3)), .second, .val (.ref ob1), .val (.ref ob2), .val (.ref b113), .val (.ref b118), .val (.int (w0_6 p3)), .unset] [.null, (.ref b113)])) t → Steps p.tables e below S0 t := fun t k => K122 t (by
          refine XS.icmpNo X121.here hx rfl (hb hby at_167) rfl (XT.ii_ne_f hc167_2) ?_
          show Steps p.tables e below (T121.setTop (mkF m 170 #[.val (.int p0), .val (.long q1), .second, .val (.long q2), .second, .val (.int p3), .val (.int (w0_m1 p0)), .val (.int (w0_m2 p0)), .val (.int (p3 &&& (3 : Int32))), .val (.long (w0_m3 q1 q2 p3)), .second, .val (.long (w0_m4 p0 q1)), .second, .val (.long (w0_m5 p0 q1 q2 p3)), .second, .val (.ref ob1), .val (.ref ob2), .val (.ref b113), .val (.ref b118), .val (.int (w0_6 p3)), .unset] [])) _
          refine XS.aload X121.here hx rfl (hb hby at_170) rfl rfl ?_
          show Steps p.tables e below (T121.setTop (mkF m 172 #[.val (.int p0), .val (.long q1), .second, .val (.long q2), .second, .val (.int p3), .val (.int (w0_m1 p0)), .val (.int (w0_m2 p0)), .val (.int (p3 &&& (3 : Int32))), .val (.long (w0_m3 q1 q2 p3)), .second, .val (.long (w0_m4 p0 q1)), .second, .val (.long (w0_m5 p0 q1 q2 p3)), .second, .val (.ref ob1), .val (.ref ob2), .val (.ref b113), .val (.ref b118), .val (.int (w0_6 p3)), .unset] [(.ref b113)])) _
          refine XS.aconstNull X121.here hx rfl (hb hby at_172) ?_
          show Steps p.tables e below (T121.setTop (mkF m 173 #[.val (.int p0), .val (.long q1), .second, .val (.long q2), .second, .val (.int p3), .val (.int (w0_m1 p0)), .val (.int (w0_m2 p0)), .val (.int (p3 &&& (3 : Int32))), .val (.long (w0_m3 q1 q2 p3)), .second, .val (.long (w0_m4 p0 q1)), .second, .val (.long (w0_m5 p0 q1 q2 p3)), .second, .val (.ref ob1), .val (.ref ob2), .val (.ref b113), .val (.ref b118), .val (.int (w0_6 p3)), .unset] [.null, (.ref b113)])) _
          exact k)
        have K_124 : ∀ t, Steps p.tables e below (T121.setTop (mkF m 173 #[.val (.int p0), .val (.long q1), .second, .val (.long q2), .second, .val (.int p3), .val (.int (w0_m1 p0)), .val (.int (w0_m2 p0)), .val (.int (p3 &&& (3 : Int32))), .val (.long (w0_m3 q1 q2 p3)), .second, .val (.long (w0_m4 p0 q1)), .second, .val (.long (w0_m5 p0 q1 q2 p3)), .second, .val (.ref ob1), .val (.ref ob2), .val (.ref b113), .val (.ref b118), .val (.int (w0_6 p3)), .unset] [.null, (.ref b113)])) t → Steps p.tables e below S0 t := K123
        obtain ⟨cq125, kq125, q125a, q125b, q125c⟩ := isOf hZ rfl Fn116_0__121
        obtain ⟨_, _, ⟨T125, L125, k125, n125⟩, -, X125, ⟨Lc125, hQ125, l125, y125, z125⟩, st125⟩ := X121.virtualBack hx (y := (⟨"com/example/acervo/acervo/index/DocumentValue", "equals", "(Ljava/lang/Object;)Z"⟩ : MethodName)) (z := (⟨"com/example/acervo/acervo/index/DocumentValue", "equals", "(Ljava/lang/Object;)Z"⟩ : MethodName)) hown (mvT hZ (hw _ (List.mem_of_getElem? (i := 23) rfl))) (mvT hZ (hw _ (List.mem_of_getElem? (i := 24) rfl))) (notFace_of_selects (args := #[]) (mvT hZ (hw _ (List.mem_of_getElem? (i := 26) rfl)))) (mvT hZ (hw _ (List.mem_of_getElem? (i := 26) rfl))) (mvT hZ (hw _ (List.mem_of_getElem? (i := 25) rfl))) (by decide) (backOf (W := 0) (rm8 l Z a0 hw [] b113 T121.heap n0 Zs121 ) hZ (hw _ (List.mem_of_getElem? (i := 27) rfl)) (hw _ (List.mem_of_getElem? (i := 5) rfl)) (by decide) (by decide)) q125a q125c (g := (mkF m 173 #[.val (.int p0), .val (.long q1), .second, .val (.long q2), .second, .val (.int p3), .val (.int (w0_m1 p0)), .val (.int (w0_m2 p0)), .val (.int (p3 &&& (3 : Int32))), .val (.long (w0_m3 q1 q2 p3)), .second, .val (.long (w0_m4 p0 q1)), .second, .val (.long (w0_m5 p0 q1 q2 p3)), .second, .val (.ref ob1), .val (.ref ob2), .val (.ref b113), .val (.ref b118), .val (.int (w0_6 p3)), .unset] [.null, (.ref b113)])) rfl (by rw [hml]; rfl) (Steps.refl _) (argsL := [.null]) (rest := []) (lenOf pd0_2 rfl) rfl (by show 2 * 0 + _ ≤ _; exact Nat.le_of_eq rfl) (hb hby at_173) (fun _ _ => ⟨rfl, rfl, (by decide : 2 + 0 ≤ 16), (by decide : 4 + 0 ≤ 128)⟩)
        dsimp only [Pt.U, Pt.locs, Pt.cells, Pt.slots] at X125 l125 y125 z125 st125 hQ125
        subst l125 y125 z125
        obtain ⟨rfl, N125q, e125⟩ := hQ125
        have N125 := Fr.app N121 N125q
        have K125 : ∀ t, Steps p.tables e below (T125.setTop (mkF m 176 #[.val (.int p0), .val (.long q1), .second, .val (.long q2), .second, .val (.int p3), .val (.int (w0_m1 p0)), .val (.int (w0_m2 p0)), .val (.int (p3 &&& (3 : Int32))), .val (.long (w0_m3 q1 q2 p3)), .second, .val (.long (w0_m4 p0 q1)), .second, .val (.long (w0_m5 p0 q1 q2 p3)), .second, .val (.ref ob1), .val (.ref ob2), .val (.ref b113), .val (.ref b118), .val (.int (w0_6 p3)), .unset] [(.int (0 : Int32))])) t → Steps p.tables e below S0 t := fun t k => K_124 t (st125.trans k)
        have K126 : ∀ t, Steps p.tables e below (T125.setTop (mkF m 184 #[.val (.int p0), .val (.long q1), .second, .val (.long q2), .second, .val (.int p3), .val (.int (w0_m1 p0)), .val (.int (w0_m2 p0)), .val (.int (p3 &&& (3 : Int32))), .val (.long (w0_m3 q1 q2 p3)), .second, .val (.long (w0_m4 p0 q1)), .second, .val (.long (w0_m5 p0 q1 q2 p3)), .second, .val (.ref ob1), .val (.ref ob2), .val (.ref b113), .val (.ref b118), .val (.int (w0_6 p3)), .unset] [(.int (1 : Int32))])) t → Steps p.tables e below S0 t := fun t k => K125 t (by
          refine XS.ifNo X125.here hx rfl (hb hby at_176) rfl (XT.i0_ne_f (by decide)) ?_
          show Steps p.tables e below (T125.setTop (mkF m 179 #[.val (.int p0), .val (.long q1), .second, .val (.long q2), .second, .val (.int p3), .val (.int (w0_m1 p0)), .val (.int (w0_m2 p0)), .val (.int (p3 &&& (3 : Int32))), .val (.long (w0_m3 q1 q2 p3)), .second, .val (.long (w0_m4 p0 q1)), .second, .val (.long (w0_m5 p0 q1 q2 p3)), .second, .val (.ref ob1), .val (.ref ob2), .val (.ref b113), .val (.ref b118), .val (.int (w0_6 p3)), .unset] [])) _
          refine XS.iconst X125.here hx rfl (hb hby at_179) ?_
          show Steps p.tables e below (T125.setTop (mkF m 180 #[.val (.int p0), .val (.long q1), .second, .val (.long q2), .second, .val (.int p3), .val (.int (w0_m1 p0)), .val (.int (w0_m2 p0)), .val (.int (p3 &&& (3 : Int32))), .val (.long (w0_m3 q1 q2 p3)), .second, .val (.long (w0_m4 p0 q1)), .second, .val (.long (w0_m5 p0 q1 q2 p3)), .second, .val (.ref ob1), .val (.ref ob2), .val (.ref b113), .val (.ref b118), .val (.int (w0_6 p3)), .unset] [(.int (1 : Int32))])) _
          refine XS.goto X125.here hx rfl (pc0 := 180) (pc' := 184) rfl (hb hby at_180) (by decide) (by decide) ?_
          show Steps p.tables e below (T125.setTop (mkF m 184 #[.val (.int p0), .val (.long q1), .second, .val (.long q2), .second, .val (.int p3), .val (.int (w0_m1 p0)), .val (.int (w0_m2 p0)), .val (.int (p3 &&& (3 : Int32))), .val (.long (w0_m3 q1 q2 p3)), .second, .val (.long (w0_m4 p0 q1)), .second, .val (.long (w0_m5 p0 q1 q2 p3)), .second, .val (.ref ob1), .val (.ref ob2), .val (.ref b113), .val (.ref b118), .val (.int (w0_6 p3)), .unset] [(.int (1 : Int32))])) _
          exact k)
        obtain ⟨fs, hr, hrun, hended, hW, hsame⟩ := X125.leave (v := some (.int (1 : Int32))) (fun h => by rw [Bd.returns] at h; cases h) hlk
        refine ⟨_, _, ?_, hrun, hended, _, _, rfl, ?_, ⟨_, rfl⟩, hW, hsame.mono (by decide) (by decide)⟩
        · rw [← hS0]; exact K126 _ (retN X125 hx (t := .boolean) Bd.returns (by simp) (hb hby at_184) hr)
        · show Q0 Z p0 q1 q2 p3 ob1 ob2 oc cc h0 n0 _ T125.heap _
          rw [e125]
          have qr : (1 : Int32) = (w0_r10 p0 q1 q2 p3) := by unfold w0_r10; rw [if_pos hc100_0, if_neg hc116_1, if_pos hc167_2]
          exact ⟨congrArg (fun z => some (Value.int z)) qr, N125⟩
      · -- no
        have K127 : ∀ t, Steps p.tables e below (T121.setTop (mkF m 188 #[.val (.int p0), .val (.long q1), .second, .val (.long q2), .second, .val (.int p3), .val (.int (w0_m1 p0)), .val (.int (w0_m2 p0)), .val (.int (p3 &&& (3 : Int32))), .val (.long (w0_m3 q1 q2 p3)), .second, .val (.long (w0_m4 p0 q1)), .second, .val (.long (w0_m5 p0 q1 q2 p3)), .second, .val (.ref ob1), .val (.ref ob2), .val (.ref b113), .val (.ref b118), .val (.int (w0_6 p3)), .unset] [(.int (2 : Int32)), (.int (w0_6 p3))])) t → Steps p.tables e below S0 t := fun t k => K122 t (by
          refine XS.icmpYes X121.here hx rfl (pc0 := 167) (pc' := 185) rfl (hb hby at_167) rfl (XT.ii_ne_t hc167_2) (by decide) (by decide) ?_
          show Steps p.tables e below (T121.setTop (mkF m 185 #[.val (.int p0), .val (.long q1), .second, .val (.long q2), .second, .val (.int p3), .val (.int (w0_m1 p0)), .val (.int (w0_m2 p0)), .val (.int (p3 &&& (3 : Int32))), .val (.long (w0_m3 q1 q2 p3)), .second, .val (.long (w0_m4 p0 q1)), .second, .val (.long (w0_m5 p0 q1 q2 p3)), .second, .val (.ref ob1), .val (.ref ob2), .val (.ref b113), .val (.ref b118), .val (.int (w0_6 p3)), .unset] [])) _
          refine XS.iload X121.here hx rfl (hb hby at_185) rfl ?_
          show Steps p.tables e below (T121.setTop (mkF m 187 #[.val (.int p0), .val (.long q1), .second, .val (.long q2), .second, .val (.int p3), .val (.int (w0_m1 p0)), .val (.int (w0_m2 p0)), .val (.int (p3 &&& (3 : Int32))), .val (.long (w0_m3 q1 q2 p3)), .second, .val (.long (w0_m4 p0 q1)), .second, .val (.long (w0_m5 p0 q1 q2 p3)), .second, .val (.ref ob1), .val (.ref ob2), .val (.ref b113), .val (.ref b118), .val (.int (w0_6 p3)), .unset] [(.int (w0_6 p3))])) _
          refine XS.iconst X121.here hx rfl (hb hby at_187) ?_
          show Steps p.tables e below (T121.setTop (mkF m 188 #[.val (.int p0), .val (.long q1), .second, .val (.long q2), .second, .val (.int p3), .val (.int (w0_m1 p0)), .val (.int (w0_m2 p0)), .val (.int (p3 &&& (3 : Int32))), .val (.long (w0_m3 q1 q2 p3)), .second, .val (.long (w0_m4 p0 q1)), .second, .val (.long (w0_m5 p0 q1 q2 p3)), .second, .val (.ref ob1), .val (.ref ob2), .val (.ref b113), .val (.ref b118), .val (.int (w0_6 p3)), .unset] [(.int (2 : Int32)), (.int (w0_6 p3))])) _
          exact k)
        by_cases hc188_3 : (w0_6 p3) = (2 : Int32)
        · -- yes
          have K128 : ∀ t, Steps p.tables e below (T121.setTop (mkF m 195 #[.val (.int p0), .val (.long q1), .second, .val (.long q2), .second, .val (.int p3), .val (.int (w0_m1 p0)), .val (.int (w0_m2 p0)), .val (.int (p3 &&& (3 : Int32))), .val (.long (w0_m3 q1 q2 p3)), .second, .val (.long (w0_m4 p0 q1)), .second, .val (.long (w0_m5 p0 q1 q2 p3)), .second, .val (.ref ob1), .val (.ref ob2), .val (.ref b113), .val (.ref b118), .val (.int (w0_6 p3)), .unset] [(.long (w0_m4 p0 q1)), (.ref b113)])) t → Steps p.tables e below S0 t := fun t k => K127 t (by
            refine XS.icmpNo X121.here hx rfl (hb hby at_188) rfl (XT.ii_ne_f hc188_3) ?_
            show Steps p.tables e below (T121.setTop (mkF m 191 #[.val (.int p0), .val (.long q1), .second, .val (.long q2), .second, .val (.int p3), .val (.int (w0_m1 p0)), .val (.int (w0_m2 p0)), .val (.int (p3 &&& (3 : Int32))), .val (.long (w0_m3 q1 q2 p3)), .second, .val (.long (w0_m4 p0 q1)), .second, .val (.long (w0_m5 p0 q1 q2 p3)), .second, .val (.ref ob1), .val (.ref ob2), .val (.ref b113), .val (.ref b118), .val (.int (w0_6 p3)), .unset] [])) _
            refine XS.aload X121.here hx rfl (hb hby at_191) rfl rfl ?_
            show Steps p.tables e below (T121.setTop (mkF m 193 #[.val (.int p0), .val (.long q1), .second, .val (.long q2), .second, .val (.int p3), .val (.int (w0_m1 p0)), .val (.int (w0_m2 p0)), .val (.int (p3 &&& (3 : Int32))), .val (.long (w0_m3 q1 q2 p3)), .second, .val (.long (w0_m4 p0 q1)), .second, .val (.long (w0_m5 p0 q1 q2 p3)), .second, .val (.ref ob1), .val (.ref ob2), .val (.ref b113), .val (.ref b118), .val (.int (w0_6 p3)), .unset] [(.ref b113)])) _
            refine XS.lload X121.here hx rfl (hb hby at_193) rfl ?_
            show Steps p.tables e below (T121.setTop (mkF m 195 #[.val (.int p0), .val (.long q1), .second, .val (.long q2), .second, .val (.int p3), .val (.int (w0_m1 p0)), .val (.int (w0_m2 p0)), .val (.int (p3 &&& (3 : Int32))), .val (.long (w0_m3 q1 q2 p3)), .second, .val (.long (w0_m4 p0 q1)), .second, .val (.long (w0_m5 p0 q1 q2 p3)), .second, .val (.ref ob1), .val (.ref ob2), .val (.ref b113), .val (.ref b118), .val (.int (w0_6 p3)), .unset] [(.long (w0_m4 p0 q1)), (.ref b113)])) _
            exact k)
          by_cases hc195_4 : (w0_m4 p0 q1) < (-128 : Int64)
          · -- yes
            have K_129 : ∀ t, Steps p.tables e below (T121.setTop (mkF m 195 #[.val (.int p0), .val (.long q1), .second, .val (.long q2), .second, .val (.int p3), .val (.int (w0_m1 p0)), .val (.int (w0_m2 p0)), .val (.int (p3 &&& (3 : Int32))), .val (.long (w0_m3 q1 q2 p3)), .second, .val (.long (w0_m4 p0 q1)), .second, .val (.long (w0_m5 p0 q1 q2 p3)), .second, .val (.ref ob1), .val (.ref ob2), .val (.ref b113), .val (.ref b118), .val (.int (w0_6 p3)), .unset] [(.long (w0_m4 p0 q1)), (.ref b113)])) t → Steps p.tables e below S0 t := K128
            obtain ⟨_, _, ⟨T130, L130, k130, n130⟩, -, X130, ⟨Lc130, hQ130, l130, y130, z130⟩, st130⟩ := Jvm.LawKit.callS X121 hx (y := (⟨"java/lang/Long", "valueOf", "(J)Ljava/lang/Long;"⟩ : MethodName)) hown (mvT hZ (hw _ (List.mem_of_getElem? (i := 43) rfl))) (mvT hZ (hw _ (List.mem_of_getElem? (i := 44) rfl))) (mvT hZ (hw _ (List.mem_of_getElem? (i := 45) rfl))) (mvT hZ (hw _ (List.mem_of_getElem? (i := 46) rfl))) (by decide) (backOf (W := 1) (rmLlo l Z a0 hw [] (w0_m4 p0 q1) T121.heap n0 Zs121 hc195_4) hZ (hw _ (List.mem_of_getElem? (i := 46) rfl)) (hw _ (List.mem_of_getElem? (i := 45) rfl)) (by decide) (by decide)) (g := (mkF m 195 #[.val (.int p0), .val (.long q1), .second, .val (.long q2), .second, .val (.int p3), .val (.int (w0_m1 p0)), .val (.int (w0_m2 p0)), .val (.int (p3 &&& (3 : Int32))), .val (.long (w0_m3 q1 q2 p3)), .second, .val (.long (w0_m4 p0 q1)), .second, .val (.long (w0_m5 p0 q1 q2 p3)), .second, .val (.ref ob1), .val (.ref ob2), .val (.ref b113), .val (.ref b118), .val (.int (w0_6 p3)), .unset] [(.long (w0_m4 p0 q1)), (.ref b113)])) rfl (by rw [hml]; rfl) (argsL := [(.long (w0_m4 p0 q1))]) (rest := [(.ref b113)]) (lenOf pd0_3 rfl) rfl (by show 2 * 0 + _ ≤ _; exact Nat.le_of_eq rfl) (hb hby at_195) (fun _ _ => ⟨rfl, rfl, (by decide : 2 + 1 ≤ 16), (by decide : 4 + 1 ≤ 128)⟩)
            dsimp only [Pt.U, Pt.locs, Pt.cells, Pt.slots] at X130 l130 y130 z130 st130 hQ130
            subst l130 y130 z130
            obtain ⟨b130_4, rfl, N130q, Kp130, lb_b130_4, Fn130_0, Fn130_1⟩ := hQ130
            have N130 := Fr.app N121 N130q
            have g_b130_4 : n0 ≤ b130_4 := Nat.le_trans Zs121 lb_b130_4
            have ne_ob1_b130_4 : ob1 ≠ b130_4 := Nat.ne_of_lt (Nat.lt_of_lt_of_le E_ob1__121.lt lb_b130_4)
            have ne_ob2_b130_4 : ob2 ≠ b130_4 := Nat.ne_of_lt (Nat.lt_of_lt_of_le E_ob2__121.lt lb_b130_4)
            have ne_oc_b130_4 : oc ≠ b130_4 := Nat.ne_of_lt (Nat.lt_of_lt_of_le Ar_oc__121.lt lb_b130_4)
            have ne_b113_b130_4 : b113 ≠ b130_4 := Nat.ne_of_lt (Nat.lt_of_lt_of_le Fn116_0__121.lt lb_b130_4)
            have ne_b118_b130_4 : b118 ≠ b130_4 := Nat.ne_of_lt (Nat.lt_of_lt_of_le Fn121_0.lt lb_b130_4)
            have OL130 := OL121.keep Kp130 all0
            have S_DocumentValue_Kind_NUMBER__130 := S_DocumentValue_Kind_NUMBER.ext OL130.2
            have S_DocumentValue_Kind_DATE__130 := S_DocumentValue_Kind_DATE.ext OL130.2
            have E_ob1__130 := E_ob1.ext OL130.2
            have E_ob2__130 := E_ob2.ext OL130.2
            have S_Long_LongCache_cache__130 := S_Long_LongCache_cache.ext OL130.2
            have Ar_oc__130 := Ar_oc.ext OL130.2
            have Fn116_0__130 := Fn116_0__121.keep Kp130
            have Fn116_1__130 := Fn116_1__121.keep Kp130 nin0
            have Fn116_2__130 := Fn116_2__121.keep Kp130 nin0
            have Fn121_0__130 := Fn121_0.keep Kp130
            have Fn121_1__130 := Fn121_1.keep Kp130 nin0
            have Fn121_2__130 := Fn121_2.keep Kp130 nin0
            have Zs130 : n0 ≤ T130.heap.size := Nat.le_trans Zs121 Kp130.1
            have K130 : ∀ t, Steps p.tables e below (T130.setTop (mkF m 198 #[.val (.int p0), .val (.long q1), .second, .val (.long q2), .second, .val (.int p3), .val (.int (w0_m1 p0)), .val (.int (w0_m2 p0)), .val (.int (p3 &&& (3 : Int32))), .val (.long (w0_m3 q1 q2 p3)), .second, .val (.long (w0_m4 p0 q1)), .second, .val (.long (w0_m5 p0 q1 q2 p3)), .second, .val (.ref ob1), .val (.ref ob2), .val (.ref b113), .val (.ref b118), .val (.int (w0_6 p3)), .unset] [(.ref b130_4), (.ref b113)])) t → Steps p.tables e below S0 t := fun t k => K_129 t (st130 t k)
            have K_131 : ∀ t, Steps p.tables e below (T130.setTop (mkF m 198 #[.val (.int p0), .val (.long q1), .second, .val (.long q2), .second, .val (.int p3), .val (.int (w0_m1 p0)), .val (.int (w0_m2 p0)), .val (.int (p3 &&& (3 : Int32))), .val (.long (w0_m3 q1 q2 p3)), .second, .val (.long (w0_m4 p0 q1)), .second, .val (.long (w0_m5 p0 q1 q2 p3)), .second, .val (.ref ob1), .val (.ref ob2), .val (.ref b113), .val (.ref b118), .val (.int (w0_6 p3)), .unset] [(.ref b130_4), (.ref b113)])) t → Steps p.tables e below S0 t := K130
            obtain ⟨cq132, kq132, q132a, q132b, q132c⟩ := isOf hZ rfl Fn116_0__130
            obtain ⟨_, _, ⟨T132, L132, k132, n132⟩, -, X132, ⟨Lc132, hQ132, l132, y132, z132⟩, st132⟩ := X130.virtualBack hx (y := (⟨"com/example/acervo/acervo/index/DocumentValue", "equals", "(Ljava/lang/Object;)Z"⟩ : MethodName)) (z := (⟨"com/example/acervo/acervo/index/DocumentValue", "equals", "(Ljava/lang/Object;)Z"⟩ : MethodName)) hown (mvT hZ (hw _ (List.mem_of_getElem? (i := 23) rfl))) (mvT hZ (hw _ (List.mem_of_getElem? (i := 24) rfl))) (notFace_of_selects (args := #[]) (mvT hZ (hw _ (List.mem_of_getElem? (i := 26) rfl)))) (mvT hZ (hw _ (List.mem_of_getElem? (i := 26) rfl))) (mvT hZ (hw _ (List.mem_of_getElem? (i := 25) rfl))) (by decide) (backOf (W := 0) (rm9 l Z a0 hw [] b113 b130_4 T130.heap n0 Zs130 Fn130_0) hZ (hw _ (List.mem_of_getElem? (i := 27) rfl)) (hw _ (List.mem_of_getElem? (i := 5) rfl)) (by decide) (by decide)) q132a q132c (g := (mkF m 198 #[.val (.int p0), .val (.long q1), .second, .val (.long q2), .second, .val (.int p3), .val (.int (w0_m1 p0)), .val (.int (w0_m2 p0)), .val (.int (p3 &&& (3 : Int32))), .val (.long (w0_m3 q1 q2 p3)), .second, .val (.long (w0_m4 p0 q1)), .second, .val (.long (w0_m5 p0 q1 q2 p3)), .second, .val (.ref ob1), .val (.ref ob2), .val (.ref b113), .val (.ref b118), .val (.int (w0_6 p3)), .unset] [(.ref b130_4), (.ref b113)])) rfl (by rw [hml]; rfl) (Steps.refl _) (argsL := [(.ref b130_4)]) (rest := []) (lenOf pd0_2 rfl) rfl (by show 2 * 0 + _ ≤ _; exact Nat.le_of_eq rfl) (hb hby at_198) (fun _ _ => ⟨rfl, rfl, (by decide : 3 + 0 ≤ 16), (by decide : 5 + 0 ≤ 128)⟩)
            dsimp only [Pt.U, Pt.locs, Pt.cells, Pt.slots] at X132 l132 y132 z132 st132 hQ132
            subst l132 y132 z132
            obtain ⟨rfl, N132q, e132⟩ := hQ132
            have N132 := Fr.app N130 N132q
            have K132 : ∀ t, Steps p.tables e below (T132.setTop (mkF m 201 #[.val (.int p0), .val (.long q1), .second, .val (.long q2), .second, .val (.int p3), .val (.int (w0_m1 p0)), .val (.int (w0_m2 p0)), .val (.int (p3 &&& (3 : Int32))), .val (.long (w0_m3 q1 q2 p3)), .second, .val (.long (w0_m4 p0 q1)), .second, .val (.long (w0_m5 p0 q1 q2 p3)), .second, .val (.ref ob1), .val (.ref ob2), .val (.ref b113), .val (.ref b118), .val (.int (w0_6 p3)), .unset] [(.int (0 : Int32))])) t → Steps p.tables e below S0 t := fun t k => K_131 t (st132.trans k)
            have K133 : ∀ t, Steps p.tables e below (T132.setTop (mkF m 209 #[.val (.int p0), .val (.long q1), .second, .val (.long q2), .second, .val (.int p3), .val (.int (w0_m1 p0)), .val (.int (w0_m2 p0)), .val (.int (p3 &&& (3 : Int32))), .val (.long (w0_m3 q1 q2 p3)), .second, .val (.long (w0_m4 p0 q1)), .second, .val (.long (w0_m5 p0 q1 q2 p3)), .second, .val (.ref ob1), .val (.ref ob2), .val (.ref b113), .val (.ref b118), .val (.int (w0_6 p3)), .unset] [(.int (1 : Int32))])) t → Steps p.tables e below S0 t := fun t k => K132 t (by
              refine XS.ifNo X132.here hx rfl (hb hby at_201) rfl (XT.i0_ne_f (by decide)) ?_
              show Steps p.tables e below (T132.setTop (mkF m 204 #[.val (.int p0), .val (.long q1), .second, .val (.long q2), .second, .val (.int p3), .val (.int (w0_m1 p0)), .val (.int (w0_m2 p0)), .val (.int (p3 &&& (3 : Int32))), .val (.long (w0_m3 q1 q2 p3)), .second, .val (.long (w0_m4 p0 q1)), .second, .val (.long (w0_m5 p0 q1 q2 p3)), .second, .val (.ref ob1), .val (.ref ob2), .val (.ref b113), .val (.ref b118), .val (.int (w0_6 p3)), .unset] [])) _
              refine XS.iconst X132.here hx rfl (hb hby at_204) ?_
              show Steps p.tables e below (T132.setTop (mkF m 205 #[.val (.int p0), .val (.long q1), .second, .val (.long q2), .second, .val (.int p3), .val (.int (w0_m1 p0)), .val (.int (w0_m2 p0)), .val (.int (p3 &&& (3 : Int32))), .val (.long (w0_m3 q1 q2 p3)), .second, .val (.long (w0_m4 p0 q1)), .second, .val (.long (w0_m5 p0 q1 q2 p3)), .second, .val (.ref ob1), .val (.ref ob2), .val (.ref b113), .val (.ref b118), .val (.int (w0_6 p3)), .unset] [(.int (1 : Int32))])) _
              refine XS.goto X132.here hx rfl (pc0 := 205) (pc' := 209) rfl (hb hby at_205) (by decide) (by decide) ?_
              show Steps p.tables e below (T132.setTop (mkF m 209 #[.val (.int p0), .val (.long q1), .second, .val (.long q2), .second, .val (.int p3), .val (.int (w0_m1 p0)), .val (.int (w0_m2 p0)), .val (.int (p3 &&& (3 : Int32))), .val (.long (w0_m3 q1 q2 p3)), .second, .val (.long (w0_m4 p0 q1)), .second, .val (.long (w0_m5 p0 q1 q2 p3)), .second, .val (.ref ob1), .val (.ref ob2), .val (.ref b113), .val (.ref b118), .val (.int (w0_6 p3)), .unset] [(.int (1 : Int32))])) _
              exact k)
            obtain ⟨fs, hr, hrun, hended, hW, hsame⟩ := X132.leave (v := some (.int (1 : Int32))) (fun h => by rw [Bd.returns] at h; cases h) hlk
            refine ⟨_, _, ?_, hrun, hended, _, _, rfl, ?_, ⟨_, rfl⟩, hW, hsame.mono (by decide) (by decide)⟩
            · rw [← hS0]; exact K133 _ (retN X132 hx (t := .boolean) Bd.returns (by simp) (hb hby at_209) hr)
            · show Q0 Z p0 q1 q2 p3 ob1 ob2 oc cc h0 n0 _ T132.heap _
              rw [e132]
              have qr : (1 : Int32) = (w0_r10 p0 q1 q2 p3) := by unfold w0_r10; rw [if_pos hc100_0, if_neg hc116_1, if_neg hc167_2, if_pos hc188_3]
              exact ⟨congrArg (fun z => some (Value.int z)) qr, N132⟩
          · -- no
            by_cases hc195_5 : (127 : Int64) < (w0_m4 p0 q1)
            · -- yes
              have K_134 : ∀ t, Steps p.tables e below (T121.setTop (mkF m 195 #[.val (.int p0), .val (.long q1), .second, .val (.long q2), .second, .val (.int p3), .val (.int (w0_m1 p0)), .val (.int (w0_m2 p0)), .val (.int (p3 &&& (3 : Int32))), .val (.long (w0_m3 q1 q2 p3)), .second, .val (.long (w0_m4 p0 q1)), .second, .val (.long (w0_m5 p0 q1 q2 p3)), .second, .val (.ref ob1), .val (.ref ob2), .val (.ref b113), .val (.ref b118), .val (.int (w0_6 p3)), .unset] [(.long (w0_m4 p0 q1)), (.ref b113)])) t → Steps p.tables e below S0 t := K128
              obtain ⟨_, _, ⟨T135, L135, k135, n135⟩, -, X135, ⟨Lc135, hQ135, l135, y135, z135⟩, st135⟩ := Jvm.LawKit.callS X121 hx (y := (⟨"java/lang/Long", "valueOf", "(J)Ljava/lang/Long;"⟩ : MethodName)) hown (mvT hZ (hw _ (List.mem_of_getElem? (i := 43) rfl))) (mvT hZ (hw _ (List.mem_of_getElem? (i := 44) rfl))) (mvT hZ (hw _ (List.mem_of_getElem? (i := 45) rfl))) (mvT hZ (hw _ (List.mem_of_getElem? (i := 46) rfl))) (by decide) (backOf (W := 1) (rmLhi l Z a0 hw [] (w0_m4 p0 q1) T121.heap n0 Zs121 hc195_4 hc195_5) hZ (hw _ (List.mem_of_getElem? (i := 46) rfl)) (hw _ (List.mem_of_getElem? (i := 45) rfl)) (by decide) (by decide)) (g := (mkF m 195 #[.val (.int p0), .val (.long q1), .second, .val (.long q2), .second, .val (.int p3), .val (.int (w0_m1 p0)), .val (.int (w0_m2 p0)), .val (.int (p3 &&& (3 : Int32))), .val (.long (w0_m3 q1 q2 p3)), .second, .val (.long (w0_m4 p0 q1)), .second, .val (.long (w0_m5 p0 q1 q2 p3)), .second, .val (.ref ob1), .val (.ref ob2), .val (.ref b113), .val (.ref b118), .val (.int (w0_6 p3)), .unset] [(.long (w0_m4 p0 q1)), (.ref b113)])) rfl (by rw [hml]; rfl) (argsL := [(.long (w0_m4 p0 q1))]) (rest := [(.ref b113)]) (lenOf pd0_3 rfl) rfl (by show 2 * 0 + _ ≤ _; exact Nat.le_of_eq rfl) (hb hby at_195) (fun _ _ => ⟨rfl, rfl, (by decide : 2 + 1 ≤ 16), (by decide : 4 + 1 ≤ 128)⟩)
              dsimp only [Pt.U, Pt.locs, Pt.cells, Pt.slots] at X135 l135 y135 z135 st135 hQ135
              subst l135 y135 z135
              obtain ⟨b135_6, rfl, N135q, Kp135, lb_b135_6, Fn135_0, Fn135_1⟩ := hQ135
              have N135 := Fr.app N121 N135q
              have g_b135_6 : n0 ≤ b135_6 := Nat.le_trans Zs121 lb_b135_6
              have ne_ob1_b135_6 : ob1 ≠ b135_6 := Nat.ne_of_lt (Nat.lt_of_lt_of_le E_ob1__121.lt lb_b135_6)
              have ne_ob2_b135_6 : ob2 ≠ b135_6 := Nat.ne_of_lt (Nat.lt_of_lt_of_le E_ob2__121.lt lb_b135_6)
              have ne_oc_b135_6 : oc ≠ b135_6 := Nat.ne_of_lt (Nat.lt_of_lt_of_le Ar_oc__121.lt lb_b135_6)
              have ne_b113_b135_6 : b113 ≠ b135_6 := Nat.ne_of_lt (Nat.lt_of_lt_of_le Fn116_0__121.lt lb_b135_6)
              have ne_b118_b135_6 : b118 ≠ b135_6 := Nat.ne_of_lt (Nat.lt_of_lt_of_le Fn121_0.lt lb_b135_6)
              have OL135 := OL121.keep Kp135 all0
              have S_DocumentValue_Kind_NUMBER__135 := S_DocumentValue_Kind_NUMBER.ext OL135.2
              have S_DocumentValue_Kind_DATE__135 := S_DocumentValue_Kind_DATE.ext OL135.2
              have E_ob1__135 := E_ob1.ext OL135.2
              have E_ob2__135 := E_ob2.ext OL135.2
              have S_Long_LongCache_cache__135 := S_Long_LongCache_cache.ext OL135.2
              have Ar_oc__135 := Ar_oc.ext OL135.2
              have Fn116_0__135 := Fn116_0__121.keep Kp135
              have Fn116_1__135 := Fn116_1__121.keep Kp135 nin0
              have Fn116_2__135 := Fn116_2__121.keep Kp135 nin0
              have Fn121_0__135 := Fn121_0.keep Kp135
              have Fn121_1__135 := Fn121_1.keep Kp135 nin0
              have Fn121_2__135 := Fn121_2.keep Kp135 nin0
              have Zs135 : n0 ≤ T135.heap.size := Nat.le_trans Zs121 Kp135.1
              have K135 : ∀ t, Steps p.tables e below (T135.setTop (mkF m 198 #[.val (.int p0), .val (.long q1), .second, .val (.long q2), .second, .val (.int p3), .val (.int (w0_m1 p0)), .val (.int (w0_m2 p0)), .val (.int (p3 &&& (3 : Int32))), .val (.long (w0_m3 q1 q2 p3)), .second, .val (.long (w0_m4 p0 q1)), .second, .val (.long (w0_m5 p0 q1 q2 p3)), .second, .val (.ref ob1), .val (.ref ob2), .val (.ref b113), .val (.ref b118), .val (.int (w0_6 p3)), .unset] [(.ref b135_6), (.ref b113)])) t → Steps p.tables e below S0 t := fun t k => K_134 t (st135 t k)
              have K_136 : ∀ t, Steps p.tables e below (T135.setTop (mkF m 198 #[.val (.int p0), .val (.long q1), .second, .val (.long q2), .second, .val (.int p3), .val (.int (w0_m1 p0)), .val (.int (w0_m2 p0)), .val (.int (p3 &&& (3 : Int32))), .val (.long (w0_m3 q1 q2 p3)), .second, .val (.long (w0_m4 p0 q1)), .second, .val (.long (w0_m5 p0 q1 q2 p3)), .second, .val (.ref ob1), .val (.ref ob2), .val (.ref b113), .val (.ref b118), .val (.int (w0_6 p3)), .unset] [(.ref b135_6), (.ref b113)])) t → Steps p.tables e below S0 t := K135
              obtain ⟨cq137, kq137, q137a, q137b, q137c⟩ := isOf hZ rfl Fn116_0__135
              obtain ⟨_, _, ⟨T137, L137, k137, n137⟩, -, X137, ⟨Lc137, hQ137, l137, y137, z137⟩, st137⟩ := X135.virtualBack hx (y := (⟨"com/example/acervo/acervo/index/DocumentValue", "equals", "(Ljava/lang/Object;)Z"⟩ : MethodName)) (z := (⟨"com/example/acervo/acervo/index/DocumentValue", "equals", "(Ljava/lang/Object;)Z"⟩ : MethodName)) hown (mvT hZ (hw _ (List.mem_of_getElem? (i := 23) rfl))) (mvT hZ (hw _ (List.mem_of_getElem? (i := 24) rfl))) (notFace_of_selects (args := #[]) (mvT hZ (hw _ (List.mem_of_getElem? (i := 26) rfl)))) (mvT hZ (hw _ (List.mem_of_getElem? (i := 26) rfl))) (mvT hZ (hw _ (List.mem_of_getElem? (i := 25) rfl))) (by decide) (backOf (W := 0) (rm9 l Z a0 hw [] b113 b135_6 T135.heap n0 Zs135 Fn135_0) hZ (hw _ (List.mem_of_getElem? (i := 27) rfl)) (hw _ (List.mem_of_getElem? (i := 5) rfl)) (by decide) (by decide)) q137a q137c (g := (mkF m 198 #[.val (.int p0), .val (.long q1), .second, .val (.long q2), .second, .val (.int p3), .val (.int (w0_m1 p0)), .val (.int (w0_m2 p0)), .val (.int (p3 &&& (3 : Int32))), .val (.long (w0_m3 q1 q2 p3)), .second, .val (.long (w0_m4 p0 q1)), .second, .val (.long (w0_m5 p0 q1 q2 p3)), .second, .val (.ref ob1), .val (.ref ob2), .val (.ref b113), .val (.ref b118), .val (.int (w0_6 p3)), .unset] [(.ref b135_6), (.ref b113)])) rfl (by rw [hml]; rfl) (Steps.refl _) (argsL := [(.ref b135_6)]) (rest := []) (lenOf pd0_2 rfl) rfl (by show 2 * 0 + _ ≤ _; exact Nat.le_of_eq rfl) (hb hby at_198) (fun _ _ => ⟨rfl, rfl, (by decide : 3 + 0 ≤ 16), (by decide : 5 + 0 ≤ 128)⟩)
              dsimp only [Pt.U, Pt.locs, Pt.cells, Pt.slots] at X137 l137 y137 z137 st137 hQ137
              subst l137 y137 z137
              obtain ⟨rfl, N137q, e137⟩ := hQ137
              have N137 := Fr.app N135 N137q
              have K137 : ∀ t, Steps p.tables e below (T137.setTop (mkF m 201 #[.val (.int p0), .val (.long q1), .second, .val (.long q2), .second, .val (.int p3), .val (.int (w0_m1 p0)), .val (.int (w0_m2 p0)), .val (.int (p3 &&& (3 : Int32))), .val (.long (w0_m3 q1 q2 p3)), .second, .val (.long (w0_m4 p0 q1)), .second, .val (.long (w0_m5 p0 q1 q2 p3)), .second, .val (.ref ob1), .val (.ref ob2), .val (.ref b113), .val (.ref b118), .val (.int (w0_6 p3)), .unset] [(.int (0 : Int32))])) t → Steps p.tables e below S0 t := fun t k => K_136 t (st137.trans k)
              have K138 : ∀ t, Steps p.tables e below (T137.setTop (mkF m 209 #[.val (.int p0), .val (.long q1), .second, .val (.long q2), .second, .val (.int p3), .val (.int (w0_m1 p0)), .val (.int (w0_m2 p0)), .val (.int (p3 &&& (3 : Int32))), .val (.long (w0_m3 q1 q2 p3)), .second, .val (.long (w0_m4 p0 q1)), .second, .val (.long (w0_m5 p0 q1 q2 p3)), .second, .val (.ref ob1), .val (.ref ob2), .val (.ref b113), .val (.ref b118), .val (.int (w0_6 p3)), .unset] [(.int (1 : Int32))])) t → Steps p.tables e below S0 t := fun t k => K137 t (by
                refine XS.ifNo X137.here hx rfl (hb hby at_201) rfl (XT.i0_ne_f (by decide)) ?_
                show Steps p.tables e below (T137.setTop (mkF m 204 #[.val (.int p0), .val (.long q1), .second, .val (.long q2), .second, .val (.int p3), .val (.int (w0_m1 p0)), .val (.int (w0_m2 p0)), .val (.int (p3 &&& (3 : Int32))), .val (.long (w0_m3 q1 q2 p3)), .second, .val (.long (w0_m4 p0 q1)), .second, .val (.long (w0_m5 p0 q1 q2 p3)), .second, .val (.ref ob1), .val (.ref ob2), .val (.ref b113), .val (.ref b118), .val (.int (w0_6 p3)), .unset] [])) _
                refine XS.iconst X137.here hx rfl (hb hby at_204) ?_
                show Steps p.tables e below (T137.setTop (mkF m 205 #[.val (.int p0), .val (.long q1), .second, .val (.long q2), .second, .val (.int p3), .val (.int (w0_m1 p0)), .val (.int (w0_m2 p0)), .val (.int (p3 &&& (3 : Int32))), .val (.long (w0_m3 q1 q2 p3)), .second, .val (.long (w0_m4 p0 q1)), .second, .val (.long (w0_m5 p0 q1 q2 p3)), .second, .val (.ref ob1), .val (.ref ob2), .val (.ref b113), .val (.ref b118), .val (.int (w0_6 p3)), .unset] [(.int (1 : Int32))])) _
                refine XS.goto X137.here hx rfl (pc0 := 205) (pc' := 209) rfl (hb hby at_205) (by decide) (by decide) ?_
                show Steps p.tables e below (T137.setTop (mkF m 209 #[.val (.int p0), .val (.long q1), .second, .val (.long q2), .second, .val (.int p3), .val (.int (w0_m1 p0)), .val (.int (w0_m2 p0)), .val (.int (p3 &&& (3 : Int32))), .val (.long (w0_m3 q1 q2 p3)), .second, .val (.long (w0_m4 p0 q1)), .second, .val (.long (w0_m5 p0 q1 q2 p3)), .second, .val (.ref ob1), .val (.ref ob2), .val (.ref b113), .val (.ref b118), .val (.int (w0_6 p3)), .unset] [(.int (1 : Int32))])) _
                exact k)
              obtain ⟨fs, hr, hrun, hended, hW, hsame⟩ := X137.leave (v := some (.int (1 : Int32))) (fun h => by rw [Bd.returns] at h; cases h) hlk
              refine ⟨_, _, ?_, hrun, hended, _, _, rfl, ?_, ⟨_, rfl⟩, hW, hsame.mono (by decide) (by decide)⟩
              · rw [← hS0]; exact K138 _ (retN X137 hx (t := .boolean) Bd.returns (by simp) (hb hby at_209) hr)
              · show Q0 Z p0 q1 q2 p3 ob1 ob2 oc cc h0 n0 _ T137.heap _
                rw [e137]
                have qr : (1 : Int32) = (w0_r10 p0 q1 q2 p3) := by unfold w0_r10; rw [if_pos hc100_0, if_neg hc116_1, if_neg hc167_2, if_pos hc188_3]
                exact ⟨congrArg (fun z => some (Value.int z)) qr, N137⟩
            · -- no
              obtain ⟨oe, hin139, hat139, Eo139⟩ := hcache (w0_m4 p0 q1) hc195_4 hc195_5
              have Ee139 := Eo139.ext OL121.2
              have K_140 : ∀ t, Steps p.tables e below (T121.setTop (mkF m 195 #[.val (.int p0), .val (.long q1), .second, .val (.long q2), .second, .val (.int p3), .val (.int (w0_m1 p0)), .val (.int (w0_m2 p0)), .val (.int (p3 &&& (3 : Int32))), .val (.long (w0_m3 q1 q2 p3)), .second, .val (.long (w0_m4 p0 q1)), .second, .val (.long (w0_m5 p0 q1 q2 p3)), .second, .val (.ref ob1), .val (.ref ob2), .val (.ref b113), .val (.ref b118), .val (.int (w0_6 p3)), .unset] [(.long (w0_m4 p0 q1)), (.ref b113)])) t → Steps p.tables e below S0 t := K128
              obtain ⟨_, _, ⟨T141, L141, k141, n141⟩, -, X141, ⟨Lc141, hQ141, l141, y141, z141⟩, st141⟩ := Jvm.LawKit.callS X121 hx (y := (⟨"java/lang/Long", "valueOf", "(J)Ljava/lang/Long;"⟩ : MethodName)) hown (mvT hZ (hw _ (List.mem_of_getElem? (i := 43) rfl))) (mvT hZ (hw _ (List.mem_of_getElem? (i := 44) rfl))) (mvT hZ (hw _ (List.mem_of_getElem? (i := 45) rfl))) (mvT hZ (hw _ (List.mem_of_getElem? (i := 46) rfl))) (by decide) (backOf (W := 1) (rmLca l Z a0 hw [] (w0_m4 p0 q1) oc cc oe T121.heap n0 Zs121 S_Long_LongCache_cache__121 Ar_oc__121 hc195_4 hc195_5 hin139 hat139) hZ (hw _ (List.mem_of_getElem? (i := 46) rfl)) (hw _ (List.mem_of_getElem? (i := 45) rfl)) (by decide) (by decide)) (g := (mkF m 195 #[.val (.int p0), .val (.long q1), .second, .val (.long q2), .second, .val (.int p3), .val (.int (w0_m1 p0)), .val (.int (w0_m2 p0)), .val (.int (p3 &&& (3 : Int32))), .val (.long (w0_m3 q1 q2 p3)), .second, .val (.long (w0_m4 p0 q1)), .second, .val (.long (w0_m5 p0 q1 q2 p3)), .second, .val (.ref ob1), .val (.ref ob2), .val (.ref b113), .val (.ref b118), .val (.int (w0_6 p3)), .unset] [(.long (w0_m4 p0 q1)), (.ref b113)])) rfl (by rw [hml]; rfl) (argsL := [(.long (w0_m4 p0 q1))]) (rest := [(.ref b113)]) (lenOf pd0_3 rfl) rfl (by show 2 * 0 + _ ≤ _; exact Nat.le_of_eq rfl) (hb hby at_195) (fun _ _ => ⟨rfl, rfl, (by decide : 2 + 0 ≤ 16), (by decide : 4 + 0 ≤ 128)⟩)
              dsimp only [Pt.U, Pt.locs, Pt.cells, Pt.slots] at X141 l141 y141 z141 st141 hQ141
              subst l141 y141 z141
              obtain ⟨rfl, N141q, e141⟩ := hQ141
              have N141 := Fr.app N121 N141q
              have K141 : ∀ t, Steps p.tables e below (T141.setTop (mkF m 198 #[.val (.int p0), .val (.long q1), .second, .val (.long q2), .second, .val (.int p3), .val (.int (w0_m1 p0)), .val (.int (w0_m2 p0)), .val (.int (p3 &&& (3 : Int32))), .val (.long (w0_m3 q1 q2 p3)), .second, .val (.long (w0_m4 p0 q1)), .second, .val (.long (w0_m5 p0 q1 q2 p3)), .second, .val (.ref ob1), .val (.ref ob2), .val (.ref b113), .val (.ref b118), .val (.int (w0_6 p3)), .unset] [(.ref oe), (.ref b113)])) t → Steps p.tables e below S0 t := fun t k => K_140 t (st141 t k)
              have K_142 : ∀ t, Steps p.tables e below (T141.setTop (mkF m 198 #[.val (.int p0), .val (.long q1), .second, .val (.long q2), .second, .val (.int p3), .val (.int (w0_m1 p0)), .val (.int (w0_m2 p0)), .val (.int (p3 &&& (3 : Int32))), .val (.long (w0_m3 q1 q2 p3)), .second, .val (.long (w0_m4 p0 q1)), .second, .val (.long (w0_m5 p0 q1 q2 p3)), .second, .val (.ref ob1), .val (.ref ob2), .val (.ref b113), .val (.ref b118), .val (.int (w0_6 p3)), .unset] [(.ref oe), (.ref b113)])) t → Steps p.tables e below S0 t := K141
              obtain ⟨cq143, kq143, q143a, q143b, q143c⟩ := isOf hZ e141 Fn116_0__121
              obtain ⟨_, _, ⟨T143, L143, k143, n143⟩, -, X143, ⟨Lc143, hQ143, l143, y143, z143⟩, st143⟩ := X141.virtualBack hx (y := (⟨"com/example/acervo/acervo/index/DocumentValue", "equals", "(Ljava/lang/Object;)Z"⟩ : MethodName)) (z := (⟨"com/example/acervo/acervo/index/DocumentValue", "equals", "(Ljava/lang/Object;)Z"⟩ : MethodName)) hown (mvT hZ (hw _ (List.mem_of_getElem? (i := 23) rfl))) (mvT hZ (hw _ (List.mem_of_getElem? (i := 24) rfl))) (notFace_of_selects (args := #[]) (mvT hZ (hw _ (List.mem_of_getElem? (i := 26) rfl)))) (mvT hZ (hw _ (List.mem_of_getElem? (i := 26) rfl))) (mvT hZ (hw _ (List.mem_of_getElem? (i := 25) rfl))) (by decide) (backOf (W := 0) (rm9 l Z a0 hw [] b113 oe T121.heap n0 Zs121 Ee139) hZ (hw _ (List.mem_of_getElem? (i := 27) rfl)) (hw _ (List.mem_of_getElem? (i := 5) rfl)) (by decide) (by decide)) q143a q143c (g := (mkF m 198 #[.val (.int p0), .val (.long q1), .second, .val (.long q2), .second, .val (.int p3), .val (.int (w0_m1 p0)), .val (.int (w0_m2 p0)), .val (.int (p3 &&& (3 : Int32))), .val (.long (w0_m3 q1 q2 p3)), .second, .val (.long (w0_m4 p0 q1)), .second, .val (.long (w0_m5 p0 q1 q2 p3)), .second, .val (.ref ob1), .val (.ref ob2), .val (.ref b113), .val (.ref b118), .val (.int (w0_6 p3)), .unset] [(.ref oe), (.ref b113)])) rfl (by rw [hml]; rfl) (Steps.refl _) (argsL := [(.ref oe)]) (rest := []) (lenOf pd0_2 rfl) rfl (by show 2 * 0 + _ ≤ _; exact Nat.le_of_eq rfl) (hb hby at_198) (fun _ _ => ⟨rfl, e141, (by decide : 2 + 0 ≤ 16), (by decide : 4 + 0 ≤ 128)⟩)
              dsimp only [Pt.U, Pt.locs, Pt.cells, Pt.slots] at X143 l143 y143 z143 st143 hQ143
              subst l143 y143 z143
              obtain ⟨rfl, N143q, e143⟩ := hQ143
              have N143 := Fr.app N141 N143q
              have K143 : ∀ t, Steps p.tables e below (T143.setTop (mkF m 201 #[.val (.int p0), .val (.long q1), .second, .val (.long q2), .second, .val (.int p3), .val (.int (w0_m1 p0)), .val (.int (w0_m2 p0)), .val (.int (p3 &&& (3 : Int32))), .val (.long (w0_m3 q1 q2 p3)), .second, .val (.long (w0_m4 p0 q1)), .second, .val (.long (w0_m5 p0 q1 q2 p3)), .second, .val (.ref ob1), .val (.ref ob2), .val (.ref b113), .val (.ref b118), .val (.int (w0_6 p3)), .unset] [(.int (0 : Int32))])) t → Steps p.tables e below S0 t := fun t k => K_142 t (st143.trans k)
              have K144 : ∀ t, Steps p.tables e below (T143.setTop (mkF m 209 #[.val (.int p0), .val (.long q1), .second, .val (.long q2), .second, .val (.int p3), .val (.int (w0_m1 p0)), .val (.int (w0_m2 p0)), .val (.int (p3 &&& (3 : Int32))), .val (.long (w0_m3 q1 q2 p3)), .second, .val (.long (w0_m4 p0 q1)), .second, .val (.long (w0_m5 p0 q1 q2 p3)), .second, .val (.ref ob1), .val (.ref ob2), .val (.ref b113), .val (.ref b118), .val (.int (w0_6 p3)), .unset] [(.int (1 : Int32))])) t → Steps p.tables e below S0 t := fun t k => K143 t (by
                refine XS.ifNo X143.here hx rfl (hb hby at_201) rfl (XT.i0_ne_f (by decide)) ?_
                show Steps p.tables e below (T143.setTop (mkF m 204 #[.val (.int p0), .val (.long q1), .second, .val (.long q2), .second, .val (.int p3), .val (.int (w0_m1 p0)), .val (.int (w0_m2 p0)), .val (.int (p3 &&& (3 : Int32))), .val (.long (w0_m3 q1 q2 p3)), .second, .val (.long (w0_m4 p0 q1)), .second, .val (.long (w0_m5 p0 q1 q2 p3)), .second, .val (.ref ob1), .val (.ref ob2), .val (.ref b113), .val (.ref b118), .val (.int (w0_6 p3)), .unset] [])) _
                refine XS.iconst X143.here hx rfl (hb hby at_204) ?_
                show Steps p.tables e below (T143.setTop (mkF m 205 #[.val (.int p0), .val (.long q1), .second, .val (.long q2), .second, .val (.int p3), .val (.int (w0_m1 p0)), .val (.int (w0_m2 p0)), .val (.int (p3 &&& (3 : Int32))), .val (.long (w0_m3 q1 q2 p3)), .second, .val (.long (w0_m4 p0 q1)), .second, .val (.long (w0_m5 p0 q1 q2 p3)), .second, .val (.ref ob1), .val (.ref ob2), .val (.ref b113), .val (.ref b118), .val (.int (w0_6 p3)), .unset] [(.int (1 : Int32))])) _
                refine XS.goto X143.here hx rfl (pc0 := 205) (pc' := 209) rfl (hb hby at_205) (by decide) (by decide) ?_
                show Steps p.tables e below (T143.setTop (mkF m 209 #[.val (.int p0), .val (.long q1), .second, .val (.long q2), .second, .val (.int p3), .val (.int (w0_m1 p0)), .val (.int (w0_m2 p0)), .val (.int (p3 &&& (3 : Int32))), .val (.long (w0_m3 q1 q2 p3)), .second, .val (.long (w0_m4 p0 q1)), .second, .val (.long (w0_m5 p0 q1 q2 p3)), .second, .val (.ref ob1), .val (.ref ob2), .val (.ref b113), .val (.ref b118), .val (.int (w0_6 p3)), .unset] [(.int (1 : Int32))])) _
                exact k)
              obtain ⟨fs, hr, hrun, hended, hW, hsame⟩ := X143.leave (v := some (.int (1 : Int32))) (fun h => by rw [Bd.returns] at h; cases h) hlk
              refine ⟨_, _, ?_, hrun, hended, _, _, rfl, ?_, ⟨_, rfl⟩, hW, hsame.mono (by decide) (by decide)⟩
              · rw [← hS0]; exact K144 _ (retN X143 hx (t := .boolean) Bd.returns (by simp) (hb hby at_209) hr)
              · show Q0 Z p0 q1 q2 p3 ob1 ob2 oc cc h0 n0 _ T143.heap _
                rw [e143]
                have qr : (1 : Int32) = (w0_r10 p0 q1 q2 p3) := by unfold w0_r10; rw [if_pos hc100_0, if_neg hc116_1, if_neg hc167_2, if_pos hc188_3]
                exact ⟨congrArg (fun z => some (Value.int z)) qr, N143⟩
        · -- no
          have K145 : ∀ t, Steps p.tables e below (T121.setTop (mkF m 213 #[.val (.int p0), .val (.long q1), .second, .val (.long q2), .second, .val (.int p3), .val (.int (w0_m1 p0)), .val (.int (w0_m2 p0)), .val (.int (p3 &&& (3 : Int32))), .val (.long (w0_m3 q1 q2 p3)), .second, .val (.long (w0_m4 p0 q1)), .second, .val (.long (w0_m5 p0 q1 q2 p3)), .second, .val (.ref ob1), .val (.ref ob2), .val (.ref b113), .val (.ref b118), .val (.int (w0_6 p3)), .unset] [(.int (3 : Int32)), (.int (w0_6 p3))])) t → Steps p.tables e below S0 t := fun t k => K127 t (by
            refine XS.icmpYes X121.here hx rfl (pc0 := 188) (pc' := 210) rfl (hb hby at_188) rfl (XT.ii_ne_t hc188_3) (by decide) (by decide) ?_
            show Steps p.tables e below (T121.setTop (mkF m 210 #[.val (.int p0), .val (.long q1), .second, .val (.long q2), .second, .val (.int p3), .val (.int (w0_m1 p0)), .val (.int (w0_m2 p0)), .val (.int (p3 &&& (3 : Int32))), .val (.long (w0_m3 q1 q2 p3)), .second, .val (.long (w0_m4 p0 q1)), .second, .val (.long (w0_m5 p0 q1 q2 p3)), .second, .val (.ref ob1), .val (.ref ob2), .val (.ref b113), .val (.ref b118), .val (.int (w0_6 p3)), .unset] [])) _
            refine XS.iload X121.here hx rfl (hb hby at_210) rfl ?_
            show Steps p.tables e below (T121.setTop (mkF m 212 #[.val (.int p0), .val (.long q1), .second, .val (.long q2), .second, .val (.int p3), .val (.int (w0_m1 p0)), .val (.int (w0_m2 p0)), .val (.int (p3 &&& (3 : Int32))), .val (.long (w0_m3 q1 q2 p3)), .second, .val (.long (w0_m4 p0 q1)), .second, .val (.long (w0_m5 p0 q1 q2 p3)), .second, .val (.ref ob1), .val (.ref ob2), .val (.ref b113), .val (.ref b118), .val (.int (w0_6 p3)), .unset] [(.int (w0_6 p3))])) _
            refine XS.iconst X121.here hx rfl (hb hby at_212) ?_
            show Steps p.tables e below (T121.setTop (mkF m 213 #[.val (.int p0), .val (.long q1), .second, .val (.long q2), .second, .val (.int p3), .val (.int (w0_m1 p0)), .val (.int (w0_m2 p0)), .val (.int (p3 &&& (3 : Int32))), .val (.long (w0_m3 q1 q2 p3)), .second, .val (.long (w0_m4 p0 q1)), .second, .val (.long (w0_m5 p0 q1 q2 p3)), .second, .val (.ref ob1), .val (.ref ob2), .val (.ref b113), .val (.ref b118), .val (.int (w0_6 p3)), .unset] [(.int (3 : Int32)), (.int (w0_6 p3))])) _
            exact k)
          by_cases hc213_4 : (w0_6 p3) = (3 : Int32)
          · -- yes
            have K146 : ∀ t, Steps p.tables e below (T121.setTop (mkF m 220 #[.val (.int p0), .val (.long q1), .second, .val (.long q2), .second, .val (.int p3), .val (.int (w0_m1 p0)), .val (.int (w0_m2 p0)), .val (.int (p3 &&& (3 : Int32))), .val (.long (w0_m3 q1 q2 p3)), .second, .val (.long (w0_m4 p0 q1)), .second, .val (.long (w0_m5 p0 q1 q2 p3)), .second, .val (.ref ob1), .val (.ref ob2), .val (.ref b113), .val (.ref b118), .val (.int (w0_6 p3)), .unset] [(.ref b113), (.ref b113)])) t → Steps p.tables e below S0 t := fun t k => K145 t (by
              refine XS.icmpNo X121.here hx rfl (hb hby at_213) rfl (XT.ii_ne_f hc213_4) ?_
              show Steps p.tables e below (T121.setTop (mkF m 216 #[.val (.int p0), .val (.long q1), .second, .val (.long q2), .second, .val (.int p3), .val (.int (w0_m1 p0)), .val (.int (w0_m2 p0)), .val (.int (p3 &&& (3 : Int32))), .val (.long (w0_m3 q1 q2 p3)), .second, .val (.long (w0_m4 p0 q1)), .second, .val (.long (w0_m5 p0 q1 q2 p3)), .second, .val (.ref ob1), .val (.ref ob2), .val (.ref b113), .val (.ref b118), .val (.int (w0_6 p3)), .unset] [])) _
              refine XS.aload X121.here hx rfl (hb hby at_216) rfl rfl ?_
              show Steps p.tables e below (T121.setTop (mkF m 218 #[.val (.int p0), .val (.long q1), .second, .val (.long q2), .second, .val (.int p3), .val (.int (w0_m1 p0)), .val (.int (w0_m2 p0)), .val (.int (p3 &&& (3 : Int32))), .val (.long (w0_m3 q1 q2 p3)), .second, .val (.long (w0_m4 p0 q1)), .second, .val (.long (w0_m5 p0 q1 q2 p3)), .second, .val (.ref ob1), .val (.ref ob2), .val (.ref b113), .val (.ref b118), .val (.int (w0_6 p3)), .unset] [(.ref b113)])) _
              refine XS.aload X121.here hx rfl (hb hby at_218) rfl rfl ?_
              show Steps p.tables e below (T121.setTop (mkF m 220 #[.val (.int p0), .val (.long q1), .second, .val (.long q2), .second, .val (.int p3), .val (.int (w0_m1 p0)), .val (.int (w0_m2 p0)), .val (.int (p3 &&& (3 : Int32))), .val (.long (w0_m3 q1 q2 p3)), .second, .val (.long (w0_m4 p0 q1)), .second, .val (.long (w0_m5 p0 q1 q2 p3)), .second, .val (.ref ob1), .val (.ref ob2), .val (.ref b113), .val (.ref b118), .val (.int (w0_6 p3)), .unset] [(.ref b113), (.ref b113)])) _
              exact k)
            have K_147 : ∀ t, Steps p.tables e below (T121.setTop (mkF m 220 #[.val (.int p0), .val (.long q1), .second, .val (.long q2), .second, .val (.int p3), .val (.int (w0_m1 p0)), .val (.int (w0_m2 p0)), .val (.int (p3 &&& (3 : Int32))), .val (.long (w0_m3 q1 q2 p3)), .second, .val (.long (w0_m4 p0 q1)), .second, .val (.long (w0_m5 p0 q1 q2 p3)), .second, .val (.ref ob1), .val (.ref ob2), .val (.ref b113), .val (.ref b118), .val (.int (w0_6 p3)), .unset] [(.ref b113), (.ref b113)])) t → Steps p.tables e below S0 t := K146
            obtain ⟨cq148, kq148, q148a, q148b, q148c⟩ := isOf hZ rfl Fn116_0__121
            obtain ⟨_, _, ⟨T148, L148, k148, n148⟩, -, X148, ⟨Lc148, hQ148, l148, y148, z148⟩, st148⟩ := X121.virtualBack hx (y := (⟨"com/example/acervo/acervo/index/DocumentValue", "equals", "(Ljava/lang/Object;)Z"⟩ : MethodName)) (z := (⟨"com/example/acervo/acervo/index/DocumentValue", "equals", "(Ljava/lang/Object;)Z"⟩ : MethodName)) hown (mvT hZ (hw _ (List.mem_of_getElem? (i := 23) rfl))) (mvT hZ (hw _ (List.mem_of_getElem? (i := 24) rfl))) (notFace_of_selects (args := #[]) (mvT hZ (hw _ (List.mem_of_getElem? (i := 26) rfl)))) (mvT hZ (hw _ (List.mem_of_getElem? (i := 26) rfl))) (mvT hZ (hw _ (List.mem_of_getElem? (i := 25) rfl))) (by decide) (backOf (W := 0) (rm6 l Z a0 hw [] b113 b113 ob1 (w0_m4 p0 q1) (w0_m4 p0 q1) T121.heap n0 Zs121 Fn116_0__121 Fn116_1__121 Fn116_2__121 Fn116_1__121 Fn116_2__121) hZ (hw _ (List.mem_of_getElem? (i := 27) rfl)) (hw _ (List.mem_of_getElem? (i := 5) rfl)) (by decide) (by decide)) q148a q148c (g := (mkF m 220 #[.val (.int p0), .val (.long q1), .second, .val (.long q2), .second, .val (.int p3), .val (.int (w0_m1 p0)), .val (.int (w0_m2 p0)), .val (.int (p3 &&& (3 : Int32))), .val (.long (w0_m3 q1 q2 p3)), .second, .val (.long (w0_m4 p0 q1)), .second, .val (.long (w0_m5 p0 q1 q2 p3)), .second, .val (.ref ob1), .val (.ref ob2), .val (.ref b113), .val (.ref b118), .val (.int (w0_6 p3)), .unset] [(.ref b113), (.ref b113)])) rfl (by rw [hml]; rfl) (Steps.refl _) (argsL := [(.ref b113)]) (rest := []) (lenOf pd0_2 rfl) rfl (by show 2 * 0 + _ ≤ _; exact Nat.le_of_eq rfl) (hb hby at_220) (fun _ _ => ⟨rfl, rfl, (by decide : 2 + 0 ≤ 16), (by decide : 4 + 0 ≤ 128)⟩)
            dsimp only [Pt.U, Pt.locs, Pt.cells, Pt.slots] at X148 l148 y148 z148 st148 hQ148
            subst l148 y148 z148
            obtain ⟨rfl, N148q, e148⟩ := hQ148
            have N148 := Fr.app N121 N148q
            have K148 : ∀ t, Steps p.tables e below (T148.setTop (mkF m 223 #[.val (.int p0), .val (.long q1), .second, .val (.long q2), .second, .val (.int p3), .val (.int (w0_m1 p0)), .val (.int (w0_m2 p0)), .val (.int (p3 &&& (3 : Int32))), .val (.long (w0_m3 q1 q2 p3)), .second, .val (.long (w0_m4 p0 q1)), .second, .val (.long (w0_m5 p0 q1 q2 p3)), .second, .val (.ref ob1), .val (.ref ob2), .val (.ref b113), .val (.ref b118), .val (.int (w0_6 p3)), .unset] [(.int (w6_r1 (w0_m4 p0 q1) (w0_m4 p0 q1)))])) t → Steps p.tables e below S0 t := fun t k => K_147 t (st148.trans k)
            obtain ⟨fs, hr, hrun, hended, hW, hsame⟩ := X148.leave (v := some (.int (nar .boolean (w6_r1 (w0_m4 p0 q1) (w0_m4 p0 q1))))) (fun h => by rw [Bd.returns] at h; cases h) hlk
            refine ⟨_, _, ?_, hrun, hended, _, _, rfl, ?_, ⟨_, rfl⟩, hW, hsame.mono (by decide) (by decide)⟩
            · rw [← hS0]; exact K148 _ (retN X148 hx (t := .boolean) Bd.returns (by simp) (hb hby at_223) hr)
            · show Q0 Z p0 q1 q2 p3 ob1 ob2 oc cc h0 n0 _ T148.heap _
              rw [e148]
              have qr : (nar .boolean (w6_r1 (w0_m4 p0 q1) (w0_m4 p0 q1))) = (w0_r10 p0 q1 q2 p3) := by unfold w0_r10; rw [if_pos hc100_0, if_neg hc116_1, if_neg hc167_2, if_neg hc188_3, if_pos hc213_4]
              exact ⟨congrArg (fun z => some (Value.int z)) qr, N148⟩
          · -- no
            have K149 : ∀ t, Steps p.tables e below (T121.setTop (mkF m 228 #[.val (.int p0), .val (.long q1), .second, .val (.long q2), .second, .val (.int p3), .val (.int (w0_m1 p0)), .val (.int (w0_m2 p0)), .val (.int (p3 &&& (3 : Int32))), .val (.long (w0_m3 q1 q2 p3)), .second, .val (.long (w0_m4 p0 q1)), .second, .val (.long (w0_m5 p0 q1 q2 p3)), .second, .val (.ref ob1), .val (.ref ob2), .val (.ref b113), .val (.ref b118), .val (.int (w0_6 p3)), .unset] [(.ref ob2), (.ref ob1)])) t → Steps p.tables e below S0 t := fun t k => K145 t (by
              refine XS.icmpYes X121.here hx rfl (pc0 := 213) (pc' := 224) rfl (hb hby at_213) rfl (XT.ii_ne_t hc213_4) (by decide) (by decide) ?_
              show Steps p.tables e below (T121.setTop (mkF m 224 #[.val (.int p0), .val (.long q1), .second, .val (.long q2), .second, .val (.int p3), .val (.int (w0_m1 p0)), .val (.int (w0_m2 p0)), .val (.int (p3 &&& (3 : Int32))), .val (.long (w0_m3 q1 q2 p3)), .second, .val (.long (w0_m4 p0 q1)), .second, .val (.long (w0_m5 p0 q1 q2 p3)), .second, .val (.ref ob1), .val (.ref ob2), .val (.ref b113), .val (.ref b118), .val (.int (w0_6 p3)), .unset] [])) _
              refine XS.aload X121.here hx rfl (hb hby at_224) rfl rfl ?_
              show Steps p.tables e below (T121.setTop (mkF m 226 #[.val (.int p0), .val (.long q1), .second, .val (.long q2), .second, .val (.int p3), .val (.int (w0_m1 p0)), .val (.int (w0_m2 p0)), .val (.int (p3 &&& (3 : Int32))), .val (.long (w0_m3 q1 q2 p3)), .second, .val (.long (w0_m4 p0 q1)), .second, .val (.long (w0_m5 p0 q1 q2 p3)), .second, .val (.ref ob1), .val (.ref ob2), .val (.ref b113), .val (.ref b118), .val (.int (w0_6 p3)), .unset] [(.ref ob1)])) _
              refine XS.aload X121.here hx rfl (hb hby at_226) rfl rfl ?_
              show Steps p.tables e below (T121.setTop (mkF m 228 #[.val (.int p0), .val (.long q1), .second, .val (.long q2), .second, .val (.int p3), .val (.int (w0_m1 p0)), .val (.int (w0_m2 p0)), .val (.int (p3 &&& (3 : Int32))), .val (.long (w0_m3 q1 q2 p3)), .second, .val (.long (w0_m4 p0 q1)), .second, .val (.long (w0_m5 p0 q1 q2 p3)), .second, .val (.ref ob1), .val (.ref ob2), .val (.ref b113), .val (.ref b118), .val (.int (w0_6 p3)), .unset] [(.ref ob2), (.ref ob1)])) _
              exact k)
            have K150 : ∀ t, Steps p.tables e below (T121.setTop (mkF m 250 #[.val (.int p0), .val (.long q1), .second, .val (.long q2), .second, .val (.int p3), .val (.int (w0_m1 p0)), .val (.int (w0_m2 p0)), .val (.int (p3 &&& (3 : Int32))), .val (.long (w0_m3 q1 q2 p3)), .second, .val (.long (w0_m4 p0 q1)), .second, .val (.long (w0_m5 p0 q1 q2 p3)), .second, .val (.ref ob1), .val (.ref ob2), .val (.ref b113), .val (.ref b118), .val (.int (w0_6 p3)), .val (.int (0 : Int32))] [(.ref b118), (.ref b113)])) t → Steps p.tables e below S0 t := fun t k => K149 t (by
              refine Jvm.RoadKit.acmp (g := (mkF m 228 #[.val (.int p0), .val (.long q1), .second, .val (.long q2), .second, .val (.int p3), .val (.int (w0_m1 p0)), .val (.int (w0_m2 p0)), .val (.int (p3 &&& (3 : Int32))), .val (.long (w0_m3 q1 q2 p3)), .second, .val (.long (w0_m4 p0 q1)), .second, .val (.long (w0_m5 p0 q1 q2 p3)), .second, .val (.ref ob1), .val (.ref ob2), .val (.ref b113), .val (.ref b118), .val (.int (w0_6 p3)), .unset] [(.ref ob2), (.ref ob1)])) X121 hx rfl rfl rfl (pc0 := 228) (pc' := 243) (same := false) rfl (hb hby at_228) rfl (decide_eq_false fun q => ne_ob1_ob2 (Value.ref.inj q)) (by decide) (by decide) ?_
              show Steps p.tables e below (T121.setTop (mkF m 243 #[.val (.int p0), .val (.long q1), .second, .val (.long q2), .second, .val (.int p3), .val (.int (w0_m1 p0)), .val (.int (w0_m2 p0)), .val (.int (p3 &&& (3 : Int32))), .val (.long (w0_m3 q1 q2 p3)), .second, .val (.long (w0_m4 p0 q1)), .second, .val (.long (w0_m5 p0 q1 q2 p3)), .second, .val (.ref ob1), .val (.ref ob2), .val (.ref b113), .val (.ref b118), .val (.int (w0_6 p3)), .unset] [])) _
              refine XS.iconst X121.here hx rfl (hb hby at_243) ?_
              show Steps p.tables e below (T121.setTop (mkF m 244 #[.val (.int p0), .val (.long q1), .second, .val (.long q2), .second, .val (.int p3), .val (.int (w0_m1 p0)), .val (.int (w0_m2 p0)), .val (.int (p3 &&& (3 : Int32))), .val (.long (w0_m3 q1 q2 p3)), .second, .val (.long (w0_m4 p0 q1)), .second, .val (.long (w0_m5 p0 q1 q2 p3)), .second, .val (.ref ob1), .val (.ref ob2), .val (.ref b113), .val (.ref b118), .val (.int (w0_6 p3)), .unset] [(.int (0 : Int32))])) _
              refine XS.istore X121.here hx rfl (hb hby at_244) rfl (l' := #[.val (.int p0), .val (.long q1), .second, .val (.long q2), .second, .val (.int p3), .val (.int (w0_m1 p0)), .val (.int (w0_m2 p0)), .val (.int (p3 &&& (3 : Int32))), .val (.long (w0_m3 q1 q2 p3)), .second, .val (.long (w0_m4 p0 q1)), .second, .val (.long (w0_m5 p0 q1 q2 p3)), .second, .val (.ref ob1), .val (.ref ob2), .val (.ref b113), .val (.ref b118), .val (.int (w0_6 p3)), .val (.int (0 : Int32))]) rfl ?_
              show Steps p.tables e below (T121.setTop (mkF m 246 #[.val (.int p0), .val (.long q1), .second, .val (.long q2), .second, .val (.int p3), .val (.int (w0_m1 p0)), .val (.int (w0_m2 p0)), .val (.int (p3 &&& (3 : Int32))), .val (.long (w0_m3 q1 q2 p3)), .second, .val (.long (w0_m4 p0 q1)), .second, .val (.long (w0_m5 p0 q1 q2 p3)), .second, .val (.ref ob1), .val (.ref ob2), .val (.ref b113), .val (.ref b118), .val (.int (w0_6 p3)), .val (.int (0 : Int32))] [])) _
              refine XS.aload X121.here hx rfl (hb hby at_246) rfl rfl ?_
              show Steps p.tables e below (T121.setTop (mkF m 248 #[.val (.int p0), .val (.long q1), .second, .val (.long q2), .second, .val (.int p3), .val (.int (w0_m1 p0)), .val (.int (w0_m2 p0)), .val (.int (p3 &&& (3 : Int32))), .val (.long (w0_m3 q1 q2 p3)), .second, .val (.long (w0_m4 p0 q1)), .second, .val (.long (w0_m5 p0 q1 q2 p3)), .second, .val (.ref ob1), .val (.ref ob2), .val (.ref b113), .val (.ref b118), .val (.int (w0_6 p3)), .val (.int (0 : Int32))] [(.ref b113)])) _
              refine XS.aload X121.here hx rfl (hb hby at_248) rfl rfl ?_
              show Steps p.tables e below (T121.setTop (mkF m 250 #[.val (.int p0), .val (.long q1), .second, .val (.long q2), .second, .val (.int p3), .val (.int (w0_m1 p0)), .val (.int (w0_m2 p0)), .val (.int (p3 &&& (3 : Int32))), .val (.long (w0_m3 q1 q2 p3)), .second, .val (.long (w0_m4 p0 q1)), .second, .val (.long (w0_m5 p0 q1 q2 p3)), .second, .val (.ref ob1), .val (.ref ob2), .val (.ref b113), .val (.ref b118), .val (.int (w0_6 p3)), .val (.int (0 : Int32))] [(.ref b118), (.ref b113)])) _
              exact k)
            have K_151 : ∀ t, Steps p.tables e below (T121.setTop (mkF m 250 #[.val (.int p0), .val (.long q1), .second, .val (.long q2), .second, .val (.int p3), .val (.int (w0_m1 p0)), .val (.int (w0_m2 p0)), .val (.int (p3 &&& (3 : Int32))), .val (.long (w0_m3 q1 q2 p3)), .second, .val (.long (w0_m4 p0 q1)), .second, .val (.long (w0_m5 p0 q1 q2 p3)), .second, .val (.ref ob1), .val (.ref ob2), .val (.ref b113), .val (.ref b118), .val (.int (w0_6 p3)), .val (.int (0 : Int32))] [(.ref b118), (.ref b113)])) t → Steps p.tables e below S0 t := K150
            obtain ⟨cq152, kq152, q152a, q152b, q152c⟩ := isOf hZ rfl Fn116_0__121
            obtain ⟨_, _, ⟨T152, L152, k152, n152⟩, -, X152, ⟨Lc152, hQ152, l152, y152, z152⟩, st152⟩ := X121.virtualBack hx (y := (⟨"com/example/acervo/acervo/index/DocumentValue", "equals", "(Ljava/lang/Object;)Z"⟩ : MethodName)) (z := (⟨"com/example/acervo/acervo/index/DocumentValue", "equals", "(Ljava/lang/Object;)Z"⟩ : MethodName)) hown (mvT hZ (hw _ (List.mem_of_getElem? (i := 23) rfl))) (mvT hZ (hw _ (List.mem_of_getElem? (i := 24) rfl))) (notFace_of_selects (args := #[]) (mvT hZ (hw _ (List.mem_of_getElem? (i := 26) rfl)))) (mvT hZ (hw _ (List.mem_of_getElem? (i := 26) rfl))) (mvT hZ (hw _ (List.mem_of_getElem? (i := 25) rfl))) (by decide) (backOf (W := 0) (rm7 l Z a0 hw [] b113 b118 ob1 ob2 (w0_m4 p0 q1) (w0_m5 p0 q1 q2 p3) T121.heap n0 Zs121 Fn121_0 Fn116_1__121 Fn116_2__121 Fn121_1 Fn121_2 ne_ob1_ob2) hZ (hw _ (List.mem_of_getElem? (i := 27) rfl)) (hw _ (List.mem_of_getElem? (i := 5) rfl)) (by decide) (by decide)) q152a q152c (g := (mkF m 250 #[.val (.int p0), .val (.long q1), .second, .val (.long q2), .second, .val (.int p3), .val (.int (w0_m1 p0)), .val (.int (w0_m2 p0)), .val (.int (p3 &&& (3 : Int32))), .val (.long (w0_m3 q1 q2 p3)), .second, .val (.long (w0_m4 p0 q1)), .second, .val (.long (w0_m5 p0 q1 q2 p3)), .second, .val (.ref ob1), .val (.ref ob2), .val (.ref b113), .val (.ref b118), .val (.int (w0_6 p3)), .val (.int (0 : Int32))] [(.ref b118), (.ref b113)])) rfl (by rw [hml]; rfl) (Steps.refl _) (argsL := [(.ref b118)]) (rest := []) (lenOf pd0_2 rfl) rfl (by show 2 * 0 + _ ≤ _; exact Nat.le_of_eq rfl) (hb hby at_250) (fun _ _ => ⟨rfl, rfl, (by decide : 2 + 0 ≤ 16), (by decide : 4 + 0 ≤ 128)⟩)
            dsimp only [Pt.U, Pt.locs, Pt.cells, Pt.slots] at X152 l152 y152 z152 st152 hQ152
            subst l152 y152 z152
            obtain ⟨rfl, N152q, e152⟩ := hQ152
            have N152 := Fr.app N121 N152q
            have K152 : ∀ t, Steps p.tables e below (T152.setTop (mkF m 253 #[.val (.int p0), .val (.long q1), .second, .val (.long q2), .second, .val (.int p3), .val (.int (w0_m1 p0)), .val (.int (w0_m2 p0)), .val (.int (p3 &&& (3 : Int32))), .val (.long (w0_m3 q1 q2 p3)), .second, .val (.long (w0_m4 p0 q1)), .second, .val (.long (w0_m5 p0 q1 q2 p3)), .second, .val (.ref ob1), .val (.ref ob2), .val (.ref b113), .val (.ref b118), .val (.int (w0_6 p3)), .val (.int (0 : Int32))] [(.int (0 : Int32))])) t → Steps p.tables e below S0 t := fun t k => K_151 t (st152.trans k)
            have K153 : ∀ t, Steps p.tables e below (T152.setTop (mkF m 255 #[.val (.int p0), .val (.long q1), .second, .val (.long q2), .second, .val (.int p3), .val (.int (w0_m1 p0)), .val (.int (w0_m2 p0)), .val (.int (p3 &&& (3 : Int32))), .val (.long (w0_m3 q1 q2 p3)), .second, .val (.long (w0_m4 p0 q1)), .second, .val (.long (w0_m5 p0 q1 q2 p3)), .second, .val (.ref ob1), .val (.ref ob2), .val (.ref b113), .val (.ref b118), .val (.int (w0_6 p3)), .val (.int (0 : Int32))] [(.int (0 : Int32)), (.int (0 : Int32))])) t → Steps p.tables e below S0 t := fun t k => K152 t (by
              refine XS.iload X152.here hx rfl (hb hby at_253) rfl ?_
              show Steps p.tables e below (T152.setTop (mkF m 255 #[.val (.int p0), .val (.long q1), .second, .val (.long q2), .second, .val (.int p3), .val (.int (w0_m1 p0)), .val (.int (w0_m2 p0)), .val (.int (p3 &&& (3 : Int32))), .val (.long (w0_m3 q1 q2 p3)), .second, .val (.long (w0_m4 p0 q1)), .second, .val (.long (w0_m5 p0 q1 q2 p3)), .second, .val (.ref ob1), .val (.ref ob2), .val (.ref b113), .val (.ref b118), .val (.int (w0_6 p3)), .val (.int (0 : Int32))] [(.int (0 : Int32)), (.int (0 : Int32))])) _
              exact k)
            have K154 : ∀ t, Steps p.tables e below (T152.setTop (mkF m 262 #[.val (.int p0), .val (.long q1), .second, .val (.long q2), .second, .val (.int p3), .val (.int (w0_m1 p0)), .val (.int (w0_m2 p0)), .val (.int (p3 &&& (3 : Int32))), .val (.long (w0_m3 q1 q2 p3)), .second, .val (.long (w0_m4 p0 q1)), .second, .val (.long (w0_m5 p0 q1 q2 p3)), .second, .val (.ref ob1), .val (.ref ob2), .val (.ref b113), .val (.ref b118), .val (.int (w0_6 p3)), .val (.int (0 : Int32))] [(.ref b113), (.ref b118)])) t → Steps p.tables e below S0 t := fun t k => K153 t (by
              refine XS.icmpNo X152.here hx rfl (hb hby at_255) rfl (XT.ii_ne_f (by decide)) ?_
              show Steps p.tables e below (T152.setTop (mkF m 258 #[.val (.int p0), .val (.long q1), .second, .val (.long q2), .second, .val (.int p3), .val (.int (w0_m1 p0)), .val (.int (w0_m2 p0)), .val (.int (p3 &&& (3 : Int32))), .val (.long (w0_m3 q1 q2 p3)), .second, .val (.long (w0_m4 p0 q1)), .second, .val (.long (w0_m5 p0 q1 q2 p3)), .second, .val (.ref ob1), .val (.ref ob2), .val (.ref b113), .val (.ref b118), .val (.int (w0_6 p3)), .val (.int (0 : Int32))] [])) _
              refine XS.aload X152.here hx rfl (hb hby at_258) rfl rfl ?_
              show Steps p.tables e below (T152.setTop (mkF m 260 #[.val (.int p0), .val (.long q1), .second, .val (.long q2), .second, .val (.int p3), .val (.int (w0_m1 p0)), .val (.int (w0_m2 p0)), .val (.int (p3 &&& (3 : Int32))), .val (.long (w0_m3 q1 q2 p3)), .second, .val (.long (w0_m4 p0 q1)), .second, .val (.long (w0_m5 p0 q1 q2 p3)), .second, .val (.ref ob1), .val (.ref ob2), .val (.ref b113), .val (.ref b118), .val (.int (w0_6 p3)), .val (.int (0 : Int32))] [(.ref b118)])) _
              refine XS.aload X152.here hx rfl (hb hby at_260) rfl rfl ?_
              show Steps p.tables e below (T152.setTop (mkF m 262 #[.val (.int p0), .val (.long q1), .second, .val (.long q2), .second, .val (.int p3), .val (.int (w0_m1 p0)), .val (.int (w0_m2 p0)), .val (.int (p3 &&& (3 : Int32))), .val (.long (w0_m3 q1 q2 p3)), .second, .val (.long (w0_m4 p0 q1)), .second, .val (.long (w0_m5 p0 q1 q2 p3)), .second, .val (.ref ob1), .val (.ref ob2), .val (.ref b113), .val (.ref b118), .val (.int (w0_6 p3)), .val (.int (0 : Int32))] [(.ref b113), (.ref b118)])) _
              exact k)
            have K_155 : ∀ t, Steps p.tables e below (T152.setTop (mkF m 262 #[.val (.int p0), .val (.long q1), .second, .val (.long q2), .second, .val (.int p3), .val (.int (w0_m1 p0)), .val (.int (w0_m2 p0)), .val (.int (p3 &&& (3 : Int32))), .val (.long (w0_m3 q1 q2 p3)), .second, .val (.long (w0_m4 p0 q1)), .second, .val (.long (w0_m5 p0 q1 q2 p3)), .second, .val (.ref ob1), .val (.ref ob2), .val (.ref b113), .val (.ref b118), .val (.int (w0_6 p3)), .val (.int (0 : Int32))] [(.ref b113), (.ref b118)])) t → Steps p.tables e below S0 t := K154
            obtain ⟨cq156, kq156, q156a, q156b, q156c⟩ := isOf hZ e152 Fn121_0
            obtain ⟨_, _, ⟨T156, L156, k156, n156⟩, -, X156, ⟨Lc156, hQ156, l156, y156, z156⟩, st156⟩ := X152.virtualBack hx (y := (⟨"com/example/acervo/acervo/index/DocumentValue", "equals", "(Ljava/lang/Object;)Z"⟩ : MethodName)) (z := (⟨"com/example/acervo/acervo/index/DocumentValue", "equals", "(Ljava/lang/Object;)Z"⟩ : MethodName)) hown (mvT hZ (hw _ (List.mem_of_getElem? (i := 23) rfl))) (mvT hZ (hw _ (List.mem_of_getElem? (i := 24) rfl))) (notFace_of_selects (args := #[]) (mvT hZ (hw _ (List.mem_of_getElem? (i := 26) rfl)))) (mvT hZ (hw _ (List.mem_of_getElem? (i := 26) rfl))) (mvT hZ (hw _ (List.mem_of_getElem? (i := 25) rfl))) (by decide) (backOf (W := 0) (rm7 l Z a0 hw [] b118 b113 ob2 ob1 (w0_m5 p0 q1 q2 p3) (w0_m4 p0 q1) T121.heap n0 Zs121 Fn116_0__121 Fn121_1 Fn121_2 Fn116_1__121 Fn116_2__121 (Ne.symm ne_ob1_ob2)) hZ (hw _ (List.mem_of_getElem? (i := 27) rfl)) (hw _ (List.mem_of_getElem? (i := 5) rfl)) (by decide) (by decide)) q156a q156c (g := (mkF m 262 #[.val (.int p0), .val (.long q1), .second, .val (.long q2), .second, .val (.int p3), .val (.int (w0_m1 p0)), .val (.int (w0_m2 p0)), .val (.int (p3 &&& (3 : Int32))), .val (.long (w0_m3 q1 q2 p3)), .second, .val (.long (w0_m4 p0 q1)), .second, .val (.long (w0_m5 p0 q1 q2 p3)), .second, .val (.ref ob1), .val (.ref ob2), .val (.ref b113), .val (.ref b118), .val (.int (w0_6 p3)), .val (.int (0 : Int32))] [(.ref b113), (.ref b118)])) rfl (by rw [hml]; rfl) (Steps.refl _) (argsL := [(.ref b113)]) (rest := []) (lenOf pd0_2 rfl) rfl (by show 2 * 0 + _ ≤ _; exact Nat.le_of_eq rfl) (hb hby at_262) (fun _ _ => ⟨rfl, e152, (by decide : 2 + 0 ≤ 16), (by decide : 4 + 0 ≤ 128)⟩)
            dsimp only [Pt.U, Pt.locs, Pt.cells, Pt.slots] at X156 l156 y156 z156 st156 hQ156
            subst l156 y156 z156
            obtain ⟨rfl, N156q, e156⟩ := hQ156
            have N156 := Fr.app N152 N156q
            have K156 : ∀ t, Steps p.tables e below (T156.setTop (mkF m 265 #[.val (.int p0), .val (.long q1), .second, .val (.long q2), .second, .val (.int p3), .val (.int (w0_m1 p0)), .val (.int (w0_m2 p0)), .val (.int (p3 &&& (3 : Int32))), .val (.long (w0_m3 q1 q2 p3)), .second, .val (.long (w0_m4 p0 q1)), .second, .val (.long (w0_m5 p0 q1 q2 p3)), .second, .val (.ref ob1), .val (.ref ob2), .val (.ref b113), .val (.ref b118), .val (.int (w0_6 p3)), .val (.int (0 : Int32))] [(.int (0 : Int32))])) t → Steps p.tables e below S0 t := fun t k => K_155 t (st156.trans k)
            have K157 : ∀ t, Steps p.tables e below (T156.setTop (mkF m 267 #[.val (.int p0), .val (.long q1), .second, .val (.long q2), .second, .val (.int p3), .val (.int (w0_m1 p0)), .val (.int (w0_m2 p0)), .val (.int (p3 &&& (3 : Int32))), .val (.long (w0_m3 q1 q2 p3)), .second, .val (.long (w0_m4 p0 q1)), .second, .val (.long (w0_m5 p0 q1 q2 p3)), .second, .val (.ref ob1), .val (.ref ob2), .val (.ref b113), .val (.ref b118), .val (.int (w0_6 p3)), .val (.int (0 : Int32))] [(.int (0 : Int32)), (.int (0 : Int32))])) t → Steps p.tables e below S0 t := fun t k => K156 t (by
              refine XS.iload X156.here hx rfl (hb hby at_265) rfl ?_
              show Steps p.tables e below (T156.setTop (mkF m 267 #[.val (.int p0), .val (.long q1), .second, .val (.long q2), .second, .val (.int p3), .val (.int (w0_m1 p0)), .val (.int (w0_m2 p0)), .val (.int (p3 &&& (3 : Int32))), .val (.long (w0_m3 q1 q2 p3)), .second, .val (.long (w0_m4 p0 q1)), .second, .val (.long (w0_m5 p0 q1 q2 p3)), .second, .val (.ref ob1), .val (.ref ob2), .val (.ref b113), .val (.ref b118), .val (.int (w0_6 p3)), .val (.int (0 : Int32))] [(.int (0 : Int32)), (.int (0 : Int32))])) _
              exact k)
            have K158 : ∀ t, Steps p.tables e below (T156.setTop (mkF m 275 #[.val (.int p0), .val (.long q1), .second, .val (.long q2), .second, .val (.int p3), .val (.int (w0_m1 p0)), .val (.int (w0_m2 p0)), .val (.int (p3 &&& (3 : Int32))), .val (.long (w0_m3 q1 q2 p3)), .second, .val (.long (w0_m4 p0 q1)), .second, .val (.long (w0_m5 p0 q1 q2 p3)), .second, .val (.ref ob1), .val (.ref ob2), .val (.ref b113), .val (.ref b118), .val (.int (w0_6 p3)), .val (.int (0 : Int32))] [(.int (1 : Int32))])) t → Steps p.tables e below S0 t := fun t k => K157 t (by
              refine XS.icmpNo X156.here hx rfl (hb hby at_267) rfl (XT.ii_ne_f (by decide)) ?_
              show Steps p.tables e below (T156.setTop (mkF m 270 #[.val (.int p0), .val (.long q1), .second, .val (.long q2), .second, .val (.int p3), .val (.int (w0_m1 p0)), .val (.int (w0_m2 p0)), .val (.int (p3 &&& (3 : Int32))), .val (.long (w0_m3 q1 q2 p3)), .second, .val (.long (w0_m4 p0 q1)), .second, .val (.long (w0_m5 p0 q1 q2 p3)), .second, .val (.ref ob1), .val (.ref ob2), .val (.ref b113), .val (.ref b118), .val (.int (w0_6 p3)), .val (.int (0 : Int32))] [])) _
              refine XS.iconst X156.here hx rfl (hb hby at_270) ?_
              show Steps p.tables e below (T156.setTop (mkF m 271 #[.val (.int p0), .val (.long q1), .second, .val (.long q2), .second, .val (.int p3), .val (.int (w0_m1 p0)), .val (.int (w0_m2 p0)), .val (.int (p3 &&& (3 : Int32))), .val (.long (w0_m3 q1 q2 p3)), .second, .val (.long (w0_m4 p0 q1)), .second, .val (.long (w0_m5 p0 q1 q2 p3)), .second, .val (.ref ob1), .val (.ref ob2), .val (.ref b113), .val (.ref b118), .val (.int (w0_6 p3)), .val (.int (0 : Int32))] [(.int (1 : Int32))])) _
              refine XS.goto X156.here hx rfl (pc0 := 271) (pc' := 275) rfl (hb hby at_271) (by decide) (by decide) ?_
              show Steps p.tables e below (T156.setTop (mkF m 275 #[.val (.int p0), .val (.long q1), .second, .val (.long q2), .second, .val (.int p3), .val (.int (w0_m1 p0)), .val (.int (w0_m2 p0)), .val (.int (p3 &&& (3 : Int32))), .val (.long (w0_m3 q1 q2 p3)), .second, .val (.long (w0_m4 p0 q1)), .second, .val (.long (w0_m5 p0 q1 q2 p3)), .second, .val (.ref ob1), .val (.ref ob2), .val (.ref b113), .val (.ref b118), .val (.int (w0_6 p3)), .val (.int (0 : Int32))] [(.int (1 : Int32))])) _
              exact k)
            obtain ⟨fs, hr, hrun, hended, hW, hsame⟩ := X156.leave (v := some (.int (1 : Int32))) (fun h => by rw [Bd.returns] at h; cases h) hlk
            refine ⟨_, _, ?_, hrun, hended, _, _, rfl, ?_, ⟨_, rfl⟩, hW, hsame.mono (by decide) (by decide)⟩
            · rw [← hS0]; exact K158 _ (retN X156 hx (t := .boolean) Bd.returns (by simp) (hb hby at_275) hr)
            · show Q0 Z p0 q1 q2 p3 ob1 ob2 oc cc h0 n0 _ T156.heap _
              rw [e156]
              have qr : (1 : Int32) = (w0_r10 p0 q1 q2 p3) := by unfold w0_r10; rw [if_pos hc100_0, if_neg hc116_1, if_neg hc167_2, if_neg hc188_3, if_neg hc213_4]
              exact ⟨congrArg (fun z => some (Value.int z)) qr, N156⟩
  · -- no
    have K159 : ∀ t, Steps p.tables e below (T26.setTop (mkF m 103 #[.val (.int p0), .val (.long q1), .second, .val (.long q2), .second, .val (.int p3), .val (.int (w0_m1 p0)), .val (.int (w0_m2 p0)), .val (.int (p3 &&& (3 : Int32))), .val (.long (w0_m3 q1 q2 p3)), .second, .val (.long (w0_m4 p0 q1)), .second, .val (.long (w0_m5 p0 q1 q2 p3)), .second, .unset, .unset, .unset, .unset, .unset, .unset] [])) t → Steps p.tables e below S0 t := fun t k => K49 t (by
      refine XS.ifNo X26.here hx rfl (hb hby at_100) rfl (XT.i0_eq_f hc100_0) ?_
      show Steps p.tables e below (T26.setTop (mkF m 103 #[.val (.int p0), .val (.long q1), .second, .val (.long q2), .second, .val (.int p3), .val (.int (w0_m1 p0)), .val (.int (w0_m2 p0)), .val (.int (p3 &&& (3 : Int32))), .val (.long (w0_m3 q1 q2 p3)), .second, .val (.long (w0_m4 p0 q1)), .second, .val (.long (w0_m5 p0 q1 q2 p3)), .second, .unset, .unset, .unset, .unset, .unset, .unset] [])) _
      exact k)
    obtain ⟨T160, X160, e160, st160⟩ := getS2 X26 hx hZ hown (host := "") (Or.inl (hw _ (List.mem_of_getElem? (i := 37) rfl))) Via.refl e26 S_DocumentValue_Kind_DATE__0 (g := (mkF m 103 #[.val (.int p0), .val (.long q1), .second, .val (.long q2), .second, .val (.int p3), .val (.int (w0_m1 p0)), .val (.int (w0_m2 p0)), .val (.int (p3 &&& (3 : Int32))), .val (.long (w0_m3 q1 q2 p3)), .second, .val (.long (w0_m4 p0 q1)), .second, .val (.long (w0_m5 p0 q1 q2 p3)), .second, .unset, .unset, .unset, .unset, .unset, .unset] [])) rfl (hb hby at_103)
    have K160 : ∀ t, Steps p.tables e below (T160.setTop (mkF m 106 #[.val (.int p0), .val (.long q1), .second, .val (.long q2), .second, .val (.int p3), .val (.int (w0_m1 p0)), .val (.int (w0_m2 p0)), .val (.int (p3 &&& (3 : Int32))), .val (.long (w0_m3 q1 q2 p3)), .second, .val (.long (w0_m4 p0 q1)), .second, .val (.long (w0_m5 p0 q1 q2 p3)), .second, .unset, .unset, .unset, .unset, .unset, .unset] [(.ref ob2)])) t → Steps p.tables e below S0 t := fun t k => K159 t (st160 t k)
    have K161 : ∀ t, Steps p.tables e below (T160.setTop (mkF m 116 #[.val (.int p0), .val (.long q1), .second, .val (.long q2), .second, .val (.int p3), .val (.int (w0_m1 p0)), .val (.int (w0_m2 p0)), .val (.int (p3 &&& (3 : Int32))), .val (.long (w0_m3 q1 q2 p3)), .second, .val (.long (w0_m4 p0 q1)), .second, .val (.long (w0_m5 p0 q1 q2 p3)), .second, .val (.ref ob2), .unset, .unset, .unset, .unset, .unset] [(.int (w0_m2 p0))])) t → Steps p.tables e below S0 t := fun t k => K160 t (by
      refine XS.goto X160.here hx rfl (pc0 := 106) (pc' := 112) rfl (hb hby at_106) (by decide) (by decide) ?_
      show Steps p.tables e below (T160.setTop (mkF m 112 #[.val (.int p0), .val (.long q1), .second, .val (.long q2), .second, .val (.int p3), .val (.int (w0_m1 p0)), .val (.int (w0_m2 p0)), .val (.int (p3 &&& (3 : Int32))), .val (.long (w0_m3 q1 q2 p3)), .second, .val (.long (w0_m4 p0 q1)), .second, .val (.long (w0_m5 p0 q1 q2 p3)), .second, .unset, .unset, .unset, .unset, .unset, .unset] [(.ref ob2)])) _
      refine XS.astore X160.here hx rfl (hb hby at_112) rfl rfl (l' := #[.val (.int p0), .val (.long q1), .second, .val (.long q2), .second, .val (.int p3), .val (.int (w0_m1 p0)), .val (.int (w0_m2 p0)), .val (.int (p3 &&& (3 : Int32))), .val (.long (w0_m3 q1 q2 p3)), .second, .val (.long (w0_m4 p0 q1)), .second, .val (.long (w0_m5 p0 q1 q2 p3)), .second, .val (.ref ob2), .unset, .unset, .unset, .unset, .unset]) rfl ?_
      show Steps p.tables e below (T160.setTop (mkF m 114 #[.val (.int p0), .val (.long q1), .second, .val (.long q2), .second, .val (.int p3), .val (.int (w0_m1 p0)), .val (.int (w0_m2 p0)), .val (.int (p3 &&& (3 : Int32))), .val (.long (w0_m3 q1 q2 p3)), .second, .val (.long (w0_m4 p0 q1)), .second, .val (.long (w0_m5 p0 q1 q2 p3)), .second, .val (.ref ob2), .unset, .unset, .unset, .unset, .unset] [])) _
      refine XS.iload X160.here hx rfl (hb hby at_114) rfl ?_
      show Steps p.tables e below (T160.setTop (mkF m 116 #[.val (.int p0), .val (.long q1), .second, .val (.long q2), .second, .val (.int p3), .val (.int (w0_m1 p0)), .val (.int (w0_m2 p0)), .val (.int (p3 &&& (3 : Int32))), .val (.long (w0_m3 q1 q2 p3)), .second, .val (.long (w0_m4 p0 q1)), .second, .val (.long (w0_m5 p0 q1 q2 p3)), .second, .val (.ref ob2), .unset, .unset, .unset, .unset, .unset] [(.int (w0_m2 p0))])) _
      exact k)
    by_cases hc116_1 : (w0_m2 p0) = (0 : Int32)
    · -- yes
      have K162 : ∀ t, Steps p.tables e below (T160.setTop (mkF m 125 #[.val (.int p0), .val (.long q1), .second, .val (.long q2), .second, .val (.int p3), .val (.int (w0_m1 p0)), .val (.int (w0_m2 p0)), .val (.int (p3 &&& (3 : Int32))), .val (.long (w0_m3 q1 q2 p3)), .second, .val (.long (w0_m4 p0 q1)), .second, .val (.long (w0_m5 p0 q1 q2 p3)), .second, .val (.ref ob2), .unset, .unset, .unset, .unset, .unset] [])) t → Steps p.tables e below S0 t := fun t k => K161 t (by
        refine XS.ifYes X160.here hx rfl (pc0 := 116) (pc' := 125) rfl (hb hby at_116) rfl (XT.i0_eq_t hc116_1) (by decide) (by decide) ?_
        show Steps p.tables e below (T160.setTop (mkF m 125 #[.val (.int p0), .val (.long q1), .second, .val (.long q2), .second, .val (.int p3), .val (.int (w0_m1 p0)), .val (.int (w0_m2 p0)), .val (.int (p3 &&& (3 : Int32))), .val (.long (w0_m3 q1 q2 p3)), .second, .val (.long (w0_m4 p0 q1)), .second, .val (.long (w0_m5 p0 q1 q2 p3)), .second, .val (.ref ob2), .unset, .unset, .unset, .unset, .unset] [])) _
        exact k)
      obtain ⟨T163, X163, e163, st163⟩ := getS2 X160 hx hZ hown (host := "") (Or.inl (hw _ (List.mem_of_getElem? (i := 0) rfl))) Via.refl e160 S_DocumentValue_Kind_NUMBER__0 (g := (mkF m 125 #[.val (.int p0), .val (.long q1), .second, .val (.long q2), .second, .val (.int p3), .val (.int (w0_m1 p0)), .val (.int (w0_m2 p0)), .val (.int (p3 &&& (3 : Int32))), .val (.long (w0_m3 q1 q2 p3)), .second, .val (.long (w0_m4 p0 q1)), .second, .val (.long (w0_m5 p0 q1 q2 p3)), .second, .val (.ref ob2), .unset, .unset, .unset, .unset, .unset] [])) rfl (hb hby at_125)
      have K163 : ∀ t, Steps p.tables e below (T163.setTop (mkF m 128 #[.val (.int p0), .val (.long q1), .second, .val (.long q2), .second, .val (.int p3), .val (.int (w0_m1 p0)), .val (.int (w0_m2 p0)), .val (.int (p3 &&& (3 : Int32))), .val (.long (w0_m3 q1 q2 p3)), .second, .val (.long (w0_m4 p0 q1)), .second, .val (.long (w0_m5 p0 q1 q2 p3)), .second, .val (.ref ob2), .unset, .unset, .unset, .unset, .unset] [(.ref ob1)])) t → Steps p.tables e below S0 t := fun t k => K162 t (st163 t k)
      have K164 : ∀ t, Steps p.tables e below (T163.setTop (mkF m 130 #[.val (.int p0), .val (.long q1), .second, .val (.long q2), .second, .val (.int p3), .val (.int (w0_m1 p0)), .val (.int (w0_m2 p0)), .val (.int (p3 &&& (3 : Int32))), .val (.long (w0_m3 q1 q2 p3)), .second, .val (.long (w0_m4 p0 q1)), .second, .val (.long (w0_m5 p0 q1 q2 p3)), .second, .val (.ref ob2), .val (.ref ob1), .unset, .unset, .unset, .unset] [])) t → Steps p.tables e below S0 t := fun t k => K163 t (by
        refine XS.astore X163.here hx rfl (hb hby at_128) rfl rfl (l' := #[.val (.int p0), .val (.long q1), .second, .val (.long q2), .second, .val (.int p3), .val (.int (w0_m1 p0)), .val (.int (w0_m2 p0)), .val (.int (p3 &&& (3 : Int32))), .val (.long (w0_m3 q1 q2 p3)), .second, .val (.long (w0_m4 p0 q1)), .second, .val (.long (w0_m5 p0 q1 q2 p3)), .second, .val (.ref ob2), .val (.ref ob1), .unset, .unset, .unset, .unset]) rfl ?_
        show Steps p.tables e below (T163.setTop (mkF m 130 #[.val (.int p0), .val (.long q1), .second, .val (.long q2), .second, .val (.int p3), .val (.int (w0_m1 p0)), .val (.int (w0_m2 p0)), .val (.int (p3 &&& (3 : Int32))), .val (.long (w0_m3 q1 q2 p3)), .second, .val (.long (w0_m4 p0 q1)), .second, .val (.long (w0_m5 p0 q1 q2 p3)), .second, .val (.ref ob2), .val (.ref ob1), .unset, .unset, .unset, .unset] [])) _
        exact k)
      obtain ⟨T165, h165, X165, e165, E165, A165, D165, -, st165⟩ := newO X163 hx hZ hown (hw _ (List.mem_of_getElem? (i := 3) rfl)) (hw _ (List.mem_of_getElem? (i := 4) rfl)) (hw _ (List.mem_of_getElem? (i := 5) rfl)) e163 (g := (mkF m 130 #[.val (.int p0), .val (.long q1), .second, .val (.long q2), .second, .val (.int p3), .val (.int (w0_m1 p0)), .val (.int (w0_m2 p0)), .val (.int (p3 &&& (3 : Int32))), .val (.long (w0_m3 q1 q2 p3)), .second, .val (.long (w0_m4 p0 q1)), .second, .val (.long (w0_m5 p0 q1 q2 p3)), .second, .val (.ref ob2), .val (.ref ob1), .unset, .unset, .unset, .unset] [])) rfl (hb hby at_130) (by decide) (by decide)
      obtain ⟨b165, g165⟩ : ∃ z, z = h0.size := ⟨_, rfl⟩
      rw [← g165] at A165 D165 st165
      have ne_ob1_b165 : ob1 ≠ b165 := Nat.ne_of_lt (Nat.lt_of_lt_of_le E_ob1__0.lt (Nat.le_of_eq g165.symm))
      have ne_ob2_b165 : ob2 ≠ b165 := Nat.ne_of_lt (Nat.lt_of_lt_of_le E_ob2__0.lt (Nat.le_of_eq g165.symm))
      have ne_oc_b165 : oc ≠ b165 := Nat.ne_of_lt (Nat.lt_of_lt_of_le Ar_oc__0.lt (Nat.le_of_eq g165.symm))
      have OL165 := OL0.ext E165
      have S_DocumentValue_Kind_NUMBER__165 := S_DocumentValue_Kind_NUMBER.ext OL165.2
      have S_DocumentValue_Kind_DATE__165 := S_DocumentValue_Kind_DATE.ext OL165.2
      have E_ob1__165 := E_ob1.ext OL165.2
      have E_ob2__165 := E_ob2.ext OL165.2
      have S_Long_LongCache_cache__165 := S_Long_LongCache_cache.ext OL165.2
      have Ar_oc__165 := Ar_oc.ext OL165.2
      have g_b165 : n0 ≤ b165 := Nat.le_trans Z0 (Nat.le_of_eq g165.symm)
      have Zs165 : n0 ≤ h165.size := Nat.le_trans Z0 E165.1
      have F_b165_kind : Fld Z h165 b165 "com/example/acervo/acervo/index/DocumentValue" "kind" "Lcom/example/acervo/acervo/index/DocumentValue$Kind;" .null := D165 (Or.inr (hw _ (List.mem_of_getElem? (i := 20) rfl))) (ty := (.object "com/example/acervo/acervo/index/DocumentValue$Kind")) (by decide)
      have F_b165_number : Fld Z h165 b165 "com/example/acervo/acervo/index/DocumentValue" "number" "J" (.long (0 : Int64)) := D165 (Or.inr (hw _ (List.mem_of_getElem? (i := 22) rfl))) (ty := .long) (by decide)
      have K165 : ∀ t, Steps p.tables e below (T165.setTop (mkF m 133 #[.val (.int p0), .val (.long q1), .second, .val (.long q2), .second, .val (.int p3), .val (.int (w0_m1 p0)), .val (.int (w0_m2 p0)), .val (.int (p3 &&& (3 : Int32))), .val (.long (w0_m3 q1 q2 p3)), .second, .val (.long (w0_m4 p0 q1)), .second, .val (.long (w0_m5 p0 q1 q2 p3)), .second, .val (.ref ob2), .val (.ref ob1), .unset, .unset, .unset, .unset] [(.ref b165)])) t → Steps p.tables e below S0 t := fun t k => K164 t (st165 t k)
      have K166 : ∀ t, Steps p.tables e below (T165.setTop (mkF m 138 #[.val (.int p0), .val (.long q1), .second, .val (.long q2), .second, .val (.int p3), .val (.int (w0_m1 p0)), .val (.int (w0_m2 p0)), .val (.int (p3 &&& (3 : Int32))), .val (.long (w0_m3 q1 q2 p3)), .second, .val (.long (w0_m4 p0 q1)), .second, .val (.long (w0_m5 p0 q1 q2 p3)), .second, .val (.ref ob2), .val (.ref ob1), .unset, .unset, .unset, .unset] [(.long (w0_m4 p0 q1)), (.ref ob2), (.ref b165), (.ref b165)])) t → Steps p.tables e below S0 t := fun t k => K165 t (by
        refine XS.dup X165.here hx rfl (hb hby at_133) rfl rfl ?_
        show Steps p.tables e below (T165.setTop (mkF m 134 #[.val (.int p0), .val (.long q1), .second, .val (.long q2), .second, .val (.int p3), .val (.int (w0_m1 p0)), .val (.int (w0_m2 p0)), .val (.int (p3 &&& (3 : Int32))), .val (.long (w0_m3 q1 q2 p3)), .second, .val (.long (w0_m4 p0 q1)), .second, .val (.long (w0_m5 p0 q1 q2 p3)), .second, .val (.ref ob2), .val (.ref ob1), .unset, .unset, .unset, .unset] [(.ref b165), (.ref b165)])) _
        refine XS.aload X165.here hx rfl (hb hby at_134) rfl rfl ?_
        show Steps p.tables e below (T165.setTop (mkF m 136 #[.val (.int p0), .val (.long q1), .second, .val (.long q2), .second, .val (.int p3), .val (.int (w0_m1 p0)), .val (.int (w0_m2 p0)), .val (.int (p3 &&& (3 : Int32))), .val (.long (w0_m3 q1 q2 p3)), .second, .val (.long (w0_m4 p0 q1)), .second, .val (.long (w0_m5 p0 q1 q2 p3)), .second, .val (.ref ob2), .val (.ref ob1), .unset, .unset, .unset, .unset] [(.ref ob2), (.ref b165), (.ref b165)])) _
        refine XS.lload X165.here hx rfl (hb hby at_136) rfl ?_
        show Steps p.tables e below (T165.setTop (mkF m 138 #[.val (.int p0), .val (.long q1), .second, .val (.long q2), .second, .val (.int p3), .val (.int (w0_m1 p0)), .val (.int (w0_m2 p0)), .val (.int (p3 &&& (3 : Int32))), .val (.long (w0_m3 q1 q2 p3)), .second, .val (.long (w0_m4 p0 q1)), .second, .val (.long (w0_m5 p0 q1 q2 p3)), .second, .val (.ref ob2), .val (.ref ob1), .unset, .unset, .unset, .unset] [(.long (w0_m4 p0 q1)), (.ref ob2), (.ref b165), (.ref b165)])) _
        exact k)
      have K_167 : ∀ t, Steps p.tables e below (T165.setTop (mkF m 138 #[.val (.int p0), .val (.long q1), .second, .val (.long q2), .second, .val (.int p3), .val (.int (w0_m1 p0)), .val (.int (w0_m2 p0)), .val (.int (p3 &&& (3 : Int32))), .val (.long (w0_m3 q1 q2 p3)), .second, .val (.long (w0_m4 p0 q1)), .second, .val (.long (w0_m5 p0 q1 q2 p3)), .second, .val (.ref ob2), .val (.ref ob1), .unset, .unset, .unset, .unset] [(.long (w0_m4 p0 q1)), (.ref ob2), (.ref b165), (.ref b165)])) t → Steps p.tables e below S0 t := K166
      obtain ⟨_, _, ⟨T168, L168, k168, n168⟩, -, X168, ⟨Lc168, hQ168, l168, y168, z168⟩, st168⟩ := X165.specialBack hx (y := (⟨"com/example/acervo/acervo/index/DocumentValue", "<init>", "(Lcom/example/acervo/acervo/index/DocumentValue$Kind;J)V"⟩ : MethodName)) rfl hown (mvT hZ (hw _ (List.mem_of_getElem? (i := 6) rfl))) (mvT hZ (hw _ (List.mem_of_getElem? (i := 7) rfl))) (mvT hZ (hw _ (List.mem_of_getElem? (i := 8) rfl))) (by decide) (backOf (W := 1) (rm4 l Z a0 hw [] b165 ob2 (w0_m4 p0 q1) h165 n0 Zs165 A165 F_b165_kind F_b165_number g_b165 S_DocumentValue_Kind_DATE__165 (own_day1 p0 q1 q2 p3 hc100_0)) hZ (hw _ (List.mem_of_getElem? (i := 8) rfl)) (hw _ (List.mem_of_getElem? (i := 5) rfl)) (by decide) (by decide)) (g := (mkF m 138 #[.val (.int p0), .val (.long q1), .second, .val (.long q2), .second, .val (.int p3), .val (.int (w0_m1 p0)), .val (.int (w0_m2 p0)), .val (.int (p3 &&& (3 : Int32))), .val (.long (w0_m3 q1 q2 p3)), .second, .val (.long (w0_m4 p0 q1)), .second, .val (.long (w0_m5 p0 q1 q2 p3)), .second, .val (.ref ob2), .val (.ref ob1), .unset, .unset, .unset, .unset] [(.long (w0_m4 p0 q1)), (.ref ob2), (.ref b165), (.ref b165)])) rfl (by rw [hml]; rfl) (Steps.refl _) (a := b165) (argsL := [(.ref ob2), (.long (w0_m4 p0 q1))]) (rest := [(.ref b165)]) (lenOf pd0_1 rfl) rfl (by show 2 * 0 + _ ≤ _; exact Nat.le_of_eq rfl) (hb hby at_138) (fun _ _ => ⟨rfl, e165, (by decide : 1 + 0 ≤ 16), (by decide : 2 + 0 ≤ 128)⟩)
      dsimp only [Pt.U, Pt.locs, Pt.cells, Pt.slots] at X168 l168 y168 z168 st168 hQ168
      subst l168 y168 z168
      obtain ⟨rfl, N168q, Kp168, Fn168_0, Fn168_1, Fn168_2⟩ := hQ168
      have N168 := Fr.app N26 N168q
      have OL168 := OL165.keep Kp168 (allS (P := fun x => n0 ≤ x) g_b165 all0)
      have S_DocumentValue_Kind_NUMBER__168 := S_DocumentValue_Kind_NUMBER.ext OL168.2
      have S_DocumentValue_Kind_DATE__168 := S_DocumentValue_Kind_DATE.ext OL168.2
      have E_ob1__168 := E_ob1.ext OL168.2
      have E_ob2__168 := E_ob2.ext OL168.2
      have S_Long_LongCache_cache__168 := S_Long_LongCache_cache.ext OL168.2
      have Ar_oc__168 := Ar_oc.ext OL168.2
      have Zs168 : n0 ≤ T168.heap.size := Nat.le_trans Zs165 Kp168.1
      have K168 : ∀ t, Steps p.tables e below (T168.setTop (mkF m 141 #[.val (.int p0), .val (.long q1), .second, .val (.long q2), .second, .val (.int p3), .val (.int (w0_m1 p0)), .val (.int (w0_m2 p0)), .val (.int (p3 &&& (3 : Int32))), .val (.long (w0_m3 q1 q2 p3)), .second, .val (.long (w0_m4 p0 q1)), .second, .val (.long (w0_m5 p0 q1 q2 p3)), .second, .val (.ref ob2), .val (.ref ob1), .unset, .unset, .unset, .unset] [(.ref b165)])) t → Steps p.tables e below S0 t := fun t k => K_167 t (st168.trans k)
      have K169 : ∀ t, Steps p.tables e below (T168.setTop (mkF m 143 #[.val (.int p0), .val (.long q1), .second, .val (.long q2), .second, .val (.int p3), .val (.int (w0_m1 p0)), .val (.int (w0_m2 p0)), .val (.int (p3 &&& (3 : Int32))), .val (.long (w0_m3 q1 q2 p3)), .second, .val (.long (w0_m4 p0 q1)), .second, .val (.long (w0_m5 p0 q1 q2 p3)), .second, .val (.ref ob2), .val (.ref ob1), .val (.ref b165), .unset, .unset, .unset] [])) t → Steps p.tables e below S0 t := fun t k => K168 t (by
        refine XS.astore X168.here hx rfl (hb hby at_141) rfl rfl (l' := #[.val (.int p0), .val (.long q1), .second, .val (.long q2), .second, .val (.int p3), .val (.int (w0_m1 p0)), .val (.int (w0_m2 p0)), .val (.int (p3 &&& (3 : Int32))), .val (.long (w0_m3 q1 q2 p3)), .second, .val (.long (w0_m4 p0 q1)), .second, .val (.long (w0_m5 p0 q1 q2 p3)), .second, .val (.ref ob2), .val (.ref ob1), .val (.ref b165), .unset, .unset, .unset]) rfl ?_
        show Steps p.tables e below (T168.setTop (mkF m 143 #[.val (.int p0), .val (.long q1), .second, .val (.long q2), .second, .val (.int p3), .val (.int (w0_m1 p0)), .val (.int (w0_m2 p0)), .val (.int (p3 &&& (3 : Int32))), .val (.long (w0_m3 q1 q2 p3)), .second, .val (.long (w0_m4 p0 q1)), .second, .val (.long (w0_m5 p0 q1 q2 p3)), .second, .val (.ref ob2), .val (.ref ob1), .val (.ref b165), .unset, .unset, .unset] [])) _
        exact k)
      obtain ⟨T170, h170, X170, e170, E170, A170, D170, -, st170⟩ := newO X168 hx hZ hown (hw _ (List.mem_of_getElem? (i := 3) rfl)) (hw _ (List.mem_of_getElem? (i := 4) rfl)) (hw _ (List.mem_of_getElem? (i := 5) rfl)) rfl (g := (mkF m 143 #[.val (.int p0), .val (.long q1), .second, .val (.long q2), .second, .val (.int p3), .val (.int (w0_m1 p0)), .val (.int (w0_m2 p0)), .val (.int (p3 &&& (3 : Int32))), .val (.long (w0_m3 q1 q2 p3)), .second, .val (.long (w0_m4 p0 q1)), .second, .val (.long (w0_m5 p0 q1 q2 p3)), .second, .val (.ref ob2), .val (.ref ob1), .val (.ref b165), .unset, .unset, .unset] [])) rfl (hb hby at_143) (by decide) (by decide)
      obtain ⟨b170, g170⟩ : ∃ z, z = T168.heap.size := ⟨_, rfl⟩
      rw [← g170] at A170 D170 st170
      have ne_ob1_b170 : ob1 ≠ b170 := Nat.ne_of_lt (Nat.lt_of_lt_of_le E_ob1__168.lt (Nat.le_of_eq g170.symm))
      have ne_ob2_b170 : ob2 ≠ b170 := Nat.ne_of_lt (Nat.lt_of_lt_of_le E_ob2__168.lt (Nat.le_of_eq g170.symm))
      have ne_oc_b170 : oc ≠ b170 := Nat.ne_of_lt (Nat.lt_of_lt_of_le Ar_oc__168.lt (Nat.le_of_eq g170.symm))
      have ne_b165_b170 : b165 ≠ b170 := Nat.ne_of_lt (Nat.lt_of_lt_of_le Fn168_0.lt (Nat.le_of_eq g170.symm))
      have OL170 := OL168.ext E170
      have S_DocumentValue_Kind_NUMBER__170 := S_DocumentValue_Kind_NUMBER.ext OL170.2
      have S_DocumentValue_Kind_DATE__170 := S_DocumentValue_Kind_DATE.ext OL170.2
      have E_ob1__170 := E_ob1.ext OL170.2
      have E_ob2__170 := E_ob2.ext OL170.2
      have S_Long_LongCache_cache__170 := S_Long_LongCache_cache.ext OL170.2
      have Ar_oc__170 := Ar_oc.ext OL170.2
      have Fn168_0__170 := Fn168_0.ext E170
      have Fn168_1__170 := Fn168_1.ext E170
      have Fn168_2__170 := Fn168_2.ext E170
      have g_b170 : n0 ≤ b170 := Nat.le_trans Zs168 (Nat.le_of_eq g170.symm)
      have Zs170 : n0 ≤ h170.size := Nat.le_trans Zs168 E170.1
      have F_b170_kind : Fld Z h170 b170 "com/example/acervo/acervo/index/DocumentValue" "kind" "Lcom/example/acervo/acervo/index/DocumentValue$Kind;" .null := D170 (Or.inr (hw _ (List.mem_of_getElem? (i := 20) rfl))) (ty := (.object "com/example/acervo/acervo/index/DocumentValue$Kind")) (by decide)
      have F_b170_number : Fld Z h170 b170 "com/example/acervo/acervo/index/DocumentValue" "number" "J" (.long (0 : Int64)) := D170 (Or.inr (hw _ (List.mem_of_getElem? (i := 22) rfl))) (ty := .long) (by decide)
      have K170 : ∀ t, Steps p.tables e below (T170.setTop (mkF m 146 #[.val (.int p0), .val (.long q1), .second, .val (.long q2), .second, .val (.int p3), .val (.int (w0_m1 p0)), .val (.int (w0_m2 p0)), .val (.int (p3 &&& (3 : Int32))), .val (.long (w0_m3 q1 q2 p3)), .second, .val (.long (w0_m4 p0 q1)), .second, .val (.long (w0_m5 p0 q1 q2 p3)), .second, .val (.ref ob2), .val (.ref ob1), .val (.ref b165), .unset, .unset, .unset] [(.ref b170)])) t → Steps p.tables e below S0 t := fun t k => K169 t (st170 t k)
      have K171 : ∀ t, Steps p.tables e below (T170.setTop (mkF m 151 #[.val (.int p0), .val (.long q1), .second, .val (.long q2), .second, .val (.int p3), .val (.int (w0_m1 p0)), .val (.int (w0_m2 p0)), .val (.int (p3 &&& (3 : Int32))), .val (.long (w0_m3 q1 q2 p3)), .second, .val (.long (w0_m4 p0 q1)), .second, .val (.long (w0_m5 p0 q1 q2 p3)), .second, .val (.ref ob2), .val (.ref ob1), .val (.ref b165), .unset, .unset, .unset] [(.long (w0_m5 p0 q1 q2 p3)), (.ref ob1), (.ref b170), (.ref b170)])) t → Steps p.tables e below S0 t := fun t k => K170 t (by
        refine XS.dup X170.here hx rfl (hb hby at_146) rfl rfl ?_
        show Steps p.tables e below (T170.setTop (mkF m 147 #[.val (.int p0), .val (.long q1), .second, .val (.long q2), .second, .val (.int p3), .val (.int (w0_m1 p0)), .val (.int (w0_m2 p0)), .val (.int (p3 &&& (3 : Int32))), .val (.long (w0_m3 q1 q2 p3)), .second, .val (.long (w0_m4 p0 q1)), .second, .val (.long (w0_m5 p0 q1 q2 p3)), .second, .val (.ref ob2), .val (.ref ob1), .val (.ref b165), .unset, .unset, .unset] [(.ref b170), (.ref b170)])) _
        refine XS.aload X170.here hx rfl (hb hby at_147) rfl rfl ?_
        show Steps p.tables e below (T170.setTop (mkF m 149 #[.val (.int p0), .val (.long q1), .second, .val (.long q2), .second, .val (.int p3), .val (.int (w0_m1 p0)), .val (.int (w0_m2 p0)), .val (.int (p3 &&& (3 : Int32))), .val (.long (w0_m3 q1 q2 p3)), .second, .val (.long (w0_m4 p0 q1)), .second, .val (.long (w0_m5 p0 q1 q2 p3)), .second, .val (.ref ob2), .val (.ref ob1), .val (.ref b165), .unset, .unset, .unset] [(.ref ob1), (.ref b170), (.ref b170)])) _
        refine XS.lload X170.here hx rfl (hb hby at_149) rfl ?_
        show Steps p.tables e below (T170.setTop (mkF m 151 #[.val (.int p0), .val (.long q1), .second, .val (.long q2), .second, .val (.int p3), .val (.int (w0_m1 p0)), .val (.int (w0_m2 p0)), .val (.int (p3 &&& (3 : Int32))), .val (.long (w0_m3 q1 q2 p3)), .second, .val (.long (w0_m4 p0 q1)), .second, .val (.long (w0_m5 p0 q1 q2 p3)), .second, .val (.ref ob2), .val (.ref ob1), .val (.ref b165), .unset, .unset, .unset] [(.long (w0_m5 p0 q1 q2 p3)), (.ref ob1), (.ref b170), (.ref b170)])) _
        exact k)
      have K_172 : ∀ t, Steps p.tables e below (T170.setTop (mkF m 151 #[.val (.int p0), .val (.long q1), .second, .val (.long q2), .second, .val (.int p3), .val (.int (w0_m1 p0)), .val (.int (w0_m2 p0)), .val (.int (p3 &&& (3 : Int32))), .val (.long (w0_m3 q1 q2 p3)), .second, .val (.long (w0_m4 p0 q1)), .second, .val (.long (w0_m5 p0 q1 q2 p3)), .second, .val (.ref ob2), .val (.ref ob1), .val (.ref b165), .unset, .unset, .unset] [(.long (w0_m5 p0 q1 q2 p3)), (.ref ob1), (.ref b170), (.ref b170)])) t → Steps p.tables e below S0 t := K171
      obtain ⟨_, _, ⟨T173, L173, k173, n173⟩, -, X173, ⟨Lc173, hQ173, l173, y173, z173⟩, st173⟩ := X170.specialBack hx (y := (⟨"com/example/acervo/acervo/index/DocumentValue", "<init>", "(Lcom/example/acervo/acervo/index/DocumentValue$Kind;J)V"⟩ : MethodName)) rfl hown (mvT hZ (hw _ (List.mem_of_getElem? (i := 6) rfl))) (mvT hZ (hw _ (List.mem_of_getElem? (i := 7) rfl))) (mvT hZ (hw _ (List.mem_of_getElem? (i := 8) rfl))) (by decide) (backOf (W := 1) (rm5 l Z a0 hw [] b170 ob1 (w0_m5 p0 q1 q2 p3) ob2 h170 n0 Zs170 A170 F_b170_kind F_b170_number g_b170 S_DocumentValue_Kind_DATE__170 ne_ob1_ob2) hZ (hw _ (List.mem_of_getElem? (i := 8) rfl)) (hw _ (List.mem_of_getElem? (i := 5) rfl)) (by decide) (by decide)) (g := (mkF m 151 #[.val (.int p0), .val (.long q1), .second, .val (.long q2), .second, .val (.int p3), .val (.int (w0_m1 p0)), .val (.int (w0_m2 p0)), .val (.int (p3 &&& (3 : Int32))), .val (.long (w0_m3 q1 q2 p3)), .second, .val (.long (w0_m4 p0 q1)), .second, .val (.long (w0_m5 p0 q1 q2 p3)), .second, .val (.ref ob2), .val (.ref ob1), .val (.ref b165), .unset, .unset, .unset] [(.long (w0_m5 p0 q1 q2 p3)), (.ref ob1), (.ref b170), (.ref b170)])) rfl (by rw [hml]; rfl) (Steps.refl _) (a := b170) (argsL := [(.ref ob1), (.long (w0_m5 p0 q1 q2 p3))]) (rest := [(.ref b170)]) (lenOf pd0_1 rfl) rfl (by show 2 * 0 + _ ≤ _; exact Nat.le_of_eq rfl) (hb hby at_151) (fun _ _ => ⟨rfl, e170, (by decide : 2 + 0 ≤ 16), (by decide : 4 + 0 ≤ 128)⟩)
      dsimp only [Pt.U, Pt.locs, Pt.cells, Pt.slots] at X173 l173 y173 z173 st173 hQ173
      subst l173 y173 z173
      obtain ⟨rfl, N173q, Kp173, Fn173_0, Fn173_1, Fn173_2⟩ := hQ173
      have N173 := Fr.app N168 N173q
      have OL173 := OL170.keep Kp173 (allS (P := fun x => n0 ≤ x) g_b170 all0)
      have S_DocumentValue_Kind_NUMBER__173 := S_DocumentValue_Kind_NUMBER.ext OL173.2
      have S_DocumentValue_Kind_DATE__173 := S_DocumentValue_Kind_DATE.ext OL173.2
      have E_ob1__173 := E_ob1.ext OL173.2
      have E_ob2__173 := E_ob2.ext OL173.2
      have S_Long_LongCache_cache__173 := S_Long_LongCache_cache.ext OL173.2
      have Ar_oc__173 := Ar_oc.ext OL173.2
      have Fn168_0__173 := Fn168_0__170.keep Kp173
      have Fn168_1__173 := Fn168_1__170.keep Kp173 (ninS ne_b165_b170 nin0)
      have Fn168_2__173 := Fn168_2__170.keep Kp173 (ninS ne_b165_b170 nin0)
      have Zs173 : n0 ≤ T173.heap.size := Nat.le_trans Zs170 Kp173.1
      have K173 : ∀ t, Steps p.tables e below (T173.setTop (mkF m 154 #[.val (.int p0), .val (.long q1), .second, .val (.long q2), .second, .val (.int p3), .val (.int (w0_m1 p0)), .val (.int (w0_m2 p0)), .val (.int (p3 &&& (3 : Int32))), .val (.long (w0_m3 q1 q2 p3)), .second, .val (.long (w0_m4 p0 q1)), .second, .val (.long (w0_m5 p0 q1 q2 p3)), .second, .val (.ref ob2), .val (.ref ob1), .val (.ref b165), .unset, .unset, .unset] [(.ref b170)])) t → Steps p.tables e below S0 t := fun t k => K_172 t (st173.trans k)
      have K174 : ∀ t, Steps p.tables e below (T173.setTop (mkF m 167 #[.val (.int p0), .val (.long q1), .second, .val (.long q2), .second, .val (.int p3), .val (.int (w0_m1 p0)), .val (.int (w0_m2 p0)), .val (.int (p3 &&& (3 : Int32))), .val (.long (w0_m3 q1 q2 p3)), .second, .val (.long (w0_m4 p0 q1)), .second, .val (.long (w0_m5 p0 q1 q2 p3)), .second, .val (.ref ob2), .val (.ref ob1), .val (.ref b165), .val (.ref b170), .val (.int (w0_6 p3)), .unset] [(.int (1 : Int32)), (.int (w0_6 p3))])) t → Steps p.tables e below S0 t := fun t k => K173 t (by
        refine XS.astore X173.here hx rfl (hb hby at_154) rfl rfl (l' := #[.val (.int p0), .val (.long q1), .second, .val (.long q2), .second, .val (.int p3), .val (.int (w0_m1 p0)), .val (.int (w0_m2 p0)), .val (.int (p3 &&& (3 : Int32))), .val (.long (w0_m3 q1 q2 p3)), .second, .val (.long (w0_m4 p0 q1)), .second, .val (.long (w0_m5 p0 q1 q2 p3)), .second, .val (.ref ob2), .val (.ref ob1), .val (.ref b165), .val (.ref b170), .unset, .unset]) rfl ?_
        show Steps p.tables e below (T173.setTop (mkF m 156 #[.val (.int p0), .val (.long q1), .second, .val (.long q2), .second, .val (.int p3), .val (.int (w0_m1 p0)), .val (.int (w0_m2 p0)), .val (.int (p3 &&& (3 : Int32))), .val (.long (w0_m3 q1 q2 p3)), .second, .val (.long (w0_m4 p0 q1)), .second, .val (.long (w0_m5 p0 q1 q2 p3)), .second, .val (.ref ob2), .val (.ref ob1), .val (.ref b165), .val (.ref b170), .unset, .unset] [])) _
        refine XS.iload X173.here hx rfl (hb hby at_156) rfl ?_
        show Steps p.tables e below (T173.setTop (mkF m 158 #[.val (.int p0), .val (.long q1), .second, .val (.long q2), .second, .val (.int p3), .val (.int (w0_m1 p0)), .val (.int (w0_m2 p0)), .val (.int (p3 &&& (3 : Int32))), .val (.long (w0_m3 q1 q2 p3)), .second, .val (.long (w0_m4 p0 q1)), .second, .val (.long (w0_m5 p0 q1 q2 p3)), .second, .val (.ref ob2), .val (.ref ob1), .val (.ref b165), .val (.ref b170), .unset, .unset] [(.int p3)])) _
        refine XS.iconst X173.here hx rfl (hb hby at_158) ?_
        show Steps p.tables e below (T173.setTop (mkF m 159 #[.val (.int p0), .val (.long q1), .second, .val (.long q2), .second, .val (.int p3), .val (.int (w0_m1 p0)), .val (.int (w0_m2 p0)), .val (.int (p3 &&& (3 : Int32))), .val (.long (w0_m3 q1 q2 p3)), .second, .val (.long (w0_m4 p0 q1)), .second, .val (.long (w0_m5 p0 q1 q2 p3)), .second, .val (.ref ob2), .val (.ref ob1), .val (.ref b165), .val (.ref b170), .unset, .unset] [(.int (2 : Int32)), (.int p3)])) _
        refine XS.ishr X173.here hx rfl (hb hby at_159) rfl ?_
        show Steps p.tables e below (T173.setTop (mkF m 160 #[.val (.int p0), .val (.long q1), .second, .val (.long q2), .second, .val (.int p3), .val (.int (w0_m1 p0)), .val (.int (w0_m2 p0)), .val (.int (p3 &&& (3 : Int32))), .val (.long (w0_m3 q1 q2 p3)), .second, .val (.long (w0_m4 p0 q1)), .second, .val (.long (w0_m5 p0 q1 q2 p3)), .second, .val (.ref ob2), .val (.ref ob1), .val (.ref b165), .val (.ref b170), .unset, .unset] [(.int (p3 >>> ((2 : Int32) &&& 31)))])) _
        refine XS.iconst X173.here hx rfl (hb hby at_160) ?_
        show Steps p.tables e below (T173.setTop (mkF m 161 #[.val (.int p0), .val (.long q1), .second, .val (.long q2), .second, .val (.int p3), .val (.int (w0_m1 p0)), .val (.int (w0_m2 p0)), .val (.int (p3 &&& (3 : Int32))), .val (.long (w0_m3 q1 q2 p3)), .second, .val (.long (w0_m4 p0 q1)), .second, .val (.long (w0_m5 p0 q1 q2 p3)), .second, .val (.ref ob2), .val (.ref ob1), .val (.ref b165), .val (.ref b170), .unset, .unset] [(.int (3 : Int32)), (.int (p3 >>> ((2 : Int32) &&& 31)))])) _
        refine XS.iand X173.here hx rfl (hb hby at_161) rfl ?_
        show Steps p.tables e below (T173.setTop (mkF m 162 #[.val (.int p0), .val (.long q1), .second, .val (.long q2), .second, .val (.int p3), .val (.int (w0_m1 p0)), .val (.int (w0_m2 p0)), .val (.int (p3 &&& (3 : Int32))), .val (.long (w0_m3 q1 q2 p3)), .second, .val (.long (w0_m4 p0 q1)), .second, .val (.long (w0_m5 p0 q1 q2 p3)), .second, .val (.ref ob2), .val (.ref ob1), .val (.ref b165), .val (.ref b170), .unset, .unset] [(.int ((p3 >>> ((2 : Int32) &&& 31)) &&& (3 : Int32)))])) _
        refine XS.istore X173.here hx rfl (hb hby at_162) rfl (l' := #[.val (.int p0), .val (.long q1), .second, .val (.long q2), .second, .val (.int p3), .val (.int (w0_m1 p0)), .val (.int (w0_m2 p0)), .val (.int (p3 &&& (3 : Int32))), .val (.long (w0_m3 q1 q2 p3)), .second, .val (.long (w0_m4 p0 q1)), .second, .val (.long (w0_m5 p0 q1 q2 p3)), .second, .val (.ref ob2), .val (.ref ob1), .val (.ref b165), .val (.ref b170), .val (.int (w0_6 p3)), .unset]) rfl ?_
        show Steps p.tables e below (T173.setTop (mkF m 164 #[.val (.int p0), .val (.long q1), .second, .val (.long q2), .second, .val (.int p3), .val (.int (w0_m1 p0)), .val (.int (w0_m2 p0)), .val (.int (p3 &&& (3 : Int32))), .val (.long (w0_m3 q1 q2 p3)), .second, .val (.long (w0_m4 p0 q1)), .second, .val (.long (w0_m5 p0 q1 q2 p3)), .second, .val (.ref ob2), .val (.ref ob1), .val (.ref b165), .val (.ref b170), .val (.int (w0_6 p3)), .unset] [])) _
        refine XS.iload X173.here hx rfl (hb hby at_164) rfl ?_
        show Steps p.tables e below (T173.setTop (mkF m 166 #[.val (.int p0), .val (.long q1), .second, .val (.long q2), .second, .val (.int p3), .val (.int (w0_m1 p0)), .val (.int (w0_m2 p0)), .val (.int (p3 &&& (3 : Int32))), .val (.long (w0_m3 q1 q2 p3)), .second, .val (.long (w0_m4 p0 q1)), .second, .val (.long (w0_m5 p0 q1 q2 p3)), .second, .val (.ref ob2), .val (.ref ob1), .val (.ref b165), .val (.ref b170), .val (.int (w0_6 p3)), .unset] [(.int (w0_6 p3))])) _
        refine XS.iconst X173.here hx rfl (hb hby at_166) ?_
        show Steps p.tables e below (T173.setTop (mkF m 167 #[.val (.int p0), .val (.long q1), .second, .val (.long q2), .second, .val (.int p3), .val (.int (w0_m1 p0)), .val (.int (w0_m2 p0)), .val (.int (p3 &&& (3 : Int32))), .val (.long (w0_m3 q1 q2 p3)), .second, .val (.long (w0_m4 p0 q1)), .second, .val (.long (w0_m5 p0 q1 q2 p3)), .second, .val (.ref ob2), .val (.ref ob1), .val (.ref b165), .val (.ref b170), .val (.int (w0_6 p3)), .unset] [(.int (1 : Int32)), (.int (w0_6 p3))])) _
        exact k)
      by_cases hc167_2 : (w0_6 p3) = (1 : Int32)
      · -- yes
        have K175 : ∀ t, Steps p.tables e below (T173.setTop (mkF m 173 #[.val (.int p0), .val (.long q1), .second, .val (.long q2), .second, .val (.int p3), .val (.int (w0_m1 p0)), .val (.int (w0_m2 p0)), .val (.int (p3 &&& (3 : Int32))), .val (.long (w0_m3 q1 q2 p3)), .second, .val (.long (w0_m4 p0 q1)), .second, .val (.long (w0_m5 p0 q1 q2 p3)), .second, .val (.ref ob2), .val (.ref ob1), .val (.ref b165), .val (.ref b170), .val (.int (w0_6 p3)), .unset] [.null, (.ref b165)])) t → Steps p.tables e below S0 t := fun t k => K174 t (by
          refine XS.icmpNo X173.here hx rfl (hb hby at_167) rfl (XT.ii_ne_f hc167_2) ?_
          show Steps p.tables e below (T173.setTop (mkF m 170 #[.val (.int p0), .val (.long q1), .second, .val (.long q2), .second, .val (.int p3), .val (.int (w0_m1 p0)), .val (.int (w0_m2 p0)), .val (.int (p3 &&& (3 : Int32))), .val (.long (w0_m3 q1 q2 p3)), .second, .val (.long (w0_m4 p0 q1)), .second, .val (.long (w0_m5 p0 q1 q2 p3)), .second, .val (.ref ob2), .val (.ref ob1), .val (.ref b165), .val (.ref b170), .val (.int (w0_6 p3)), .unset] [])) _
          refine XS.aload X173.here hx rfl (hb hby at_170) rfl rfl ?_
          show Steps p.tables e below (T173.setTop (mkF m 172 #[.val (.int p0), .val (.long q1), .second, .val (.long q2), .second, .val (.int p3), .val (.int (w0_m1 p0)), .val (.int (w0_m2 p0)), .val (.int (p3 &&& (3 : Int32))), .val (.long (w0_m3 q1 q2 p3)), .second, .val (.long (w0_m4 p0 q1)), .second, .val (.long (w0_m5 p0 q1 q2 p3)), .second, .val (.ref ob2), .val (.ref ob1), .val (.ref b165), .val (.ref b170), .val (.int (w0_6 p3)), .unset] [(.ref b165)])) _
          refine XS.aconstNull X173.here hx rfl (hb hby at_172) ?_
          show Steps p.tables e below (T173.setTop (mkF m 173 #[.val (.int p0), .val (.long q1), .second, .val (.long q2), .second, .val (.int p3), .val (.int (w0_m1 p0)), .val (.int (w0_m2 p0)), .val (.int (p3 &&& (3 : Int32))), .val (.long (w0_m3 q1 q2 p3)), .second, .val (.long (w0_m4 p0 q1)), .second, .val (.long (w0_m5 p0 q1 q2 p3)), .second, .val (.ref ob2), .val (.ref ob1), .val (.ref b165), .val (.ref b170), .val (.int (w0_6 p3)), .unset] [.null, (.ref b165)])) _
          exact k)
        have K_176 : ∀ t, Steps p.tables e below (T173.setTop (mkF m 173 #[.val (.int p0), .val (.long q1), .second, .val (.long q2), .second, .val (.int p3), .val (.int (w0_m1 p0)), .val (.int (w0_m2 p0)), .val (.int (p3 &&& (3 : Int32))), .val (.long (w0_m3 q1 q2 p3)), .second, .val (.long (w0_m4 p0 q1)), .second, .val (.long (w0_m5 p0 q1 q2 p3)), .second, .val (.ref ob2), .val (.ref ob1), .val (.ref b165), .val (.ref b170), .val (.int (w0_6 p3)), .unset] [.null, (.ref b165)])) t → Steps p.tables e below S0 t := K175
        obtain ⟨cq177, kq177, q177a, q177b, q177c⟩ := isOf hZ rfl Fn168_0__173
        obtain ⟨_, _, ⟨T177, L177, k177, n177⟩, -, X177, ⟨Lc177, hQ177, l177, y177, z177⟩, st177⟩ := X173.virtualBack hx (y := (⟨"com/example/acervo/acervo/index/DocumentValue", "equals", "(Ljava/lang/Object;)Z"⟩ : MethodName)) (z := (⟨"com/example/acervo/acervo/index/DocumentValue", "equals", "(Ljava/lang/Object;)Z"⟩ : MethodName)) hown (mvT hZ (hw _ (List.mem_of_getElem? (i := 23) rfl))) (mvT hZ (hw _ (List.mem_of_getElem? (i := 24) rfl))) (notFace_of_selects (args := #[]) (mvT hZ (hw _ (List.mem_of_getElem? (i := 26) rfl)))) (mvT hZ (hw _ (List.mem_of_getElem? (i := 26) rfl))) (mvT hZ (hw _ (List.mem_of_getElem? (i := 25) rfl))) (by decide) (backOf (W := 0) (rm8 l Z a0 hw [] b165 T173.heap n0 Zs173 ) hZ (hw _ (List.mem_of_getElem? (i := 27) rfl)) (hw _ (List.mem_of_getElem? (i := 5) rfl)) (by decide) (by decide)) q177a q177c (g := (mkF m 173 #[.val (.int p0), .val (.long q1), .second, .val (.long q2), .second, .val (.int p3), .val (.int (w0_m1 p0)), .val (.int (w0_m2 p0)), .val (.int (p3 &&& (3 : Int32))), .val (.long (w0_m3 q1 q2 p3)), .second, .val (.long (w0_m4 p0 q1)), .second, .val (.long (w0_m5 p0 q1 q2 p3)), .second, .val (.ref ob2), .val (.ref ob1), .val (.ref b165), .val (.ref b170), .val (.int (w0_6 p3)), .unset] [.null, (.ref b165)])) rfl (by rw [hml]; rfl) (Steps.refl _) (argsL := [.null]) (rest := []) (lenOf pd0_2 rfl) rfl (by show 2 * 0 + _ ≤ _; exact Nat.le_of_eq rfl) (hb hby at_173) (fun _ _ => ⟨rfl, rfl, (by decide : 2 + 0 ≤ 16), (by decide : 4 + 0 ≤ 128)⟩)
        dsimp only [Pt.U, Pt.locs, Pt.cells, Pt.slots] at X177 l177 y177 z177 st177 hQ177
        subst l177 y177 z177
        obtain ⟨rfl, N177q, e177⟩ := hQ177
        have N177 := Fr.app N173 N177q
        have K177 : ∀ t, Steps p.tables e below (T177.setTop (mkF m 176 #[.val (.int p0), .val (.long q1), .second, .val (.long q2), .second, .val (.int p3), .val (.int (w0_m1 p0)), .val (.int (w0_m2 p0)), .val (.int (p3 &&& (3 : Int32))), .val (.long (w0_m3 q1 q2 p3)), .second, .val (.long (w0_m4 p0 q1)), .second, .val (.long (w0_m5 p0 q1 q2 p3)), .second, .val (.ref ob2), .val (.ref ob1), .val (.ref b165), .val (.ref b170), .val (.int (w0_6 p3)), .unset] [(.int (0 : Int32))])) t → Steps p.tables e below S0 t := fun t k => K_176 t (st177.trans k)
        have K178 : ∀ t, Steps p.tables e below (T177.setTop (mkF m 184 #[.val (.int p0), .val (.long q1), .second, .val (.long q2), .second, .val (.int p3), .val (.int (w0_m1 p0)), .val (.int (w0_m2 p0)), .val (.int (p3 &&& (3 : Int32))), .val (.long (w0_m3 q1 q2 p3)), .second, .val (.long (w0_m4 p0 q1)), .second, .val (.long (w0_m5 p0 q1 q2 p3)), .second, .val (.ref ob2), .val (.ref ob1), .val (.ref b165), .val (.ref b170), .val (.int (w0_6 p3)), .unset] [(.int (1 : Int32))])) t → Steps p.tables e below S0 t := fun t k => K177 t (by
          refine XS.ifNo X177.here hx rfl (hb hby at_176) rfl (XT.i0_ne_f (by decide)) ?_
          show Steps p.tables e below (T177.setTop (mkF m 179 #[.val (.int p0), .val (.long q1), .second, .val (.long q2), .second, .val (.int p3), .val (.int (w0_m1 p0)), .val (.int (w0_m2 p0)), .val (.int (p3 &&& (3 : Int32))), .val (.long (w0_m3 q1 q2 p3)), .second, .val (.long (w0_m4 p0 q1)), .second, .val (.long (w0_m5 p0 q1 q2 p3)), .second, .val (.ref ob2), .val (.ref ob1), .val (.ref b165), .val (.ref b170), .val (.int (w0_6 p3)), .unset] [])) _
          refine XS.iconst X177.here hx rfl (hb hby at_179) ?_
          show Steps p.tables e below (T177.setTop (mkF m 180 #[.val (.int p0), .val (.long q1), .second, .val (.long q2), .second, .val (.int p3), .val (.int (w0_m1 p0)), .val (.int (w0_m2 p0)), .val (.int (p3 &&& (3 : Int32))), .val (.long (w0_m3 q1 q2 p3)), .second, .val (.long (w0_m4 p0 q1)), .second, .val (.long (w0_m5 p0 q1 q2 p3)), .second, .val (.ref ob2), .val (.ref ob1), .val (.ref b165), .val (.ref b170), .val (.int (w0_6 p3)), .unset] [(.int (1 : Int32))])) _
          refine XS.goto X177.here hx rfl (pc0 := 180) (pc' := 184) rfl (hb hby at_180) (by decide) (by decide) ?_
          show Steps p.tables e below (T177.setTop (mkF m 184 #[.val (.int p0), .val (.long q1), .second, .val (.long q2), .second, .val (.int p3), .val (.int (w0_m1 p0)), .val (.int (w0_m2 p0)), .val (.int (p3 &&& (3 : Int32))), .val (.long (w0_m3 q1 q2 p3)), .second, .val (.long (w0_m4 p0 q1)), .second, .val (.long (w0_m5 p0 q1 q2 p3)), .second, .val (.ref ob2), .val (.ref ob1), .val (.ref b165), .val (.ref b170), .val (.int (w0_6 p3)), .unset] [(.int (1 : Int32))])) _
          exact k)
        obtain ⟨fs, hr, hrun, hended, hW, hsame⟩ := X177.leave (v := some (.int (1 : Int32))) (fun h => by rw [Bd.returns] at h; cases h) hlk
        refine ⟨_, _, ?_, hrun, hended, _, _, rfl, ?_, ⟨_, rfl⟩, hW, hsame.mono (by decide) (by decide)⟩
        · rw [← hS0]; exact K178 _ (retN X177 hx (t := .boolean) Bd.returns (by simp) (hb hby at_184) hr)
        · show Q0 Z p0 q1 q2 p3 ob1 ob2 oc cc h0 n0 _ T177.heap _
          rw [e177]
          have qr : (1 : Int32) = (w0_r10 p0 q1 q2 p3) := by unfold w0_r10; rw [if_neg hc100_0, if_pos hc116_1, if_pos hc167_2]
          exact ⟨congrArg (fun z => some (Value.int z)) qr, N177⟩
      · -- no
        have K179 : ∀ t, Steps p.tables e below (T173.setTop (mkF m 188 #[.val (.int p0), .val (.long q1), .second, .val (.long q2), .second, .val (.int p3), .val (.int (w0_m1 p0)), .val (.int (w0_m2 p0)), .val (.int (p3 &&& (3 : Int32))), .val (.long (w0_m3 q1 q2 p3)), .second, .val (.long (w0_m4 p0 q1)), .second, .val (.long (w0_m5 p0 q1 q2 p3)), .second, .val (.ref ob2), .val (.ref ob1), .val (.ref b165), .val (.ref b170), .val (.int (w0_6 p3)), .unset] [(.int (2 : Int32)), (.int (w0_6 p3))])) t → Steps p.tables e below S0 t := fun t k => K174 t (by
          refine XS.icmpYes X173.here hx rfl (pc0 := 167) (pc' := 185) rfl (hb hby at_167) rfl (XT.ii_ne_t hc167_2) (by decide) (by decide) ?_
          show Steps p.tables e below (T173.setTop (mkF m 185 #[.val (.int p0), .val (.long q1), .second, .val (.long q2), .second, .val (.int p3), .val (.int (w0_m1 p0)), .val (.int (w0_m2 p0)), .val (.int (p3 &&& (3 : Int32))), .val (.long (w0_m3 q1 q2 p3)), .second, .val (.long (w0_m4 p0 q1)), .second, .val (.long (w0_m5 p0 q1 q2 p3)), .second, .val (.ref ob2), .val (.ref ob1), .val (.ref b165), .val (.ref b170), .val (.int (w0_6 p3)), .unset] [])) _
          refine XS.iload X173.here hx rfl (hb hby at_185) rfl ?_
          show Steps p.tables e below (T173.setTop (mkF m 187 #[.val (.int p0), .val (.long q1), .second, .val (.long q2), .second, .val (.int p3), .val (.int (w0_m1 p0)), .val (.int (w0_m2 p0)), .val (.int (p3 &&& (3 : Int32))), .val (.long (w0_m3 q1 q2 p3)), .second, .val (.long (w0_m4 p0 q1)), .second, .val (.long (w0_m5 p0 q1 q2 p3)), .second, .val (.ref ob2), .val (.ref ob1), .val (.ref b165), .val (.ref b170), .val (.int (w0_6 p3)), .unset] [(.int (w0_6 p3))])) _
          refine XS.iconst X173.here hx rfl (hb hby at_187) ?_
          show Steps p.tables e below (T173.setTop (mkF m 188 #[.val (.int p0), .val (.long q1), .second, .val (.long q2), .second, .val (.int p3), .val (.int (w0_m1 p0)), .val (.int (w0_m2 p0)), .val (.int (p3 &&& (3 : Int32))), .val (.long (w0_m3 q1 q2 p3)), .second, .val (.long (w0_m4 p0 q1)), .second, .val (.long (w0_m5 p0 q1 q2 p3)), .second, .val (.ref ob2), .val (.ref ob1), .val (.ref b165), .val (.ref b170), .val (.int (w0_6 p3)), .unset] [(.int (2 : Int32)), (.int (w0_6 p3))])) _
          exact k)
        by_cases hc188_3 : (w0_6 p3) = (2 : Int32)
        · -- yes
          have K180 : ∀ t, Steps p.tables e below (T173.setTop (mkF m 195 #[.val (.int p0), .val (.long q1), .second, .val (.long q2), .second, .val (.int p3), .val (.int (w0_m1 p0)), .val (.int (w0_m2 p0)), .val (.int (p3 &&& (3 : Int32))), .val (.long (w0_m3 q1 q2 p3)), .second, .val (.long (w0_m4 p0 q1)), .second, .val (.long (w0_m5 p0 q1 q2 p3)), .second, .val (.ref ob2), .val (.ref ob1), .val (.ref b165), .val (.ref b170), .val (.int (w0_6 p3)), .unset] [(.long (w0_m4 p0 q1)), (.ref b165)])) t → Steps p.tables e below S0 t := fun t k => K179 t (by
            refine XS.icmpNo X173.here hx rfl (hb hby at_188) rfl (XT.ii_ne_f hc188_3) ?_
            show Steps p.tables e below (T173.setTop (mkF m 191 #[.val (.int p0), .val (.long q1), .second, .val (.long q2), .second, .val (.int p3), .val (.int (w0_m1 p0)), .val (.int (w0_m2 p0)), .val (.int (p3 &&& (3 : Int32))), .val (.long (w0_m3 q1 q2 p3)), .second, .val (.long (w0_m4 p0 q1)), .second, .val (.long (w0_m5 p0 q1 q2 p3)), .second, .val (.ref ob2), .val (.ref ob1), .val (.ref b165), .val (.ref b170), .val (.int (w0_6 p3)), .unset] [])) _
            refine XS.aload X173.here hx rfl (hb hby at_191) rfl rfl ?_
            show Steps p.tables e below (T173.setTop (mkF m 193 #[.val (.int p0), .val (.long q1), .second, .val (.long q2), .second, .val (.int p3), .val (.int (w0_m1 p0)), .val (.int (w0_m2 p0)), .val (.int (p3 &&& (3 : Int32))), .val (.long (w0_m3 q1 q2 p3)), .second, .val (.long (w0_m4 p0 q1)), .second, .val (.long (w0_m5 p0 q1 q2 p3)), .second, .val (.ref ob2), .val (.ref ob1), .val (.ref b165), .val (.ref b170), .val (.int (w0_6 p3)), .unset] [(.ref b165)])) _
            refine XS.lload X173.here hx rfl (hb hby at_193) rfl ?_
            show Steps p.tables e below (T173.setTop (mkF m 195 #[.val (.int p0), .val (.long q1), .second, .val (.long q2), .second, .val (.int p3), .val (.int (w0_m1 p0)), .val (.int (w0_m2 p0)), .val (.int (p3 &&& (3 : Int32))), .val (.long (w0_m3 q1 q2 p3)), .second, .val (.long (w0_m4 p0 q1)), .second, .val (.long (w0_m5 p0 q1 q2 p3)), .second, .val (.ref ob2), .val (.ref ob1), .val (.ref b165), .val (.ref b170), .val (.int (w0_6 p3)), .unset] [(.long (w0_m4 p0 q1)), (.ref b165)])) _
            exact k)
          by_cases hc195_4 : (w0_m4 p0 q1) < (-128 : Int64)
          · -- yes
            have K_181 : ∀ t, Steps p.tables e below (T173.setTop (mkF m 195 #[.val (.int p0), .val (.long q1), .second, .val (.long q2), .second, .val (.int p3), .val (.int (w0_m1 p0)), .val (.int (w0_m2 p0)), .val (.int (p3 &&& (3 : Int32))), .val (.long (w0_m3 q1 q2 p3)), .second, .val (.long (w0_m4 p0 q1)), .second, .val (.long (w0_m5 p0 q1 q2 p3)), .second, .val (.ref ob2), .val (.ref ob1), .val (.ref b165), .val (.ref b170), .val (.int (w0_6 p3)), .unset] [(.long (w0_m4 p0 q1)), (.ref b165)])) t → Steps p.tables e below S0 t := K180
            obtain ⟨_, _, ⟨T182, L182, k182, n182⟩, -, X182, ⟨Lc182, hQ182, l182, y182, z182⟩, st182⟩ := Jvm.LawKit.callS X173 hx (y := (⟨"java/lang/Long", "valueOf", "(J)Ljava/lang/Long;"⟩ : MethodName)) hown (mvT hZ (hw _ (List.mem_of_getElem? (i := 43) rfl))) (mvT hZ (hw _ (List.mem_of_getElem? (i := 44) rfl))) (mvT hZ (hw _ (List.mem_of_getElem? (i := 45) rfl))) (mvT hZ (hw _ (List.mem_of_getElem? (i := 46) rfl))) (by decide) (backOf (W := 1) (rmLlo l Z a0 hw [] (w0_m4 p0 q1) T173.heap n0 Zs173 hc195_4) hZ (hw _ (List.mem_of_getElem? (i := 46) rfl)) (hw _ (List.mem_of_getElem? (i := 45) rfl)) (by decide) (by decide)) (g := (mkF m 195 #[.val (.int p0), .val (.long q1), .second, .val (.long q2), .second, .val (.int p3), .val (.int (w0_m1 p0)), .val (.int (w0_m2 p0)), .val (.int (p3 &&& (3 : Int32))), .val (.long (w0_m3 q1 q2 p3)), .second, .val (.long (w0_m4 p0 q1)), .second, .val (.long (w0_m5 p0 q1 q2 p3)), .second, .val (.ref ob2), .val (.ref ob1), .val (.ref b165), .val (.ref b170), .val (.int (w0_6 p3)), .unset] [(.long (w0_m4 p0 q1)), (.ref b165)])) rfl (by rw [hml]; rfl) (argsL := [(.long (w0_m4 p0 q1))]) (rest := [(.ref b165)]) (lenOf pd0_3 rfl) rfl (by show 2 * 0 + _ ≤ _; exact Nat.le_of_eq rfl) (hb hby at_195) (fun _ _ => ⟨rfl, rfl, (by decide : 2 + 1 ≤ 16), (by decide : 4 + 1 ≤ 128)⟩)
            dsimp only [Pt.U, Pt.locs, Pt.cells, Pt.slots] at X182 l182 y182 z182 st182 hQ182
            subst l182 y182 z182
            obtain ⟨b182_4, rfl, N182q, Kp182, lb_b182_4, Fn182_0, Fn182_1⟩ := hQ182
            have N182 := Fr.app N173 N182q
            have g_b182_4 : n0 ≤ b182_4 := Nat.le_trans Zs173 lb_b182_4
            have ne_ob1_b182_4 : ob1 ≠ b182_4 := Nat.ne_of_lt (Nat.lt_of_lt_of_le E_ob1__173.lt lb_b182_4)
            have ne_ob2_b182_4 : ob2 ≠ b182_4 := Nat.ne_of_lt (Nat.lt_of_lt_of_le E_ob2__173.lt lb_b182_4)
            have ne_oc_b182_4 : oc ≠ b182_4 := Nat.ne_of_lt (Nat.lt_of_lt_of_le Ar_oc__173.lt lb_b182_4)
            have ne_b165_b182_4 : b165 ≠ b182_4 := Nat.ne_of_lt (Nat.lt_of_lt_of_le Fn168_0__173.lt lb_b182_4)
            have ne_b170_b182_4 : b170 ≠ b182_4 := Nat.ne_of_lt (Nat.lt_of_lt_of_le Fn173_0.lt lb_b182_4)
            have OL182 := OL173.keep Kp182 all0
            have S_DocumentValue_Kind_NUMBER__182 := S_DocumentValue_Kind_NUMBER.ext OL182.2
            have S_DocumentValue_Kind_DATE__182 := S_DocumentValue_Kind_DATE.ext OL182.2
            have E_ob1__182 := E_ob1.ext OL182.2
            have E_ob2__182 := E_ob2.ext OL182.2
            have S_Long_LongCache_cache__182 := S_Long_LongCache_cache.ext OL182.2
            have Ar_oc__182 := Ar_oc.ext OL182.2
            have Fn168_0__182 := Fn168_0__173.keep Kp182
            have Fn168_1__182 := Fn168_1__173.keep Kp182 nin0
            have Fn168_2__182 := Fn168_2__173.keep Kp182 nin0
            have Fn173_0__182 := Fn173_0.keep Kp182
            have Fn173_1__182 := Fn173_1.keep Kp182 nin0
            have Fn173_2__182 := Fn173_2.keep Kp182 nin0
            have Zs182 : n0 ≤ T182.heap.size := Nat.le_trans Zs173 Kp182.1
            have K182 : ∀ t, Steps p.tables e below (T182.setTop (mkF m 198 #[.val (.int p0), .val (.long q1), .second, .val (.long q2), .second, .val (.int p3), .val (.int (w0_m1 p0)), .val (.int (w0_m2 p0)), .val (.int (p3 &&& (3 : Int32))), .val (.long (w0_m3 q1 q2 p3)), .second, .val (.long (w0_m4 p0 q1)), .second, .val (.long (w0_m5 p0 q1 q2 p3)), .second, .val (.ref ob2), .val (.ref ob1), .val (.ref b165), .val (.ref b170), .val (.int (w0_6 p3)), .unset] [(.ref b182_4), (.ref b165)])) t → Steps p.tables e below S0 t := fun t k => K_181 t (st182 t k)
            have K_183 : ∀ t, Steps p.tables e below (T182.setTop (mkF m 198 #[.val (.int p0), .val (.long q1), .second, .val (.long q2), .second, .val (.int p3), .val (.int (w0_m1 p0)), .val (.int (w0_m2 p0)), .val (.int (p3 &&& (3 : Int32))), .val (.long (w0_m3 q1 q2 p3)), .second, .val (.long (w0_m4 p0 q1)), .second, .val (.long (w0_m5 p0 q1 q2 p3)), .second, .val (.ref ob2), .val (.ref ob1), .val (.ref b165), .val (.ref b170), .val (.int (w0_6 p3)), .unset] [(.ref b182_4), (.ref b165)])) t → Steps p.tables e below S0 t := K182
            obtain ⟨cq184, kq184, q184a, q184b, q184c⟩ := isOf hZ rfl Fn168_0__182
            obtain ⟨_, _, ⟨T184, L184, k184, n184⟩, -, X184, ⟨Lc184, hQ184, l184, y184, z184⟩, st184⟩ := X182.virtualBack hx (y := (⟨"com/example/acervo/acervo/index/DocumentValue", "equals", "(Ljava/lang/Object;)Z"⟩ : MethodName)) (z := (⟨"com/example/acervo/acervo/index/DocumentValue", "equals", "(Ljava/lang/Object;)Z"⟩ : MethodName)) hown (mvT hZ (hw _ (List.mem_of_getElem? (i := 23) rfl))) (mvT hZ (hw _ (List.mem_of_getElem? (i := 24) rfl))) (notFace_of_selects (args := #[]) (mvT hZ (hw _ (List.mem_of_getElem? (i := 26) rfl)))) (mvT hZ (hw _ (List.mem_of_getElem? (i := 26) rfl))) (mvT hZ (hw _ (List.mem_of_getElem? (i := 25) rfl))) (by decide) (backOf (W := 0) (rm9 l Z a0 hw [] b165 b182_4 T182.heap n0 Zs182 Fn182_0) hZ (hw _ (List.mem_of_getElem? (i := 27) rfl)) (hw _ (List.mem_of_getElem? (i := 5) rfl)) (by decide) (by decide)) q184a q184c (g := (mkF m 198 #[.val (.int p0), .val (.long q1), .second, .val (.long q2), .second, .val (.int p3), .val (.int (w0_m1 p0)), .val (.int (w0_m2 p0)), .val (.int (p3 &&& (3 : Int32))), .val (.long (w0_m3 q1 q2 p3)), .second, .val (.long (w0_m4 p0 q1)), .second, .val (.long (w0_m5 p0 q1 q2 p3)), .second, .val (.ref ob2), .val (.ref ob1), .val (.ref b165), .val (.ref b170), .val (.int (w0_6 p3)), .unset] [(.ref b182_4), (.ref b165)])) rfl (by rw [hml]; rfl) (Steps.refl _) (argsL := [(.ref b182_4)]) (rest := []) (lenOf pd0_2 rfl) rfl (by show 2 * 0 + _ ≤ _; exact Nat.le_of_eq rfl) (hb hby at_198) (fun _ _ => ⟨rfl, rfl, (by decide : 3 + 0 ≤ 16), (by decide : 5 + 0 ≤ 128)⟩)
            dsimp only [Pt.U, Pt.locs, Pt.cells, Pt.slots] at X184 l184 y184 z184 st184 hQ184
            subst l184 y184 z184
            obtain ⟨rfl, N184q, e184⟩ := hQ184
            have N184 := Fr.app N182 N184q
            have K184 : ∀ t, Steps p.tables e below (T184.setTop (mkF m 201 #[.val (.int p0), .val (.long q1), .second, .val (.long q2), .second, .val (.int p3), .val (.int (w0_m1 p0)), .val (.int (w0_m2 p0)), .val (.int (p3 &&& (3 : Int32))), .val (.long (w0_m3 q1 q2 p3)), .second, .val (.long (w0_m4 p0 q1)), .second, .val (.long (w0_m5 p0 q1 q2 p3)), .second, .val (.ref ob2), .val (.ref ob1), .val (.ref b165), .val (.ref b170), .val (.int (w0_6 p3)), .unset] [(.int (0 : Int32))])) t → Steps p.tables e below S0 t := fun t k => K_183 t (st184.trans k)
            have K185 : ∀ t, Steps p.tables e below (T184.setTop (mkF m 209 #[.val (.int p0), .val (.long q1), .second, .val (.long q2), .second, .val (.int p3), .val (.int (w0_m1 p0)), .val (.int (w0_m2 p0)), .val (.int (p3 &&& (3 : Int32))), .val (.long (w0_m3 q1 q2 p3)), .second, .val (.long (w0_m4 p0 q1)), .second, .val (.long (w0_m5 p0 q1 q2 p3)), .second, .val (.ref ob2), .val (.ref ob1), .val (.ref b165), .val (.ref b170), .val (.int (w0_6 p3)), .unset] [(.int (1 : Int32))])) t → Steps p.tables e below S0 t := fun t k => K184 t (by
              refine XS.ifNo X184.here hx rfl (hb hby at_201) rfl (XT.i0_ne_f (by decide)) ?_
              show Steps p.tables e below (T184.setTop (mkF m 204 #[.val (.int p0), .val (.long q1), .second, .val (.long q2), .second, .val (.int p3), .val (.int (w0_m1 p0)), .val (.int (w0_m2 p0)), .val (.int (p3 &&& (3 : Int32))), .val (.long (w0_m3 q1 q2 p3)), .second, .val (.long (w0_m4 p0 q1)), .second, .val (.long (w0_m5 p0 q1 q2 p3)), .second, .val (.ref ob2), .val (.ref ob1), .val (.ref b165), .val (.ref b170), .val (.int (w0_6 p3)), .unset] [])) _
              refine XS.iconst X184.here hx rfl (hb hby at_204) ?_
              show Steps p.tables e below (T184.setTop (mkF m 205 #[.val (.int p0), .val (.long q1), .second, .val (.long q2), .second, .val (.int p3), .val (.int (w0_m1 p0)), .val (.int (w0_m2 p0)), .val (.int (p3 &&& (3 : Int32))), .val (.long (w0_m3 q1 q2 p3)), .second, .val (.long (w0_m4 p0 q1)), .second, .val (.long (w0_m5 p0 q1 q2 p3)), .second, .val (.ref ob2), .val (.ref ob1), .val (.ref b165), .val (.ref b170), .val (.int (w0_6 p3)), .unset] [(.int (1 : Int32))])) _
              refine XS.goto X184.here hx rfl (pc0 := 205) (pc' := 209) rfl (hb hby at_205) (by decide) (by decide) ?_
              show Steps p.tables e below (T184.setTop (mkF m 209 #[.val (.int p0), .val (.long q1), .second, .val (.long q2), .second, .val (.int p3), .val (.int (w0_m1 p0)), .val (.int (w0_m2 p0)), .val (.int (p3 &&& (3 : Int32))), .val (.long (w0_m3 q1 q2 p3)), .second, .val (.long (w0_m4 p0 q1)), .second, .val (.long (w0_m5 p0 q1 q2 p3)), .second, .val (.ref ob2), .val (.ref ob1), .val (.ref b165), .val (.ref b170), .val (.int (w0_6 p3)), .unset] [(.int (1 : Int32))])) _
              exact k)
            obtain ⟨fs, hr, hrun, hended, hW, hsame⟩ := X184.leave (v := some (.int (1 : Int32))) (fun h => by rw [Bd.returns] at h; cases h) hlk
            refine ⟨_, _, ?_, hrun, hended, _, _, rfl, ?_, ⟨_, rfl⟩, hW, hsame.mono (by decide) (by decide)⟩
            · rw [← hS0]; exact K185 _ (retN X184 hx (t := .boolean) Bd.returns (by simp) (hb hby at_209) hr)
            · show Q0 Z p0 q1 q2 p3 ob1 ob2 oc cc h0 n0 _ T184.heap _
              rw [e184]
              have qr : (1 : Int32) = (w0_r10 p0 q1 q2 p3) := by unfold w0_r10; rw [if_neg hc100_0, if_pos hc116_1, if_neg hc167_2, if_pos hc188_3]
              exact ⟨congrArg (fun z => some (Value.int z)) qr, N184⟩
          · -- no
            by_cases hc195_5 : (127 : Int64) < (w0_m4 p0 q1)
            · -- yes
              have K_186 : ∀ t, Steps p.tables e below (T173.setTop (mkF m 195 #[.val (.int p0), .val (.long q1), .second, .val (.long q2), .second, .val (.int p3), .val (.int (w0_m1 p0)), .val (.int (w0_m2 p0)), .val (.int (p3 &&& (3 : Int32))), .val (.long (w0_m3 q1 q2 p3)), .second, .val (.long (w0_m4 p0 q1)), .second, .val (.long (w0_m5 p0 q1 q2 p3)), .second, .val (.ref ob2), .val (.ref ob1), .val (.ref b165), .val (.ref b170), .val (.int (w0_6 p3)), .unset] [(.long (w0_m4 p0 q1)), (.ref b165)])) t → Steps p.tables e below S0 t := K180
              obtain ⟨_, _, ⟨T187, L187, k187, n187⟩, -, X187, ⟨Lc187, hQ187, l187, y187, z187⟩, st187⟩ := Jvm.LawKit.callS X173 hx (y := (⟨"java/lang/Long", "valueOf", "(J)Ljava/lang/Long;"⟩ : MethodName)) hown (mvT hZ (hw _ (List.mem_of_getElem? (i := 43) rfl))) (mvT hZ (hw _ (List.mem_of_getElem? (i := 44) rfl))) (mvT hZ (hw _ (List.mem_of_getElem? (i := 45) rfl))) (mvT hZ (hw _ (List.mem_of_getElem? (i := 46) rfl))) (by decide) (backOf (W := 1) (rmLhi l Z a0 hw [] (w0_m4 p0 q1) T173.heap n0 Zs173 hc195_4 hc195_5) hZ (hw _ (List.mem_of_getElem? (i := 46) rfl)) (hw _ (List.mem_of_getElem? (i := 45) rfl)) (by decide) (by decide)) (g := (mkF m 195 #[.val (.int p0), .val (.long q1), .second, .val (.long q2), .second, .val (.int p3), .val (.int (w0_m1 p0)), .val (.int (w0_m2 p0)), .val (.int (p3 &&& (3 : Int32))), .val (.long (w0_m3 q1 q2 p3)), .second, .val (.long (w0_m4 p0 q1)), .second, .val (.long (w0_m5 p0 q1 q2 p3)), .second, .val (.ref ob2), .val (.ref ob1), .val (.ref b165), .val (.ref b170), .val (.int (w0_6 p3)), .unset] [(.long (w0_m4 p0 q1)), (.ref b165)])) rfl (by rw [hml]; rfl) (argsL := [(.long (w0_m4 p0 q1))]) (rest := [(.ref b165)]) (lenOf pd0_3 rfl) rfl (by show 2 * 0 + _ ≤ _; exact Nat.le_of_eq rfl) (hb hby at_195) (fun _ _ => ⟨rfl, rfl, (by decide : 2 + 1 ≤ 16), (by decide : 4 + 1 ≤ 128)⟩)
              dsimp only [Pt.U, Pt.locs, Pt.cells, Pt.slots] at X187 l187 y187 z187 st187 hQ187
              subst l187 y187 z187
              obtain ⟨b187_6, rfl, N187q, Kp187, lb_b187_6, Fn187_0, Fn187_1⟩ := hQ187
              have N187 := Fr.app N173 N187q
              have g_b187_6 : n0 ≤ b187_6 := Nat.le_trans Zs173 lb_b187_6
              have ne_ob1_b187_6 : ob1 ≠ b187_6 := Nat.ne_of_lt (Nat.lt_of_lt_of_le E_ob1__173.lt lb_b187_6)
              have ne_ob2_b187_6 : ob2 ≠ b187_6 := Nat.ne_of_lt (Nat.lt_of_lt_of_le E_ob2__173.lt lb_b187_6)
              have ne_oc_b187_6 : oc ≠ b187_6 := Nat.ne_of_lt (Nat.lt_of_lt_of_le Ar_oc__173.lt lb_b187_6)
              have ne_b165_b187_6 : b165 ≠ b187_6 := Nat.ne_of_lt (Nat.lt_of_lt_of_le Fn168_0__173.lt lb_b187_6)
              have ne_b170_b187_6 : b170 ≠ b187_6 := Nat.ne_of_lt (Nat.lt_of_lt_of_le Fn173_0.lt lb_b187_6)
              have OL187 := OL173.keep Kp187 all0
              have S_DocumentValue_Kind_NUMBER__187 := S_DocumentValue_Kind_NUMBER.ext OL187.2
              have S_DocumentValue_Kind_DATE__187 := S_DocumentValue_Kind_DATE.ext OL187.2
              have E_ob1__187 := E_ob1.ext OL187.2
              have E_ob2__187 := E_ob2.ext OL187.2
              have S_Long_LongCache_cache__187 := S_Long_LongCache_cache.ext OL187.2
              have Ar_oc__187 := Ar_oc.ext OL187.2
              have Fn168_0__187 := Fn168_0__173.keep Kp187
              have Fn168_1__187 := Fn168_1__173.keep Kp187 nin0
              have Fn168_2__187 := Fn168_2__173.keep Kp187 nin0
              have Fn173_0__187 := Fn173_0.keep Kp187
              have Fn173_1__187 := Fn173_1.keep Kp187 nin0
              have Fn173_2__187 := Fn173_2.keep Kp187 nin0
              have Zs187 : n0 ≤ T187.heap.size := Nat.le_trans Zs173 Kp187.1
              have K187 : ∀ t, Steps p.tables e below (T187.setTop (mkF m 198 #[.val (.int p0), .val (.long q1), .second, .val (.long q2), .second, .val (.int p3), .val (.int (w0_m1 p0)), .val (.int (w0_m2 p0)), .val (.int (p3 &&& (3 : Int32))), .val (.long (w0_m3 q1 q2 p3)), .second, .val (.long (w0_m4 p0 q1)), .second, .val (.long (w0_m5 p0 q1 q2 p3)), .second, .val (.ref ob2), .val (.ref ob1), .val (.ref b165), .val (.ref b170), .val (.int (w0_6 p3)), .unset] [(.ref b187_6), (.ref b165)])) t → Steps p.tables e below S0 t := fun t k => K_186 t (st187 t k)
              have K_188 : ∀ t, Steps p.tables e below (T187.setTop (mkF m 198 #[.val (.int p0), .val (.long q1), .second, .val (.long q2), .second, .val (.int p3), .val (.int (w0_m1 p0)), .val (.int (w0_m2 p0)), .val (.int (p3 &&& (3 : Int32))), .val (.long (w0_m3 q1 q2 p3)), .second, .val (.long (w0_m4 p0 q1)), .second, .val (.long (w0_m5 p0 q1 q2 p3)), .second, .val (.ref ob2), .val (.ref ob1), .val (.ref b165), .val (.ref b170), .val (.int (w0_6 p3)), .unset] [(.ref b187_6), (.ref b165)])) t → Steps p.tables e below S0 t := K187
              obtain ⟨cq189, kq189, q189a, q189b, q189c⟩ := isOf hZ rfl Fn168_0__187
              obtain ⟨_, _, ⟨T189, L189, k189, n189⟩, -, X189, ⟨Lc189, hQ189, l189, y189, z189⟩, st189⟩ := X187.virtualBack hx (y := (⟨"com/example/acervo/acervo/index/DocumentValue", "equals", "(Ljava/lang/Object;)Z"⟩ : MethodName)) (z := (⟨"com/example/acervo/acervo/index/DocumentValue", "equals", "(Ljava/lang/Object;)Z"⟩ : MethodName)) hown (mvT hZ (hw _ (List.mem_of_getElem? (i := 23) rfl))) (mvT hZ (hw _ (List.mem_of_getElem? (i := 24) rfl))) (notFace_of_selects (args := #[]) (mvT hZ (hw _ (List.mem_of_getElem? (i := 26) rfl)))) (mvT hZ (hw _ (List.mem_of_getElem? (i := 26) rfl))) (mvT hZ (hw _ (List.mem_of_getElem? (i := 25) rfl))) (by decide) (backOf (W := 0) (rm9 l Z a0 hw [] b165 b187_6 T187.heap n0 Zs187 Fn187_0) hZ (hw _ (List.mem_of_getElem? (i := 27) rfl)) (hw _ (List.mem_of_getElem? (i := 5) rfl)) (by decide) (by decide)) q189a q189c (g := (mkF m 198 #[.val (.int p0), .val (.long q1), .second, .val (.long q2), .second, .val (.int p3), .val (.int (w0_m1 p0)), .val (.int (w0_m2 p0)), .val (.int (p3 &&& (3 : Int32))), .val (.long (w0_m3 q1 q2 p3)), .second, .val (.long (w0_m4 p0 q1)), .second, .val (.long (w0_m5 p0 q1 q2 p3)), .second, .val (.ref ob2), .val (.ref ob1), .val (.ref b165), .val (.ref b170), .val (.int (w0_6 p3)), .unset] [(.ref b187_6), (.ref b165)])) rfl (by rw [hml]; rfl) (Steps.refl _) (argsL := [(.ref b187_6)]) (rest := []) (lenOf pd0_2 rfl) rfl (by show 2 * 0 + _ ≤ _; exact Nat.le_of_eq rfl) (hb hby at_198) (fun _ _ => ⟨rfl, rfl, (by decide : 3 + 0 ≤ 16), (by decide : 5 + 0 ≤ 128)⟩)
              dsimp only [Pt.U, Pt.locs, Pt.cells, Pt.slots] at X189 l189 y189 z189 st189 hQ189
              subst l189 y189 z189
              obtain ⟨rfl, N189q, e189⟩ := hQ189
              have N189 := Fr.app N187 N189q
              have K189 : ∀ t, Steps p.tables e below (T189.setTop (mkF m 201 #[.val (.int p0), .val (.long q1), .second, .val (.long q2), .second, .val (.int p3), .val (.int (w0_m1 p0)), .val (.int (w0_m2 p0)), .val (.int (p3 &&& (3 : Int32))), .val (.long (w0_m3 q1 q2 p3)), .second, .val (.long (w0_m4 p0 q1)), .second, .val (.long (w0_m5 p0 q1 q2 p3)), .second, .val (.ref ob2), .val (.ref ob1), .val (.ref b165), .val (.ref b170), .val (.int (w0_6 p3)), .unset] [(.int (0 : Int32))])) t → Steps p.tables e below S0 t := fun t k => K_188 t (st189.trans k)
              have K190 : ∀ t, Steps p.tables e below (T189.setTop (mkF m 209 #[.val (.int p0), .val (.long q1), .second, .val (.long q2), .second, .val (.int p3), .val (.int (w0_m1 p0)), .val (.int (w0_m2 p0)), .val (.int (p3 &&& (3 : Int32))), .val (.long (w0_m3 q1 q2 p3)), .second, .val (.long (w0_m4 p0 q1)), .second, .val (.long (w0_m5 p0 q1 q2 p3)), .second, .val (.ref ob2), .val (.ref ob1), .val (.ref b165), .val (.ref b170), .val (.int (w0_6 p3)), .unset] [(.int (1 : Int32))])) t → Steps p.tables e below S0 t := fun t k => K189 t (by
                refine XS.ifNo X189.here hx rfl (hb hby at_201) rfl (XT.i0_ne_f (by decide)) ?_
                show Steps p.tables e below (T189.setTop (mkF m 204 #[.val (.int p0), .val (.long q1), .second, .val (.long q2), .second, .val (.int p3), .val (.int (w0_m1 p0)), .val (.int (w0_m2 p0)), .val (.int (p3 &&& (3 : Int32))), .val (.long (w0_m3 q1 q2 p3)), .second, .val (.long (w0_m4 p0 q1)), .second, .val (.long (w0_m5 p0 q1 q2 p3)), .second, .val (.ref ob2), .val (.ref ob1), .val (.ref b165), .val (.ref b170), .val (.int (w0_6 p3)), .unset] [])) _
                refine XS.iconst X189.here hx rfl (hb hby at_204) ?_
                show Steps p.tables e below (T189.setTop (mkF m 205 #[.val (.int p0), .val (.long q1), .second, .val (.long q2), .second, .val (.int p3), .val (.int (w0_m1 p0)), .val (.int (w0_m2 p0)), .val (.int (p3 &&& (3 : Int32))), .val (.long (w0_m3 q1 q2 p3)), .second, .val (.long (w0_m4 p0 q1)), .second, .val (.long (w0_m5 p0 q1 q2 p3)), .second, .val (.ref ob2), .val (.ref ob1), .val (.ref b165), .val (.ref b170), .val (.int (w0_6 p3)), .unset] [(.int (1 : Int32))])) _
                refine XS.goto X189.here hx rfl (pc0 := 205) (pc' := 209) rfl (hb hby at_205) (by decide) (by decide) ?_
                show Steps p.tables e below (T189.setTop (mkF m 209 #[.val (.int p0), .val (.long q1), .second, .val (.long q2), .second, .val (.int p3), .val (.int (w0_m1 p0)), .val (.int (w0_m2 p0)), .val (.int (p3 &&& (3 : Int32))), .val (.long (w0_m3 q1 q2 p3)), .second, .val (.long (w0_m4 p0 q1)), .second, .val (.long (w0_m5 p0 q1 q2 p3)), .second, .val (.ref ob2), .val (.ref ob1), .val (.ref b165), .val (.ref b170), .val (.int (w0_6 p3)), .unset] [(.int (1 : Int32))])) _
                exact k)
              obtain ⟨fs, hr, hrun, hended, hW, hsame⟩ := X189.leave (v := some (.int (1 : Int32))) (fun h => by rw [Bd.returns] at h; cases h) hlk
              refine ⟨_, _, ?_, hrun, hended, _, _, rfl, ?_, ⟨_, rfl⟩, hW, hsame.mono (by decide) (by decide)⟩
              · rw [← hS0]; exact K190 _ (retN X189 hx (t := .boolean) Bd.returns (by simp) (hb hby at_209) hr)
              · show Q0 Z p0 q1 q2 p3 ob1 ob2 oc cc h0 n0 _ T189.heap _
                rw [e189]
                have qr : (1 : Int32) = (w0_r10 p0 q1 q2 p3) := by unfold w0_r10; rw [if_neg hc100_0, if_pos hc116_1, if_neg hc167_2, if_pos hc188_3]
                exact ⟨congrArg (fun z => some (Value.int z)) qr, N189⟩
            · -- no
              obtain ⟨oe, hin191, hat191, Eo191⟩ := hcache (w0_m4 p0 q1) hc195_4 hc195_5
              have Ee191 := Eo191.ext OL173.2
              have K_192 : ∀ t, Steps p.tables e below (T173.setTop (mkF m 195 #[.val (.int p0), .val (.long q1), .second, .val (.long q2), .second, .val (.int p3), .val (.int (w0_m1 p0)), .val (.int (w0_m2 p0)), .val (.int (p3 &&& (3 : Int32))), .val (.long (w0_m3 q1 q2 p3)), .second, .val (.long (w0_m4 p0 q1)), .second, .val (.long (w0_m5 p0 q1 q2 p3)), .second, .val (.ref ob2), .val (.ref ob1), .val (.ref b165), .val (.ref b170), .val (.int (w0_6 p3)), .unset] [(.long (w0_m4 p0 q1)), (.ref b165)])) t → Steps p.tables e below S0 t := K180
              obtain ⟨_, _, ⟨T193, L193, k193, n193⟩, -, X193, ⟨Lc193, hQ193, l193, y193, z193⟩, st193⟩ := Jvm.LawKit.callS X173 hx (y := (⟨"java/lang/Long", "valueOf", "(J)Ljava/lang/Long;"⟩ : MethodName)) hown (mvT hZ (hw _ (List.mem_of_getElem? (i := 43) rfl))) (mvT hZ (hw _ (List.mem_of_getElem? (i := 44) rfl))) (mvT hZ (hw _ (List.mem_of_getElem? (i := 45) rfl))) (mvT hZ (hw _ (List.mem_of_getElem? (i := 46) rfl))) (by decide) (backOf (W := 1) (rmLca l Z a0 hw [] (w0_m4 p0 q1) oc cc oe T173.heap n0 Zs173 S_Long_LongCache_cache__173 Ar_oc__173 hc195_4 hc195_5 hin191 hat191) hZ (hw _ (List.mem_of_getElem? (i := 46) rfl)) (hw _ (List.mem_of_getElem? (i := 45) rfl)) (by decide) (by decide)) (g := (mkF m 195 #[.val (.int p0), .val (.long q1), .second, .val (.long q2), .second, .val (.int p3), .val (.int (w0_m1 p0)), .val (.int (w0_m2 p0)), .val (.int (p3 &&& (3 : Int32))), .val (.long (w0_m3 q1 q2 p3)), .second, .val (.long (w0_m4 p0 q1)), .second, .val (.long (w0_m5 p0 q1 q2 p3)), .second, .val (.ref ob2), .val (.ref ob1), .val (.ref b165), .val (.ref b170), .val (.int (w0_6 p3)), .unset] [(.long (w0_m4 p0 q1)), (.ref b165)])) rfl (by rw [hml]; rfl) (argsL := [(.long (w0_m4 p0 q1))]) (rest := [(.ref b165)]) (lenOf pd0_3 rfl) rfl (by show 2 * 0 + _ ≤ _; exact Nat.le_of_eq rfl) (hb hby at_195) (fun _ _ => ⟨rfl, rfl, (by decide : 2 + 0 ≤ 16), (by decide : 4 + 0 ≤ 128)⟩)
              dsimp only [Pt.U, Pt.locs, Pt.cells, Pt.slots] at X193 l193 y193 z193 st193 hQ193
              subst l193 y193 z193
              obtain ⟨rfl, N193q, e193⟩ := hQ193
              have N193 := Fr.app N173 N193q
              have K193 : ∀ t, Steps p.tables e below (T193.setTop (mkF m 198 #[.val (.int p0), .val (.long q1), .second, .val (.long q2), .second, .val (.int p3), .val (.int (w0_m1 p0)), .val (.int (w0_m2 p0)), .val (.int (p3 &&& (3 : Int32))), .val (.long (w0_m3 q1 q2 p3)), .second, .val (.long (w0_m4 p0 q1)), .second, .val (.long (w0_m5 p0 q1 q2 p3)), .second, .val (.ref ob2), .val (.ref ob1), .val (.ref b165), .val (.ref b170), .val (.int (w0_6 p3)), .unset] [(.ref oe), (.ref b165)])) t → Steps p.tables e below S0 t := fun t k => K_192 t (st193 t k)
              have K_194 : ∀ t, Steps p.tables e below (T193.setTop (mkF m 198 #[.val (.int p0), .val (.long q1), .second, .val (.long q2), .second, .val (.int p3), .val (.int (w0_m1 p0)), .val (.int (w0_m2 p0)), .val (.int (p3 &&& (3 : Int32))), .val (.long (w0_m3 q1 q2 p3)), .second, .val (.long (w0_m4 p0 q1)), .second, .val (.long (w0_m5 p0 q1 q2 p3)), .second, .val (.ref ob2), .val (.ref ob1), .val (.ref b165), .val (.ref b170), .val (.int (w0_6 p3)), .unset] [(.ref oe), (.ref b165)])) t → Steps p.tables e below S0 t := K193
              obtain ⟨cq195, kq195, q195a, q195b, q195c⟩ := isOf hZ e193 Fn168_0__173
              obtain ⟨_, _, ⟨T195, L195, k195, n195⟩, -, X195, ⟨Lc195, hQ195, l195, y195, z195⟩, st195⟩ := X193.virtualBack hx (y := (⟨"com/example/acervo/acervo/index/DocumentValue", "equals", "(Ljava/lang/Object;)Z"⟩ : MethodName)) (z := (⟨"com/example/acervo/acervo/index/DocumentValue", "equals", "(Ljava/lang/Object;)Z"⟩ : MethodName)) hown (mvT hZ (hw _ (List.mem_of_getElem? (i := 23) rfl))) (mvT hZ (hw _ (List.mem_of_getElem? (i := 24) rfl))) (notFace_of_selects (args := #[]) (mvT hZ (hw _ (List.mem_of_getElem? (i := 26) rfl)))) (mvT hZ (hw _ (List.mem_of_getElem? (i := 26) rfl))) (mvT hZ (hw _ (List.mem_of_getElem? (i := 25) rfl))) (by decide) (backOf (W := 0) (rm9 l Z a0 hw [] b165 oe T173.heap n0 Zs173 Ee191) hZ (hw _ (List.mem_of_getElem? (i := 27) rfl)) (hw _ (List.mem_of_getElem? (i := 5) rfl)) (by decide) (by decide)) q195a q195c (g := (mkF m 198 #[.val (.int p0), .val (.long q1), .second, .val (.long q2), .second, .val (.int p3), .val (.int (w0_m1 p0)), .val (.int (w0_m2 p0)), .val (.int (p3 &&& (3 : Int32))), .val (.long (w0_m3 q1 q2 p3)), .second, .val (.long (w0_m4 p0 q1)), .second, .val (.long (w0_m5 p0 q1 q2 p3)), .second, .val (.ref ob2), .val (.ref ob1), .val (.ref b165), .val (.ref b170), .val (.int (w0_6 p3)), .unset] [(.ref oe), (.ref b165)])) rfl (by rw [hml]; rfl) (Steps.refl _) (argsL := [(.ref oe)]) (rest := []) (lenOf pd0_2 rfl) rfl (by show 2 * 0 + _ ≤ _; exact Nat.le_of_eq rfl) (hb hby at_198) (fun _ _ => ⟨rfl, e193, (by decide : 2 + 0 ≤ 16), (by decide : 4 + 0 ≤ 128)⟩)
              dsimp only [Pt.U, Pt.locs, Pt.cells, Pt.slots] at X195 l195 y195 z195 st195 hQ195
              subst l195 y195 z195
              obtain ⟨rfl, N195q, e195⟩ := hQ195
              have N195 := Fr.app N193 N195q
              have K195 : ∀ t, Steps p.tables e below (T195.setTop (mkF m 201 #[.val (.int p0), .val (.long q1), .second, .val (.long q2), .second, .val (.int p3), .val (.int (w0_m1 p0)), .val (.int (w0_m2 p0)), .val (.int (p3 &&& (3 : Int32))), .val (.long (w0_m3 q1 q2 p3)), .second, .val (.long (w0_m4 p0 q1)), .second, .val (.long (w0_m5 p0 q1 q2 p3)), .second, .val (.ref ob2), .val (.ref ob1), .val (.ref b165), .val (.ref b170), .val (.int (w0_6 p3)), .unset] [(.int (0 : Int32))])) t → Steps p.tables e below S0 t := fun t k => K_194 t (st195.trans k)
              have K196 : ∀ t, Steps p.tables e below (T195.setTop (mkF m 209 #[.val (.int p0), .val (.long q1), .second, .val (.long q2), .second, .val (.int p3), .val (.int (w0_m1 p0)), .val (.int (w0_m2 p0)), .val (.int (p3 &&& (3 : Int32))), .val (.long (w0_m3 q1 q2 p3)), .second, .val (.long (w0_m4 p0 q1)), .second, .val (.long (w0_m5 p0 q1 q2 p3)), .second, .val (.ref ob2), .val (.ref ob1), .val (.ref b165), .val (.ref b170), .val (.int (w0_6 p3)), .unset] [(.int (1 : Int32))])) t → Steps p.tables e below S0 t := fun t k => K195 t (by
                refine XS.ifNo X195.here hx rfl (hb hby at_201) rfl (XT.i0_ne_f (by decide)) ?_
                show Steps p.tables e below (T195.setTop (mkF m 204 #[.val (.int p0), .val (.long q1), .second, .val (.long q2), .second, .val (.int p3), .val (.int (w0_m1 p0)), .val (.int (w0_m2 p0)), .val (.int (p3 &&& (3 : Int32))), .val (.long (w0_m3 q1 q2 p3)), .second, .val (.long (w0_m4 p0 q1)), .second, .val (.long (w0_m5 p0 q1 q2 p3)), .second, .val (.ref ob2), .val (.ref ob1), .val (.ref b165), .val (.ref b170), .val (.int (w0_6 p3)), .unset] [])) _
                refine XS.iconst X195.here hx rfl (hb hby at_204) ?_
                show Steps p.tables e below (T195.setTop (mkF m 205 #[.val (.int p0), .val (.long q1), .second, .val (.long q2), .second, .val (.int p3), .val (.int (w0_m1 p0)), .val (.int (w0_m2 p0)), .val (.int (p3 &&& (3 : Int32))), .val (.long (w0_m3 q1 q2 p3)), .second, .val (.long (w0_m4 p0 q1)), .second, .val (.long (w0_m5 p0 q1 q2 p3)), .second, .val (.ref ob2), .val (.ref ob1), .val (.ref b165), .val (.ref b170), .val (.int (w0_6 p3)), .unset] [(.int (1 : Int32))])) _
                refine XS.goto X195.here hx rfl (pc0 := 205) (pc' := 209) rfl (hb hby at_205) (by decide) (by decide) ?_
                show Steps p.tables e below (T195.setTop (mkF m 209 #[.val (.int p0), .val (.long q1), .second, .val (.long q2), .second, .val (.int p3), .val (.int (w0_m1 p0)), .val (.int (w0_m2 p0)), .val (.int (p3 &&& (3 : Int32))), .val (.long (w0_m3 q1 q2 p3)), .second, .val (.long (w0_m4 p0 q1)), .second, .val (.long (w0_m5 p0 q1 q2 p3)), .second, .val (.ref ob2), .val (.ref ob1), .val (.ref b165), .val (.ref b170), .val (.int (w0_6 p3)), .unset] [(.int (1 : Int32))])) _
                exact k)
              obtain ⟨fs, hr, hrun, hended, hW, hsame⟩ := X195.leave (v := some (.int (1 : Int32))) (fun h => by rw [Bd.returns] at h; cases h) hlk
              refine ⟨_, _, ?_, hrun, hended, _, _, rfl, ?_, ⟨_, rfl⟩, hW, hsame.mono (by decide) (by decide)⟩
              · rw [← hS0]; exact K196 _ (retN X195 hx (t := .boolean) Bd.returns (by simp) (hb hby at_209) hr)
              · show Q0 Z p0 q1 q2 p3 ob1 ob2 oc cc h0 n0 _ T195.heap _
                rw [e195]
                have qr : (1 : Int32) = (w0_r10 p0 q1 q2 p3) := by unfold w0_r10; rw [if_neg hc100_0, if_pos hc116_1, if_neg hc167_2, if_pos hc188_3]
                exact ⟨congrArg (fun z => some (Value.int z)) qr, N195⟩
        · -- no
          have K197 : ∀ t, Steps p.tables e below (T173.setTop (mkF m 213 #[.val (.int p0), .val (.long q1), .second, .val (.long q2), .second, .val (.int p3), .val (.int (w0_m1 p0)), .val (.int (w0_m2 p0)), .val (.int (p3 &&& (3 : Int32))), .val (.long (w0_m3 q1 q2 p3)), .second, .val (.long (w0_m4 p0 q1)), .second, .val (.long (w0_m5 p0 q1 q2 p3)), .second, .val (.ref ob2), .val (.ref ob1), .val (.ref b165), .val (.ref b170), .val (.int (w0_6 p3)), .unset] [(.int (3 : Int32)), (.int (w0_6 p3))])) t → Steps p.tables e below S0 t := fun t k => K179 t (by
            refine XS.icmpYes X173.here hx rfl (pc0 := 188) (pc' := 210) rfl (hb hby at_188) rfl (XT.ii_ne_t hc188_3) (by decide) (by decide) ?_
            show Steps p.tables e below (T173.setTop (mkF m 210 #[.val (.int p0), .val (.long q1), .second, .val (.long q2), .second, .val (.int p3), .val (.int (w0_m1 p0)), .val (.int (w0_m2 p0)), .val (.int (p3 &&& (3 : Int32))), .val (.long (w0_m3 q1 q2 p3)), .second, .val (.long (w0_m4 p0 q1)), .second, .val (.long (w0_m5 p0 q1 q2 p3)), .second, .val (.ref ob2), .val (.ref ob1), .val (.ref b165), .val (.ref b170), .val (.int (w0_6 p3)), .unset] [])) _
            refine XS.iload X173.here hx rfl (hb hby at_210) rfl ?_
            show Steps p.tables e below (T173.setTop (mkF m 212 #[.val (.int p0), .val (.long q1), .second, .val (.long q2), .second, .val (.int p3), .val (.int (w0_m1 p0)), .val (.int (w0_m2 p0)), .val (.int (p3 &&& (3 : Int32))), .val (.long (w0_m3 q1 q2 p3)), .second, .val (.long (w0_m4 p0 q1)), .second, .val (.long (w0_m5 p0 q1 q2 p3)), .second, .val (.ref ob2), .val (.ref ob1), .val (.ref b165), .val (.ref b170), .val (.int (w0_6 p3)), .unset] [(.int (w0_6 p3))])) _
            refine XS.iconst X173.here hx rfl (hb hby at_212) ?_
            show Steps p.tables e below (T173.setTop (mkF m 213 #[.val (.int p0), .val (.long q1), .second, .val (.long q2), .second, .val (.int p3), .val (.int (w0_m1 p0)), .val (.int (w0_m2 p0)), .val (.int (p3 &&& (3 : Int32))), .val (.long (w0_m3 q1 q2 p3)), .second, .val (.long (w0_m4 p0 q1)), .second, .val (.long (w0_m5 p0 q1 q2 p3)), .second, .val (.ref ob2), .val (.ref ob1), .val (.ref b165), .val (.ref b170), .val (.int (w0_6 p3)), .unset] [(.int (3 : Int32)), (.int (w0_6 p3))])) _
            exact k)
          by_cases hc213_4 : (w0_6 p3) = (3 : Int32)
          · -- yes
            have K198 : ∀ t, Steps p.tables e below (T173.setTop (mkF m 220 #[.val (.int p0), .val (.long q1), .second, .val (.long q2), .second, .val (.int p3), .val (.int (w0_m1 p0)), .val (.int (w0_m2 p0)), .val (.int (p3 &&& (3 : Int32))), .val (.long (w0_m3 q1 q2 p3)), .second, .val (.long (w0_m4 p0 q1)), .second, .val (.long (w0_m5 p0 q1 q2 p3)), .second, .val (.ref ob2), .val (.ref ob1), .val (.ref b165), .val (.ref b170), .val (.int (w0_6 p3)), .unset] [(.ref b165), (.ref b165)])) t → Steps p.tables e below S0 t := fun t k => K197 t (by
              refine XS.icmpNo X173.here hx rfl (hb hby at_213) rfl (XT.ii_ne_f hc213_4) ?_
              show Steps p.tables e below (T173.setTop (mkF m 216 #[.val (.int p0), .val (.long q1), .second, .val (.long q2), .second, .val (.int p3), .val (.int (w0_m1 p0)), .val (.int (w0_m2 p0)), .val (.int (p3 &&& (3 : Int32))), .val (.long (w0_m3 q1 q2 p3)), .second, .val (.long (w0_m4 p0 q1)), .second, .val (.long (w0_m5 p0 q1 q2 p3)), .second, .val (.ref ob2), .val (.ref ob1), .val (.ref b165), .val (.ref b170), .val (.int (w0_6 p3)), .unset] [])) _
              refine XS.aload X173.here hx rfl (hb hby at_216) rfl rfl ?_
              show Steps p.tables e below (T173.setTop (mkF m 218 #[.val (.int p0), .val (.long q1), .second, .val (.long q2), .second, .val (.int p3), .val (.int (w0_m1 p0)), .val (.int (w0_m2 p0)), .val (.int (p3 &&& (3 : Int32))), .val (.long (w0_m3 q1 q2 p3)), .second, .val (.long (w0_m4 p0 q1)), .second, .val (.long (w0_m5 p0 q1 q2 p3)), .second, .val (.ref ob2), .val (.ref ob1), .val (.ref b165), .val (.ref b170), .val (.int (w0_6 p3)), .unset] [(.ref b165)])) _
              refine XS.aload X173.here hx rfl (hb hby at_218) rfl rfl ?_
              show Steps p.tables e below (T173.setTop (mkF m 220 #[.val (.int p0), .val (.long q1), .second, .val (.long q2), .second, .val (.int p3), .val (.int (w0_m1 p0)), .val (.int (w0_m2 p0)), .val (.int (p3 &&& (3 : Int32))), .val (.long (w0_m3 q1 q2 p3)), .second, .val (.long (w0_m4 p0 q1)), .second, .val (.long (w0_m5 p0 q1 q2 p3)), .second, .val (.ref ob2), .val (.ref ob1), .val (.ref b165), .val (.ref b170), .val (.int (w0_6 p3)), .unset] [(.ref b165), (.ref b165)])) _
              exact k)
            have K_199 : ∀ t, Steps p.tables e below (T173.setTop (mkF m 220 #[.val (.int p0), .val (.long q1), .second, .val (.long q2), .second, .val (.int p3), .val (.int (w0_m1 p0)), .val (.int (w0_m2 p0)), .val (.int (p3 &&& (3 : Int32))), .val (.long (w0_m3 q1 q2 p3)), .second, .val (.long (w0_m4 p0 q1)), .second, .val (.long (w0_m5 p0 q1 q2 p3)), .second, .val (.ref ob2), .val (.ref ob1), .val (.ref b165), .val (.ref b170), .val (.int (w0_6 p3)), .unset] [(.ref b165), (.ref b165)])) t → Steps p.tables e below S0 t := K198
            obtain ⟨cq200, kq200, q200a, q200b, q200c⟩ := isOf hZ rfl Fn168_0__173
            obtain ⟨_, _, ⟨T200, L200, k200, n200⟩, -, X200, ⟨Lc200, hQ200, l200, y200, z200⟩, st200⟩ := X173.virtualBack hx (y := (⟨"com/example/acervo/acervo/index/DocumentValue", "equals", "(Ljava/lang/Object;)Z"⟩ : MethodName)) (z := (⟨"com/example/acervo/acervo/index/DocumentValue", "equals", "(Ljava/lang/Object;)Z"⟩ : MethodName)) hown (mvT hZ (hw _ (List.mem_of_getElem? (i := 23) rfl))) (mvT hZ (hw _ (List.mem_of_getElem? (i := 24) rfl))) (notFace_of_selects (args := #[]) (mvT hZ (hw _ (List.mem_of_getElem? (i := 26) rfl)))) (mvT hZ (hw _ (List.mem_of_getElem? (i := 26) rfl))) (mvT hZ (hw _ (List.mem_of_getElem? (i := 25) rfl))) (by decide) (backOf (W := 0) (rm6 l Z a0 hw [] b165 b165 ob2 (w0_m4 p0 q1) (w0_m4 p0 q1) T173.heap n0 Zs173 Fn168_0__173 Fn168_1__173 Fn168_2__173 Fn168_1__173 Fn168_2__173) hZ (hw _ (List.mem_of_getElem? (i := 27) rfl)) (hw _ (List.mem_of_getElem? (i := 5) rfl)) (by decide) (by decide)) q200a q200c (g := (mkF m 220 #[.val (.int p0), .val (.long q1), .second, .val (.long q2), .second, .val (.int p3), .val (.int (w0_m1 p0)), .val (.int (w0_m2 p0)), .val (.int (p3 &&& (3 : Int32))), .val (.long (w0_m3 q1 q2 p3)), .second, .val (.long (w0_m4 p0 q1)), .second, .val (.long (w0_m5 p0 q1 q2 p3)), .second, .val (.ref ob2), .val (.ref ob1), .val (.ref b165), .val (.ref b170), .val (.int (w0_6 p3)), .unset] [(.ref b165), (.ref b165)])) rfl (by rw [hml]; rfl) (Steps.refl _) (argsL := [(.ref b165)]) (rest := []) (lenOf pd0_2 rfl) rfl (by show 2 * 0 + _ ≤ _; exact Nat.le_of_eq rfl) (hb hby at_220) (fun _ _ => ⟨rfl, rfl, (by decide : 2 + 0 ≤ 16), (by decide : 4 + 0 ≤ 128)⟩)
            dsimp only [Pt.U, Pt.locs, Pt.cells, Pt.slots] at X200 l200 y200 z200 st200 hQ200
            subst l200 y200 z200
            obtain ⟨rfl, N200q, e200⟩ := hQ200
            have N200 := Fr.app N173 N200q
            have K200 : ∀ t, Steps p.tables e below (T200.setTop (mkF m 223 #[.val (.int p0), .val (.long q1), .second, .val (.long q2), .second, .val (.int p3), .val (.int (w0_m1 p0)), .val (.int (w0_m2 p0)), .val (.int (p3 &&& (3 : Int32))), .val (.long (w0_m3 q1 q2 p3)), .second, .val (.long (w0_m4 p0 q1)), .second, .val (.long (w0_m5 p0 q1 q2 p3)), .second, .val (.ref ob2), .val (.ref ob1), .val (.ref b165), .val (.ref b170), .val (.int (w0_6 p3)), .unset] [(.int (w6_r1 (w0_m4 p0 q1) (w0_m4 p0 q1)))])) t → Steps p.tables e below S0 t := fun t k => K_199 t (st200.trans k)
            obtain ⟨fs, hr, hrun, hended, hW, hsame⟩ := X200.leave (v := some (.int (nar .boolean (w6_r1 (w0_m4 p0 q1) (w0_m4 p0 q1))))) (fun h => by rw [Bd.returns] at h; cases h) hlk
            refine ⟨_, _, ?_, hrun, hended, _, _, rfl, ?_, ⟨_, rfl⟩, hW, hsame.mono (by decide) (by decide)⟩
            · rw [← hS0]; exact K200 _ (retN X200 hx (t := .boolean) Bd.returns (by simp) (hb hby at_223) hr)
            · show Q0 Z p0 q1 q2 p3 ob1 ob2 oc cc h0 n0 _ T200.heap _
              rw [e200]
              have qr : (nar .boolean (w6_r1 (w0_m4 p0 q1) (w0_m4 p0 q1))) = (w0_r10 p0 q1 q2 p3) := by unfold w0_r10; rw [if_neg hc100_0, if_pos hc116_1, if_neg hc167_2, if_neg hc188_3, if_pos hc213_4]
              exact ⟨congrArg (fun z => some (Value.int z)) qr, N200⟩
          · -- no
            have K201 : ∀ t, Steps p.tables e below (T173.setTop (mkF m 228 #[.val (.int p0), .val (.long q1), .second, .val (.long q2), .second, .val (.int p3), .val (.int (w0_m1 p0)), .val (.int (w0_m2 p0)), .val (.int (p3 &&& (3 : Int32))), .val (.long (w0_m3 q1 q2 p3)), .second, .val (.long (w0_m4 p0 q1)), .second, .val (.long (w0_m5 p0 q1 q2 p3)), .second, .val (.ref ob2), .val (.ref ob1), .val (.ref b165), .val (.ref b170), .val (.int (w0_6 p3)), .unset] [(.ref ob1), (.ref ob2)])) t → Steps p.tables e below S0 t := fun t k => K197 t (by
              refine XS.icmpYes X173.here hx rfl (pc0 := 213) (pc' := 224) rfl (hb hby at_213) rfl (XT.ii_ne_t hc213_4) (by decide) (by decide) ?_
              show Steps p.tables e below (T173.setTop (mkF m 224 #[.val (.int p0), .val (.long q1), .second, .val (.long q2), .second, .val (.int p3), .val (.int (w0_m1 p0)), .val (.int (w0_m2 p0)), .val (.int (p3 &&& (3 : Int32))), .val (.long (w0_m3 q1 q2 p3)), .second, .val (.long (w0_m4 p0 q1)), .second, .val (.long (w0_m5 p0 q1 q2 p3)), .second, .val (.ref ob2), .val (.ref ob1), .val (.ref b165), .val (.ref b170), .val (.int (w0_6 p3)), .unset] [])) _
              refine XS.aload X173.here hx rfl (hb hby at_224) rfl rfl ?_
              show Steps p.tables e below (T173.setTop (mkF m 226 #[.val (.int p0), .val (.long q1), .second, .val (.long q2), .second, .val (.int p3), .val (.int (w0_m1 p0)), .val (.int (w0_m2 p0)), .val (.int (p3 &&& (3 : Int32))), .val (.long (w0_m3 q1 q2 p3)), .second, .val (.long (w0_m4 p0 q1)), .second, .val (.long (w0_m5 p0 q1 q2 p3)), .second, .val (.ref ob2), .val (.ref ob1), .val (.ref b165), .val (.ref b170), .val (.int (w0_6 p3)), .unset] [(.ref ob2)])) _
              refine XS.aload X173.here hx rfl (hb hby at_226) rfl rfl ?_
              show Steps p.tables e below (T173.setTop (mkF m 228 #[.val (.int p0), .val (.long q1), .second, .val (.long q2), .second, .val (.int p3), .val (.int (w0_m1 p0)), .val (.int (w0_m2 p0)), .val (.int (p3 &&& (3 : Int32))), .val (.long (w0_m3 q1 q2 p3)), .second, .val (.long (w0_m4 p0 q1)), .second, .val (.long (w0_m5 p0 q1 q2 p3)), .second, .val (.ref ob2), .val (.ref ob1), .val (.ref b165), .val (.ref b170), .val (.int (w0_6 p3)), .unset] [(.ref ob1), (.ref ob2)])) _
              exact k)
            have K202 : ∀ t, Steps p.tables e below (T173.setTop (mkF m 250 #[.val (.int p0), .val (.long q1), .second, .val (.long q2), .second, .val (.int p3), .val (.int (w0_m1 p0)), .val (.int (w0_m2 p0)), .val (.int (p3 &&& (3 : Int32))), .val (.long (w0_m3 q1 q2 p3)), .second, .val (.long (w0_m4 p0 q1)), .second, .val (.long (w0_m5 p0 q1 q2 p3)), .second, .val (.ref ob2), .val (.ref ob1), .val (.ref b165), .val (.ref b170), .val (.int (w0_6 p3)), .val (.int (0 : Int32))] [(.ref b170), (.ref b165)])) t → Steps p.tables e below S0 t := fun t k => K201 t (by
              refine Jvm.RoadKit.acmp (g := (mkF m 228 #[.val (.int p0), .val (.long q1), .second, .val (.long q2), .second, .val (.int p3), .val (.int (w0_m1 p0)), .val (.int (w0_m2 p0)), .val (.int (p3 &&& (3 : Int32))), .val (.long (w0_m3 q1 q2 p3)), .second, .val (.long (w0_m4 p0 q1)), .second, .val (.long (w0_m5 p0 q1 q2 p3)), .second, .val (.ref ob2), .val (.ref ob1), .val (.ref b165), .val (.ref b170), .val (.int (w0_6 p3)), .unset] [(.ref ob1), (.ref ob2)])) X173 hx rfl rfl rfl (pc0 := 228) (pc' := 243) (same := false) rfl (hb hby at_228) rfl (decide_eq_false fun q => (Ne.symm ne_ob1_ob2) (Value.ref.inj q)) (by decide) (by decide) ?_
              show Steps p.tables e below (T173.setTop (mkF m 243 #[.val (.int p0), .val (.long q1), .second, .val (.long q2), .second, .val (.int p3), .val (.int (w0_m1 p0)), .val (.int (w0_m2 p0)), .val (.int (p3 &&& (3 : Int32))), .val (.long (w0_m3 q1 q2 p3)), .second, .val (.long (w0_m4 p0 q1)), .second, .val (.long (w0_m5 p0 q1 q2 p3)), .second, .val (.ref ob2), .val (.ref ob1), .val (.ref b165), .val (.ref b170), .val (.int (w0_6 p3)), .unset] [])) _
              refine XS.iconst X173.here hx rfl (hb hby at_243) ?_
              show Steps p.tables e below (T173.setTop (mkF m 244 #[.val (.int p0), .val (.long q1), .second, .val (.long q2), .second, .val (.int p3), .val (.int (w0_m1 p0)), .val (.int (w0_m2 p0)), .val (.int (p3 &&& (3 : Int32))), .val (.long (w0_m3 q1 q2 p3)), .second, .val (.long (w0_m4 p0 q1)), .second, .val (.long (w0_m5 p0 q1 q2 p3)), .second, .val (.ref ob2), .val (.ref ob1), .val (.ref b165), .val (.ref b170), .val (.int (w0_6 p3)), .unset] [(.int (0 : Int32))])) _
              refine XS.istore X173.here hx rfl (hb hby at_244) rfl (l' := #[.val (.int p0), .val (.long q1), .second, .val (.long q2), .second, .val (.int p3), .val (.int (w0_m1 p0)), .val (.int (w0_m2 p0)), .val (.int (p3 &&& (3 : Int32))), .val (.long (w0_m3 q1 q2 p3)), .second, .val (.long (w0_m4 p0 q1)), .second, .val (.long (w0_m5 p0 q1 q2 p3)), .second, .val (.ref ob2), .val (.ref ob1), .val (.ref b165), .val (.ref b170), .val (.int (w0_6 p3)), .val (.int (0 : Int32))]) rfl ?_
              show Steps p.tables e below (T173.setTop (mkF m 246 #[.val (.int p0), .val (.long q1), .second, .val (.long q2), .second, .val (.int p3), .val (.int (w0_m1 p0)), .val (.int (w0_m2 p0)), .val (.int (p3 &&& (3 : Int32))), .val (.long (w0_m3 q1 q2 p3)), .second, .val (.long (w0_m4 p0 q1)), .second, .val (.long (w0_m5 p0 q1 q2 p3)), .second, .val (.ref ob2), .val (.ref ob1), .val (.ref b165), .val (.ref b170), .val (.int (w0_6 p3)), .val (.int (0 : Int32))] [])) _
              refine XS.aload X173.here hx rfl (hb hby at_246) rfl rfl ?_
              show Steps p.tables e below (T173.setTop (mkF m 248 #[.val (.int p0), .val (.long q1), .second, .val (.long q2), .second, .val (.int p3), .val (.int (w0_m1 p0)), .val (.int (w0_m2 p0)), .val (.int (p3 &&& (3 : Int32))), .val (.long (w0_m3 q1 q2 p3)), .second, .val (.long (w0_m4 p0 q1)), .second, .val (.long (w0_m5 p0 q1 q2 p3)), .second, .val (.ref ob2), .val (.ref ob1), .val (.ref b165), .val (.ref b170), .val (.int (w0_6 p3)), .val (.int (0 : Int32))] [(.ref b165)])) _
              refine XS.aload X173.here hx rfl (hb hby at_248) rfl rfl ?_
              show Steps p.tables e below (T173.setTop (mkF m 250 #[.val (.int p0), .val (.long q1), .second, .val (.long q2), .second, .val (.int p3), .val (.int (w0_m1 p0)), .val (.int (w0_m2 p0)), .val (.int (p3 &&& (3 : Int32))), .val (.long (w0_m3 q1 q2 p3)), .second, .val (.long (w0_m4 p0 q1)), .second, .val (.long (w0_m5 p0 q1 q2 p3)), .second, .val (.ref ob2), .val (.ref ob1), .val (.ref b165), .val (.ref b170), .val (.int (w0_6 p3)), .val (.int (0 : Int32))] [(.ref b170), (.ref b165)])) _
              exact k)
            have K_203 : ∀ t, Steps p.tables e below (T173.setTop (mkF m 250 #[.val (.int p0), .val (.long q1), .second, .val (.long q2), .second, .val (.int p3), .val (.int (w0_m1 p0)), .val (.int (w0_m2 p0)), .val (.int (p3 &&& (3 : Int32))), .val (.long (w0_m3 q1 q2 p3)), .second, .val (.long (w0_m4 p0 q1)), .second, .val (.long (w0_m5 p0 q1 q2 p3)), .second, .val (.ref ob2), .val (.ref ob1), .val (.ref b165), .val (.ref b170), .val (.int (w0_6 p3)), .val (.int (0 : Int32))] [(.ref b170), (.ref b165)])) t → Steps p.tables e below S0 t := K202
            obtain ⟨cq204, kq204, q204a, q204b, q204c⟩ := isOf hZ rfl Fn168_0__173
            obtain ⟨_, _, ⟨T204, L204, k204, n204⟩, -, X204, ⟨Lc204, hQ204, l204, y204, z204⟩, st204⟩ := X173.virtualBack hx (y := (⟨"com/example/acervo/acervo/index/DocumentValue", "equals", "(Ljava/lang/Object;)Z"⟩ : MethodName)) (z := (⟨"com/example/acervo/acervo/index/DocumentValue", "equals", "(Ljava/lang/Object;)Z"⟩ : MethodName)) hown (mvT hZ (hw _ (List.mem_of_getElem? (i := 23) rfl))) (mvT hZ (hw _ (List.mem_of_getElem? (i := 24) rfl))) (notFace_of_selects (args := #[]) (mvT hZ (hw _ (List.mem_of_getElem? (i := 26) rfl)))) (mvT hZ (hw _ (List.mem_of_getElem? (i := 26) rfl))) (mvT hZ (hw _ (List.mem_of_getElem? (i := 25) rfl))) (by decide) (backOf (W := 0) (rm7 l Z a0 hw [] b165 b170 ob2 ob1 (w0_m4 p0 q1) (w0_m5 p0 q1 q2 p3) T173.heap n0 Zs173 Fn173_0 Fn168_1__173 Fn168_2__173 Fn173_1 Fn173_2 (Ne.symm ne_ob1_ob2)) hZ (hw _ (List.mem_of_getElem? (i := 27) rfl)) (hw _ (List.mem_of_getElem? (i := 5) rfl)) (by decide) (by decide)) q204a q204c (g := (mkF m 250 #[.val (.int p0), .val (.long q1), .second, .val (.long q2), .second, .val (.int p3), .val (.int (w0_m1 p0)), .val (.int (w0_m2 p0)), .val (.int (p3 &&& (3 : Int32))), .val (.long (w0_m3 q1 q2 p3)), .second, .val (.long (w0_m4 p0 q1)), .second, .val (.long (w0_m5 p0 q1 q2 p3)), .second, .val (.ref ob2), .val (.ref ob1), .val (.ref b165), .val (.ref b170), .val (.int (w0_6 p3)), .val (.int (0 : Int32))] [(.ref b170), (.ref b165)])) rfl (by rw [hml]; rfl) (Steps.refl _) (argsL := [(.ref b170)]) (rest := []) (lenOf pd0_2 rfl) rfl (by show 2 * 0 + _ ≤ _; exact Nat.le_of_eq rfl) (hb hby at_250) (fun _ _ => ⟨rfl, rfl, (by decide : 2 + 0 ≤ 16), (by decide : 4 + 0 ≤ 128)⟩)
            dsimp only [Pt.U, Pt.locs, Pt.cells, Pt.slots] at X204 l204 y204 z204 st204 hQ204
            subst l204 y204 z204
            obtain ⟨rfl, N204q, e204⟩ := hQ204
            have N204 := Fr.app N173 N204q
            have K204 : ∀ t, Steps p.tables e below (T204.setTop (mkF m 253 #[.val (.int p0), .val (.long q1), .second, .val (.long q2), .second, .val (.int p3), .val (.int (w0_m1 p0)), .val (.int (w0_m2 p0)), .val (.int (p3 &&& (3 : Int32))), .val (.long (w0_m3 q1 q2 p3)), .second, .val (.long (w0_m4 p0 q1)), .second, .val (.long (w0_m5 p0 q1 q2 p3)), .second, .val (.ref ob2), .val (.ref ob1), .val (.ref b165), .val (.ref b170), .val (.int (w0_6 p3)), .val (.int (0 : Int32))] [(.int (0 : Int32))])) t → Steps p.tables e below S0 t := fun t k => K_203 t (st204.trans k)
            have K205 : ∀ t, Steps p.tables e below (T204.setTop (mkF m 255 #[.val (.int p0), .val (.long q1), .second, .val (.long q2), .second, .val (.int p3), .val (.int (w0_m1 p0)), .val (.int (w0_m2 p0)), .val (.int (p3 &&& (3 : Int32))), .val (.long (w0_m3 q1 q2 p3)), .second, .val (.long (w0_m4 p0 q1)), .second, .val (.long (w0_m5 p0 q1 q2 p3)), .second, .val (.ref ob2), .val (.ref ob1), .val (.ref b165), .val (.ref b170), .val (.int (w0_6 p3)), .val (.int (0 : Int32))] [(.int (0 : Int32)), (.int (0 : Int32))])) t → Steps p.tables e below S0 t := fun t k => K204 t (by
              refine XS.iload X204.here hx rfl (hb hby at_253) rfl ?_
              show Steps p.tables e below (T204.setTop (mkF m 255 #[.val (.int p0), .val (.long q1), .second, .val (.long q2), .second, .val (.int p3), .val (.int (w0_m1 p0)), .val (.int (w0_m2 p0)), .val (.int (p3 &&& (3 : Int32))), .val (.long (w0_m3 q1 q2 p3)), .second, .val (.long (w0_m4 p0 q1)), .second, .val (.long (w0_m5 p0 q1 q2 p3)), .second, .val (.ref ob2), .val (.ref ob1), .val (.ref b165), .val (.ref b170), .val (.int (w0_6 p3)), .val (.int (0 : Int32))] [(.int (0 : Int32)), (.int (0 : Int32))])) _
              exact k)
            have K206 : ∀ t, Steps p.tables e below (T204.setTop (mkF m 262 #[.val (.int p0), .val (.long q1), .second, .val (.long q2), .second, .val (.int p3), .val (.int (w0_m1 p0)), .val (.int (w0_m2 p0)), .val (.int (p3 &&& (3 : Int32))), .val (.long (w0_m3 q1 q2 p3)), .second, .val (.long (w0_m4 p0 q1)), .second, .val (.long (w0_m5 p0 q1 q2 p3)), .second, .val (.ref ob2), .val (.ref ob1), .val (.ref b165), .val (.ref b170), .val (.int (w0_6 p3)), .val (.int (0 : Int32))] [(.ref b165), (.ref b170)])) t → Steps p.tables e below S0 t := fun t k => K205 t (by
              refine XS.icmpNo X204.here hx rfl (hb hby at_255) rfl (XT.ii_ne_f (by decide)) ?_
              show Steps p.tables e below (T204.setTop (mkF m 258 #[.val (.int p0), .val (.long q1), .second, .val (.long q2), .second, .val (.int p3), .val (.int (w0_m1 p0)), .val (.int (w0_m2 p0)), .val (.int (p3 &&& (3 : Int32))), .val (.long (w0_m3 q1 q2 p3)), .second, .val (.long (w0_m4 p0 q1)), .second, .val (.long (w0_m5 p0 q1 q2 p3)), .second, .val (.ref ob2), .val (.ref ob1), .val (.ref b165), .val (.ref b170), .val (.int (w0_6 p3)), .val (.int (0 : Int32))] [])) _
              refine XS.aload X204.here hx rfl (hb hby at_258) rfl rfl ?_
              show Steps p.tables e below (T204.setTop (mkF m 260 #[.val (.int p0), .val (.long q1), .second, .val (.long q2), .second, .val (.int p3), .val (.int (w0_m1 p0)), .val (.int (w0_m2 p0)), .val (.int (p3 &&& (3 : Int32))), .val (.long (w0_m3 q1 q2 p3)), .second, .val (.long (w0_m4 p0 q1)), .second, .val (.long (w0_m5 p0 q1 q2 p3)), .second, .val (.ref ob2), .val (.ref ob1), .val (.ref b165), .val (.ref b170), .val (.int (w0_6 p3)), .val (.int (0 : Int32))] [(.ref b170)])) _
              refine XS.aload X204.here hx rfl (hb hby at_260) rfl rfl ?_
              show Steps p.tables e below (T204.setTop (mkF m 262 #[.val (.int p0), .val (.long q1), .second, .val (.long q2), .second, .val (.int p3), .val (.int (w0_m1 p0)), .val (.int (w0_m2 p0)), .val (.int (p3 &&& (3 : Int32))), .val (.long (w0_m3 q1 q2 p3)), .second, .val (.long (w0_m4 p0 q1)), .second, .val (.long (w0_m5 p0 q1 q2 p3)), .second, .val (.ref ob2), .val (.ref ob1), .val (.ref b165), .val (.ref b170), .val (.int (w0_6 p3)), .val (.int (0 : Int32))] [(.ref b165), (.ref b170)])) _
              exact k)
            have K_207 : ∀ t, Steps p.tables e below (T204.setTop (mkF m 262 #[.val (.int p0), .val (.long q1), .second, .val (.long q2), .second, .val (.int p3), .val (.int (w0_m1 p0)), .val (.int (w0_m2 p0)), .val (.int (p3 &&& (3 : Int32))), .val (.long (w0_m3 q1 q2 p3)), .second, .val (.long (w0_m4 p0 q1)), .second, .val (.long (w0_m5 p0 q1 q2 p3)), .second, .val (.ref ob2), .val (.ref ob1), .val (.ref b165), .val (.ref b170), .val (.int (w0_6 p3)), .val (.int (0 : Int32))] [(.ref b165), (.ref b170)])) t → Steps p.tables e below S0 t := K206
            obtain ⟨cq208, kq208, q208a, q208b, q208c⟩ := isOf hZ e204 Fn173_0
            obtain ⟨_, _, ⟨T208, L208, k208, n208⟩, -, X208, ⟨Lc208, hQ208, l208, y208, z208⟩, st208⟩ := X204.virtualBack hx (y := (⟨"com/example/acervo/acervo/index/DocumentValue", "equals", "(Ljava/lang/Object;)Z"⟩ : MethodName)) (z := (⟨"com/example/acervo/acervo/index/DocumentValue", "equals", "(Ljava/lang/Object;)Z"⟩ : MethodName)) hown (mvT hZ (hw _ (List.mem_of_getElem? (i := 23) rfl))) (mvT hZ (hw _ (List.mem_of_getElem? (i := 24) rfl))) (notFace_of_selects (args := #[]) (mvT hZ (hw _ (List.mem_of_getElem? (i := 26) rfl)))) (mvT hZ (hw _ (List.mem_of_getElem? (i := 26) rfl))) (mvT hZ (hw _ (List.mem_of_getElem? (i := 25) rfl))) (by decide) (backOf (W := 0) (rm7 l Z a0 hw [] b170 b165 ob1 ob2 (w0_m5 p0 q1 q2 p3) (w0_m4 p0 q1) T173.heap n0 Zs173 Fn168_0__173 Fn173_1 Fn173_2 Fn168_1__173 Fn168_2__173 ne_ob1_ob2) hZ (hw _ (List.mem_of_getElem? (i := 27) rfl)) (hw _ (List.mem_of_getElem? (i := 5) rfl)) (by decide) (by decide)) q208a q208c (g := (mkF m 262 #[.val (.int p0), .val (.long q1), .second, .val (.long q2), .second, .val (.int p3), .val (.int (w0_m1 p0)), .val (.int (w0_m2 p0)), .val (.int (p3 &&& (3 : Int32))), .val (.long (w0_m3 q1 q2 p3)), .second, .val (.long (w0_m4 p0 q1)), .second, .val (.long (w0_m5 p0 q1 q2 p3)), .second, .val (.ref ob2), .val (.ref ob1), .val (.ref b165), .val (.ref b170), .val (.int (w0_6 p3)), .val (.int (0 : Int32))] [(.ref b165), (.ref b170)])) rfl (by rw [hml]; rfl) (Steps.refl _) (argsL := [(.ref b165)]) (rest := []) (lenOf pd0_2 rfl) rfl (by show 2 * 0 + _ ≤ _; exact Nat.le_of_eq rfl) (hb hby at_262) (fun _ _ => ⟨rfl, e204, (by decide : 2 + 0 ≤ 16), (by decide : 4 + 0 ≤ 128)⟩)
            dsimp only [Pt.U, Pt.locs, Pt.cells, Pt.slots] at X208 l208 y208 z208 st208 hQ208
            subst l208 y208 z208
            obtain ⟨rfl, N208q, e208⟩ := hQ208
            have N208 := Fr.app N204 N208q
            have K208 : ∀ t, Steps p.tables e below (T208.setTop (mkF m 265 #[.val (.int p0), .val (.long q1), .second, .val (.long q2), .second, .val (.int p3), .val (.int (w0_m1 p0)), .val (.int (w0_m2 p0)), .val (.int (p3 &&& (3 : Int32))), .val (.long (w0_m3 q1 q2 p3)), .second, .val (.long (w0_m4 p0 q1)), .second, .val (.long (w0_m5 p0 q1 q2 p3)), .second, .val (.ref ob2), .val (.ref ob1), .val (.ref b165), .val (.ref b170), .val (.int (w0_6 p3)), .val (.int (0 : Int32))] [(.int (0 : Int32))])) t → Steps p.tables e below S0 t := fun t k => K_207 t (st208.trans k)
            have K209 : ∀ t, Steps p.tables e below (T208.setTop (mkF m 267 #[.val (.int p0), .val (.long q1), .second, .val (.long q2), .second, .val (.int p3), .val (.int (w0_m1 p0)), .val (.int (w0_m2 p0)), .val (.int (p3 &&& (3 : Int32))), .val (.long (w0_m3 q1 q2 p3)), .second, .val (.long (w0_m4 p0 q1)), .second, .val (.long (w0_m5 p0 q1 q2 p3)), .second, .val (.ref ob2), .val (.ref ob1), .val (.ref b165), .val (.ref b170), .val (.int (w0_6 p3)), .val (.int (0 : Int32))] [(.int (0 : Int32)), (.int (0 : Int32))])) t → Steps p.tables e below S0 t := fun t k => K208 t (by
              refine XS.iload X208.here hx rfl (hb hby at_265) rfl ?_
              show Steps p.tables e below (T208.setTop (mkF m 267 #[.val (.int p0), .val (.long q1), .second, .val (.long q2), .second, .val (.int p3), .val (.int (w0_m1 p0)), .val (.int (w0_m2 p0)), .val (.int (p3 &&& (3 : Int32))), .val (.long (w0_m3 q1 q2 p3)), .second, .val (.long (w0_m4 p0 q1)), .second, .val (.long (w0_m5 p0 q1 q2 p3)), .second, .val (.ref ob2), .val (.ref ob1), .val (.ref b165), .val (.ref b170), .val (.int (w0_6 p3)), .val (.int (0 : Int32))] [(.int (0 : Int32)), (.int (0 : Int32))])) _
              exact k)
            have K210 : ∀ t, Steps p.tables e below (T208.setTop (mkF m 275 #[.val (.int p0), .val (.long q1), .second, .val (.long q2), .second, .val (.int p3), .val (.int (w0_m1 p0)), .val (.int (w0_m2 p0)), .val (.int (p3 &&& (3 : Int32))), .val (.long (w0_m3 q1 q2 p3)), .second, .val (.long (w0_m4 p0 q1)), .second, .val (.long (w0_m5 p0 q1 q2 p3)), .second, .val (.ref ob2), .val (.ref ob1), .val (.ref b165), .val (.ref b170), .val (.int (w0_6 p3)), .val (.int (0 : Int32))] [(.int (1 : Int32))])) t → Steps p.tables e below S0 t := fun t k => K209 t (by
              refine XS.icmpNo X208.here hx rfl (hb hby at_267) rfl (XT.ii_ne_f (by decide)) ?_
              show Steps p.tables e below (T208.setTop (mkF m 270 #[.val (.int p0), .val (.long q1), .second, .val (.long q2), .second, .val (.int p3), .val (.int (w0_m1 p0)), .val (.int (w0_m2 p0)), .val (.int (p3 &&& (3 : Int32))), .val (.long (w0_m3 q1 q2 p3)), .second, .val (.long (w0_m4 p0 q1)), .second, .val (.long (w0_m5 p0 q1 q2 p3)), .second, .val (.ref ob2), .val (.ref ob1), .val (.ref b165), .val (.ref b170), .val (.int (w0_6 p3)), .val (.int (0 : Int32))] [])) _
              refine XS.iconst X208.here hx rfl (hb hby at_270) ?_
              show Steps p.tables e below (T208.setTop (mkF m 271 #[.val (.int p0), .val (.long q1), .second, .val (.long q2), .second, .val (.int p3), .val (.int (w0_m1 p0)), .val (.int (w0_m2 p0)), .val (.int (p3 &&& (3 : Int32))), .val (.long (w0_m3 q1 q2 p3)), .second, .val (.long (w0_m4 p0 q1)), .second, .val (.long (w0_m5 p0 q1 q2 p3)), .second, .val (.ref ob2), .val (.ref ob1), .val (.ref b165), .val (.ref b170), .val (.int (w0_6 p3)), .val (.int (0 : Int32))] [(.int (1 : Int32))])) _
              refine XS.goto X208.here hx rfl (pc0 := 271) (pc' := 275) rfl (hb hby at_271) (by decide) (by decide) ?_
              show Steps p.tables e below (T208.setTop (mkF m 275 #[.val (.int p0), .val (.long q1), .second, .val (.long q2), .second, .val (.int p3), .val (.int (w0_m1 p0)), .val (.int (w0_m2 p0)), .val (.int (p3 &&& (3 : Int32))), .val (.long (w0_m3 q1 q2 p3)), .second, .val (.long (w0_m4 p0 q1)), .second, .val (.long (w0_m5 p0 q1 q2 p3)), .second, .val (.ref ob2), .val (.ref ob1), .val (.ref b165), .val (.ref b170), .val (.int (w0_6 p3)), .val (.int (0 : Int32))] [(.int (1 : Int32))])) _
              exact k)
            obtain ⟨fs, hr, hrun, hended, hW, hsame⟩ := X208.leave (v := some (.int (1 : Int32))) (fun h => by rw [Bd.returns] at h; cases h) hlk
            refine ⟨_, _, ?_, hrun, hended, _, _, rfl, ?_, ⟨_, rfl⟩, hW, hsame.mono (by decide) (by decide)⟩
            · rw [← hS0]; exact K210 _ (retN X208 hx (t := .boolean) Bd.returns (by simp) (hb hby at_275) hr)
            · show Q0 Z p0 q1 q2 p3 ob1 ob2 oc cc h0 n0 _ T208.heap _
              rw [e208]
              have qr : (1 : Int32) = (w0_r10 p0 q1 q2 p3) := by unfold w0_r10; rw [if_neg hc100_0, if_pos hc116_1, if_neg hc167_2, if_neg hc188_3, if_neg hc213_4]
              exact ⟨congrArg (fun z => some (Value.int z)) qr, N208⟩
    · -- no
      have K211 : ∀ t, Steps p.tables e below (T160.setTop (mkF m 119 #[.val (.int p0), .val (.long q1), .second, .val (.long q2), .second, .val (.int p3), .val (.int (w0_m1 p0)), .val (.int (w0_m2 p0)), .val (.int (p3 &&& (3 : Int32))), .val (.long (w0_m3 q1 q2 p3)), .second, .val (.long (w0_m4 p0 q1)), .second, .val (.long (w0_m5 p0 q1 q2 p3)), .second, .val (.ref ob2), .unset, .unset, .unset, .unset, .unset] [])) t → Steps p.tables e below S0 t := fun t k => K161 t (by
        refine XS.ifNo X160.here hx rfl (hb hby at_116) rfl (XT.i0_eq_f hc116_1) ?_
        show Steps p.tables e below (T160.setTop (mkF m 119 #[.val (.int p0), .val (.long q1), .second, .val (.long q2), .second, .val (.int p3), .val (.int (w0_m1 p0)), .val (.int (w0_m2 p0)), .val (.int (p3 &&& (3 : Int32))), .val (.long (w0_m3 q1 q2 p3)), .second, .val (.long (w0_m4 p0 q1)), .second, .val (.long (w0_m5 p0 q1 q2 p3)), .second, .val (.ref ob2), .unset, .unset, .unset, .unset, .unset] [])) _
        exact k)
      obtain ⟨T212, X212, e212, st212⟩ := getS2 X160 hx hZ hown (host := "") (Or.inl (hw _ (List.mem_of_getElem? (i := 37) rfl))) Via.refl e160 S_DocumentValue_Kind_DATE__0 (g := (mkF m 119 #[.val (.int p0), .val (.long q1), .second, .val (.long q2), .second, .val (.int p3), .val (.int (w0_m1 p0)), .val (.int (w0_m2 p0)), .val (.int (p3 &&& (3 : Int32))), .val (.long (w0_m3 q1 q2 p3)), .second, .val (.long (w0_m4 p0 q1)), .second, .val (.long (w0_m5 p0 q1 q2 p3)), .second, .val (.ref ob2), .unset, .unset, .unset, .unset, .unset] [])) rfl (hb hby at_119)
      have K212 : ∀ t, Steps p.tables e below (T212.setTop (mkF m 122 #[.val (.int p0), .val (.long q1), .second, .val (.long q2), .second, .val (.int p3), .val (.int (w0_m1 p0)), .val (.int (w0_m2 p0)), .val (.int (p3 &&& (3 : Int32))), .val (.long (w0_m3 q1 q2 p3)), .second, .val (.long (w0_m4 p0 q1)), .second, .val (.long (w0_m5 p0 q1 q2 p3)), .second, .val (.ref ob2), .unset, .unset, .unset, .unset, .unset] [(.ref ob2)])) t → Steps p.tables e below S0 t := fun t k => K211 t (st212 t k)
      have K213 : ∀ t, Steps p.tables e below (T212.setTop (mkF m 130 #[.val (.int p0), .val (.long q1), .second, .val (.long q2), .second, .val (.int p3), .val (.int (w0_m1 p0)), .val (.int (w0_m2 p0)), .val (.int (p3 &&& (3 : Int32))), .val (.long (w0_m3 q1 q2 p3)), .second, .val (.long (w0_m4 p0 q1)), .second, .val (.long (w0_m5 p0 q1 q2 p3)), .second, .val (.ref ob2), .val (.ref ob2), .unset, .unset, .unset, .unset] [])) t → Steps p.tables e below S0 t := fun t k => K212 t (by
        refine XS.goto X212.here hx rfl (pc0 := 122) (pc' := 128) rfl (hb hby at_122) (by decide) (by decide) ?_
        show Steps p.tables e below (T212.setTop (mkF m 128 #[.val (.int p0), .val (.long q1), .second, .val (.long q2), .second, .val (.int p3), .val (.int (w0_m1 p0)), .val (.int (w0_m2 p0)), .val (.int (p3 &&& (3 : Int32))), .val (.long (w0_m3 q1 q2 p3)), .second, .val (.long (w0_m4 p0 q1)), .second, .val (.long (w0_m5 p0 q1 q2 p3)), .second, .val (.ref ob2), .unset, .unset, .unset, .unset, .unset] [(.ref ob2)])) _
        refine XS.astore X212.here hx rfl (hb hby at_128) rfl rfl (l' := #[.val (.int p0), .val (.long q1), .second, .val (.long q2), .second, .val (.int p3), .val (.int (w0_m1 p0)), .val (.int (w0_m2 p0)), .val (.int (p3 &&& (3 : Int32))), .val (.long (w0_m3 q1 q2 p3)), .second, .val (.long (w0_m4 p0 q1)), .second, .val (.long (w0_m5 p0 q1 q2 p3)), .second, .val (.ref ob2), .val (.ref ob2), .unset, .unset, .unset, .unset]) rfl ?_
        show Steps p.tables e below (T212.setTop (mkF m 130 #[.val (.int p0), .val (.long q1), .second, .val (.long q2), .second, .val (.int p3), .val (.int (w0_m1 p0)), .val (.int (w0_m2 p0)), .val (.int (p3 &&& (3 : Int32))), .val (.long (w0_m3 q1 q2 p3)), .second, .val (.long (w0_m4 p0 q1)), .second, .val (.long (w0_m5 p0 q1 q2 p3)), .second, .val (.ref ob2), .val (.ref ob2), .unset, .unset, .unset, .unset] [])) _
        exact k)
      obtain ⟨T214, h214, X214, e214, E214, A214, D214, -, st214⟩ := newO X212 hx hZ hown (hw _ (List.mem_of_getElem? (i := 3) rfl)) (hw _ (List.mem_of_getElem? (i := 4) rfl)) (hw _ (List.mem_of_getElem? (i := 5) rfl)) e212 (g := (mkF m 130 #[.val (.int p0), .val (.long q1), .second, .val (.long q2), .second, .val (.int p3), .val (.int (w0_m1 p0)), .val (.int (w0_m2 p0)), .val (.int (p3 &&& (3 : Int32))), .val (.long (w0_m3 q1 q2 p3)), .second, .val (.long (w0_m4 p0 q1)), .second, .val (.long (w0_m5 p0 q1 q2 p3)), .second, .val (.ref ob2), .val (.ref ob2), .unset, .unset, .unset, .unset] [])) rfl (hb hby at_130) (by decide) (by decide)
      obtain ⟨b214, g214⟩ : ∃ z, z = h0.size := ⟨_, rfl⟩
      rw [← g214] at A214 D214 st214
      have ne_ob1_b214 : ob1 ≠ b214 := Nat.ne_of_lt (Nat.lt_of_lt_of_le E_ob1__0.lt (Nat.le_of_eq g214.symm))
      have ne_ob2_b214 : ob2 ≠ b214 := Nat.ne_of_lt (Nat.lt_of_lt_of_le E_ob2__0.lt (Nat.le_of_eq g214.symm))
      have ne_oc_b214 : oc ≠ b214 := Nat.ne_of_lt (Nat.lt_of_lt_of_le Ar_oc__0.lt (Nat.le_of_eq g214.symm))
      have OL214 := OL0.ext E214
      have S_DocumentValue_Kind_NUMBER__214 := S_DocumentValue_Kind_NUMBER.ext OL214.2
      have S_DocumentValue_Kind_DATE__214 := S_DocumentValue_Kind_DATE.ext OL214.2
      have E_ob1__214 := E_ob1.ext OL214.2
      have E_ob2__214 := E_ob2.ext OL214.2
      have S_Long_LongCache_cache__214 := S_Long_LongCache_cache.ext OL214.2
      have Ar_oc__214 := Ar_oc.ext OL214.2
      have g_b214 : n0 ≤ b214 := Nat.le_trans Z0 (Nat.le_of_eq g214.symm)
      have Zs214 : n0 ≤ h214.size := Nat.le_trans Z0 E214.1
      have F_b214_kind : Fld Z h214 b214 "com/example/acervo/acervo/index/DocumentValue" "kind" "Lcom/example/acervo/acervo/index/DocumentValue$Kind;" .null := D214 (Or.inr (hw _ (List.mem_of_getElem? (i := 20) rfl))) (ty := (.object "com/example/acervo/acervo/index/DocumentValue$Kind")) (by decide)
      have F_b214_number : Fld Z h214 b214 "com/example/acervo/acervo/index/DocumentValue" "number" "J" (.long (0 : Int64)) := D214 (Or.inr (hw _ (List.mem_of_getElem? (i := 22) rfl))) (ty := .long) (by decide)
      have K214 : ∀ t, Steps p.tables e below (T214.setTop (mkF m 133 #[.val (.int p0), .val (.long q1), .second, .val (.long q2), .second, .val (.int p3), .val (.int (w0_m1 p0)), .val (.int (w0_m2 p0)), .val (.int (p3 &&& (3 : Int32))), .val (.long (w0_m3 q1 q2 p3)), .second, .val (.long (w0_m4 p0 q1)), .second, .val (.long (w0_m5 p0 q1 q2 p3)), .second, .val (.ref ob2), .val (.ref ob2), .unset, .unset, .unset, .unset] [(.ref b214)])) t → Steps p.tables e below S0 t := fun t k => K213 t (st214 t k)
      have K215 : ∀ t, Steps p.tables e below (T214.setTop (mkF m 138 #[.val (.int p0), .val (.long q1), .second, .val (.long q2), .second, .val (.int p3), .val (.int (w0_m1 p0)), .val (.int (w0_m2 p0)), .val (.int (p3 &&& (3 : Int32))), .val (.long (w0_m3 q1 q2 p3)), .second, .val (.long (w0_m4 p0 q1)), .second, .val (.long (w0_m5 p0 q1 q2 p3)), .second, .val (.ref ob2), .val (.ref ob2), .unset, .unset, .unset, .unset] [(.long (w0_m4 p0 q1)), (.ref ob2), (.ref b214), (.ref b214)])) t → Steps p.tables e below S0 t := fun t k => K214 t (by
        refine XS.dup X214.here hx rfl (hb hby at_133) rfl rfl ?_
        show Steps p.tables e below (T214.setTop (mkF m 134 #[.val (.int p0), .val (.long q1), .second, .val (.long q2), .second, .val (.int p3), .val (.int (w0_m1 p0)), .val (.int (w0_m2 p0)), .val (.int (p3 &&& (3 : Int32))), .val (.long (w0_m3 q1 q2 p3)), .second, .val (.long (w0_m4 p0 q1)), .second, .val (.long (w0_m5 p0 q1 q2 p3)), .second, .val (.ref ob2), .val (.ref ob2), .unset, .unset, .unset, .unset] [(.ref b214), (.ref b214)])) _
        refine XS.aload X214.here hx rfl (hb hby at_134) rfl rfl ?_
        show Steps p.tables e below (T214.setTop (mkF m 136 #[.val (.int p0), .val (.long q1), .second, .val (.long q2), .second, .val (.int p3), .val (.int (w0_m1 p0)), .val (.int (w0_m2 p0)), .val (.int (p3 &&& (3 : Int32))), .val (.long (w0_m3 q1 q2 p3)), .second, .val (.long (w0_m4 p0 q1)), .second, .val (.long (w0_m5 p0 q1 q2 p3)), .second, .val (.ref ob2), .val (.ref ob2), .unset, .unset, .unset, .unset] [(.ref ob2), (.ref b214), (.ref b214)])) _
        refine XS.lload X214.here hx rfl (hb hby at_136) rfl ?_
        show Steps p.tables e below (T214.setTop (mkF m 138 #[.val (.int p0), .val (.long q1), .second, .val (.long q2), .second, .val (.int p3), .val (.int (w0_m1 p0)), .val (.int (w0_m2 p0)), .val (.int (p3 &&& (3 : Int32))), .val (.long (w0_m3 q1 q2 p3)), .second, .val (.long (w0_m4 p0 q1)), .second, .val (.long (w0_m5 p0 q1 q2 p3)), .second, .val (.ref ob2), .val (.ref ob2), .unset, .unset, .unset, .unset] [(.long (w0_m4 p0 q1)), (.ref ob2), (.ref b214), (.ref b214)])) _
        exact k)
      have K_216 : ∀ t, Steps p.tables e below (T214.setTop (mkF m 138 #[.val (.int p0), .val (.long q1), .second, .val (.long q2), .second, .val (.int p3), .val (.int (w0_m1 p0)), .val (.int (w0_m2 p0)), .val (.int (p3 &&& (3 : Int32))), .val (.long (w0_m3 q1 q2 p3)), .second, .val (.long (w0_m4 p0 q1)), .second, .val (.long (w0_m5 p0 q1 q2 p3)), .second, .val (.ref ob2), .val (.ref ob2), .unset, .unset, .unset, .unset] [(.long (w0_m4 p0 q1)), (.ref ob2), (.ref b214), (.ref b214)])) t → Steps p.tables e below S0 t := K215
      obtain ⟨_, _, ⟨T217, L217, k217, n217⟩, -, X217, ⟨Lc217, hQ217, l217, y217, z217⟩, st217⟩ := X214.specialBack hx (y := (⟨"com/example/acervo/acervo/index/DocumentValue", "<init>", "(Lcom/example/acervo/acervo/index/DocumentValue$Kind;J)V"⟩ : MethodName)) rfl hown (mvT hZ (hw _ (List.mem_of_getElem? (i := 6) rfl))) (mvT hZ (hw _ (List.mem_of_getElem? (i := 7) rfl))) (mvT hZ (hw _ (List.mem_of_getElem? (i := 8) rfl))) (by decide) (backOf (W := 1) (rm4 l Z a0 hw [] b214 ob2 (w0_m4 p0 q1) h214 n0 Zs214 A214 F_b214_kind F_b214_number g_b214 S_DocumentValue_Kind_DATE__214 (own_day1 p0 q1 q2 p3 hc100_0)) hZ (hw _ (List.mem_of_getElem? (i := 8) rfl)) (hw _ (List.mem_of_getElem? (i := 5) rfl)) (by decide) (by decide)) (g := (mkF m 138 #[.val (.int p0), .val (.long q1), .second, .val (.long q2), .second, .val (.int p3), .val (.int (w0_m1 p0)), .val (.int (w0_m2 p0)), .val (.int (p3 &&& (3 : Int32))), .val (.long (w0_m3 q1 q2 p3)), .second, .val (.long (w0_m4 p0 q1)), .second, .val (.long (w0_m5 p0 q1 q2 p3)), .second, .val (.ref ob2), .val (.ref ob2), .unset, .unset, .unset, .unset] [(.long (w0_m4 p0 q1)), (.ref ob2), (.ref b214), (.ref b214)])) rfl (by rw [hml]; rfl) (Steps.refl _) (a := b214) (argsL := [(.ref ob2), (.long (w0_m4 p0 q1))]) (rest := [(.ref b214)]) (lenOf pd0_1 rfl) rfl (by show 2 * 0 + _ ≤ _; exact Nat.le_of_eq rfl) (hb hby at_138) (fun _ _ => ⟨rfl, e214, (by decide : 1 + 0 ≤ 16), (by decide : 2 + 0 ≤ 128)⟩)
      dsimp only [Pt.U, Pt.locs, Pt.cells, Pt.slots] at X217 l217 y217 z217 st217 hQ217
      subst l217 y217 z217
      obtain ⟨rfl, N217q, Kp217, Fn217_0, Fn217_1, Fn217_2⟩ := hQ217
      have N217 := Fr.app N26 N217q
      have OL217 := OL214.keep Kp217 (allS (P := fun x => n0 ≤ x) g_b214 all0)
      have S_DocumentValue_Kind_NUMBER__217 := S_DocumentValue_Kind_NUMBER.ext OL217.2
      have S_DocumentValue_Kind_DATE__217 := S_DocumentValue_Kind_DATE.ext OL217.2
      have E_ob1__217 := E_ob1.ext OL217.2
      have E_ob2__217 := E_ob2.ext OL217.2
      have S_Long_LongCache_cache__217 := S_Long_LongCache_cache.ext OL217.2
      have Ar_oc__217 := Ar_oc.ext OL217.2
      have Zs217 : n0 ≤ T217.heap.size := Nat.le_trans Zs214 Kp217.1
      have K217 : ∀ t, Steps p.tables e below (T217.setTop (mkF m 141 #[.val (.int p0), .val (.long q1), .second, .val (.long q2), .second, .val (.int p3), .val (.int (w0_m1 p0)), .val (.int (w0_m2 p0)), .val (.int (p3 &&& (3 : Int32))), .val (.long (w0_m3 q1 q2 p3)), .second, .val (.long (w0_m4 p0 q1)), .second, .val (.long (w0_m5 p0 q1 q2 p3)), .second, .val (.ref ob2), .val (.ref ob2), .unset, .unset, .unset, .unset] [(.ref b214)])) t → Steps p.tables e below S0 t := fun t k => K_216 t (st217.trans k)
      have K218 : ∀ t, Steps p.tables e below (T217.setTop (mkF m 143 #[.val (.int p0), .val (.long q1), .second, .val (.long q2), .second, .val (.int p3), .val (.int (w0_m1 p0)), .val (.int (w0_m2 p0)), .val (.int (p3 &&& (3 : Int32))), .val (.long (w0_m3 q1 q2 p3)), .second, .val (.long (w0_m4 p0 q1)), .second, .val (.long (w0_m5 p0 q1 q2 p3)), .second, .val (.ref ob2), .val (.ref ob2), .val (.ref b214), .unset, .unset, .unset] [])) t → Steps p.tables e below S0 t := fun t k => K217 t (by
        refine XS.astore X217.here hx rfl (hb hby at_141) rfl rfl (l' := #[.val (.int p0), .val (.long q1), .second, .val (.long q2), .second, .val (.int p3), .val (.int (w0_m1 p0)), .val (.int (w0_m2 p0)), .val (.int (p3 &&& (3 : Int32))), .val (.long (w0_m3 q1 q2 p3)), .second, .val (.long (w0_m4 p0 q1)), .second, .val (.long (w0_m5 p0 q1 q2 p3)), .second, .val (.ref ob2), .val (.ref ob2), .val (.ref b214), .unset, .unset, .unset]) rfl ?_
        show Steps p.tables e below (T217.setTop (mkF m 143 #[.val (.int p0), .val (.long q1), .second, .val (.long q2), .second, .val (.int p3), .val (.int (w0_m1 p0)), .val (.int (w0_m2 p0)), .val (.int (p3 &&& (3 : Int32))), .val (.long (w0_m3 q1 q2 p3)), .second, .val (.long (w0_m4 p0 q1)), .second, .val (.long (w0_m5 p0 q1 q2 p3)), .second, .val (.ref ob2), .val (.ref ob2), .val (.ref b214), .unset, .unset, .unset] [])) _
        exact k)
      obtain ⟨T219, h219, X219, e219, E219, A219, D219, -, st219⟩ := newO X217 hx hZ hown (hw _ (List.mem_of_getElem? (i := 3) rfl)) (hw _ (List.mem_of_getElem? (i := 4) rfl)) (hw _ (List.mem_of_getElem? (i := 5) rfl)) rfl (g := (mkF m 143 #[.val (.int p0), .val (.long q1), .second, .val (.long q2), .second, .val (.int p3), .val (.int (w0_m1 p0)), .val (.int (w0_m2 p0)), .val (.int (p3 &&& (3 : Int32))), .val (.long (w0_m3 q1 q2 p3)), .second, .val (.long (w0_m4 p0 q1)), .second, .val (.long (w0_m5 p0 q1 q2 p3)), .second, .val (.ref ob2), .val (.ref ob2), .val (.ref b214), .unset, .unset, .unset] [])) rfl (hb hby at_143) (by decide) (by decide)
      obtain ⟨b219, g219⟩ : ∃ z, z = T217.heap.size := ⟨_, rfl⟩
      rw [← g219] at A219 D219 st219
      have ne_ob1_b219 : ob1 ≠ b219 := Nat.ne_of_lt (Nat.lt_of_lt_of_le E_ob1__217.lt (Nat.le_of_eq g219.symm))
      have ne_ob2_b219 : ob2 ≠ b219 := Nat.ne_of_lt (Nat.lt_of_lt_of_le E_ob2__217.lt (Nat.le_of_eq g219.symm))
      have ne_oc_b219 : oc ≠ b219 := Nat.ne_of_lt (Nat.lt_of_lt_of_le Ar_oc__217.lt (Nat.le_of_eq g219.symm))
      have ne_b214_b219 : b214 ≠ b219 := Nat.ne_of_lt (Nat.lt_of_lt_of_le Fn217_0.lt (Nat.le_of_eq g219.symm))
      have OL219 := OL217.ext E219
      have S_DocumentValue_Kind_NUMBER__219 := S_DocumentValue_Kind_NUMBER.ext OL219.2
      have S_DocumentValue_Kind_DATE__219 := S_DocumentValue_Kind_DATE.ext OL219.2
      have E_ob1__219 := E_ob1.ext OL219.2
      have E_ob2__219 := E_ob2.ext OL219.2
      have S_Long_LongCache_cache__219 := S_Long_LongCache_cache.ext OL219.2
      have Ar_oc__219 := Ar_oc.ext OL219.2
      have Fn217_0__219 := Fn217_0.ext E219
      have Fn217_1__219 := Fn217_1.ext E219
      have Fn217_2__219 := Fn217_2.ext E219
      have g_b219 : n0 ≤ b219 := Nat.le_trans Zs217 (Nat.le_of_eq g219.symm)
      have Zs219 : n0 ≤ h219.size := Nat.le_trans Zs217 E219.1
      have F_b219_kind : Fld Z h219 b219 "com/example/acervo/acervo/index/DocumentValue" "kind" "Lcom/example/acervo/acervo/index/DocumentValue$Kind;" .null := D219 (Or.inr (hw _ (List.mem_of_getElem? (i := 20) rfl))) (ty := (.object "com/example/acervo/acervo/index/DocumentValue$Kind")) (by decide)
      have F_b219_number : Fld Z h219 b219 "com/example/acervo/acervo/index/DocumentValue" "number" "J" (.long (0 : Int64)) := D219 (Or.inr (hw _ (List.mem_of_getElem? (i := 22) rfl))) (ty := .long) (by decide)
      have K219 : ∀ t, Steps p.tables e below (T219.setTop (mkF m 146 #[.val (.int p0), .val (.long q1), .second, .val (.long q2), .second, .val (.int p3), .val (.int (w0_m1 p0)), .val (.int (w0_m2 p0)), .val (.int (p3 &&& (3 : Int32))), .val (.long (w0_m3 q1 q2 p3)), .second, .val (.long (w0_m4 p0 q1)), .second, .val (.long (w0_m5 p0 q1 q2 p3)), .second, .val (.ref ob2), .val (.ref ob2), .val (.ref b214), .unset, .unset, .unset] [(.ref b219)])) t → Steps p.tables e below S0 t := fun t k => K218 t (st219 t k)
      have K220 : ∀ t, Steps p.tables e below (T219.setTop (mkF m 151 #[.val (.int p0), .val (.long q1), .second, .val (.long q2), .second, .val (.int p3), .val (.int (w0_m1 p0)), .val (.int (w0_m2 p0)), .val (.int (p3 &&& (3 : Int32))), .val (.long (w0_m3 q1 q2 p3)), .second, .val (.long (w0_m4 p0 q1)), .second, .val (.long (w0_m5 p0 q1 q2 p3)), .second, .val (.ref ob2), .val (.ref ob2), .val (.ref b214), .unset, .unset, .unset] [(.long (w0_m5 p0 q1 q2 p3)), (.ref ob2), (.ref b219), (.ref b219)])) t → Steps p.tables e below S0 t := fun t k => K219 t (by
        refine XS.dup X219.here hx rfl (hb hby at_146) rfl rfl ?_
        show Steps p.tables e below (T219.setTop (mkF m 147 #[.val (.int p0), .val (.long q1), .second, .val (.long q2), .second, .val (.int p3), .val (.int (w0_m1 p0)), .val (.int (w0_m2 p0)), .val (.int (p3 &&& (3 : Int32))), .val (.long (w0_m3 q1 q2 p3)), .second, .val (.long (w0_m4 p0 q1)), .second, .val (.long (w0_m5 p0 q1 q2 p3)), .second, .val (.ref ob2), .val (.ref ob2), .val (.ref b214), .unset, .unset, .unset] [(.ref b219), (.ref b219)])) _
        refine XS.aload X219.here hx rfl (hb hby at_147) rfl rfl ?_
        show Steps p.tables e below (T219.setTop (mkF m 149 #[.val (.int p0), .val (.long q1), .second, .val (.long q2), .second, .val (.int p3), .val (.int (w0_m1 p0)), .val (.int (w0_m2 p0)), .val (.int (p3 &&& (3 : Int32))), .val (.long (w0_m3 q1 q2 p3)), .second, .val (.long (w0_m4 p0 q1)), .second, .val (.long (w0_m5 p0 q1 q2 p3)), .second, .val (.ref ob2), .val (.ref ob2), .val (.ref b214), .unset, .unset, .unset] [(.ref ob2), (.ref b219), (.ref b219)])) _
        refine XS.lload X219.here hx rfl (hb hby at_149) rfl ?_
        show Steps p.tables e below (T219.setTop (mkF m 151 #[.val (.int p0), .val (.long q1), .second, .val (.long q2), .second, .val (.int p3), .val (.int (w0_m1 p0)), .val (.int (w0_m2 p0)), .val (.int (p3 &&& (3 : Int32))), .val (.long (w0_m3 q1 q2 p3)), .second, .val (.long (w0_m4 p0 q1)), .second, .val (.long (w0_m5 p0 q1 q2 p3)), .second, .val (.ref ob2), .val (.ref ob2), .val (.ref b214), .unset, .unset, .unset] [(.long (w0_m5 p0 q1 q2 p3)), (.ref ob2), (.ref b219), (.ref b219)])) _
        exact k)
      have K_221 : ∀ t, Steps p.tables e below (T219.setTop (mkF m 151 #[.val (.int p0), .val (.long q1), .second, .val (.long q2), .second, .val (.int p3), .val (.int (w0_m1 p0)), .val (.int (w0_m2 p0)), .val (.int (p3 &&& (3 : Int32))), .val (.long (w0_m3 q1 q2 p3)), .second, .val (.long (w0_m4 p0 q1)), .second, .val (.long (w0_m5 p0 q1 q2 p3)), .second, .val (.ref ob2), .val (.ref ob2), .val (.ref b214), .unset, .unset, .unset] [(.long (w0_m5 p0 q1 q2 p3)), (.ref ob2), (.ref b219), (.ref b219)])) t → Steps p.tables e below S0 t := K220
      obtain ⟨_, _, ⟨T222, L222, k222, n222⟩, -, X222, ⟨Lc222, hQ222, l222, y222, z222⟩, st222⟩ := X219.specialBack hx (y := (⟨"com/example/acervo/acervo/index/DocumentValue", "<init>", "(Lcom/example/acervo/acervo/index/DocumentValue$Kind;J)V"⟩ : MethodName)) rfl hown (mvT hZ (hw _ (List.mem_of_getElem? (i := 6) rfl))) (mvT hZ (hw _ (List.mem_of_getElem? (i := 7) rfl))) (mvT hZ (hw _ (List.mem_of_getElem? (i := 8) rfl))) (by decide) (backOf (W := 1) (rm4 l Z a0 hw [] b219 ob2 (w0_m5 p0 q1 q2 p3) h219 n0 Zs219 A219 F_b219_kind F_b219_number g_b219 S_DocumentValue_Kind_DATE__219 (own_day2 p0 q1 q2 p3 hc116_1)) hZ (hw _ (List.mem_of_getElem? (i := 8) rfl)) (hw _ (List.mem_of_getElem? (i := 5) rfl)) (by decide) (by decide)) (g := (mkF m 151 #[.val (.int p0), .val (.long q1), .second, .val (.long q2), .second, .val (.int p3), .val (.int (w0_m1 p0)), .val (.int (w0_m2 p0)), .val (.int (p3 &&& (3 : Int32))), .val (.long (w0_m3 q1 q2 p3)), .second, .val (.long (w0_m4 p0 q1)), .second, .val (.long (w0_m5 p0 q1 q2 p3)), .second, .val (.ref ob2), .val (.ref ob2), .val (.ref b214), .unset, .unset, .unset] [(.long (w0_m5 p0 q1 q2 p3)), (.ref ob2), (.ref b219), (.ref b219)])) rfl (by rw [hml]; rfl) (Steps.refl _) (a := b219) (argsL := [(.ref ob2), (.long (w0_m5 p0 q1 q2 p3))]) (rest := [(.ref b219)]) (lenOf pd0_1 rfl) rfl (by show 2 * 0 + _ ≤ _; exact Nat.le_of_eq rfl) (hb hby at_151) (fun _ _ => ⟨rfl, e219, (by decide : 2 + 0 ≤ 16), (by decide : 4 + 0 ≤ 128)⟩)
      dsimp only [Pt.U, Pt.locs, Pt.cells, Pt.slots] at X222 l222 y222 z222 st222 hQ222
      subst l222 y222 z222
      obtain ⟨rfl, N222q, Kp222, Fn222_0, Fn222_1, Fn222_2⟩ := hQ222
      have N222 := Fr.app N217 N222q
      have OL222 := OL219.keep Kp222 (allS (P := fun x => n0 ≤ x) g_b219 all0)
      have S_DocumentValue_Kind_NUMBER__222 := S_DocumentValue_Kind_NUMBER.ext OL222.2
      have S_DocumentValue_Kind_DATE__222 := S_DocumentValue_Kind_DATE.ext OL222.2
      have E_ob1__222 := E_ob1.ext OL222.2
      have E_ob2__222 := E_ob2.ext OL222.2
      have S_Long_LongCache_cache__222 := S_Long_LongCache_cache.ext OL222.2
      have Ar_oc__222 := Ar_oc.ext OL222.2
      have Fn217_0__222 := Fn217_0__219.keep Kp222
      have Fn217_1__222 := Fn217_1__219.keep Kp222 (ninS ne_b214_b219 nin0)
      have Fn217_2__222 := Fn217_2__219.keep Kp222 (ninS ne_b214_b219 nin0)
      have Zs222 : n0 ≤ T222.heap.size := Nat.le_trans Zs219 Kp222.1
      have K222 : ∀ t, Steps p.tables e below (T222.setTop (mkF m 154 #[.val (.int p0), .val (.long q1), .second, .val (.long q2), .second, .val (.int p3), .val (.int (w0_m1 p0)), .val (.int (w0_m2 p0)), .val (.int (p3 &&& (3 : Int32))), .val (.long (w0_m3 q1 q2 p3)), .second, .val (.long (w0_m4 p0 q1)), .second, .val (.long (w0_m5 p0 q1 q2 p3)), .second, .val (.ref ob2), .val (.ref ob2), .val (.ref b214), .unset, .unset, .unset] [(.ref b219)])) t → Steps p.tables e below S0 t := fun t k => K_221 t (st222.trans k)
      have K223 : ∀ t, Steps p.tables e below (T222.setTop (mkF m 167 #[.val (.int p0), .val (.long q1), .second, .val (.long q2), .second, .val (.int p3), .val (.int (w0_m1 p0)), .val (.int (w0_m2 p0)), .val (.int (p3 &&& (3 : Int32))), .val (.long (w0_m3 q1 q2 p3)), .second, .val (.long (w0_m4 p0 q1)), .second, .val (.long (w0_m5 p0 q1 q2 p3)), .second, .val (.ref ob2), .val (.ref ob2), .val (.ref b214), .val (.ref b219), .val (.int (w0_6 p3)), .unset] [(.int (1 : Int32)), (.int (w0_6 p3))])) t → Steps p.tables e below S0 t := fun t k => K222 t (by
        refine XS.astore X222.here hx rfl (hb hby at_154) rfl rfl (l' := #[.val (.int p0), .val (.long q1), .second, .val (.long q2), .second, .val (.int p3), .val (.int (w0_m1 p0)), .val (.int (w0_m2 p0)), .val (.int (p3 &&& (3 : Int32))), .val (.long (w0_m3 q1 q2 p3)), .second, .val (.long (w0_m4 p0 q1)), .second, .val (.long (w0_m5 p0 q1 q2 p3)), .second, .val (.ref ob2), .val (.ref ob2), .val (.ref b214), .val (.ref b219), .unset, .unset]) rfl ?_
        show Steps p.tables e below (T222.setTop (mkF m 156 #[.val (.int p0), .val (.long q1), .second, .val (.long q2), .second, .val (.int p3), .val (.int (w0_m1 p0)), .val (.int (w0_m2 p0)), .val (.int (p3 &&& (3 : Int32))), .val (.long (w0_m3 q1 q2 p3)), .second, .val (.long (w0_m4 p0 q1)), .second, .val (.long (w0_m5 p0 q1 q2 p3)), .second, .val (.ref ob2), .val (.ref ob2), .val (.ref b214), .val (.ref b219), .unset, .unset] [])) _
        refine XS.iload X222.here hx rfl (hb hby at_156) rfl ?_
        show Steps p.tables e below (T222.setTop (mkF m 158 #[.val (.int p0), .val (.long q1), .second, .val (.long q2), .second, .val (.int p3), .val (.int (w0_m1 p0)), .val (.int (w0_m2 p0)), .val (.int (p3 &&& (3 : Int32))), .val (.long (w0_m3 q1 q2 p3)), .second, .val (.long (w0_m4 p0 q1)), .second, .val (.long (w0_m5 p0 q1 q2 p3)), .second, .val (.ref ob2), .val (.ref ob2), .val (.ref b214), .val (.ref b219), .unset, .unset] [(.int p3)])) _
        refine XS.iconst X222.here hx rfl (hb hby at_158) ?_
        show Steps p.tables e below (T222.setTop (mkF m 159 #[.val (.int p0), .val (.long q1), .second, .val (.long q2), .second, .val (.int p3), .val (.int (w0_m1 p0)), .val (.int (w0_m2 p0)), .val (.int (p3 &&& (3 : Int32))), .val (.long (w0_m3 q1 q2 p3)), .second, .val (.long (w0_m4 p0 q1)), .second, .val (.long (w0_m5 p0 q1 q2 p3)), .second, .val (.ref ob2), .val (.ref ob2), .val (.ref b214), .val (.ref b219), .unset, .unset] [(.int (2 : Int32)), (.int p3)])) _
        refine XS.ishr X222.here hx rfl (hb hby at_159) rfl ?_
        show Steps p.tables e below (T222.setTop (mkF m 160 #[.val (.int p0), .val (.long q1), .second, .val (.long q2), .second, .val (.int p3), .val (.int (w0_m1 p0)), .val (.int (w0_m2 p0)), .val (.int (p3 &&& (3 : Int32))), .val (.long (w0_m3 q1 q2 p3)), .second, .val (.long (w0_m4 p0 q1)), .second, .val (.long (w0_m5 p0 q1 q2 p3)), .second, .val (.ref ob2), .val (.ref ob2), .val (.ref b214), .val (.ref b219), .unset, .unset] [(.int (p3 >>> ((2 : Int32) &&& 31)))])) _
        refine XS.iconst X222.here hx rfl (hb hby at_160) ?_
        show Steps p.tables e below (T222.setTop (mkF m 161 #[.val (.int p0), .val (.long q1), .second, .val (.long q2), .second, .val (.int p3), .val (.int (w0_m1 p0)), .val (.int (w0_m2 p0)), .val (.int (p3 &&& (3 : Int32))), .val (.long (w0_m3 q1 q2 p3)), .second, .val (.long (w0_m4 p0 q1)), .second, .val (.long (w0_m5 p0 q1 q2 p3)), .second, .val (.ref ob2), .val (.ref ob2), .val (.ref b214), .val (.ref b219), .unset, .unset] [(.int (3 : Int32)), (.int (p3 >>> ((2 : Int32) &&& 31)))])) _
        refine XS.iand X222.here hx rfl (hb hby at_161) rfl ?_
        show Steps p.tables e below (T222.setTop (mkF m 162 #[.val (.int p0), .val (.long q1), .second, .val (.long q2), .second, .val (.int p3), .val (.int (w0_m1 p0)), .val (.int (w0_m2 p0)), .val (.int (p3 &&& (3 : Int32))), .val (.long (w0_m3 q1 q2 p3)), .second, .val (.long (w0_m4 p0 q1)), .second, .val (.long (w0_m5 p0 q1 q2 p3)), .second, .val (.ref ob2), .val (.ref ob2), .val (.ref b214), .val (.ref b219), .unset, .unset] [(.int ((p3 >>> ((2 : Int32) &&& 31)) &&& (3 : Int32)))])) _
        refine XS.istore X222.here hx rfl (hb hby at_162) rfl (l' := #[.val (.int p0), .val (.long q1), .second, .val (.long q2), .second, .val (.int p3), .val (.int (w0_m1 p0)), .val (.int (w0_m2 p0)), .val (.int (p3 &&& (3 : Int32))), .val (.long (w0_m3 q1 q2 p3)), .second, .val (.long (w0_m4 p0 q1)), .second, .val (.long (w0_m5 p0 q1 q2 p3)), .second, .val (.ref ob2), .val (.ref ob2), .val (.ref b214), .val (.ref b219), .val (.int (w0_6 p3)), .unset]) rfl ?_
        show Steps p.tables e below (T222.setTop (mkF m 164 #[.val (.int p0), .val (.long q1), .second, .val (.long q2), .second, .val (.int p3), .val (.int (w0_m1 p0)), .val (.int (w0_m2 p0)), .val (.int (p3 &&& (3 : Int32))), .val (.long (w0_m3 q1 q2 p3)), .second, .val (.long (w0_m4 p0 q1)), .second, .val (.long (w0_m5 p0 q1 q2 p3)), .second, .val (.ref ob2), .val (.ref ob2), .val (.ref b214), .val (.ref b219), .val (.int (w0_6 p3)), .unset] [])) _
        refine XS.iload X222.here hx rfl (hb hby at_164) rfl ?_
        show Steps p.tables e below (T222.setTop (mkF m 166 #[.val (.int p0), .val (.long q1), .second, .val (.long q2), .second, .val (.int p3), .val (.int (w0_m1 p0)), .val (.int (w0_m2 p0)), .val (.int (p3 &&& (3 : Int32))), .val (.long (w0_m3 q1 q2 p3)), .second, .val (.long (w0_m4 p0 q1)), .second, .val (.long (w0_m5 p0 q1 q2 p3)), .second, .val (.ref ob2), .val (.ref ob2), .val (.ref b214), .val (.ref b219), .val (.int (w0_6 p3)), .unset] [(.int (w0_6 p3))])) _
        refine XS.iconst X222.here hx rfl (hb hby at_166) ?_
        show Steps p.tables e below (T222.setTop (mkF m 167 #[.val (.int p0), .val (.long q1), .second, .val (.long q2), .second, .val (.int p3), .val (.int (w0_m1 p0)), .val (.int (w0_m2 p0)), .val (.int (p3 &&& (3 : Int32))), .val (.long (w0_m3 q1 q2 p3)), .second, .val (.long (w0_m4 p0 q1)), .second, .val (.long (w0_m5 p0 q1 q2 p3)), .second, .val (.ref ob2), .val (.ref ob2), .val (.ref b214), .val (.ref b219), .val (.int (w0_6 p3)), .unset] [(.int (1 : Int32)), (.int (w0_6 p3))])) _
        exact k)
      by_cases hc167_2 : (w0_6 p3) = (1 : Int32)
      · -- yes
        have K224 : ∀ t, Steps p.tables e below (T222.setTop (mkF m 173 #[.val (.int p0), .val (.long q1), .second, .val (.long q2), .second, .val (.int p3), .val (.int (w0_m1 p0)), .val (.int (w0_m2 p0)), .val (.int (p3 &&& (3 : Int32))), .val (.long (w0_m3 q1 q2 p3)), .second, .val (.long (w0_m4 p0 q1)), .second, .val (.long (w0_m5 p0 q1 q2 p3)), .second, .val (.ref ob2), .val (.ref ob2), .val (.ref b214), .val (.ref b219), .val (.int (w0_6 p3)), .unset] [.null, (.ref b214)])) t → Steps p.tables e below S0 t := fun t k => K223 t (by
          refine XS.icmpNo X222.here hx rfl (hb hby at_167) rfl (XT.ii_ne_f hc167_2) ?_
          show Steps p.tables e below (T222.setTop (mkF m 170 #[.val (.int p0), .val (.long q1), .second, .val (.long q2), .second, .val (.int p3), .val (.int (w0_m1 p0)), .val (.int (w0_m2 p0)), .val (.int (p3 &&& (3 : Int32))), .val (.long (w0_m3 q1 q2 p3)), .second, .val (.long (w0_m4 p0 q1)), .second, .val (.long (w0_m5 p0 q1 q2 p3)), .second, .val (.ref ob2), .val (.ref ob2), .val (.ref b214), .val (.ref b219), .val (.int (w0_6 p3)), .unset] [])) _
          refine XS.aload X222.here hx rfl (hb hby at_170) rfl rfl ?_
          show Steps p.tables e below (T222.setTop (mkF m 172 #[.val (.int p0), .val (.long q1), .second, .val (.long q2), .second, .val (.int p3), .val (.int (w0_m1 p0)), .val (.int (w0_m2 p0)), .val (.int (p3 &&& (3 : Int32))), .val (.long (w0_m3 q1 q2 p3)), .second, .val (.long (w0_m4 p0 q1)), .second, .val (.long (w0_m5 p0 q1 q2 p3)), .second, .val (.ref ob2), .val (.ref ob2), .val (.ref b214), .val (.ref b219), .val (.int (w0_6 p3)), .unset] [(.ref b214)])) _
          refine XS.aconstNull X222.here hx rfl (hb hby at_172) ?_
          show Steps p.tables e below (T222.setTop (mkF m 173 #[.val (.int p0), .val (.long q1), .second, .val (.long q2), .second, .val (.int p3), .val (.int (w0_m1 p0)), .val (.int (w0_m2 p0)), .val (.int (p3 &&& (3 : Int32))), .val (.long (w0_m3 q1 q2 p3)), .second, .val (.long (w0_m4 p0 q1)), .second, .val (.long (w0_m5 p0 q1 q2 p3)), .second, .val (.ref ob2), .val (.ref ob2), .val (.ref b214), .val (.ref b219), .val (.int (w0_6 p3)), .unset] [.null, (.ref b214)])) _
          exact k)
        have K_225 : ∀ t, Steps p.tables e below (T222.setTop (mkF m 173 #[.val (.int p0), .val (.long q1), .second, .val (.long q2), .second, .val (.int p3), .val (.int (w0_m1 p0)), .val (.int (w0_m2 p0)), .val (.int (p3 &&& (3 : Int32))), .val (.long (w0_m3 q1 q2 p3)), .second, .val (.long (w0_m4 p0 q1)), .second, .val (.long (w0_m5 p0 q1 q2 p3)), .second, .val (.ref ob2), .val (.ref ob2), .val (.ref b214), .val (.ref b219), .val (.int (w0_6 p3)), .unset] [.null, (.ref b214)])) t → Steps p.tables e below S0 t := K224
        obtain ⟨cq226, kq226, q226a, q226b, q226c⟩ := isOf hZ rfl Fn217_0__222
        obtain ⟨_, _, ⟨T226, L226, k226, n226⟩, -, X226, ⟨Lc226, hQ226, l226, y226, z226⟩, st226⟩ := X222.virtualBack hx (y := (⟨"com/example/acervo/acervo/index/DocumentValue", "equals", "(Ljava/lang/Object;)Z"⟩ : MethodName)) (z := (⟨"com/example/acervo/acervo/index/DocumentValue", "equals", "(Ljava/lang/Object;)Z"⟩ : MethodName)) hown (mvT hZ (hw _ (List.mem_of_getElem? (i := 23) rfl))) (mvT hZ (hw _ (List.mem_of_getElem? (i := 24) rfl))) (notFace_of_selects (args := #[]) (mvT hZ (hw _ (List.mem_of_getElem? (i := 26) rfl)))) (mvT hZ (hw _ (List.mem_of_getElem? (i := 26) rfl))) (mvT hZ (hw _ (List.mem_of_getElem? (i := 25) rfl))) (by decide) (backOf (W := 0) (rm8 l Z a0 hw [] b214 T222.heap n0 Zs222 ) hZ (hw _ (List.mem_of_getElem? (i := 27) rfl)) (hw _ (List.mem_of_getElem? (i := 5) rfl)) (by decide) (by decide)) q226a q226c (g := (mkF m 173 #[.val (.int p0), .val (.long q1), .second, .val (.long q2), .second, .val (.int p3), .val (.int (w0_m1 p0)), .val (.int (w0_m2 p0)), .val (.int (p3 &&& (3 : Int32))), .val (.long (w0_m3 q1 q2 p3)), .second, .val (.long (w0_m4 p0 q1)), .second, .val (.long (w0_m5 p0 q1 q2 p3)), .second, .val (.ref ob2), .val (.ref ob2), .val (.ref b214), .val (.ref b219), .val (.int (w0_6 p3)), .unset] [.null, (.ref b214)])) rfl (by rw [hml]; rfl) (Steps.refl _) (argsL := [.null]) (rest := []) (lenOf pd0_2 rfl) rfl (by show 2 * 0 + _ ≤ _; exact Nat.le_of_eq rfl) (hb hby at_173) (fun _ _ => ⟨rfl, rfl, (by decide : 2 + 0 ≤ 16), (by decide : 4 + 0 ≤ 128)⟩)
        dsimp only [Pt.U, Pt.locs, Pt.cells, Pt.slots] at X226 l226 y226 z226 st226 hQ226
        subst l226 y226 z226
        obtain ⟨rfl, N226q, e226⟩ := hQ226
        have N226 := Fr.app N222 N226q
        have K226 : ∀ t, Steps p.tables e below (T226.setTop (mkF m 176 #[.val (.int p0), .val (.long q1), .second, .val (.long q2), .second, .val (.int p3), .val (.int (w0_m1 p0)), .val (.int (w0_m2 p0)), .val (.int (p3 &&& (3 : Int32))), .val (.long (w0_m3 q1 q2 p3)), .second, .val (.long (w0_m4 p0 q1)), .second, .val (.long (w0_m5 p0 q1 q2 p3)), .second, .val (.ref ob2), .val (.ref ob2), .val (.ref b214), .val (.ref b219), .val (.int (w0_6 p3)), .unset] [(.int (0 : Int32))])) t → Steps p.tables e below S0 t := fun t k => K_225 t (st226.trans k)
        have K227 : ∀ t, Steps p.tables e below (T226.setTop (mkF m 184 #[.val (.int p0), .val (.long q1), .second, .val (.long q2), .second, .val (.int p3), .val (.int (w0_m1 p0)), .val (.int (w0_m2 p0)), .val (.int (p3 &&& (3 : Int32))), .val (.long (w0_m3 q1 q2 p3)), .second, .val (.long (w0_m4 p0 q1)), .second, .val (.long (w0_m5 p0 q1 q2 p3)), .second, .val (.ref ob2), .val (.ref ob2), .val (.ref b214), .val (.ref b219), .val (.int (w0_6 p3)), .unset] [(.int (1 : Int32))])) t → Steps p.tables e below S0 t := fun t k => K226 t (by
          refine XS.ifNo X226.here hx rfl (hb hby at_176) rfl (XT.i0_ne_f (by decide)) ?_
          show Steps p.tables e below (T226.setTop (mkF m 179 #[.val (.int p0), .val (.long q1), .second, .val (.long q2), .second, .val (.int p3), .val (.int (w0_m1 p0)), .val (.int (w0_m2 p0)), .val (.int (p3 &&& (3 : Int32))), .val (.long (w0_m3 q1 q2 p3)), .second, .val (.long (w0_m4 p0 q1)), .second, .val (.long (w0_m5 p0 q1 q2 p3)), .second, .val (.ref ob2), .val (.ref ob2), .val (.ref b214), .val (.ref b219), .val (.int (w0_6 p3)), .unset] [])) _
          refine XS.iconst X226.here hx rfl (hb hby at_179) ?_
          show Steps p.tables e below (T226.setTop (mkF m 180 #[.val (.int p0), .val (.long q1), .second, .val (.long q2), .second, .val (.int p3), .val (.int (w0_m1 p0)), .val (.int (w0_m2 p0)), .val (.int (p3 &&& (3 : Int32))), .val (.long (w0_m3 q1 q2 p3)), .second, .val (.long (w0_m4 p0 q1)), .second, .val (.long (w0_m5 p0 q1 q2 p3)), .second, .val (.ref ob2), .val (.ref ob2), .val (.ref b214), .val (.ref b219), .val (.int (w0_6 p3)), .unset] [(.int (1 : Int32))])) _
          refine XS.goto X226.here hx rfl (pc0 := 180) (pc' := 184) rfl (hb hby at_180) (by decide) (by decide) ?_
          show Steps p.tables e below (T226.setTop (mkF m 184 #[.val (.int p0), .val (.long q1), .second, .val (.long q2), .second, .val (.int p3), .val (.int (w0_m1 p0)), .val (.int (w0_m2 p0)), .val (.int (p3 &&& (3 : Int32))), .val (.long (w0_m3 q1 q2 p3)), .second, .val (.long (w0_m4 p0 q1)), .second, .val (.long (w0_m5 p0 q1 q2 p3)), .second, .val (.ref ob2), .val (.ref ob2), .val (.ref b214), .val (.ref b219), .val (.int (w0_6 p3)), .unset] [(.int (1 : Int32))])) _
          exact k)
        obtain ⟨fs, hr, hrun, hended, hW, hsame⟩ := X226.leave (v := some (.int (1 : Int32))) (fun h => by rw [Bd.returns] at h; cases h) hlk
        refine ⟨_, _, ?_, hrun, hended, _, _, rfl, ?_, ⟨_, rfl⟩, hW, hsame.mono (by decide) (by decide)⟩
        · rw [← hS0]; exact K227 _ (retN X226 hx (t := .boolean) Bd.returns (by simp) (hb hby at_184) hr)
        · show Q0 Z p0 q1 q2 p3 ob1 ob2 oc cc h0 n0 _ T226.heap _
          rw [e226]
          have qr : (1 : Int32) = (w0_r10 p0 q1 q2 p3) := by unfold w0_r10; rw [if_neg hc100_0, if_neg hc116_1, if_pos hc167_2]
          exact ⟨congrArg (fun z => some (Value.int z)) qr, N226⟩
      · -- no
        have K228 : ∀ t, Steps p.tables e below (T222.setTop (mkF m 188 #[.val (.int p0), .val (.long q1), .second, .val (.long q2), .second, .val (.int p3), .val (.int (w0_m1 p0)), .val (.int (w0_m2 p0)), .val (.int (p3 &&& (3 : Int32))), .val (.long (w0_m3 q1 q2 p3)), .second, .val (.long (w0_m4 p0 q1)), .second, .val (.long (w0_m5 p0 q1 q2 p3)), .second, .val (.ref ob2), .val (.ref ob2), .val (.ref b214), .val (.ref b219), .val (.int (w0_6 p3)), .unset] [(.int (2 : Int32)), (.int (w0_6 p3))])) t → Steps p.tables e below S0 t := fun t k => K223 t (by
          refine XS.icmpYes X222.here hx rfl (pc0 := 167) (pc' := 185) rfl (hb hby at_167) rfl (XT.ii_ne_t hc167_2) (by decide) (by decide) ?_
          show Steps p.tables e below (T222.setTop (mkF m 185 #[.val (.int p0), .val (.long q1), .second, .val (.long q2), .second, .val (.int p3), .val (.int (w0_m1 p0)), .val (.int (w0_m2 p0)), .val (.int (p3 &&& (3 : Int32))), .val (.long (w0_m3 q1 q2 p3)), .second, .val (.long (w0_m4 p0 q1)), .second, .val (.long (w0_m5 p0 q1 q2 p3)), .second, .val (.ref ob2), .val (.ref ob2), .val (.ref b214), .val (.ref b219), .val (.int (w0_6 p3)), .unset] [])) _
          refine XS.iload X222.here hx rfl (hb hby at_185) rfl ?_
          show Steps p.tables e below (T222.setTop (mkF m 187 #[.val (.int p0), .val (.long q1), .second, .val (.long q2), .second, .val (.int p3), .val (.int (w0_m1 p0)), .val (.int (w0_m2 p0)), .val (.int (p3 &&& (3 : Int32))), .val (.long (w0_m3 q1 q2 p3)), .second, .val (.long (w0_m4 p0 q1)), .second, .val (.long (w0_m5 p0 q1 q2 p3)), .second, .val (.ref ob2), .val (.ref ob2), .val (.ref b214), .val (.ref b219), .val (.int (w0_6 p3)), .unset] [(.int (w0_6 p3))])) _
          refine XS.iconst X222.here hx rfl (hb hby at_187) ?_
          show Steps p.tables e below (T222.setTop (mkF m 188 #[.val (.int p0), .val (.long q1), .second, .val (.long q2), .second, .val (.int p3), .val (.int (w0_m1 p0)), .val (.int (w0_m2 p0)), .val (.int (p3 &&& (3 : Int32))), .val (.long (w0_m3 q1 q2 p3)), .second, .val (.long (w0_m4 p0 q1)), .second, .val (.long (w0_m5 p0 q1 q2 p3)), .second, .val (.ref ob2), .val (.ref ob2), .val (.ref b214), .val (.ref b219), .val (.int (w0_6 p3)), .unset] [(.int (2 : Int32)), (.int (w0_6 p3))])) _
          exact k)
        by_cases hc188_3 : (w0_6 p3) = (2 : Int32)
        · -- yes
          have K229 : ∀ t, Steps p.tables e below (T222.setTop (mkF m 195 #[.val (.int p0), .val (.long q1), .second, .val (.long q2), .second, .val (.int p3), .val (.int (w0_m1 p0)), .val (.int (w0_m2 p0)), .val (.int (p3 &&& (3 : Int32))), .val (.long (w0_m3 q1 q2 p3)), .second, .val (.long (w0_m4 p0 q1)), .second, .val (.long (w0_m5 p0 q1 q2 p3)), .second, .val (.ref ob2), .val (.ref ob2), .val (.ref b214), .val (.ref b219), .val (.int (w0_6 p3)), .unset] [(.long (w0_m4 p0 q1)), (.ref b214)])) t → Steps p.tables e below S0 t := fun t k => K228 t (by
            refine XS.icmpNo X222.here hx rfl (hb hby at_188) rfl (XT.ii_ne_f hc188_3) ?_
            show Steps p.tables e below (T222.setTop (mkF m 191 #[.val (.int p0), .val (.long q1), .second, .val (.long q2), .second, .val (.int p3), .val (.int (w0_m1 p0)), .val (.int (w0_m2 p0)), .val (.int (p3 &&& (3 : Int32))), .val (.long (w0_m3 q1 q2 p3)), .second, .val (.long (w0_m4 p0 q1)), .second, .val (.long (w0_m5 p0 q1 q2 p3)), .second, .val (.ref ob2), .val (.ref ob2), .val (.ref b214), .val (.ref b219), .val (.int (w0_6 p3)), .unset] [])) _
            refine XS.aload X222.here hx rfl (hb hby at_191) rfl rfl ?_
            show Steps p.tables e below (T222.setTop (mkF m 193 #[.val (.int p0), .val (.long q1), .second, .val (.long q2), .second, .val (.int p3), .val (.int (w0_m1 p0)), .val (.int (w0_m2 p0)), .val (.int (p3 &&& (3 : Int32))), .val (.long (w0_m3 q1 q2 p3)), .second, .val (.long (w0_m4 p0 q1)), .second, .val (.long (w0_m5 p0 q1 q2 p3)), .second, .val (.ref ob2), .val (.ref ob2), .val (.ref b214), .val (.ref b219), .val (.int (w0_6 p3)), .unset] [(.ref b214)])) _
            refine XS.lload X222.here hx rfl (hb hby at_193) rfl ?_
            show Steps p.tables e below (T222.setTop (mkF m 195 #[.val (.int p0), .val (.long q1), .second, .val (.long q2), .second, .val (.int p3), .val (.int (w0_m1 p0)), .val (.int (w0_m2 p0)), .val (.int (p3 &&& (3 : Int32))), .val (.long (w0_m3 q1 q2 p3)), .second, .val (.long (w0_m4 p0 q1)), .second, .val (.long (w0_m5 p0 q1 q2 p3)), .second, .val (.ref ob2), .val (.ref ob2), .val (.ref b214), .val (.ref b219), .val (.int (w0_6 p3)), .unset] [(.long (w0_m4 p0 q1)), (.ref b214)])) _
            exact k)
          by_cases hc195_4 : (w0_m4 p0 q1) < (-128 : Int64)
          · -- yes
            have K_230 : ∀ t, Steps p.tables e below (T222.setTop (mkF m 195 #[.val (.int p0), .val (.long q1), .second, .val (.long q2), .second, .val (.int p3), .val (.int (w0_m1 p0)), .val (.int (w0_m2 p0)), .val (.int (p3 &&& (3 : Int32))), .val (.long (w0_m3 q1 q2 p3)), .second, .val (.long (w0_m4 p0 q1)), .second, .val (.long (w0_m5 p0 q1 q2 p3)), .second, .val (.ref ob2), .val (.ref ob2), .val (.ref b214), .val (.ref b219), .val (.int (w0_6 p3)), .unset] [(.long (w0_m4 p0 q1)), (.ref b214)])) t → Steps p.tables e below S0 t := K229
            obtain ⟨_, _, ⟨T231, L231, k231, n231⟩, -, X231, ⟨Lc231, hQ231, l231, y231, z231⟩, st231⟩ := Jvm.LawKit.callS X222 hx (y := (⟨"java/lang/Long", "valueOf", "(J)Ljava/lang/Long;"⟩ : MethodName)) hown (mvT hZ (hw _ (List.mem_of_getElem? (i := 43) rfl))) (mvT hZ (hw _ (List.mem_of_getElem? (i := 44) rfl))) (mvT hZ (hw _ (List.mem_of_getElem? (i := 45) rfl))) (mvT hZ (hw _ (List.mem_of_getElem? (i := 46) rfl))) (by decide) (backOf (W := 1) (rmLlo l Z a0 hw [] (w0_m4 p0 q1) T222.heap n0 Zs222 hc195_4) hZ (hw _ (List.mem_of_getElem? (i := 46) rfl)) (hw _ (List.mem_of_getElem? (i := 45) rfl)) (by decide) (by decide)) (g := (mkF m 195 #[.val (.int p0), .val (.long q1), .second, .val (.long q2), .second, .val (.int p3), .val (.int (w0_m1 p0)), .val (.int (w0_m2 p0)), .val (.int (p3 &&& (3 : Int32))), .val (.long (w0_m3 q1 q2 p3)), .second, .val (.long (w0_m4 p0 q1)), .second, .val (.long (w0_m5 p0 q1 q2 p3)), .second, .val (.ref ob2), .val (.ref ob2), .val (.ref b214), .val (.ref b219), .val (.int (w0_6 p3)), .unset] [(.long (w0_m4 p0 q1)), (.ref b214)])) rfl (by rw [hml]; rfl) (argsL := [(.long (w0_m4 p0 q1))]) (rest := [(.ref b214)]) (lenOf pd0_3 rfl) rfl (by show 2 * 0 + _ ≤ _; exact Nat.le_of_eq rfl) (hb hby at_195) (fun _ _ => ⟨rfl, rfl, (by decide : 2 + 1 ≤ 16), (by decide : 4 + 1 ≤ 128)⟩)
            dsimp only [Pt.U, Pt.locs, Pt.cells, Pt.slots] at X231 l231 y231 z231 st231 hQ231
            subst l231 y231 z231
            obtain ⟨b231_4, rfl, N231q, Kp231, lb_b231_4, Fn231_0, Fn231_1⟩ := hQ231
            have N231 := Fr.app N222 N231q
            have g_b231_4 : n0 ≤ b231_4 := Nat.le_trans Zs222 lb_b231_4
            have ne_ob1_b231_4 : ob1 ≠ b231_4 := Nat.ne_of_lt (Nat.lt_of_lt_of_le E_ob1__222.lt lb_b231_4)
            have ne_ob2_b231_4 : ob2 ≠ b231_4 := Nat.ne_of_lt (Nat.lt_of_lt_of_le E_ob2__222.lt lb_b231_4)
            have ne_oc_b231_4 : oc ≠ b231_4 := Nat.ne_of_lt (Nat.lt_of_lt_of_le Ar_oc__222.lt lb_b231_4)
            have ne_b214_b231_4 : b214 ≠ b231_4 := Nat.ne_of_lt (Nat.lt_of_lt_of_le Fn217_0__222.lt lb_b231_4)
            have ne_b219_b231_4 : b219 ≠ b231_4 := Nat.ne_of_lt (Nat.lt_of_lt_of_le Fn222_0.lt lb_b231_4)
            have OL231 := OL222.keep Kp231 all0
            have S_DocumentValue_Kind_NUMBER__231 := S_DocumentValue_Kind_NUMBER.ext OL231.2
            have S_DocumentValue_Kind_DATE__231 := S_DocumentValue_Kind_DATE.ext OL231.2
            have E_ob1__231 := E_ob1.ext OL231.2
            have E_ob2__231 := E_ob2.ext OL231.2
            have S_Long_LongCache_cache__231 := S_Long_LongCache_cache.ext OL231.2
            have Ar_oc__231 := Ar_oc.ext OL231.2
            have Fn217_0__231 := Fn217_0__222.keep Kp231
            have Fn217_1__231 := Fn217_1__222.keep Kp231 nin0
            have Fn217_2__231 := Fn217_2__222.keep Kp231 nin0
            have Fn222_0__231 := Fn222_0.keep Kp231
            have Fn222_1__231 := Fn222_1.keep Kp231 nin0
            have Fn222_2__231 := Fn222_2.keep Kp231 nin0
            have Zs231 : n0 ≤ T231.heap.size := Nat.le_trans Zs222 Kp231.1
            have K231 : ∀ t, Steps p.tables e below (T231.setTop (mkF m 198 #[.val (.int p0), .val (.long q1), .second, .val (.long q2), .second, .val (.int p3), .val (.int (w0_m1 p0)), .val (.int (w0_m2 p0)), .val (.int (p3 &&& (3 : Int32))), .val (.long (w0_m3 q1 q2 p3)), .second, .val (.long (w0_m4 p0 q1)), .second, .val (.long (w0_m5 p0 q1 q2 p3)), .second, .val (.ref ob2), .val (.ref ob2), .val (.ref b214), .val (.ref b219), .val (.int (w0_6 p3)), .unset] [(.ref b231_4), (.ref b214)])) t → Steps p.tables e below S0 t := fun t k => K_230 t (st231 t k)
            have K_232 : ∀ t, Steps p.tables e below (T231.setTop (mkF m 198 #[.val (.int p0), .val (.long q1), .second, .val (.long q2), .second, .val (.int p3), .val (.int (w0_m1 p0)), .val (.int (w0_m2 p0)), .val (.int (p3 &&& (3 : Int32))), .val (.long (w0_m3 q1 q2 p3)), .second, .val (.long (w0_m4 p0 q1)), .second, .val (.long (w0_m5 p0 q1 q2 p3)), .second, .val (.ref ob2), .val (.ref ob2), .val (.ref b214), .val (.ref b219), .val (.int (w0_6 p3)), .unset] [(.ref b231_4), (.ref b214)])) t → Steps p.tables e below S0 t := K231
            obtain ⟨cq233, kq233, q233a, q233b, q233c⟩ := isOf hZ rfl Fn217_0__231
            obtain ⟨_, _, ⟨T233, L233, k233, n233⟩, -, X233, ⟨Lc233, hQ233, l233, y233, z233⟩, st233⟩ := X231.virtualBack hx (y := (⟨"com/example/acervo/acervo/index/DocumentValue", "equals", "(Ljava/lang/Object;)Z"⟩ : MethodName)) (z := (⟨"com/example/acervo/acervo/index/DocumentValue", "equals", "(Ljava/lang/Object;)Z"⟩ : MethodName)) hown (mvT hZ (hw _ (List.mem_of_getElem? (i := 23) rfl))) (mvT hZ (hw _ (List.mem_of_getElem? (i := 24) rfl))) (notFace_of_selects (args := #[]) (mvT hZ (hw _ (List.mem_of_getElem? (i := 26) rfl)))) (mvT hZ (hw _ (List.mem_of_getElem? (i := 26) rfl))) (mvT hZ (hw _ (List.mem_of_getElem? (i := 25) rfl))) (by decide) (backOf (W := 0) (rm9 l Z a0 hw [] b214 b231_4 T231.heap n0 Zs231 Fn231_0) hZ (hw _ (List.mem_of_getElem? (i := 27) rfl)) (hw _ (List.mem_of_getElem? (i := 5) rfl)) (by decide) (by decide)) q233a q233c (g := (mkF m 198 #[.val (.int p0), .val (.long q1), .second, .val (.long q2), .second, .val (.int p3), .val (.int (w0_m1 p0)), .val (.int (w0_m2 p0)), .val (.int (p3 &&& (3 : Int32))), .val (.long (w0_m3 q1 q2 p3)), .second, .val (.long (w0_m4 p0 q1)), .second, .val (.long (w0_m5 p0 q1 q2 p3)), .second, .val (.ref ob2), .val (.ref ob2), .val (.ref b214), .val (.ref b219), .val (.int (w0_6 p3)), .unset] [(.ref b231_4), (.ref b214)])) rfl (by rw [hml]; rfl) (Steps.refl _) (argsL := [(.ref b231_4)]) (rest := []) (lenOf pd0_2 rfl) rfl (by show 2 * 0 + _ ≤ _; exact Nat.le_of_eq rfl) (hb hby at_198) (fun _ _ => ⟨rfl, rfl, (by decide : 3 + 0 ≤ 16), (by decide : 5 + 0 ≤ 128)⟩)
            dsimp only [Pt.U, Pt.locs, Pt.cells, Pt.slots] at X233 l233 y233 z233 st233 hQ233
            subst l233 y233 z233
            obtain ⟨rfl, N233q, e233⟩ := hQ233
            have N233 := Fr.app N231 N233q
            have K233 : ∀ t, Steps p.tables e below (T233.setTop (mkF m 201 #[.val (.int p0), .val (.long q1), .second, .val (.long q2), .second, .val (.int p3), .val (.int (w0_m1 p0)), .val (.int (w0_m2 p0)), .val (.int (p3 &&& (3 : Int32))), .val (.long (w0_m3 q1 q2 p3)), .second, .val (.long (w0_m4 p0 q1)), .second, .val (.long (w0_m5 p0 q1 q2 p3)), .second, .val (.ref ob2), .val (.ref ob2), .val (.ref b214), .val (.ref b219), .val (.int (w0_6 p3)), .unset] [(.int (0 : Int32))])) t → Steps p.tables e below S0 t := fun t k => K_232 t (st233.trans k)
            have K234 : ∀ t, Steps p.tables e below (T233.setTop (mkF m 209 #[.val (.int p0), .val (.long q1), .second, .val (.long q2), .second, .val (.int p3), .val (.int (w0_m1 p0)), .val (.int (w0_m2 p0)), .val (.int (p3 &&& (3 : Int32))), .val (.long (w0_m3 q1 q2 p3)), .second, .val (.long (w0_m4 p0 q1)), .second, .val (.long (w0_m5 p0 q1 q2 p3)), .second, .val (.ref ob2), .val (.ref ob2), .val (.ref b214), .val (.ref b219), .val (.int (w0_6 p3)), .unset] [(.int (1 : Int32))])) t → Steps p.tables e below S0 t := fun t k => K233 t (by
              refine XS.ifNo X233.here hx rfl (hb hby at_201) rfl (XT.i0_ne_f (by decide)) ?_
              show Steps p.tables e below (T233.setTop (mkF m 204 #[.val (.int p0), .val (.long q1), .second, .val (.long q2), .second, .val (.int p3), .val (.int (w0_m1 p0)), .val (.int (w0_m2 p0)), .val (.int (p3 &&& (3 : Int32))), .val (.long (w0_m3 q1 q2 p3)), .second, .val (.long (w0_m4 p0 q1)), .second, .val (.long (w0_m5 p0 q1 q2 p3)), .second, .val (.ref ob2), .val (.ref ob2), .val (.ref b214), .val (.ref b219), .val (.int (w0_6 p3)), .unset] [])) _
              refine XS.iconst X233.here hx rfl (hb hby at_204) ?_
              show Steps p.tables e below (T233.setTop (mkF m 205 #[.val (.int p0), .val (.long q1), .second, .val (.long q2), .second, .val (.int p3), .val (.int (w0_m1 p0)), .val (.int (w0_m2 p0)), .val (.int (p3 &&& (3 : Int32))), .val (.long (w0_m3 q1 q2 p3)), .second, .val (.long (w0_m4 p0 q1)), .second, .val (.long (w0_m5 p0 q1 q2 p3)), .second, .val (.ref ob2), .val (.ref ob2), .val (.ref b214), .val (.ref b219), .val (.int (w0_6 p3)), .unset] [(.int (1 : Int32))])) _
              refine XS.goto X233.here hx rfl (pc0 := 205) (pc' := 209) rfl (hb hby at_205) (by decide) (by decide) ?_
              show Steps p.tables e below (T233.setTop (mkF m 209 #[.val (.int p0), .val (.long q1), .second, .val (.long q2), .second, .val (.int p3), .val (.int (w0_m1 p0)), .val (.int (w0_m2 p0)), .val (.int (p3 &&& (3 : Int32))), .val (.long (w0_m3 q1 q2 p3)), .second, .val (.long (w0_m4 p0 q1)), .second, .val (.long (w0_m5 p0 q1 q2 p3)), .second, .val (.ref ob2), .val (.ref ob2), .val (.ref b214), .val (.ref b219), .val (.int (w0_6 p3)), .unset] [(.int (1 : Int32))])) _
              exact k)
            obtain ⟨fs, hr, hrun, hended, hW, hsame⟩ := X233.leave (v := some (.int (1 : Int32))) (fun h => by rw [Bd.returns] at h; cases h) hlk
            refine ⟨_, _, ?_, hrun, hended, _, _, rfl, ?_, ⟨_, rfl⟩, hW, hsame.mono (by decide) (by decide)⟩
            · rw [← hS0]; exact K234 _ (retN X233 hx (t := .boolean) Bd.returns (by simp) (hb hby at_209) hr)
            · show Q0 Z p0 q1 q2 p3 ob1 ob2 oc cc h0 n0 _ T233.heap _
              rw [e233]
              have qr : (1 : Int32) = (w0_r10 p0 q1 q2 p3) := by unfold w0_r10; rw [if_neg hc100_0, if_neg hc116_1, if_neg hc167_2, if_pos hc188_3]
              exact ⟨congrArg (fun z => some (Value.int z)) qr, N233⟩
          · -- no
            by_cases hc195_5 : (127 : Int64) < (w0_m4 p0 q1)
            · -- yes
              have K_235 : ∀ t, Steps p.tables e below (T222.setTop (mkF m 195 #[.val (.int p0), .val (.long q1), .second, .val (.long q2), .second, .val (.int p3), .val (.int (w0_m1 p0)), .val (.int (w0_m2 p0)), .val (.int (p3 &&& (3 : Int32))), .val (.long (w0_m3 q1 q2 p3)), .second, .val (.long (w0_m4 p0 q1)), .second, .val (.long (w0_m5 p0 q1 q2 p3)), .second, .val (.ref ob2), .val (.ref ob2), .val (.ref b214), .val (.ref b219), .val (.int (w0_6 p3)), .unset] [(.long (w0_m4 p0 q1)), (.ref b214)])) t → Steps p.tables e below S0 t := K229
              obtain ⟨_, _, ⟨T236, L236, k236, n236⟩, -, X236, ⟨Lc236, hQ236, l236, y236, z236⟩, st236⟩ := Jvm.LawKit.callS X222 hx (y := (⟨"java/lang/Long", "valueOf", "(J)Ljava/lang/Long;"⟩ : MethodName)) hown (mvT hZ (hw _ (List.mem_of_getElem? (i := 43) rfl))) (mvT hZ (hw _ (List.mem_of_getElem? (i := 44) rfl))) (mvT hZ (hw _ (List.mem_of_getElem? (i := 45) rfl))) (mvT hZ (hw _ (List.mem_of_getElem? (i := 46) rfl))) (by decide) (backOf (W := 1) (rmLhi l Z a0 hw [] (w0_m4 p0 q1) T222.heap n0 Zs222 hc195_4 hc195_5) hZ (hw _ (List.mem_of_getElem? (i := 46) rfl)) (hw _ (List.mem_of_getElem? (i := 45) rfl)) (by decide) (by decide)) (g := (mkF m 195 #[.val (.int p0), .val (.long q1), .second, .val (.long q2), .second, .val (.int p3), .val (.int (w0_m1 p0)), .val (.int (w0_m2 p0)), .val (.int (p3 &&& (3 : Int32))), .val (.long (w0_m3 q1 q2 p3)), .second, .val (.long (w0_m4 p0 q1)), .second, .val (.long (w0_m5 p0 q1 q2 p3)), .second, .val (.ref ob2), .val (.ref ob2), .val (.ref b214), .val (.ref b219), .val (.int (w0_6 p3)), .unset] [(.long (w0_m4 p0 q1)), (.ref b214)])) rfl (by rw [hml]; rfl) (argsL := [(.long (w0_m4 p0 q1))]) (rest := [(.ref b214)]) (lenOf pd0_3 rfl) rfl (by show 2 * 0 + _ ≤ _; exact Nat.le_of_eq rfl) (hb hby at_195) (fun _ _ => ⟨rfl, rfl, (by decide : 2 + 1 ≤ 16), (by decide : 4 + 1 ≤ 128)⟩)
              dsimp only [Pt.U, Pt.locs, Pt.cells, Pt.slots] at X236 l236 y236 z236 st236 hQ236
              subst l236 y236 z236
              obtain ⟨b236_6, rfl, N236q, Kp236, lb_b236_6, Fn236_0, Fn236_1⟩ := hQ236
              have N236 := Fr.app N222 N236q
              have g_b236_6 : n0 ≤ b236_6 := Nat.le_trans Zs222 lb_b236_6
              have ne_ob1_b236_6 : ob1 ≠ b236_6 := Nat.ne_of_lt (Nat.lt_of_lt_of_le E_ob1__222.lt lb_b236_6)
              have ne_ob2_b236_6 : ob2 ≠ b236_6 := Nat.ne_of_lt (Nat.lt_of_lt_of_le E_ob2__222.lt lb_b236_6)
              have ne_oc_b236_6 : oc ≠ b236_6 := Nat.ne_of_lt (Nat.lt_of_lt_of_le Ar_oc__222.lt lb_b236_6)
              have ne_b214_b236_6 : b214 ≠ b236_6 := Nat.ne_of_lt (Nat.lt_of_lt_of_le Fn217_0__222.lt lb_b236_6)
              have ne_b219_b236_6 : b219 ≠ b236_6 := Nat.ne_of_lt (Nat.lt_of_lt_of_le Fn222_0.lt lb_b236_6)
              have OL236 := OL222.keep Kp236 all0
              have S_DocumentValue_Kind_NUMBER__236 := S_DocumentValue_Kind_NUMBER.ext OL236.2
              have S_DocumentValue_Kind_DATE__236 := S_DocumentValue_Kind_DATE.ext OL236.2
              have E_ob1__236 := E_ob1.ext OL236.2
              have E_ob2__236 := E_ob2.ext OL236.2
              have S_Long_LongCache_cache__236 := S_Long_LongCache_cache.ext OL236.2
              have Ar_oc__236 := Ar_oc.ext OL236.2
              have Fn217_0__236 := Fn217_0__222.keep Kp236
              have Fn217_1__236 := Fn217_1__222.keep Kp236 nin0
              have Fn217_2__236 := Fn217_2__222.keep Kp236 nin0
              have Fn222_0__236 := Fn222_0.keep Kp236
              have Fn222_1__236 := Fn222_1.keep Kp236 nin0
              have Fn222_2__236 := Fn222_2.keep Kp236 nin0
              have Zs236 : n0 ≤ T236.heap.size := Nat.le_trans Zs222 Kp236.1
              have K236 : ∀ t, Steps p.tables e below (T236.setTop (mkF m 198 #[.val (.int p0), .val (.long q1), .second, .val (.long q2), .second, .val (.int p3), .val (.int (w0_m1 p0)), .val (.int (w0_m2 p0)), .val (.int (p3 &&& (3 : Int32))), .val (.long (w0_m3 q1 q2 p3)), .second, .val (.long (w0_m4 p0 q1)), .second, .val (.long (w0_m5 p0 q1 q2 p3)), .second, .val (.ref ob2), .val (.ref ob2), .val (.ref b214), .val (.ref b219), .val (.int (w0_6 p3)), .unset] [(.ref b236_6), (.ref b214)])) t → Steps p.tables e below S0 t := fun t k => K_235 t (st236 t k)
              have K_237 : ∀ t, Steps p.tables e below (T236.setTop (mkF m 198 #[.val (.int p0), .val (.long q1), .second, .val (.long q2), .second, .val (.int p3), .val (.int (w0_m1 p0)), .val (.int (w0_m2 p0)), .val (.int (p3 &&& (3 : Int32))), .val (.long (w0_m3 q1 q2 p3)), .second, .val (.long (w0_m4 p0 q1)), .second, .val (.long (w0_m5 p0 q1 q2 p3)), .second, .val (.ref ob2), .val (.ref ob2), .val (.ref b214), .val (.ref b219), .val (.int (w0_6 p3)), .unset] [(.ref b236_6), (.ref b214)])) t → Steps p.tables e below S0 t := K236
              obtain ⟨cq238, kq238, q238a, q238b, q238c⟩ := isOf hZ rfl Fn217_0__236
              obtain ⟨_, _, ⟨T238, L238, k238, n238⟩, -, X238, ⟨Lc238, hQ238, l238, y238, z238⟩, st238⟩ := X236.virtualBack hx (y := (⟨"com/example/acervo/acervo/index/DocumentValue", "equals", "(Ljava/lang/Object;)Z"⟩ : MethodName)) (z := (⟨"com/example/acervo/acervo/index/DocumentValue", "equals", "(Ljava/lang/Object;)Z"⟩ : MethodName)) hown (mvT hZ (hw _ (List.mem_of_getElem? (i := 23) rfl))) (mvT hZ (hw _ (List.mem_of_getElem? (i := 24) rfl))) (notFace_of_selects (args := #[]) (mvT hZ (hw _ (List.mem_of_getElem? (i := 26) rfl)))) (mvT hZ (hw _ (List.mem_of_getElem? (i := 26) rfl))) (mvT hZ (hw _ (List.mem_of_getElem? (i := 25) rfl))) (by decide) (backOf (W := 0) (rm9 l Z a0 hw [] b214 b236_6 T236.heap n0 Zs236 Fn236_0) hZ (hw _ (List.mem_of_getElem? (i := 27) rfl)) (hw _ (List.mem_of_getElem? (i := 5) rfl)) (by decide) (by decide)) q238a q238c (g := (mkF m 198 #[.val (.int p0), .val (.long q1), .second, .val (.long q2), .second, .val (.int p3), .val (.int (w0_m1 p0)), .val (.int (w0_m2 p0)), .val (.int (p3 &&& (3 : Int32))), .val (.long (w0_m3 q1 q2 p3)), .second, .val (.long (w0_m4 p0 q1)), .second, .val (.long (w0_m5 p0 q1 q2 p3)), .second, .val (.ref ob2), .val (.ref ob2), .val (.ref b214), .val (.ref b219), .val (.int (w0_6 p3)), .unset] [(.ref b236_6), (.ref b214)])) rfl (by rw [hml]; rfl) (Steps.refl _) (argsL := [(.ref b236_6)]) (rest := []) (lenOf pd0_2 rfl) rfl (by show 2 * 0 + _ ≤ _; exact Nat.le_of_eq rfl) (hb hby at_198) (fun _ _ => ⟨rfl, rfl, (by decide : 3 + 0 ≤ 16), (by decide : 5 + 0 ≤ 128)⟩)
              dsimp only [Pt.U, Pt.locs, Pt.cells, Pt.slots] at X238 l238 y238 z238 st238 hQ238
              subst l238 y238 z238
              obtain ⟨rfl, N238q, e238⟩ := hQ238
              have N238 := Fr.app N236 N238q
              have K238 : ∀ t, Steps p.tables e below (T238.setTop (mkF m 201 #[.val (.int p0), .val (.long q1), .second, .val (.long q2), .second, .val (.int p3), .val (.int (w0_m1 p0)), .val (.int (w0_m2 p0)), .val (.int (p3 &&& (3 : Int32))), .val (.long (w0_m3 q1 q2 p3)), .second, .val (.long (w0_m4 p0 q1)), .second, .val (.long (w0_m5 p0 q1 q2 p3)), .second, .val (.ref ob2), .val (.ref ob2), .val (.ref b214), .val (.ref b219), .val (.int (w0_6 p3)), .unset] [(.int (0 : Int32))])) t → Steps p.tables e below S0 t := fun t k => K_237 t (st238.trans k)
              have K239 : ∀ t, Steps p.tables e below (T238.setTop (mkF m 209 #[.val (.int p0), .val (.long q1), .second, .val (.long q2), .second, .val (.int p3), .val (.int (w0_m1 p0)), .val (.int (w0_m2 p0)), .val (.int (p3 &&& (3 : Int32))), .val (.long (w0_m3 q1 q2 p3)), .second, .val (.long (w0_m4 p0 q1)), .second, .val (.long (w0_m5 p0 q1 q2 p3)), .second, .val (.ref ob2), .val (.ref ob2), .val (.ref b214), .val (.ref b219), .val (.int (w0_6 p3)), .unset] [(.int (1 : Int32))])) t → Steps p.tables e below S0 t := fun t k => K238 t (by
                refine XS.ifNo X238.here hx rfl (hb hby at_201) rfl (XT.i0_ne_f (by decide)) ?_
                show Steps p.tables e below (T238.setTop (mkF m 204 #[.val (.int p0), .val (.long q1), .second, .val (.long q2), .second, .val (.int p3), .val (.int (w0_m1 p0)), .val (.int (w0_m2 p0)), .val (.int (p3 &&& (3 : Int32))), .val (.long (w0_m3 q1 q2 p3)), .second, .val (.long (w0_m4 p0 q1)), .second, .val (.long (w0_m5 p0 q1 q2 p3)), .second, .val (.ref ob2), .val (.ref ob2), .val (.ref b214), .val (.ref b219), .val (.int (w0_6 p3)), .unset] [])) _
                refine XS.iconst X238.here hx rfl (hb hby at_204) ?_
                show Steps p.tables e below (T238.setTop (mkF m 205 #[.val (.int p0), .val (.long q1), .second, .val (.long q2), .second, .val (.int p3), .val (.int (w0_m1 p0)), .val (.int (w0_m2 p0)), .val (.int (p3 &&& (3 : Int32))), .val (.long (w0_m3 q1 q2 p3)), .second, .val (.long (w0_m4 p0 q1)), .second, .val (.long (w0_m5 p0 q1 q2 p3)), .second, .val (.ref ob2), .val (.ref ob2), .val (.ref b214), .val (.ref b219), .val (.int (w0_6 p3)), .unset] [(.int (1 : Int32))])) _
                refine XS.goto X238.here hx rfl (pc0 := 205) (pc' := 209) rfl (hb hby at_205) (by decide) (by decide) ?_
                show Steps p.tables e below (T238.setTop (mkF m 209 #[.val (.int p0), .val (.long q1), .second, .val (.long q2), .second, .val (.int p3), .val (.int (w0_m1 p0)), .val (.int (w0_m2 p0)), .val (.int (p3 &&& (3 : Int32))), .val (.long (w0_m3 q1 q2 p3)), .second, .val (.long (w0_m4 p0 q1)), .second, .val (.long (w0_m5 p0 q1 q2 p3)), .second, .val (.ref ob2), .val (.ref ob2), .val (.ref b214), .val (.ref b219), .val (.int (w0_6 p3)), .unset] [(.int (1 : Int32))])) _
                exact k)
              obtain ⟨fs, hr, hrun, hended, hW, hsame⟩ := X238.leave (v := some (.int (1 : Int32))) (fun h => by rw [Bd.returns] at h; cases h) hlk
              refine ⟨_, _, ?_, hrun, hended, _, _, rfl, ?_, ⟨_, rfl⟩, hW, hsame.mono (by decide) (by decide)⟩
              · rw [← hS0]; exact K239 _ (retN X238 hx (t := .boolean) Bd.returns (by simp) (hb hby at_209) hr)
              · show Q0 Z p0 q1 q2 p3 ob1 ob2 oc cc h0 n0 _ T238.heap _
                rw [e238]
                have qr : (1 : Int32) = (w0_r10 p0 q1 q2 p3) := by unfold w0_r10; rw [if_neg hc100_0, if_neg hc116_1, if_neg hc167_2, if_pos hc188_3]
                exact ⟨congrArg (fun z => some (Value.int z)) qr, N238⟩
            · -- no
              obtain ⟨oe, hin240, hat240, Eo240⟩ := hcache (w0_m4 p0 q1) hc195_4 hc195_5
              have Ee240 := Eo240.ext OL222.2
              have K_241 : ∀ t, Steps p.tables e below (T222.setTop (mkF m 195 #[.val (.int p0), .val (.long q1), .second, .val (.long q2), .second, .val (.int p3), .val (.int (w0_m1 p0)), .val (.int (w0_m2 p0)), .val (.int (p3 &&& (3 : Int32))), .val (.long (w0_m3 q1 q2 p3)), .second, .val (.long (w0_m4 p0 q1)), .second, .val (.long (w0_m5 p0 q1 q2 p3)), .second, .val (.ref ob2), .val (.ref ob2), .val (.ref b214), .val (.ref b219), .val (.int (w0_6 p3)), .unset] [(.long (w0_m4 p0 q1)), (.ref b214)])) t → Steps p.tables e below S0 t := K229
              obtain ⟨_, _, ⟨T242, L242, k242, n242⟩, -, X242, ⟨Lc242, hQ242, l242, y242, z242⟩, st242⟩ := Jvm.LawKit.callS X222 hx (y := (⟨"java/lang/Long", "valueOf", "(J)Ljava/lang/Long;"⟩ : MethodName)) hown (mvT hZ (hw _ (List.mem_of_getElem? (i := 43) rfl))) (mvT hZ (hw _ (List.mem_of_getElem? (i := 44) rfl))) (mvT hZ (hw _ (List.mem_of_getElem? (i := 45) rfl))) (mvT hZ (hw _ (List.mem_of_getElem? (i := 46) rfl))) (by decide) (backOf (W := 1) (rmLca l Z a0 hw [] (w0_m4 p0 q1) oc cc oe T222.heap n0 Zs222 S_Long_LongCache_cache__222 Ar_oc__222 hc195_4 hc195_5 hin240 hat240) hZ (hw _ (List.mem_of_getElem? (i := 46) rfl)) (hw _ (List.mem_of_getElem? (i := 45) rfl)) (by decide) (by decide)) (g := (mkF m 195 #[.val (.int p0), .val (.long q1), .second, .val (.long q2), .second, .val (.int p3), .val (.int (w0_m1 p0)), .val (.int (w0_m2 p0)), .val (.int (p3 &&& (3 : Int32))), .val (.long (w0_m3 q1 q2 p3)), .second, .val (.long (w0_m4 p0 q1)), .second, .val (.long (w0_m5 p0 q1 q2 p3)), .second, .val (.ref ob2), .val (.ref ob2), .val (.ref b214), .val (.ref b219), .val (.int (w0_6 p3)), .unset] [(.long (w0_m4 p0 q1)), (.ref b214)])) rfl (by rw [hml]; rfl) (argsL := [(.long (w0_m4 p0 q1))]) (rest := [(.ref b214)]) (lenOf pd0_3 rfl) rfl (by show 2 * 0 + _ ≤ _; exact Nat.le_of_eq rfl) (hb hby at_195) (fun _ _ => ⟨rfl, rfl, (by decide : 2 + 0 ≤ 16), (by decide : 4 + 0 ≤ 128)⟩)
              dsimp only [Pt.U, Pt.locs, Pt.cells, Pt.slots] at X242 l242 y242 z242 st242 hQ242
              subst l242 y242 z242
              obtain ⟨rfl, N242q, e242⟩ := hQ242
              have N242 := Fr.app N222 N242q
              have K242 : ∀ t, Steps p.tables e below (T242.setTop (mkF m 198 #[.val (.int p0), .val (.long q1), .second, .val (.long q2), .second, .val (.int p3), .val (.int (w0_m1 p0)), .val (.int (w0_m2 p0)), .val (.int (p3 &&& (3 : Int32))), .val (.long (w0_m3 q1 q2 p3)), .second, .val (.long (w0_m4 p0 q1)), .second, .val (.long (w0_m5 p0 q1 q2 p3)), .second, .val (.ref ob2), .val (.ref ob2), .val (.ref b214), .val (.ref b219), .val (.int (w0_6 p3)), .unset] [(.ref oe), (.ref b214)])) t → Steps p.tables e below S0 t := fun t k => K_241 t (st242 t k)
              have K_243 : ∀ t, Steps p.tables e below (T242.setTop (mkF m 198 #[.val (.int p0), .val (.long q1), .second, .val (.long q2), .second, .val (.int p3), .val (.int (w0_m1 p0)), .val (.int (w0_m2 p0)), .val (.int (p3 &&& (3 : Int32))), .val (.long (w0_m3 q1 q2 p3)), .second, .val (.long (w0_m4 p0 q1)), .second, .val (.long (w0_m5 p0 q1 q2 p3)), .second, .val (.ref ob2), .val (.ref ob2), .val (.ref b214), .val (.ref b219), .val (.int (w0_6 p3)), .unset] [(.ref oe), (.ref b214)])) t → Steps p.tables e below S0 t := K242
              obtain ⟨cq244, kq244, q244a, q244b, q244c⟩ := isOf hZ e242 Fn217_0__222
              obtain ⟨_, _, ⟨T244, L244, k244, n244⟩, -, X244, ⟨Lc244, hQ244, l244, y244, z244⟩, st244⟩ := X242.virtualBack hx (y := (⟨"com/example/acervo/acervo/index/DocumentValue", "equals", "(Ljava/lang/Object;)Z"⟩ : MethodName)) (z := (⟨"com/example/acervo/acervo/index/DocumentValue", "equals", "(Ljava/lang/Object;)Z"⟩ : MethodName)) hown (mvT hZ (hw _ (List.mem_of_getElem? (i := 23) rfl))) (mvT hZ (hw _ (List.mem_of_getElem? (i := 24) rfl))) (notFace_of_selects (args := #[]) (mvT hZ (hw _ (List.mem_of_getElem? (i := 26) rfl)))) (mvT hZ (hw _ (List.mem_of_getElem? (i := 26) rfl))) (mvT hZ (hw _ (List.mem_of_getElem? (i := 25) rfl))) (by decide) (backOf (W := 0) (rm9 l Z a0 hw [] b214 oe T222.heap n0 Zs222 Ee240) hZ (hw _ (List.mem_of_getElem? (i := 27) rfl)) (hw _ (List.mem_of_getElem? (i := 5) rfl)) (by decide) (by decide)) q244a q244c (g := (mkF m 198 #[.val (.int p0), .val (.long q1), .second, .val (.long q2), .second, .val (.int p3), .val (.int (w0_m1 p0)), .val (.int (w0_m2 p0)), .val (.int (p3 &&& (3 : Int32))), .val (.long (w0_m3 q1 q2 p3)), .second, .val (.long (w0_m4 p0 q1)), .second, .val (.long (w0_m5 p0 q1 q2 p3)), .second, .val (.ref ob2), .val (.ref ob2), .val (.ref b214), .val (.ref b219), .val (.int (w0_6 p3)), .unset] [(.ref oe), (.ref b214)])) rfl (by rw [hml]; rfl) (Steps.refl _) (argsL := [(.ref oe)]) (rest := []) (lenOf pd0_2 rfl) rfl (by show 2 * 0 + _ ≤ _; exact Nat.le_of_eq rfl) (hb hby at_198) (fun _ _ => ⟨rfl, e242, (by decide : 2 + 0 ≤ 16), (by decide : 4 + 0 ≤ 128)⟩)
              dsimp only [Pt.U, Pt.locs, Pt.cells, Pt.slots] at X244 l244 y244 z244 st244 hQ244
              subst l244 y244 z244
              obtain ⟨rfl, N244q, e244⟩ := hQ244
              have N244 := Fr.app N242 N244q
              have K244 : ∀ t, Steps p.tables e below (T244.setTop (mkF m 201 #[.val (.int p0), .val (.long q1), .second, .val (.long q2), .second, .val (.int p3), .val (.int (w0_m1 p0)), .val (.int (w0_m2 p0)), .val (.int (p3 &&& (3 : Int32))), .val (.long (w0_m3 q1 q2 p3)), .second, .val (.long (w0_m4 p0 q1)), .second, .val (.long (w0_m5 p0 q1 q2 p3)), .second, .val (.ref ob2), .val (.ref ob2), .val (.ref b214), .val (.ref b219), .val (.int (w0_6 p3)), .unset] [(.int (0 : Int32))])) t → Steps p.tables e below S0 t := fun t k => K_243 t (st244.trans k)
              have K245 : ∀ t, Steps p.tables e below (T244.setTop (mkF m 209 #[.val (.int p0), .val (.long q1), .second, .val (.long q2), .second, .val (.int p3), .val (.int (w0_m1 p0)), .val (.int (w0_m2 p0)), .val (.int (p3 &&& (3 : Int32))), .val (.long (w0_m3 q1 q2 p3)), .second, .val (.long (w0_m4 p0 q1)), .second, .val (.long (w0_m5 p0 q1 q2 p3)), .second, .val (.ref ob2), .val (.ref ob2), .val (.ref b214), .val (.ref b219), .val (.int (w0_6 p3)), .unset] [(.int (1 : Int32))])) t → Steps p.tables e below S0 t := fun t k => K244 t (by
                refine XS.ifNo X244.here hx rfl (hb hby at_201) rfl (XT.i0_ne_f (by decide)) ?_
                show Steps p.tables e below (T244.setTop (mkF m 204 #[.val (.int p0), .val (.long q1), .second, .val (.long q2), .second, .val (.int p3), .val (.int (w0_m1 p0)), .val (.int (w0_m2 p0)), .val (.int (p3 &&& (3 : Int32))), .val (.long (w0_m3 q1 q2 p3)), .second, .val (.long (w0_m4 p0 q1)), .second, .val (.long (w0_m5 p0 q1 q2 p3)), .second, .val (.ref ob2), .val (.ref ob2), .val (.ref b214), .val (.ref b219), .val (.int (w0_6 p3)), .unset] [])) _
                refine XS.iconst X244.here hx rfl (hb hby at_204) ?_
                show Steps p.tables e below (T244.setTop (mkF m 205 #[.val (.int p0), .val (.long q1), .second, .val (.long q2), .second, .val (.int p3), .val (.int (w0_m1 p0)), .val (.int (w0_m2 p0)), .val (.int (p3 &&& (3 : Int32))), .val (.long (w0_m3 q1 q2 p3)), .second, .val (.long (w0_m4 p0 q1)), .second, .val (.long (w0_m5 p0 q1 q2 p3)), .second, .val (.ref ob2), .val (.ref ob2), .val (.ref b214), .val (.ref b219), .val (.int (w0_6 p3)), .unset] [(.int (1 : Int32))])) _
                refine XS.goto X244.here hx rfl (pc0 := 205) (pc' := 209) rfl (hb hby at_205) (by decide) (by decide) ?_
                show Steps p.tables e below (T244.setTop (mkF m 209 #[.val (.int p0), .val (.long q1), .second, .val (.long q2), .second, .val (.int p3), .val (.int (w0_m1 p0)), .val (.int (w0_m2 p0)), .val (.int (p3 &&& (3 : Int32))), .val (.long (w0_m3 q1 q2 p3)), .second, .val (.long (w0_m4 p0 q1)), .second, .val (.long (w0_m5 p0 q1 q2 p3)), .second, .val (.ref ob2), .val (.ref ob2), .val (.ref b214), .val (.ref b219), .val (.int (w0_6 p3)), .unset] [(.int (1 : Int32))])) _
                exact k)
              obtain ⟨fs, hr, hrun, hended, hW, hsame⟩ := X244.leave (v := some (.int (1 : Int32))) (fun h => by rw [Bd.returns] at h; cases h) hlk
              refine ⟨_, _, ?_, hrun, hended, _, _, rfl, ?_, ⟨_, rfl⟩, hW, hsame.mono (by decide) (by decide)⟩
              · rw [← hS0]; exact K245 _ (retN X244 hx (t := .boolean) Bd.returns (by simp) (hb hby at_209) hr)
              · show Q0 Z p0 q1 q2 p3 ob1 ob2 oc cc h0 n0 _ T244.heap _
                rw [e244]
                have qr : (1 : Int32) = (w0_r10 p0 q1 q2 p3) := by unfold w0_r10; rw [if_neg hc100_0, if_neg hc116_1, if_neg hc167_2, if_pos hc188_3]
                exact ⟨congrArg (fun z => some (Value.int z)) qr, N244⟩
        · -- no
          have K246 : ∀ t, Steps p.tables e below (T222.setTop (mkF m 213 #[.val (.int p0), .val (.long q1), .second, .val (.long q2), .second, .val (.int p3), .val (.int (w0_m1 p0)), .val (.int (w0_m2 p0)), .val (.int (p3 &&& (3 : Int32))), .val (.long (w0_m3 q1 q2 p3)), .second, .val (.long (w0_m4 p0 q1)), .second, .val (.long (w0_m5 p0 q1 q2 p3)), .second, .val (.ref ob2), .val (.ref ob2), .val (.ref b214), .val (.ref b219), .val (.int (w0_6 p3)), .unset] [(.int (3 : Int32)), (.int (w0_6 p3))])) t → Steps p.tables e below S0 t := fun t k => K228 t (by
            refine XS.icmpYes X222.here hx rfl (pc0 := 188) (pc' := 210) rfl (hb hby at_188) rfl (XT.ii_ne_t hc188_3) (by decide) (by decide) ?_
            show Steps p.tables e below (T222.setTop (mkF m 210 #[.val (.int p0), .val (.long q1), .second, .val (.long q2), .second, .val (.int p3), .val (.int (w0_m1 p0)), .val (.int (w0_m2 p0)), .val (.int (p3 &&& (3 : Int32))), .val (.long (w0_m3 q1 q2 p3)), .second, .val (.long (w0_m4 p0 q1)), .second, .val (.long (w0_m5 p0 q1 q2 p3)), .second, .val (.ref ob2), .val (.ref ob2), .val (.ref b214), .val (.ref b219), .val (.int (w0_6 p3)), .unset] [])) _
            refine XS.iload X222.here hx rfl (hb hby at_210) rfl ?_
            show Steps p.tables e below (T222.setTop (mkF m 212 #[.val (.int p0), .val (.long q1), .second, .val (.long q2), .second, .val (.int p3), .val (.int (w0_m1 p0)), .val (.int (w0_m2 p0)), .val (.int (p3 &&& (3 : Int32))), .val (.long (w0_m3 q1 q2 p3)), .second, .val (.long (w0_m4 p0 q1)), .second, .val (.long (w0_m5 p0 q1 q2 p3)), .second, .val (.ref ob2), .val (.ref ob2), .val (.ref b214), .val (.ref b219), .val (.int (w0_6 p3)), .unset] [(.int (w0_6 p3))])) _
            refine XS.iconst X222.here hx rfl (hb hby at_212) ?_
            show Steps p.tables e below (T222.setTop (mkF m 213 #[.val (.int p0), .val (.long q1), .second, .val (.long q2), .second, .val (.int p3), .val (.int (w0_m1 p0)), .val (.int (w0_m2 p0)), .val (.int (p3 &&& (3 : Int32))), .val (.long (w0_m3 q1 q2 p3)), .second, .val (.long (w0_m4 p0 q1)), .second, .val (.long (w0_m5 p0 q1 q2 p3)), .second, .val (.ref ob2), .val (.ref ob2), .val (.ref b214), .val (.ref b219), .val (.int (w0_6 p3)), .unset] [(.int (3 : Int32)), (.int (w0_6 p3))])) _
            exact k)
          by_cases hc213_4 : (w0_6 p3) = (3 : Int32)
          · -- yes
            have K247 : ∀ t, Steps p.tables e below (T222.setTop (mkF m 220 #[.val (.int p0), .val (.long q1), .second, .val (.long q2), .second, .val (.int p3), .val (.int (w0_m1 p0)), .val (.int (w0_m2 p0)), .val (.int (p3 &&& (3 : Int32))), .val (.long (w0_m3 q1 q2 p3)), .second, .val (.long (w0_m4 p0 q1)), .second, .val (.long (w0_m5 p0 q1 q2 p3)), .second, .val (.ref ob2), .val (.ref ob2), .val (.ref b214), .val (.ref b219), .val (.int (w0_6 p3)), .unset] [(.ref b214), (.ref b214)])) t → Steps p.tables e below S0 t := fun t k => K246 t (by
              refine XS.icmpNo X222.here hx rfl (hb hby at_213) rfl (XT.ii_ne_f hc213_4) ?_
              show Steps p.tables e below (T222.setTop (mkF m 216 #[.val (.int p0), .val (.long q1), .second, .val (.long q2), .second, .val (.int p3), .val (.int (w0_m1 p0)), .val (.int (w0_m2 p0)), .val (.int (p3 &&& (3 : Int32))), .val (.long (w0_m3 q1 q2 p3)), .second, .val (.long (w0_m4 p0 q1)), .second, .val (.long (w0_m5 p0 q1 q2 p3)), .second, .val (.ref ob2), .val (.ref ob2), .val (.ref b214), .val (.ref b219), .val (.int (w0_6 p3)), .unset] [])) _
              refine XS.aload X222.here hx rfl (hb hby at_216) rfl rfl ?_
              show Steps p.tables e below (T222.setTop (mkF m 218 #[.val (.int p0), .val (.long q1), .second, .val (.long q2), .second, .val (.int p3), .val (.int (w0_m1 p0)), .val (.int (w0_m2 p0)), .val (.int (p3 &&& (3 : Int32))), .val (.long (w0_m3 q1 q2 p3)), .second, .val (.long (w0_m4 p0 q1)), .second, .val (.long (w0_m5 p0 q1 q2 p3)), .second, .val (.ref ob2), .val (.ref ob2), .val (.ref b214), .val (.ref b219), .val (.int (w0_6 p3)), .unset] [(.ref b214)])) _
              refine XS.aload X222.here hx rfl (hb hby at_218) rfl rfl ?_
              show Steps p.tables e below (T222.setTop (mkF m 220 #[.val (.int p0), .val (.long q1), .second, .val (.long q2), .second, .val (.int p3), .val (.int (w0_m1 p0)), .val (.int (w0_m2 p0)), .val (.int (p3 &&& (3 : Int32))), .val (.long (w0_m3 q1 q2 p3)), .second, .val (.long (w0_m4 p0 q1)), .second, .val (.long (w0_m5 p0 q1 q2 p3)), .second, .val (.ref ob2), .val (.ref ob2), .val (.ref b214), .val (.ref b219), .val (.int (w0_6 p3)), .unset] [(.ref b214), (.ref b214)])) _
              exact k)
            have K_248 : ∀ t, Steps p.tables e below (T222.setTop (mkF m 220 #[.val (.int p0), .val (.long q1), .second, .val (.long q2), .second, .val (.int p3), .val (.int (w0_m1 p0)), .val (.int (w0_m2 p0)), .val (.int (p3 &&& (3 : Int32))), .val (.long (w0_m3 q1 q2 p3)), .second, .val (.long (w0_m4 p0 q1)), .second, .val (.long (w0_m5 p0 q1 q2 p3)), .second, .val (.ref ob2), .val (.ref ob2), .val (.ref b214), .val (.ref b219), .val (.int (w0_6 p3)), .unset] [(.ref b214), (.ref b214)])) t → Steps p.tables e below S0 t := K247
            obtain ⟨cq249, kq249, q249a, q249b, q249c⟩ := isOf hZ rfl Fn217_0__222
            obtain ⟨_, _, ⟨T249, L249, k249, n249⟩, -, X249, ⟨Lc249, hQ249, l249, y249, z249⟩, st249⟩ := X222.virtualBack hx (y := (⟨"com/example/acervo/acervo/index/DocumentValue", "equals", "(Ljava/lang/Object;)Z"⟩ : MethodName)) (z := (⟨"com/example/acervo/acervo/index/DocumentValue", "equals", "(Ljava/lang/Object;)Z"⟩ : MethodName)) hown (mvT hZ (hw _ (List.mem_of_getElem? (i := 23) rfl))) (mvT hZ (hw _ (List.mem_of_getElem? (i := 24) rfl))) (notFace_of_selects (args := #[]) (mvT hZ (hw _ (List.mem_of_getElem? (i := 26) rfl)))) (mvT hZ (hw _ (List.mem_of_getElem? (i := 26) rfl))) (mvT hZ (hw _ (List.mem_of_getElem? (i := 25) rfl))) (by decide) (backOf (W := 0) (rm6 l Z a0 hw [] b214 b214 ob2 (w0_m4 p0 q1) (w0_m4 p0 q1) T222.heap n0 Zs222 Fn217_0__222 Fn217_1__222 Fn217_2__222 Fn217_1__222 Fn217_2__222) hZ (hw _ (List.mem_of_getElem? (i := 27) rfl)) (hw _ (List.mem_of_getElem? (i := 5) rfl)) (by decide) (by decide)) q249a q249c (g := (mkF m 220 #[.val (.int p0), .val (.long q1), .second, .val (.long q2), .second, .val (.int p3), .val (.int (w0_m1 p0)), .val (.int (w0_m2 p0)), .val (.int (p3 &&& (3 : Int32))), .val (.long (w0_m3 q1 q2 p3)), .second, .val (.long (w0_m4 p0 q1)), .second, .val (.long (w0_m5 p0 q1 q2 p3)), .second, .val (.ref ob2), .val (.ref ob2), .val (.ref b214), .val (.ref b219), .val (.int (w0_6 p3)), .unset] [(.ref b214), (.ref b214)])) rfl (by rw [hml]; rfl) (Steps.refl _) (argsL := [(.ref b214)]) (rest := []) (lenOf pd0_2 rfl) rfl (by show 2 * 0 + _ ≤ _; exact Nat.le_of_eq rfl) (hb hby at_220) (fun _ _ => ⟨rfl, rfl, (by decide : 2 + 0 ≤ 16), (by decide : 4 + 0 ≤ 128)⟩)
            dsimp only [Pt.U, Pt.locs, Pt.cells, Pt.slots] at X249 l249 y249 z249 st249 hQ249
            subst l249 y249 z249
            obtain ⟨rfl, N249q, e249⟩ := hQ249
            have N249 := Fr.app N222 N249q
            have K249 : ∀ t, Steps p.tables e below (T249.setTop (mkF m 223 #[.val (.int p0), .val (.long q1), .second, .val (.long q2), .second, .val (.int p3), .val (.int (w0_m1 p0)), .val (.int (w0_m2 p0)), .val (.int (p3 &&& (3 : Int32))), .val (.long (w0_m3 q1 q2 p3)), .second, .val (.long (w0_m4 p0 q1)), .second, .val (.long (w0_m5 p0 q1 q2 p3)), .second, .val (.ref ob2), .val (.ref ob2), .val (.ref b214), .val (.ref b219), .val (.int (w0_6 p3)), .unset] [(.int (w6_r1 (w0_m4 p0 q1) (w0_m4 p0 q1)))])) t → Steps p.tables e below S0 t := fun t k => K_248 t (st249.trans k)
            obtain ⟨fs, hr, hrun, hended, hW, hsame⟩ := X249.leave (v := some (.int (nar .boolean (w6_r1 (w0_m4 p0 q1) (w0_m4 p0 q1))))) (fun h => by rw [Bd.returns] at h; cases h) hlk
            refine ⟨_, _, ?_, hrun, hended, _, _, rfl, ?_, ⟨_, rfl⟩, hW, hsame.mono (by decide) (by decide)⟩
            · rw [← hS0]; exact K249 _ (retN X249 hx (t := .boolean) Bd.returns (by simp) (hb hby at_223) hr)
            · show Q0 Z p0 q1 q2 p3 ob1 ob2 oc cc h0 n0 _ T249.heap _
              rw [e249]
              have qr : (nar .boolean (w6_r1 (w0_m4 p0 q1) (w0_m4 p0 q1))) = (w0_r10 p0 q1 q2 p3) := by unfold w0_r10; rw [if_neg hc100_0, if_neg hc116_1, if_neg hc167_2, if_neg hc188_3, if_pos hc213_4]
              exact ⟨congrArg (fun z => some (Value.int z)) qr, N249⟩
          · -- no
            have K250 : ∀ t, Steps p.tables e below (T222.setTop (mkF m 228 #[.val (.int p0), .val (.long q1), .second, .val (.long q2), .second, .val (.int p3), .val (.int (w0_m1 p0)), .val (.int (w0_m2 p0)), .val (.int (p3 &&& (3 : Int32))), .val (.long (w0_m3 q1 q2 p3)), .second, .val (.long (w0_m4 p0 q1)), .second, .val (.long (w0_m5 p0 q1 q2 p3)), .second, .val (.ref ob2), .val (.ref ob2), .val (.ref b214), .val (.ref b219), .val (.int (w0_6 p3)), .unset] [(.ref ob2), (.ref ob2)])) t → Steps p.tables e below S0 t := fun t k => K246 t (by
              refine XS.icmpYes X222.here hx rfl (pc0 := 213) (pc' := 224) rfl (hb hby at_213) rfl (XT.ii_ne_t hc213_4) (by decide) (by decide) ?_
              show Steps p.tables e below (T222.setTop (mkF m 224 #[.val (.int p0), .val (.long q1), .second, .val (.long q2), .second, .val (.int p3), .val (.int (w0_m1 p0)), .val (.int (w0_m2 p0)), .val (.int (p3 &&& (3 : Int32))), .val (.long (w0_m3 q1 q2 p3)), .second, .val (.long (w0_m4 p0 q1)), .second, .val (.long (w0_m5 p0 q1 q2 p3)), .second, .val (.ref ob2), .val (.ref ob2), .val (.ref b214), .val (.ref b219), .val (.int (w0_6 p3)), .unset] [])) _
              refine XS.aload X222.here hx rfl (hb hby at_224) rfl rfl ?_
              show Steps p.tables e below (T222.setTop (mkF m 226 #[.val (.int p0), .val (.long q1), .second, .val (.long q2), .second, .val (.int p3), .val (.int (w0_m1 p0)), .val (.int (w0_m2 p0)), .val (.int (p3 &&& (3 : Int32))), .val (.long (w0_m3 q1 q2 p3)), .second, .val (.long (w0_m4 p0 q1)), .second, .val (.long (w0_m5 p0 q1 q2 p3)), .second, .val (.ref ob2), .val (.ref ob2), .val (.ref b214), .val (.ref b219), .val (.int (w0_6 p3)), .unset] [(.ref ob2)])) _
              refine XS.aload X222.here hx rfl (hb hby at_226) rfl rfl ?_
              show Steps p.tables e below (T222.setTop (mkF m 228 #[.val (.int p0), .val (.long q1), .second, .val (.long q2), .second, .val (.int p3), .val (.int (w0_m1 p0)), .val (.int (w0_m2 p0)), .val (.int (p3 &&& (3 : Int32))), .val (.long (w0_m3 q1 q2 p3)), .second, .val (.long (w0_m4 p0 q1)), .second, .val (.long (w0_m5 p0 q1 q2 p3)), .second, .val (.ref ob2), .val (.ref ob2), .val (.ref b214), .val (.ref b219), .val (.int (w0_6 p3)), .unset] [(.ref ob2), (.ref ob2)])) _
              exact k)
            have K251 : ∀ t, Steps p.tables e below (T222.setTop (mkF m 236 #[.val (.int p0), .val (.long q1), .second, .val (.long q2), .second, .val (.int p3), .val (.int (w0_m1 p0)), .val (.int (w0_m2 p0)), .val (.int (p3 &&& (3 : Int32))), .val (.long (w0_m3 q1 q2 p3)), .second, .val (.long (w0_m4 p0 q1)), .second, .val (.long (w0_m5 p0 q1 q2 p3)), .second, .val (.ref ob2), .val (.ref ob2), .val (.ref b214), .val (.ref b219), .val (.int (w0_6 p3)), .unset] [(.int (lcmpW (w0_m4 p0 q1) (w0_m5 p0 q1 q2 p3)))])) t → Steps p.tables e below S0 t := fun t k => K250 t (by
              refine Jvm.RoadKit.acmp (g := (mkF m 228 #[.val (.int p0), .val (.long q1), .second, .val (.long q2), .second, .val (.int p3), .val (.int (w0_m1 p0)), .val (.int (w0_m2 p0)), .val (.int (p3 &&& (3 : Int32))), .val (.long (w0_m3 q1 q2 p3)), .second, .val (.long (w0_m4 p0 q1)), .second, .val (.long (w0_m5 p0 q1 q2 p3)), .second, .val (.ref ob2), .val (.ref ob2), .val (.ref b214), .val (.ref b219), .val (.int (w0_6 p3)), .unset] [(.ref ob2), (.ref ob2)])) X222 hx rfl rfl rfl (pc0 := 228) (pc' := 231) (same := true) rfl (hb hby at_228) rfl (decide_eq_true rfl) (by decide) (by decide) ?_
              show Steps p.tables e below (T222.setTop (mkF m 231 #[.val (.int p0), .val (.long q1), .second, .val (.long q2), .second, .val (.int p3), .val (.int (w0_m1 p0)), .val (.int (w0_m2 p0)), .val (.int (p3 &&& (3 : Int32))), .val (.long (w0_m3 q1 q2 p3)), .second, .val (.long (w0_m4 p0 q1)), .second, .val (.long (w0_m5 p0 q1 q2 p3)), .second, .val (.ref ob2), .val (.ref ob2), .val (.ref b214), .val (.ref b219), .val (.int (w0_6 p3)), .unset] [])) _
              refine XS.lload X222.here hx rfl (hb hby at_231) rfl ?_
              show Steps p.tables e below (T222.setTop (mkF m 233 #[.val (.int p0), .val (.long q1), .second, .val (.long q2), .second, .val (.int p3), .val (.int (w0_m1 p0)), .val (.int (w0_m2 p0)), .val (.int (p3 &&& (3 : Int32))), .val (.long (w0_m3 q1 q2 p3)), .second, .val (.long (w0_m4 p0 q1)), .second, .val (.long (w0_m5 p0 q1 q2 p3)), .second, .val (.ref ob2), .val (.ref ob2), .val (.ref b214), .val (.ref b219), .val (.int (w0_6 p3)), .unset] [(.long (w0_m4 p0 q1))])) _
              refine XS.lload X222.here hx rfl (hb hby at_233) rfl ?_
              show Steps p.tables e below (T222.setTop (mkF m 235 #[.val (.int p0), .val (.long q1), .second, .val (.long q2), .second, .val (.int p3), .val (.int (w0_m1 p0)), .val (.int (w0_m2 p0)), .val (.int (p3 &&& (3 : Int32))), .val (.long (w0_m3 q1 q2 p3)), .second, .val (.long (w0_m4 p0 q1)), .second, .val (.long (w0_m5 p0 q1 q2 p3)), .second, .val (.ref ob2), .val (.ref ob2), .val (.ref b214), .val (.ref b219), .val (.int (w0_6 p3)), .unset] [(.long (w0_m5 p0 q1 q2 p3)), (.long (w0_m4 p0 q1))])) _
              refine XS.lcmp X222.here hx rfl (hb hby at_235) rfl ?_
              show Steps p.tables e below (T222.setTop (mkF m 236 #[.val (.int p0), .val (.long q1), .second, .val (.long q2), .second, .val (.int p3), .val (.int (w0_m1 p0)), .val (.int (w0_m2 p0)), .val (.int (p3 &&& (3 : Int32))), .val (.long (w0_m3 q1 q2 p3)), .second, .val (.long (w0_m4 p0 q1)), .second, .val (.long (w0_m5 p0 q1 q2 p3)), .second, .val (.ref ob2), .val (.ref ob2), .val (.ref b214), .val (.ref b219), .val (.int (w0_6 p3)), .unset] [(.int (lcmpW (w0_m4 p0 q1) (w0_m5 p0 q1 q2 p3)))])) _
              exact k)
            obtain ⟨T252, lo252, X252, N252, e252, K252⟩ : ∃ (T' : State) (locs' : List Loc), Stand p l e room_1 s m #[(.int p0), (.long q1), (.long q2), (.int p3)] below meth c T' locs' 2 4 ∧ Fr n0 locs' ∧ T'.heap = T222.heap ∧ ∀ t, Steps p.tables e below (T'.setTop (mkF m 244 #[.val (.int p0), .val (.long q1), .second, .val (.long q2), .second, .val (.int p3), .val (.int (w0_m1 p0)), .val (.int (w0_m2 p0)), .val (.int (p3 &&& (3 : Int32))), .val (.long (w0_m3 q1 q2 p3)), .second, .val (.long (w0_m4 p0 q1)), .second, .val (.long (w0_m5 p0 q1 q2 p3)), .second, .val (.ref ob2), .val (.ref ob2), .val (.ref b214), .val (.ref b219), .val (.int (w0_6 p3)), .unset] [(.int (w0_m7 p0 q1 q2 p3))])) t → Steps p.tables e below S0 t := by
              by_cases hc236_5 : (w0_m4 p0 q1) = (w0_m5 p0 q1 q2 p3)
              · -- yes
                have K253 : ∀ t, Steps p.tables e below (T222.setTop (mkF m 244 #[.val (.int p0), .val (.long q1), .second, .val (.long q2), .second, .val (.int p3), .val (.int (w0_m1 p0)), .val (.int (w0_m2 p0)), .val (.int (p3 &&& (3 : Int32))), .val (.long (w0_m3 q1 q2 p3)), .second, .val (.long (w0_m4 p0 q1)), .second, .val (.long (w0_m5 p0 q1 q2 p3)), .second, .val (.ref ob2), .val (.ref ob2), .val (.ref b214), .val (.ref b219), .val (.int (w0_6 p3)), .unset] [(.int (1 : Int32))])) t → Steps p.tables e below S0 t := fun t k => K251 t (by
                  refine XS.ifNo X222.here hx rfl (hb hby at_236) rfl (XT.ll_ne_f hc236_5) ?_
                  show Steps p.tables e below (T222.setTop (mkF m 239 #[.val (.int p0), .val (.long q1), .second, .val (.long q2), .second, .val (.int p3), .val (.int (w0_m1 p0)), .val (.int (w0_m2 p0)), .val (.int (p3 &&& (3 : Int32))), .val (.long (w0_m3 q1 q2 p3)), .second, .val (.long (w0_m4 p0 q1)), .second, .val (.long (w0_m5 p0 q1 q2 p3)), .second, .val (.ref ob2), .val (.ref ob2), .val (.ref b214), .val (.ref b219), .val (.int (w0_6 p3)), .unset] [])) _
                  refine XS.iconst X222.here hx rfl (hb hby at_239) ?_
                  show Steps p.tables e below (T222.setTop (mkF m 240 #[.val (.int p0), .val (.long q1), .second, .val (.long q2), .second, .val (.int p3), .val (.int (w0_m1 p0)), .val (.int (w0_m2 p0)), .val (.int (p3 &&& (3 : Int32))), .val (.long (w0_m3 q1 q2 p3)), .second, .val (.long (w0_m4 p0 q1)), .second, .val (.long (w0_m5 p0 q1 q2 p3)), .second, .val (.ref ob2), .val (.ref ob2), .val (.ref b214), .val (.ref b219), .val (.int (w0_6 p3)), .unset] [(.int (1 : Int32))])) _
                  refine XS.goto X222.here hx rfl (pc0 := 240) (pc' := 244) rfl (hb hby at_240) (by decide) (by decide) ?_
                  show Steps p.tables e below (T222.setTop (mkF m 244 #[.val (.int p0), .val (.long q1), .second, .val (.long q2), .second, .val (.int p3), .val (.int (w0_m1 p0)), .val (.int (w0_m2 p0)), .val (.int (p3 &&& (3 : Int32))), .val (.long (w0_m3 q1 q2 p3)), .second, .val (.long (w0_m4 p0 q1)), .second, .val (.long (w0_m5 p0 q1 q2 p3)), .second, .val (.ref ob2), .val (.ref ob2), .val (.ref b214), .val (.ref b219), .val (.int (w0_6 p3)), .unset] [(.int (1 : Int32))])) _
                  exact k)
                have q254 : (w0_m7 p0 q1 q2 p3) = (1 : Int32) := by unfold w0_m7; rw [if_pos hc236_5]
                exact ⟨T222, _, X222, N222, rfl, fun t k => K253 t (by rw [q254] at k; exact k)⟩
              · -- no
                have K255 : ∀ t, Steps p.tables e below (T222.setTop (mkF m 244 #[.val (.int p0), .val (.long q1), .second, .val (.long q2), .second, .val (.int p3), .val (.int (w0_m1 p0)), .val (.int (w0_m2 p0)), .val (.int (p3 &&& (3 : Int32))), .val (.long (w0_m3 q1 q2 p3)), .second, .val (.long (w0_m4 p0 q1)), .second, .val (.long (w0_m5 p0 q1 q2 p3)), .second, .val (.ref ob2), .val (.ref ob2), .val (.ref b214), .val (.ref b219), .val (.int (w0_6 p3)), .unset] [(.int (0 : Int32))])) t → Steps p.tables e below S0 t := fun t k => K251 t (by
                  refine XS.ifYes X222.here hx rfl (pc0 := 236) (pc' := 243) rfl (hb hby at_236) rfl (XT.ll_ne_t hc236_5) (by decide) (by decide) ?_
                  show Steps p.tables e below (T222.setTop (mkF m 243 #[.val (.int p0), .val (.long q1), .second, .val (.long q2), .second, .val (.int p3), .val (.int (w0_m1 p0)), .val (.int (w0_m2 p0)), .val (.int (p3 &&& (3 : Int32))), .val (.long (w0_m3 q1 q2 p3)), .second, .val (.long (w0_m4 p0 q1)), .second, .val (.long (w0_m5 p0 q1 q2 p3)), .second, .val (.ref ob2), .val (.ref ob2), .val (.ref b214), .val (.ref b219), .val (.int (w0_6 p3)), .unset] [])) _
                  refine XS.iconst X222.here hx rfl (hb hby at_243) ?_
                  show Steps p.tables e below (T222.setTop (mkF m 244 #[.val (.int p0), .val (.long q1), .second, .val (.long q2), .second, .val (.int p3), .val (.int (w0_m1 p0)), .val (.int (w0_m2 p0)), .val (.int (p3 &&& (3 : Int32))), .val (.long (w0_m3 q1 q2 p3)), .second, .val (.long (w0_m4 p0 q1)), .second, .val (.long (w0_m5 p0 q1 q2 p3)), .second, .val (.ref ob2), .val (.ref ob2), .val (.ref b214), .val (.ref b219), .val (.int (w0_6 p3)), .unset] [(.int (0 : Int32))])) _
                  exact k)
                have q256 : (w0_m7 p0 q1 q2 p3) = (0 : Int32) := by unfold w0_m7; rw [if_neg hc236_5]
                exact ⟨T222, _, X222, N222, rfl, fun t k => K255 t (by rw [q256] at k; exact k)⟩
            have K257 : ∀ t, Steps p.tables e below (T252.setTop (mkF m 250 #[.val (.int p0), .val (.long q1), .second, .val (.long q2), .second, .val (.int p3), .val (.int (w0_m1 p0)), .val (.int (w0_m2 p0)), .val (.int (p3 &&& (3 : Int32))), .val (.long (w0_m3 q1 q2 p3)), .second, .val (.long (w0_m4 p0 q1)), .second, .val (.long (w0_m5 p0 q1 q2 p3)), .second, .val (.ref ob2), .val (.ref ob2), .val (.ref b214), .val (.ref b219), .val (.int (w0_6 p3)), .val (.int (w0_m7 p0 q1 q2 p3))] [(.ref b219), (.ref b214)])) t → Steps p.tables e below S0 t := fun t k => K252 t (by
              refine XS.istore X252.here hx rfl (hb hby at_244) rfl (l' := #[.val (.int p0), .val (.long q1), .second, .val (.long q2), .second, .val (.int p3), .val (.int (w0_m1 p0)), .val (.int (w0_m2 p0)), .val (.int (p3 &&& (3 : Int32))), .val (.long (w0_m3 q1 q2 p3)), .second, .val (.long (w0_m4 p0 q1)), .second, .val (.long (w0_m5 p0 q1 q2 p3)), .second, .val (.ref ob2), .val (.ref ob2), .val (.ref b214), .val (.ref b219), .val (.int (w0_6 p3)), .val (.int (w0_m7 p0 q1 q2 p3))]) rfl ?_
              show Steps p.tables e below (T252.setTop (mkF m 246 #[.val (.int p0), .val (.long q1), .second, .val (.long q2), .second, .val (.int p3), .val (.int (w0_m1 p0)), .val (.int (w0_m2 p0)), .val (.int (p3 &&& (3 : Int32))), .val (.long (w0_m3 q1 q2 p3)), .second, .val (.long (w0_m4 p0 q1)), .second, .val (.long (w0_m5 p0 q1 q2 p3)), .second, .val (.ref ob2), .val (.ref ob2), .val (.ref b214), .val (.ref b219), .val (.int (w0_6 p3)), .val (.int (w0_m7 p0 q1 q2 p3))] [])) _
              refine XS.aload X252.here hx rfl (hb hby at_246) rfl rfl ?_
              show Steps p.tables e below (T252.setTop (mkF m 248 #[.val (.int p0), .val (.long q1), .second, .val (.long q2), .second, .val (.int p3), .val (.int (w0_m1 p0)), .val (.int (w0_m2 p0)), .val (.int (p3 &&& (3 : Int32))), .val (.long (w0_m3 q1 q2 p3)), .second, .val (.long (w0_m4 p0 q1)), .second, .val (.long (w0_m5 p0 q1 q2 p3)), .second, .val (.ref ob2), .val (.ref ob2), .val (.ref b214), .val (.ref b219), .val (.int (w0_6 p3)), .val (.int (w0_m7 p0 q1 q2 p3))] [(.ref b214)])) _
              refine XS.aload X252.here hx rfl (hb hby at_248) rfl rfl ?_
              show Steps p.tables e below (T252.setTop (mkF m 250 #[.val (.int p0), .val (.long q1), .second, .val (.long q2), .second, .val (.int p3), .val (.int (w0_m1 p0)), .val (.int (w0_m2 p0)), .val (.int (p3 &&& (3 : Int32))), .val (.long (w0_m3 q1 q2 p3)), .second, .val (.long (w0_m4 p0 q1)), .second, .val (.long (w0_m5 p0 q1 q2 p3)), .second, .val (.ref ob2), .val (.ref ob2), .val (.ref b214), .val (.ref b219), .val (.int (w0_6 p3)), .val (.int (w0_m7 p0 q1 q2 p3))] [(.ref b219), (.ref b214)])) _
              exact k)
            have K_258 : ∀ t, Steps p.tables e below (T252.setTop (mkF m 250 #[.val (.int p0), .val (.long q1), .second, .val (.long q2), .second, .val (.int p3), .val (.int (w0_m1 p0)), .val (.int (w0_m2 p0)), .val (.int (p3 &&& (3 : Int32))), .val (.long (w0_m3 q1 q2 p3)), .second, .val (.long (w0_m4 p0 q1)), .second, .val (.long (w0_m5 p0 q1 q2 p3)), .second, .val (.ref ob2), .val (.ref ob2), .val (.ref b214), .val (.ref b219), .val (.int (w0_6 p3)), .val (.int (w0_m7 p0 q1 q2 p3))] [(.ref b219), (.ref b214)])) t → Steps p.tables e below S0 t := K257
            obtain ⟨cq259, kq259, q259a, q259b, q259c⟩ := isOf hZ e252 Fn217_0__222
            obtain ⟨_, _, ⟨T259, L259, k259, n259⟩, -, X259, ⟨Lc259, hQ259, l259, y259, z259⟩, st259⟩ := X252.virtualBack hx (y := (⟨"com/example/acervo/acervo/index/DocumentValue", "equals", "(Ljava/lang/Object;)Z"⟩ : MethodName)) (z := (⟨"com/example/acervo/acervo/index/DocumentValue", "equals", "(Ljava/lang/Object;)Z"⟩ : MethodName)) hown (mvT hZ (hw _ (List.mem_of_getElem? (i := 23) rfl))) (mvT hZ (hw _ (List.mem_of_getElem? (i := 24) rfl))) (notFace_of_selects (args := #[]) (mvT hZ (hw _ (List.mem_of_getElem? (i := 26) rfl)))) (mvT hZ (hw _ (List.mem_of_getElem? (i := 26) rfl))) (mvT hZ (hw _ (List.mem_of_getElem? (i := 25) rfl))) (by decide) (backOf (W := 0) (rm6 l Z a0 hw [] b214 b219 ob2 (w0_m4 p0 q1) (w0_m5 p0 q1 q2 p3) T222.heap n0 Zs222 Fn222_0 Fn217_1__222 Fn217_2__222 Fn222_1 Fn222_2) hZ (hw _ (List.mem_of_getElem? (i := 27) rfl)) (hw _ (List.mem_of_getElem? (i := 5) rfl)) (by decide) (by decide)) q259a q259c (g := (mkF m 250 #[.val (.int p0), .val (.long q1), .second, .val (.long q2), .second, .val (.int p3), .val (.int (w0_m1 p0)), .val (.int (w0_m2 p0)), .val (.int (p3 &&& (3 : Int32))), .val (.long (w0_m3 q1 q2 p3)), .second, .val (.long (w0_m4 p0 q1)), .second, .val (.long (w0_m5 p0 q1 q2 p3)), .second, .val (.ref ob2), .val (.ref ob2), .val (.ref b214), .val (.ref b219), .val (.int (w0_6 p3)), .val (.int (w0_m7 p0 q1 q2 p3))] [(.ref b219), (.ref b214)])) rfl (by rw [hml]; rfl) (Steps.refl _) (argsL := [(.ref b219)]) (rest := []) (lenOf pd0_2 rfl) rfl (by show 2 * 0 + _ ≤ _; exact Nat.le_of_eq rfl) (hb hby at_250) (fun _ _ => ⟨rfl, e252, (by decide : 2 + 0 ≤ 16), (by decide : 4 + 0 ≤ 128)⟩)
            dsimp only [Pt.U, Pt.locs, Pt.cells, Pt.slots] at X259 l259 y259 z259 st259 hQ259
            subst l259 y259 z259
            obtain ⟨rfl, N259q, e259⟩ := hQ259
            have N259 := Fr.app N252 N259q
            have K259 : ∀ t, Steps p.tables e below (T259.setTop (mkF m 253 #[.val (.int p0), .val (.long q1), .second, .val (.long q2), .second, .val (.int p3), .val (.int (w0_m1 p0)), .val (.int (w0_m2 p0)), .val (.int (p3 &&& (3 : Int32))), .val (.long (w0_m3 q1 q2 p3)), .second, .val (.long (w0_m4 p0 q1)), .second, .val (.long (w0_m5 p0 q1 q2 p3)), .second, .val (.ref ob2), .val (.ref ob2), .val (.ref b214), .val (.ref b219), .val (.int (w0_6 p3)), .val (.int (w0_m7 p0 q1 q2 p3))] [(.int (w0_8 p0 q1 q2 p3))])) t → Steps p.tables e below S0 t := fun t k => K_258 t (st259.trans k)
            have K260 : ∀ t, Steps p.tables e below (T259.setTop (mkF m 255 #[.val (.int p0), .val (.long q1), .second, .val (.long q2), .second, .val (.int p3), .val (.int (w0_m1 p0)), .val (.int (w0_m2 p0)), .val (.int (p3 &&& (3 : Int32))), .val (.long (w0_m3 q1 q2 p3)), .second, .val (.long (w0_m4 p0 q1)), .second, .val (.long (w0_m5 p0 q1 q2 p3)), .second, .val (.ref ob2), .val (.ref ob2), .val (.ref b214), .val (.ref b219), .val (.int (w0_6 p3)), .val (.int (w0_m7 p0 q1 q2 p3))] [(.int (w0_m7 p0 q1 q2 p3)), (.int (w0_8 p0 q1 q2 p3))])) t → Steps p.tables e below S0 t := fun t k => K259 t (by
              refine XS.iload X259.here hx rfl (hb hby at_253) rfl ?_
              show Steps p.tables e below (T259.setTop (mkF m 255 #[.val (.int p0), .val (.long q1), .second, .val (.long q2), .second, .val (.int p3), .val (.int (w0_m1 p0)), .val (.int (w0_m2 p0)), .val (.int (p3 &&& (3 : Int32))), .val (.long (w0_m3 q1 q2 p3)), .second, .val (.long (w0_m4 p0 q1)), .second, .val (.long (w0_m5 p0 q1 q2 p3)), .second, .val (.ref ob2), .val (.ref ob2), .val (.ref b214), .val (.ref b219), .val (.int (w0_6 p3)), .val (.int (w0_m7 p0 q1 q2 p3))] [(.int (w0_m7 p0 q1 q2 p3)), (.int (w0_8 p0 q1 q2 p3))])) _
              exact k)
            by_cases hc255_5 : (w0_8 p0 q1 q2 p3) = (w0_m7 p0 q1 q2 p3)
            · -- yes
              have K261 : ∀ t, Steps p.tables e below (T259.setTop (mkF m 262 #[.val (.int p0), .val (.long q1), .second, .val (.long q2), .second, .val (.int p3), .val (.int (w0_m1 p0)), .val (.int (w0_m2 p0)), .val (.int (p3 &&& (3 : Int32))), .val (.long (w0_m3 q1 q2 p3)), .second, .val (.long (w0_m4 p0 q1)), .second, .val (.long (w0_m5 p0 q1 q2 p3)), .second, .val (.ref ob2), .val (.ref ob2), .val (.ref b214), .val (.ref b219), .val (.int (w0_6 p3)), .val (.int (w0_m7 p0 q1 q2 p3))] [(.ref b214), (.ref b219)])) t → Steps p.tables e below S0 t := fun t k => K260 t (by
                refine XS.icmpNo X259.here hx rfl (hb hby at_255) rfl (XT.ii_ne_f hc255_5) ?_
                show Steps p.tables e below (T259.setTop (mkF m 258 #[.val (.int p0), .val (.long q1), .second, .val (.long q2), .second, .val (.int p3), .val (.int (w0_m1 p0)), .val (.int (w0_m2 p0)), .val (.int (p3 &&& (3 : Int32))), .val (.long (w0_m3 q1 q2 p3)), .second, .val (.long (w0_m4 p0 q1)), .second, .val (.long (w0_m5 p0 q1 q2 p3)), .second, .val (.ref ob2), .val (.ref ob2), .val (.ref b214), .val (.ref b219), .val (.int (w0_6 p3)), .val (.int (w0_m7 p0 q1 q2 p3))] [])) _
                refine XS.aload X259.here hx rfl (hb hby at_258) rfl rfl ?_
                show Steps p.tables e below (T259.setTop (mkF m 260 #[.val (.int p0), .val (.long q1), .second, .val (.long q2), .second, .val (.int p3), .val (.int (w0_m1 p0)), .val (.int (w0_m2 p0)), .val (.int (p3 &&& (3 : Int32))), .val (.long (w0_m3 q1 q2 p3)), .second, .val (.long (w0_m4 p0 q1)), .second, .val (.long (w0_m5 p0 q1 q2 p3)), .second, .val (.ref ob2), .val (.ref ob2), .val (.ref b214), .val (.ref b219), .val (.int (w0_6 p3)), .val (.int (w0_m7 p0 q1 q2 p3))] [(.ref b219)])) _
                refine XS.aload X259.here hx rfl (hb hby at_260) rfl rfl ?_
                show Steps p.tables e below (T259.setTop (mkF m 262 #[.val (.int p0), .val (.long q1), .second, .val (.long q2), .second, .val (.int p3), .val (.int (w0_m1 p0)), .val (.int (w0_m2 p0)), .val (.int (p3 &&& (3 : Int32))), .val (.long (w0_m3 q1 q2 p3)), .second, .val (.long (w0_m4 p0 q1)), .second, .val (.long (w0_m5 p0 q1 q2 p3)), .second, .val (.ref ob2), .val (.ref ob2), .val (.ref b214), .val (.ref b219), .val (.int (w0_6 p3)), .val (.int (w0_m7 p0 q1 q2 p3))] [(.ref b214), (.ref b219)])) _
                exact k)
              have K_262 : ∀ t, Steps p.tables e below (T259.setTop (mkF m 262 #[.val (.int p0), .val (.long q1), .second, .val (.long q2), .second, .val (.int p3), .val (.int (w0_m1 p0)), .val (.int (w0_m2 p0)), .val (.int (p3 &&& (3 : Int32))), .val (.long (w0_m3 q1 q2 p3)), .second, .val (.long (w0_m4 p0 q1)), .second, .val (.long (w0_m5 p0 q1 q2 p3)), .second, .val (.ref ob2), .val (.ref ob2), .val (.ref b214), .val (.ref b219), .val (.int (w0_6 p3)), .val (.int (w0_m7 p0 q1 q2 p3))] [(.ref b214), (.ref b219)])) t → Steps p.tables e below S0 t := K261
              obtain ⟨cq263, kq263, q263a, q263b, q263c⟩ := isOf hZ e259 Fn222_0
              obtain ⟨_, _, ⟨T263, L263, k263, n263⟩, -, X263, ⟨Lc263, hQ263, l263, y263, z263⟩, st263⟩ := X259.virtualBack hx (y := (⟨"com/example/acervo/acervo/index/DocumentValue", "equals", "(Ljava/lang/Object;)Z"⟩ : MethodName)) (z := (⟨"com/example/acervo/acervo/index/DocumentValue", "equals", "(Ljava/lang/Object;)Z"⟩ : MethodName)) hown (mvT hZ (hw _ (List.mem_of_getElem? (i := 23) rfl))) (mvT hZ (hw _ (List.mem_of_getElem? (i := 24) rfl))) (notFace_of_selects (args := #[]) (mvT hZ (hw _ (List.mem_of_getElem? (i := 26) rfl)))) (mvT hZ (hw _ (List.mem_of_getElem? (i := 26) rfl))) (mvT hZ (hw _ (List.mem_of_getElem? (i := 25) rfl))) (by decide) (backOf (W := 0) (rm6 l Z a0 hw [] b219 b214 ob2 (w0_m5 p0 q1 q2 p3) (w0_m4 p0 q1) T222.heap n0 Zs222 Fn217_0__222 Fn222_1 Fn222_2 Fn217_1__222 Fn217_2__222) hZ (hw _ (List.mem_of_getElem? (i := 27) rfl)) (hw _ (List.mem_of_getElem? (i := 5) rfl)) (by decide) (by decide)) q263a q263c (g := (mkF m 262 #[.val (.int p0), .val (.long q1), .second, .val (.long q2), .second, .val (.int p3), .val (.int (w0_m1 p0)), .val (.int (w0_m2 p0)), .val (.int (p3 &&& (3 : Int32))), .val (.long (w0_m3 q1 q2 p3)), .second, .val (.long (w0_m4 p0 q1)), .second, .val (.long (w0_m5 p0 q1 q2 p3)), .second, .val (.ref ob2), .val (.ref ob2), .val (.ref b214), .val (.ref b219), .val (.int (w0_6 p3)), .val (.int (w0_m7 p0 q1 q2 p3))] [(.ref b214), (.ref b219)])) rfl (by rw [hml]; rfl) (Steps.refl _) (argsL := [(.ref b214)]) (rest := []) (lenOf pd0_2 rfl) rfl (by show 2 * 0 + _ ≤ _; exact Nat.le_of_eq rfl) (hb hby at_262) (fun _ _ => ⟨rfl, e259, (by decide : 2 + 0 ≤ 16), (by decide : 4 + 0 ≤ 128)⟩)
              dsimp only [Pt.U, Pt.locs, Pt.cells, Pt.slots] at X263 l263 y263 z263 st263 hQ263
              subst l263 y263 z263
              obtain ⟨rfl, N263q, e263⟩ := hQ263
              have N263 := Fr.app N259 N263q
              have K263 : ∀ t, Steps p.tables e below (T263.setTop (mkF m 265 #[.val (.int p0), .val (.long q1), .second, .val (.long q2), .second, .val (.int p3), .val (.int (w0_m1 p0)), .val (.int (w0_m2 p0)), .val (.int (p3 &&& (3 : Int32))), .val (.long (w0_m3 q1 q2 p3)), .second, .val (.long (w0_m4 p0 q1)), .second, .val (.long (w0_m5 p0 q1 q2 p3)), .second, .val (.ref ob2), .val (.ref ob2), .val (.ref b214), .val (.ref b219), .val (.int (w0_6 p3)), .val (.int (w0_m7 p0 q1 q2 p3))] [(.int (w0_9 p0 q1 q2 p3))])) t → Steps p.tables e below S0 t := fun t k => K_262 t (st263.trans k)
              have K264 : ∀ t, Steps p.tables e below (T263.setTop (mkF m 267 #[.val (.int p0), .val (.long q1), .second, .val (.long q2), .second, .val (.int p3), .val (.int (w0_m1 p0)), .val (.int (w0_m2 p0)), .val (.int (p3 &&& (3 : Int32))), .val (.long (w0_m3 q1 q2 p3)), .second, .val (.long (w0_m4 p0 q1)), .second, .val (.long (w0_m5 p0 q1 q2 p3)), .second, .val (.ref ob2), .val (.ref ob2), .val (.ref b214), .val (.ref b219), .val (.int (w0_6 p3)), .val (.int (w0_m7 p0 q1 q2 p3))] [(.int (w0_m7 p0 q1 q2 p3)), (.int (w0_9 p0 q1 q2 p3))])) t → Steps p.tables e below S0 t := fun t k => K263 t (by
                refine XS.iload X263.here hx rfl (hb hby at_265) rfl ?_
                show Steps p.tables e below (T263.setTop (mkF m 267 #[.val (.int p0), .val (.long q1), .second, .val (.long q2), .second, .val (.int p3), .val (.int (w0_m1 p0)), .val (.int (w0_m2 p0)), .val (.int (p3 &&& (3 : Int32))), .val (.long (w0_m3 q1 q2 p3)), .second, .val (.long (w0_m4 p0 q1)), .second, .val (.long (w0_m5 p0 q1 q2 p3)), .second, .val (.ref ob2), .val (.ref ob2), .val (.ref b214), .val (.ref b219), .val (.int (w0_6 p3)), .val (.int (w0_m7 p0 q1 q2 p3))] [(.int (w0_m7 p0 q1 q2 p3)), (.int (w0_9 p0 q1 q2 p3))])) _
                exact k)
              by_cases hc267_6 : (w0_9 p0 q1 q2 p3) = (w0_m7 p0 q1 q2 p3)
              · -- yes
                have K265 : ∀ t, Steps p.tables e below (T263.setTop (mkF m 275 #[.val (.int p0), .val (.long q1), .second, .val (.long q2), .second, .val (.int p3), .val (.int (w0_m1 p0)), .val (.int (w0_m2 p0)), .val (.int (p3 &&& (3 : Int32))), .val (.long (w0_m3 q1 q2 p3)), .second, .val (.long (w0_m4 p0 q1)), .second, .val (.long (w0_m5 p0 q1 q2 p3)), .second, .val (.ref ob2), .val (.ref ob2), .val (.ref b214), .val (.ref b219), .val (.int (w0_6 p3)), .val (.int (w0_m7 p0 q1 q2 p3))] [(.int (1 : Int32))])) t → Steps p.tables e below S0 t := fun t k => K264 t (by
                  refine XS.icmpNo X263.here hx rfl (hb hby at_267) rfl (XT.ii_ne_f hc267_6) ?_
                  show Steps p.tables e below (T263.setTop (mkF m 270 #[.val (.int p0), .val (.long q1), .second, .val (.long q2), .second, .val (.int p3), .val (.int (w0_m1 p0)), .val (.int (w0_m2 p0)), .val (.int (p3 &&& (3 : Int32))), .val (.long (w0_m3 q1 q2 p3)), .second, .val (.long (w0_m4 p0 q1)), .second, .val (.long (w0_m5 p0 q1 q2 p3)), .second, .val (.ref ob2), .val (.ref ob2), .val (.ref b214), .val (.ref b219), .val (.int (w0_6 p3)), .val (.int (w0_m7 p0 q1 q2 p3))] [])) _
                  refine XS.iconst X263.here hx rfl (hb hby at_270) ?_
                  show Steps p.tables e below (T263.setTop (mkF m 271 #[.val (.int p0), .val (.long q1), .second, .val (.long q2), .second, .val (.int p3), .val (.int (w0_m1 p0)), .val (.int (w0_m2 p0)), .val (.int (p3 &&& (3 : Int32))), .val (.long (w0_m3 q1 q2 p3)), .second, .val (.long (w0_m4 p0 q1)), .second, .val (.long (w0_m5 p0 q1 q2 p3)), .second, .val (.ref ob2), .val (.ref ob2), .val (.ref b214), .val (.ref b219), .val (.int (w0_6 p3)), .val (.int (w0_m7 p0 q1 q2 p3))] [(.int (1 : Int32))])) _
                  refine XS.goto X263.here hx rfl (pc0 := 271) (pc' := 275) rfl (hb hby at_271) (by decide) (by decide) ?_
                  show Steps p.tables e below (T263.setTop (mkF m 275 #[.val (.int p0), .val (.long q1), .second, .val (.long q2), .second, .val (.int p3), .val (.int (w0_m1 p0)), .val (.int (w0_m2 p0)), .val (.int (p3 &&& (3 : Int32))), .val (.long (w0_m3 q1 q2 p3)), .second, .val (.long (w0_m4 p0 q1)), .second, .val (.long (w0_m5 p0 q1 q2 p3)), .second, .val (.ref ob2), .val (.ref ob2), .val (.ref b214), .val (.ref b219), .val (.int (w0_6 p3)), .val (.int (w0_m7 p0 q1 q2 p3))] [(.int (1 : Int32))])) _
                  exact k)
                obtain ⟨fs, hr, hrun, hended, hW, hsame⟩ := X263.leave (v := some (.int (1 : Int32))) (fun h => by rw [Bd.returns] at h; cases h) hlk
                refine ⟨_, _, ?_, hrun, hended, _, _, rfl, ?_, ⟨_, rfl⟩, hW, hsame.mono (by decide) (by decide)⟩
                · rw [← hS0]; exact K265 _ (retN X263 hx (t := .boolean) Bd.returns (by simp) (hb hby at_275) hr)
                · show Q0 Z p0 q1 q2 p3 ob1 ob2 oc cc h0 n0 _ T263.heap _
                  rw [e263]
                  have qr : (1 : Int32) = (w0_r10 p0 q1 q2 p3) := by unfold w0_r10; rw [if_neg hc100_0, if_neg hc116_1, if_neg hc167_2, if_neg hc188_3, if_neg hc213_4, if_pos hc255_5, if_pos hc267_6]
                  exact ⟨congrArg (fun z => some (Value.int z)) qr, N263⟩
              · -- no
                have K266 : ∀ t, Steps p.tables e below (T263.setTop (mkF m 275 #[.val (.int p0), .val (.long q1), .second, .val (.long q2), .second, .val (.int p3), .val (.int (w0_m1 p0)), .val (.int (w0_m2 p0)), .val (.int (p3 &&& (3 : Int32))), .val (.long (w0_m3 q1 q2 p3)), .second, .val (.long (w0_m4 p0 q1)), .second, .val (.long (w0_m5 p0 q1 q2 p3)), .second, .val (.ref ob2), .val (.ref ob2), .val (.ref b214), .val (.ref b219), .val (.int (w0_6 p3)), .val (.int (w0_m7 p0 q1 q2 p3))] [(.int (0 : Int32))])) t → Steps p.tables e below S0 t := fun t k => K264 t (by
                  refine XS.icmpYes X263.here hx rfl (pc0 := 267) (pc' := 274) rfl (hb hby at_267) rfl (XT.ii_ne_t hc267_6) (by decide) (by decide) ?_
                  show Steps p.tables e below (T263.setTop (mkF m 274 #[.val (.int p0), .val (.long q1), .second, .val (.long q2), .second, .val (.int p3), .val (.int (w0_m1 p0)), .val (.int (w0_m2 p0)), .val (.int (p3 &&& (3 : Int32))), .val (.long (w0_m3 q1 q2 p3)), .second, .val (.long (w0_m4 p0 q1)), .second, .val (.long (w0_m5 p0 q1 q2 p3)), .second, .val (.ref ob2), .val (.ref ob2), .val (.ref b214), .val (.ref b219), .val (.int (w0_6 p3)), .val (.int (w0_m7 p0 q1 q2 p3))] [])) _
                  refine XS.iconst X263.here hx rfl (hb hby at_274) ?_
                  show Steps p.tables e below (T263.setTop (mkF m 275 #[.val (.int p0), .val (.long q1), .second, .val (.long q2), .second, .val (.int p3), .val (.int (w0_m1 p0)), .val (.int (w0_m2 p0)), .val (.int (p3 &&& (3 : Int32))), .val (.long (w0_m3 q1 q2 p3)), .second, .val (.long (w0_m4 p0 q1)), .second, .val (.long (w0_m5 p0 q1 q2 p3)), .second, .val (.ref ob2), .val (.ref ob2), .val (.ref b214), .val (.ref b219), .val (.int (w0_6 p3)), .val (.int (w0_m7 p0 q1 q2 p3))] [(.int (0 : Int32))])) _
                  exact k)
                obtain ⟨fs, hr, hrun, hended, hW, hsame⟩ := X263.leave (v := some (.int (0 : Int32))) (fun h => by rw [Bd.returns] at h; cases h) hlk
                refine ⟨_, _, ?_, hrun, hended, _, _, rfl, ?_, ⟨_, rfl⟩, hW, hsame.mono (by decide) (by decide)⟩
                · rw [← hS0]; exact K266 _ (retN X263 hx (t := .boolean) Bd.returns (by simp) (hb hby at_275) hr)
                · show Q0 Z p0 q1 q2 p3 ob1 ob2 oc cc h0 n0 _ T263.heap _
                  rw [e263]
                  have qr : (0 : Int32) = (w0_r10 p0 q1 q2 p3) := by unfold w0_r10; rw [if_neg hc100_0, if_neg hc116_1, if_neg hc167_2, if_neg hc188_3, if_neg hc213_4, if_pos hc255_5, if_neg hc267_6]
                  exact ⟨congrArg (fun z => some (Value.int z)) qr, N263⟩
            · -- no
              have K267 : ∀ t, Steps p.tables e below (T259.setTop (mkF m 275 #[.val (.int p0), .val (.long q1), .second, .val (.long q2), .second, .val (.int p3), .val (.int (w0_m1 p0)), .val (.int (w0_m2 p0)), .val (.int (p3 &&& (3 : Int32))), .val (.long (w0_m3 q1 q2 p3)), .second, .val (.long (w0_m4 p0 q1)), .second, .val (.long (w0_m5 p0 q1 q2 p3)), .second, .val (.ref ob2), .val (.ref ob2), .val (.ref b214), .val (.ref b219), .val (.int (w0_6 p3)), .val (.int (w0_m7 p0 q1 q2 p3))] [(.int (0 : Int32))])) t → Steps p.tables e below S0 t := fun t k => K260 t (by
                refine XS.icmpYes X259.here hx rfl (pc0 := 255) (pc' := 274) rfl (hb hby at_255) rfl (XT.ii_ne_t hc255_5) (by decide) (by decide) ?_
                show Steps p.tables e below (T259.setTop (mkF m 274 #[.val (.int p0), .val (.long q1), .second, .val (.long q2), .second, .val (.int p3), .val (.int (w0_m1 p0)), .val (.int (w0_m2 p0)), .val (.int (p3 &&& (3 : Int32))), .val (.long (w0_m3 q1 q2 p3)), .second, .val (.long (w0_m4 p0 q1)), .second, .val (.long (w0_m5 p0 q1 q2 p3)), .second, .val (.ref ob2), .val (.ref ob2), .val (.ref b214), .val (.ref b219), .val (.int (w0_6 p3)), .val (.int (w0_m7 p0 q1 q2 p3))] [])) _
                refine XS.iconst X259.here hx rfl (hb hby at_274) ?_
                show Steps p.tables e below (T259.setTop (mkF m 275 #[.val (.int p0), .val (.long q1), .second, .val (.long q2), .second, .val (.int p3), .val (.int (w0_m1 p0)), .val (.int (w0_m2 p0)), .val (.int (p3 &&& (3 : Int32))), .val (.long (w0_m3 q1 q2 p3)), .second, .val (.long (w0_m4 p0 q1)), .second, .val (.long (w0_m5 p0 q1 q2 p3)), .second, .val (.ref ob2), .val (.ref ob2), .val (.ref b214), .val (.ref b219), .val (.int (w0_6 p3)), .val (.int (w0_m7 p0 q1 q2 p3))] [(.int (0 : Int32))])) _
                exact k)
              obtain ⟨fs, hr, hrun, hended, hW, hsame⟩ := X259.leave (v := some (.int (0 : Int32))) (fun h => by rw [Bd.returns] at h; cases h) hlk
              refine ⟨_, _, ?_, hrun, hended, _, _, rfl, ?_, ⟨_, rfl⟩, hW, hsame.mono (by decide) (by decide)⟩
              · rw [← hS0]; exact K267 _ (retN X259 hx (t := .boolean) Bd.returns (by simp) (hb hby at_275) hr)
              · show Q0 Z p0 q1 q2 p3 ob1 ob2 oc cc h0 n0 _ T259.heap _
                rw [e259]
                have qr : (0 : Int32) = (w0_r10 p0 q1 q2 p3) := by unfold w0_r10; rw [if_neg hc100_0, if_neg hc116_1, if_neg hc167_2, if_neg hc188_3, if_neg hc213_4, if_neg hc255_5]
                exact ⟨congrArg (fun z => some (Value.int z)) qr, N259⟩
set_option maxRecDepth 65536 in
set_option maxHeartbeats 40000000 in
theorem comes_1 {Post : Tables → Env → Array Value → State → Outcome → State → Prop} (hpost : ∀ tb e args s v u, (limb_1_1.after args s (.returned v) u = true ∧ limb_1_2.after args s (.returned v) u = true ∧ True) → FrameEnd s (.returned v) u (Jvm.fieldLocs frame_1_writes args s ++ Jvm.arrayLocs frame_1_arrays args s ++ Jvm.staticLocs frame_1_statics s) 16 128 → Post tb e args s (.returned v) u) :
    ArmFor flags0 classFile x code maxLocals ret World_1 tables_1 room_1 Calls_1 rest_1 Pre_1 Post := by
  intro l hfl _ _ p e ha hc hk s m args below hf hA hF happ hP
  obtain ⟨hcalls, hrest, hpre⟩ := hP
  obtain ⟨-, -, -, hnamed, -, -, -, hat⟩ := (Spec.applies_iff hf).mp happ
  obtain ⟨hg, hn⟩ := and_e (Cond.before_iff.mp (show (Jvm.Cond.and given_1 narrow_1).before args s = true from hpre))
  obtain ⟨hcount, hv0⟩ := and_e hg
  obtain ⟨hi0, hv1⟩ := and_e hv0
  obtain ⟨hi1, hv2⟩ := and_e hv1
  obtain ⟨hi2, hv3⟩ := and_e hv2
  have hi3 := hv3
  obtain ⟨w0, w1, w2, w3, rfl⟩ : ∃ w0 w1 w2 w3 : Value, args = #[w0, w1, w2, w3] := by
    have hs : args.size = 4 := by simpa [Cond.value, given_1] using hcount
    obtain ⟨L⟩ := args
    match L, hs with
    | [w0, w1, w2, w3], _ => exact ⟨w0, w1, w2, w3, rfl⟩
  have hw := fun d (hd : d ∈ tables_1) => atoms_spec (ws := Jvm.Cond.code x code maxLocals ret :: tables_1) hat d (List.mem_cons_of_mem _ hd)
  have hfit : Fit s := fun {y c} hc i hi => by
    obtain ⟨ha, rfl⟩ := Array.getElem?_eq_some_iff.mp hc
    have q := List.all_eq_true.mp ((Array.all_eq_true_iff_forall_mem.mp hF) _ (Array.getElem_mem ha)) i (List.mem_range.mpr hi)
    simpa [Array.getElem?_eq_getElem hi] using q
  obtain ⟨i0, ei0⟩ := is_v hi0
  obtain rfl : w0 = (.int i0) := Option.some.inj ei0
  obtain ⟨i1, ei1⟩ := isL_v hi1
  obtain rfl : w1 = (.long i1) := Option.some.inj ei1
  obtain ⟨i2, ei2⟩ := isL_v hi2
  obtain rfl : w2 = (.long i2) := Option.some.inj ei2
  obtain ⟨i3, ei3⟩ := is_v hi3
  obtain rfl : w3 = (.int i3) := Option.some.inj ei3
  obtain ⟨hsets, hown0⟩ := atoms_of _ (rest_1_c_eq ▸ (show rest_1_c.before _ s = true from hrest))
  obtain ⟨oc, cc, Sc, Ac, Cc⟩ := own_cache (hsets _ (List.mem_of_getElem? (i := 1) rfl)) (hsets _ (List.mem_of_getElem? (i := 2) rfl)) (hsets _ (List.mem_of_getElem? (i := 4) rfl)) (hsets _ (List.mem_of_getElem? (i := 5) rfl))
  obtain ⟨z1, hz1⟩ := and_e hn
  obtain ⟨z2, hz2⟩ := and_e hz1
  obtain ⟨y1, y2⟩ := and_e hz2
  obtain ⟨ob1, ev1⟩ := exa_v z1
  have S1 : Sta s s.heap "com/example/acervo/acervo/index/DocumentValue$Kind" "NUMBER" "Lcom/example/acervo/acervo/index/DocumentValue$Kind;" (.ref ob1) := Sta.start ev1 (Or.inr ⟨(hw _ (List.mem_of_getElem? (i := 1) rfl)), (hw _ (List.mem_of_getElem? (i := 2) rfl))⟩)
  have E1 := Exa.start ev1 z1
  have F1 := Fld.start ((fld_at ev1).symm.trans (eqv_i (Term.int_eval _) y1))
  obtain ⟨ob2, ev2⟩ := exa_v z2
  have S2 : Sta s s.heap "com/example/acervo/acervo/index/DocumentValue$Kind" "DATE" "Lcom/example/acervo/acervo/index/DocumentValue$Kind;" (.ref ob2) := Sta.start ev2 (Or.inr ⟨(hw _ (List.mem_of_getElem? (i := 1) rfl)), (hw _ (List.mem_of_getElem? (i := 18) rfl))⟩)
  have E2 := Exa.start ev2 z2
  have F2 := Fld.start ((fld_at ev2).symm.trans (eqv_i (Term.int_eval _) y2))
  have hne := F1.ne F2 (by decide)
  obtain ⟨n, o, h1, h2, h3, _, L, rfl, ⟨rfl, N⟩, hq⟩ := rm0 l s _ hw tables_1 i0 i1 i2 i3 ob1 ob2 oc cc s.heap s.heap.size (Nat.le_refl _) S1 S2 E1 E2 Sc Ac Cc (Old.start s) hne p e ha hc hk s m _ below hf ((Spec.applies_iff_loose hf).mp happ).1 ⟨rfl, State.Warmed39.refl s, rfl⟩ trivial
  refine ⟨n, _, h1, h2, h3, hpost _ _ _ _ _ _ ⟨Cond.after_iff.mpr rfl, Cond.after_iff.mpr (eq_i res_at (Term.int_eval (1)) (congrArg Value.int (plain_law i0 i1 i2 i3))), trivial⟩ ⟨hq.1, hq.2.1, (hq.2.2.sift fun y hy => Or.inr (N y hy)).mono (by decide) (by decide)⟩⟩
theorem main_1_1 : Claimed_1_1 := comes_1 fun _ _ _ _ _ _ h hF => ⟨h.1, hF⟩
theorem main_1_2 : Claimed_1_2 := comes_1 fun _ _ _ _ _ _ h hF => ⟨h.2.1, hF⟩
end Jvm.Pilot.@@N@@
namespace Jvm.Pilot.@@N@@
open Jvm Jvm.ClassFile Sem Op Lib Jvm.Free Jvm.Stand Jvm.Pilot.@@N@@.Jvm.D
/-! MADE BY PROGRAM (witnessworld.py) out of the Statement's table words and the real class files: 19 classes; the members and pool entries that the words name. The judged class is class 1, her method 2. -/
namespace start1
open Jvm.ClassFile
def u (s : String) : CpInfo := .utf8 (stringToUtf16 s)
/-- a pool by its gaps: so many unusable entries, then the entry; so many at the end -/
def gap : Nat → List CpInfo → List CpInfo
  | 0, r => r
  | n + 1, r => .unusable :: gap n r
def poolList (es : List (Nat × CpInfo)) (last : Nat) : List CpInfo := es.foldr (fun e r => gap e.1 (e.2 :: r)) (gap last [])
def pool (es : List (Nat × CpInfo)) (last : Nat) : Array CpInfo := ⟨poolList es last⟩
def fileOf (pool : Array CpInfo) (this : Nat) (attrs : Array Attribute := #[]) (ms : Array MethodInfo := #[]) (fl : Nat := 33) (sup : Nat := 0) (ifs : Array Nat := #[]) (fds : Array FieldInfo := #[]) : ClassFile where
  minorVersion := 0
  majorVersion := 65
  constantPool := pool
  accessFlags := fl
  thisClass := this
  superClass := sup
  interfaces := ifs
  fields := fds
  methods := ms
  attributes := attrs
def plain (name : String) (sup : Option ClassId) : Class where
  name := name
  kind := .ordinary
  loader := none
  accessFlags := 33
  super := sup
  interfaces := #[]
  cf := none
  fields := #[]
  methods := #[]
  instanceTypes := #[]
  staticTypes := #[]
  resolved := #[]
  callSites := []
  init := .initialized
  statics := none
  mirror := none

def pool0 : Array CpInfo := pool [(5, u "<init>"), (0, u "()V"), (1, .class_ 10), (1, u "java/lang/Object")] 113

def k0c0 : Code := { maxStack := 0, maxLocals := 1, code := object_method_1_code, exceptionTable := #[], attributes := #[] }
def k0m0 : Method := { name := "<init>", desc := "()V", sig := { parameters := [], returnType := none }, accessFlags := 1, code := some k0c0 }
/-- java/lang/Object -/
def k0 : Class := { plain "java/lang/Object" none with
  accessFlags := 33
  interfaces := #[]
  cf := some (fileOf pool0 8 #[] #[{ accessFlags := 1, nameIndex := 5, descriptorIndex := 6, attributes := #[] }] 33 0 #[] #[])
  fields := #[]
  methods := #[k0m0]
  instanceTypes := #[]
  staticTypes := #[]
  resolved := Array.replicate 124 none
  statics := none }

def pool1 : Array CpInfo := pool [(2, .class_ 4), (1, u "java/lang/Object"), (0, u "<init>"), (0, u "()V"), (0, .long 9223372036854775807), (1, .long 3652425), (1, .long 719528), (1, .methodref 14 15), (0, .class_ 16), (0, .nameAndType 17 18), (0, u "com/example/acervo/acervo/index/DocumentValueEqualsPinLaw"), (0, u "day"), (0, u "(J)J"), (0, .fieldref 20 21), (0, .class_ 22), (0, .nameAndType 23 24), (0, u "com/example/acervo/acervo/index/DocumentValue$Kind"), (0, u "DATE"), (0, u "Lcom/example/acervo/acervo/index/DocumentValue$Kind;"), (0, .fieldref 20 26), (0, .nameAndType 27 24), (0, u "NUMBER"), (0, .class_ 29), (0, u "com/example/acervo/acervo/index/DocumentValue"), (0, .methodref 28 31), (0, .nameAndType 5 32), (0, u "(Lcom/example/acervo/acervo/index/DocumentValue$Kind;J)V"), (0, .methodref 28 34), (0, .nameAndType 35 36), (0, u "equals"), (0, u "(Ljava/lang/Object;)Z"), (0, .methodref 38 39), (0, .class_ 40), (0, .nameAndType 41 42), (0, u "java/lang/Long"), (0, u "valueOf"), (0, u "(J)Ljava/lang/Long;"), (2, u "law"), (0, u "(IJJI)Z")] 5

def k1m0 : Method := { name := "<init>", desc := "()V", sig := { parameters := [], returnType := none }, accessFlags := 1, code := none }
def k1c1 : Code := { maxStack := 4, maxLocals := 2, code := method_2_code, exceptionTable := #[], attributes := #[] }
def k1m1 : Method := { name := "day", desc := "(J)J", sig := { parameters := [.long], returnType := some .long }, accessFlags := 10, code := some k1c1 }
def k1c2 : Code := { maxStack := 5, maxLocals := 21, code := code, exceptionTable := #[], attributes := #[] }
def k1m2 : Method := { name := "law", desc := "(IJJI)Z", sig := { parameters := [.int, .long, .long, .int], returnType := some .boolean }, accessFlags := 9, code := some k1c2 }
/-- com/example/acervo/acervo/index/DocumentValueEqualsPinLaw -/
def k1 : Class := { plain "com/example/acervo/acervo/index/DocumentValueEqualsPinLaw" (some 0) with
  accessFlags := 49
  interfaces := #[]
  cf := some (fileOf pool1 14 #[] #[{ accessFlags := 1, nameIndex := 5, descriptorIndex := 6, attributes := #[] }, { accessFlags := 10, nameIndex := 17, descriptorIndex := 18, attributes := #[] }, { accessFlags := 9, nameIndex := 45, descriptorIndex := 46, attributes := #[] }] 49 2 #[] #[])
  fields := #[]
  methods := #[k1m0, k1m1, k1m2]
  instanceTypes := #[]
  staticTypes := #[]
  resolved := Array.replicate 52 none
  statics := none }

def pool2 : Array CpInfo := pool [(1, .class_ 2), (0, u "java/lang/constant/Constable"), (0, .class_ 4), (0, u "java/lang/Object")] 6

/-- java/lang/constant/Constable -/
def k2 : Class := { plain "java/lang/constant/Constable" (some 0) with
  accessFlags := 1537
  interfaces := #[]
  cf := some (fileOf pool2 1 #[] #[] 1537 3 #[] #[])
  fields := #[]
  methods := #[]
  instanceTypes := #[]
  staticTypes := #[]
  resolved := Array.replicate 11 none
  statics := none }

def pool3 : Array CpInfo := pool [(1, .class_ 2), (0, u "java/lang/Comparable"), (0, .class_ 4), (0, u "java/lang/Object")] 7

/-- java/lang/Comparable -/
def k3 : Class := { plain "java/lang/Comparable" (some 0) with
  accessFlags := 1537
  interfaces := #[]
  cf := some (fileOf pool3 1 #[] #[] 1537 3 #[] #[])
  fields := #[]
  methods := #[]
  instanceTypes := #[]
  staticTypes := #[]
  resolved := Array.replicate 12 none
  statics := none }

def pool4 : Array CpInfo := pool [(1, .class_ 2), (0, u "java/io/Serializable"), (0, .class_ 4), (0, u "java/lang/Object")] 2

/-- java/io/Serializable -/
def k4 : Class := { plain "java/io/Serializable" (some 0) with
  accessFlags := 1537
  interfaces := #[]
  cf := some (fileOf pool4 1 #[] #[] 1537 3 #[] #[])
  fields := #[]
  methods := #[]
  instanceTypes := #[]
  staticTypes := #[]
  resolved := Array.replicate 7 none
  statics := none }

def pool5 : Array CpInfo := pool [(2, .class_ 4), (1, u "java/lang/Enum"), (0, u "name"), (0, u "Ljava/lang/String;"), (2, u "ordinal"), (0, u "I"), (1, .class_ 14), (1, u "java/lang/Object"), (4, u "hash"), (86, .class_ 108), (1, u "java/lang/Enum$EnumDesc"), (2, .class_ 112), (0, u "java/lang/constant/Constable"), (0, .class_ 114), (0, u "java/lang/Comparable"), (0, .class_ 116), (0, u "java/io/Serializable")] 87

/-- java/lang/Enum -/
def k5 : Class := { plain "java/lang/Enum" (some 0) with
  accessFlags := 1057
  interfaces := #[2, 3, 4]
  cf := some (fileOf pool5 2 #[.nestMembers #[106]] #[] 1057 12 #[111, 113, 115] #[{ accessFlags := 18, nameIndex := 5, descriptorIndex := 6, attributes := #[] }, { accessFlags := 18, nameIndex := 9, descriptorIndex := 10, attributes := #[] }, { accessFlags := 2, nameIndex := 19, descriptorIndex := 10, attributes := #[] }])
  fields := #[{ name := "name", type := (.object "java/lang/String"), accessFlags := 18, slot := 0, constantValue := 0 }, { name := "ordinal", type := .int, accessFlags := 18, slot := 1, constantValue := 0 }, { name := "hash", type := .int, accessFlags := 2, slot := 2, constantValue := 0 }]
  methods := #[]
  instanceTypes := #[(.object "java/lang/String"), .int, .int]
  staticTypes := #[]
  resolved := Array.replicate 204 none
  statics := none }

def pool6 : Array CpInfo := pool [(1, .class_ 2), (0, u "com/example/acervo/acervo/index/DocumentValue$Kind"), (2, u "NUMBER"), (0, u "Lcom/example/acervo/acervo/index/DocumentValue$Kind;"), (2, u "DATE"), (2, u "$VALUES"), (0, u "[Lcom/example/acervo/acervo/index/DocumentValue$Kind;"), (6, .class_ 22), (1, u "java/lang/Enum"), (8, u "singular"), (0, u "Ljava/lang/String;"), (2, u "plural"), (31, .class_ 68), (0, u "com/example/acervo/acervo/index/DocumentValue")] 2

/-- com/example/acervo/acervo/index/DocumentValue$Kind -/
def k6 : Class := { plain "com/example/acervo/acervo/index/DocumentValue$Kind" (some 5) with
  accessFlags := 16433
  interfaces := #[]
  cf := some (fileOf pool6 1 #[.nestHost 67] #[] 16433 20 #[] #[{ accessFlags := 16409, nameIndex := 5, descriptorIndex := 6, attributes := #[] }, { accessFlags := 16409, nameIndex := 9, descriptorIndex := 6, attributes := #[] }, { accessFlags := 18, nameIndex := 31, descriptorIndex := 32, attributes := #[] }, { accessFlags := 18, nameIndex := 35, descriptorIndex := 32, attributes := #[] }, { accessFlags := 4122, nameIndex := 12, descriptorIndex := 13, attributes := #[] }])
  fields := #[{ name := "NUMBER", type := (.object "com/example/acervo/acervo/index/DocumentValue$Kind"), accessFlags := 16409, slot := 0, constantValue := 0 }, { name := "DATE", type := (.object "com/example/acervo/acervo/index/DocumentValue$Kind"), accessFlags := 16409, slot := 1, constantValue := 0 }, { name := "singular", type := (.object "java/lang/String"), accessFlags := 18, slot := 3, constantValue := 0 }, { name := "plural", type := (.object "java/lang/String"), accessFlags := 18, slot := 4, constantValue := 0 }, { name := "$VALUES", type := (.array (.object "com/example/acervo/acervo/index/DocumentValue$Kind")), accessFlags := 4122, slot := 2, constantValue := 0 }]
  methods := #[]
  instanceTypes := #[(.object "java/lang/String"), .int, .int, (.object "java/lang/String"), (.object "java/lang/String")]
  staticTypes := #[(.object "com/example/acervo/acervo/index/DocumentValue$Kind"), (.object "com/example/acervo/acervo/index/DocumentValue$Kind"), (.array (.object "com/example/acervo/acervo/index/DocumentValue$Kind"))]
  resolved := Array.replicate 71 none
  statics := some 0 }

def pool7 : Array CpInfo := pool [(1, .methodref 2 3), (0, .class_ 4), (0, .nameAndType 5 6), (0, u "java/lang/Object"), (0, u "<init>"), (0, u "()V"), (0, .class_ 8), (0, u "java/lang/Record")] 13

def k7c0 : Code := { maxStack := 1, maxLocals := 1, code := jdk_30_method_1_code, exceptionTable := #[], attributes := #[] }
def k7m0 : Method := { name := "<init>", desc := "()V", sig := { parameters := [], returnType := none }, accessFlags := 4, code := some k7c0 }
/-- java/lang/Record -/
def k7 : Class := { plain "java/lang/Record" (some 0) with
  accessFlags := 1057
  interfaces := #[]
  cf := some (fileOf pool7 7 #[] #[{ accessFlags := 4, nameIndex := 5, descriptorIndex := 6, attributes := #[] }] 1057 2 #[] #[])
  fields := #[]
  methods := #[k7m0]
  instanceTypes := #[]
  staticTypes := #[]
  resolved := Array.replicate 22 none
  statics := none }

def pool8 : Array CpInfo := pool [(1, .methodref 2 3), (0, .class_ 4), (0, .nameAndType 5 6), (0, u "java/lang/Record"), (0, u "<init>"), (0, u "()V"), (3, u "kind"), (3, .fieldref 15 16), (0, .class_ 17), (0, .nameAndType 18 19), (0, u "com/example/acervo/acervo/index/DocumentValue$Kind"), (0, u "DATE"), (0, u "Lcom/example/acervo/acervo/index/DocumentValue$Kind;"), (0, .methodref 21 22), (0, .class_ 23), (0, .nameAndType 24 25), (0, u "com/example/acervo/acervo/index/DocumentValue"), (0, u "isDay"), (0, u "(J)Z"), (7, .fieldref 21 34), (0, .nameAndType 10 19), (0, .fieldref 21 36), (0, .nameAndType 37 38), (0, u "number"), (0, u "J"), (0, .long 18446744073708832088), (1, .long 2932896), (6, u "(Lcom/example/acervo/acervo/index/DocumentValue$Kind;J)V"), (104, u "MONTH_DAYS"), (0, u "[I"), (6, .class_ 162), (0, u "java/lang/Comparable"), (0, u "FIRST_DAY"), (1, u "LAST_DAY"), (0, u "DAYS_OF_400_YEARS"), (0, u "DATE_LENGTH"), (0, u "I"), (1, u "TAKES"), (0, u "Ljava/lang/String;"), (8, u "equals"), (0, u "(Ljava/lang/Object;)Z")] 25

def k8c0 : Code := { maxStack := 4, maxLocals := 4, code := prog_82_method_1_code, exceptionTable := #[], attributes := #[] }
def k8m0 : Method := { name := "<init>", desc := "(Lcom/example/acervo/acervo/index/DocumentValue$Kind;J)V", sig := { parameters := [(.object "com/example/acervo/acervo/index/DocumentValue$Kind"), .long], returnType := none }, accessFlags := 1, code := some k8c0 }
def k8c1 : Code := { maxStack := 4, maxLocals := 2, code := prog_82_method_2_code, exceptionTable := #[], attributes := #[] }
def k8m1 : Method := { name := "isDay", desc := "(J)Z", sig := { parameters := [.long], returnType := some .boolean }, accessFlags := 8, code := some k8c1 }
def k8c2 : Code := { maxStack := 4, maxLocals := 3, code := prog_82_method_7_code, exceptionTable := #[], attributes := #[] }
def k8m2 : Method := { name := "equals", desc := "(Ljava/lang/Object;)Z", sig := { parameters := [(.object "java/lang/Object")], returnType := some .boolean }, accessFlags := 1, code := some k8c2 }
/-- com/example/acervo/acervo/index/DocumentValue -/
def k8 : Class := { plain "com/example/acervo/acervo/index/DocumentValue" (some 7) with
  accessFlags := 49
  interfaces := #[3]
  cf := some (fileOf pool8 21 #[.nestMembers #[15]] #[{ accessFlags := 1, nameIndex := 5, descriptorIndex := 48, attributes := #[] }, { accessFlags := 8, nameIndex := 24, descriptorIndex := 25, attributes := #[] }, { accessFlags := 1, nameIndex := 180, descriptorIndex := 181, attributes := #[] }] 49 2 #[161] #[{ accessFlags := 18, nameIndex := 10, descriptorIndex := 19, attributes := #[] }, { accessFlags := 18, nameIndex := 37, descriptorIndex := 38, attributes := #[] }, { accessFlags := 26, nameIndex := 163, descriptorIndex := 38, attributes := #[] }, { accessFlags := 26, nameIndex := 165, descriptorIndex := 38, attributes := #[] }, { accessFlags := 26, nameIndex := 153, descriptorIndex := 154, attributes := #[] }, { accessFlags := 26, nameIndex := 166, descriptorIndex := 38, attributes := #[] }, { accessFlags := 26, nameIndex := 167, descriptorIndex := 168, attributes := #[] }, { accessFlags := 26, nameIndex := 170, descriptorIndex := 171, attributes := #[] }])
  fields := #[{ name := "kind", type := (.object "com/example/acervo/acervo/index/DocumentValue$Kind"), accessFlags := 18, slot := 0, constantValue := 0 }, { name := "number", type := .long, accessFlags := 18, slot := 1, constantValue := 0 }, { name := "FIRST_DAY", type := .long, accessFlags := 26, slot := 0, constantValue := 0 }, { name := "LAST_DAY", type := .long, accessFlags := 26, slot := 1, constantValue := 0 }, { name := "MONTH_DAYS", type := (.array .int), accessFlags := 26, slot := 2, constantValue := 0 }, { name := "DAYS_OF_400_YEARS", type := .long, accessFlags := 26, slot := 3, constantValue := 0 }, { name := "DATE_LENGTH", type := .int, accessFlags := 26, slot := 4, constantValue := 0 }, { name := "TAKES", type := (.object "java/lang/String"), accessFlags := 26, slot := 5, constantValue := 0 }]
  methods := #[k8m0, k8m1, k8m2]
  instanceTypes := #[(.object "com/example/acervo/acervo/index/DocumentValue$Kind"), .long]
  staticTypes := #[.long, .long, (.array .int), .long, .int, (.object "java/lang/String")]
  resolved := Array.replicate 207 none
  statics := none }

def pool9 : Array CpInfo := pool [(1, .methodref 2 3), (0, .class_ 4), (0, .nameAndType 5 6), (0, u "java/lang/Object"), (0, u "<init>"), (0, u "()V"), (1, .class_ 10), (1, u "java/lang/Number"), (2, .class_ 14), (0, u "java/io/Serializable"), (0, u "serialVersionUID"), (0, u "J")] 20

def k9c0 : Code := { maxStack := 1, maxLocals := 1, code := jdk_18_method_1_code, exceptionTable := #[], attributes := #[] }
def k9m0 : Method := { name := "<init>", desc := "()V", sig := { parameters := [], returnType := none }, accessFlags := 1, code := some k9c0 }
/-- java/lang/Number -/
def k9 : Class := { plain "java/lang/Number" (some 0) with
  accessFlags := 1057
  interfaces := #[4]
  cf := some (fileOf pool9 8 #[] #[{ accessFlags := 1, nameIndex := 5, descriptorIndex := 6, attributes := #[] }] 1057 2 #[13] #[{ accessFlags := 26, nameIndex := 15, descriptorIndex := 16, attributes := #[] }])
  fields := #[{ name := "serialVersionUID", type := .long, accessFlags := 26, slot := 0, constantValue := 0 }]
  methods := #[k9m0]
  instanceTypes := #[]
  staticTypes := #[.long]
  resolved := Array.replicate 37 none
  statics := none }

def pool10 : Array CpInfo := pool [(1, .class_ 2), (0, u "java/lang/constant/ConstantDesc"), (0, .class_ 4), (0, u "java/lang/Object")] 32

/-- java/lang/constant/ConstantDesc -/
def k10 : Class := { plain "java/lang/constant/ConstantDesc" (some 0) with
  accessFlags := 1537
  interfaces := #[]
  cf := some (fileOf pool10 1 #[] #[] 1537 3 #[] #[])
  fields := #[]
  methods := #[]
  instanceTypes := #[]
  staticTypes := #[]
  resolved := Array.replicate 37 none
  statics := none }

def pool11 : Array CpInfo := pool [(1, .class_ 2), (0, u "java/lang/Long"), (55, .nameAndType 59 60), (0, u "<init>"), (0, u "()V"), (24, u "valueOf"), (143, u "(J)Ljava/lang/Long;"), (0, .long 18446744073709551488), (1, .long 127), (1, .fieldref 235 236), (0, .class_ 237), (0, .nameAndType 238 239), (0, u "java/lang/Long$LongCache"), (0, u "cache"), (0, u "[Ljava/lang/Long;"), (0, .methodref 1 241), (0, .nameAndType 59 242), (0, u "(J)V"), (27, .methodref 271 58), (0, .class_ 272), (0, u "java/lang/Number"), (0, .fieldref 1 274), (0, .nameAndType 275 276), (0, u "value"), (0, u "J"), (84, u "TYPE"), (0, u "Ljava/lang/Class;"), (0, .class_ 364), (0, u "java/lang/Comparable"), (0, .class_ 366), (0, u "java/lang/constant/Constable"), (0, .class_ 368), (0, u "java/lang/constant/ConstantDesc"), (0, u "MIN_VALUE"), (1, u "MAX_VALUE"), (4, u "SIZE"), (0, u "I"), (1, u "BYTES"), (1, u "serialVersionUID")] 142

def k11c0 : Code := { maxStack := 4, maxLocals := 3, code := jdk_35_method_24_code, exceptionTable := #[], attributes := #[] }
def k11m0 : Method := { name := "valueOf", desc := "(J)Ljava/lang/Long;", sig := { parameters := [.long], returnType := some (.object "java/lang/Long") }, accessFlags := 9, code := some k11c0 }
def k11c1 : Code := { maxStack := 3, maxLocals := 3, code := jdk_35_method_26_code, exceptionTable := #[], attributes := #[] }
def k11m1 : Method := { name := "<init>", desc := "(J)V", sig := { parameters := [.long], returnType := none }, accessFlags := 1, code := some k11c1 }
/-- java/lang/Long -/
def k11 : Class := { plain "java/lang/Long" (some 9) with
  accessFlags := 49
  interfaces := #[3, 2, 10]
  cf := some (fileOf pool11 1 #[.nestMembers #[235]] #[{ accessFlags := 9, nameIndex := 85, descriptorIndex := 229, attributes := #[] }, { accessFlags := 1, nameIndex := 59, descriptorIndex := 242, attributes := #[] }] 49 271 #[363, 365, 367] #[{ accessFlags := 25, nameIndex := 369, descriptorIndex := 276, attributes := #[] }, { accessFlags := 25, nameIndex := 371, descriptorIndex := 276, attributes := #[] }, { accessFlags := 25, nameIndex := 361, descriptorIndex := 362, attributes := #[] }, { accessFlags := 18, nameIndex := 275, descriptorIndex := 276, attributes := #[] }, { accessFlags := 25, nameIndex := 376, descriptorIndex := 377, attributes := #[] }, { accessFlags := 25, nameIndex := 379, descriptorIndex := 377, attributes := #[] }, { accessFlags := 26, nameIndex := 381, descriptorIndex := 276, attributes := #[] }])
  fields := #[{ name := "MIN_VALUE", type := .long, accessFlags := 25, slot := 0, constantValue := 0 }, { name := "MAX_VALUE", type := .long, accessFlags := 25, slot := 1, constantValue := 0 }, { name := "TYPE", type := (.object "java/lang/Class"), accessFlags := 25, slot := 2, constantValue := 0 }, { name := "value", type := .long, accessFlags := 18, slot := 0, constantValue := 0 }, { name := "SIZE", type := .int, accessFlags := 25, slot := 3, constantValue := 0 }, { name := "BYTES", type := .int, accessFlags := 25, slot := 4, constantValue := 0 }, { name := "serialVersionUID", type := .long, accessFlags := 26, slot := 5, constantValue := 0 }]
  methods := #[k11m0, k11m1]
  instanceTypes := #[.long]
  staticTypes := #[.long, .long, (.object "java/lang/Class"), .int, .int, .long]
  resolved := Array.replicate 524 none
  statics := none }

def pool12 : Array CpInfo := pool [(2, .class_ 4), (1, u "java/lang/Object"), (0, u "<init>"), (0, u "()V"), (0, .class_ 8), (0, u "java/lang/Long"), (7, .class_ 18), (1, u "java/lang/Long$LongCache"), (0, u "$assertionsDisabled"), (0, u "Z"), (8, u "archivedCache"), (0, u "[Ljava/lang/Long;"), (7, u "cache")] 24

def k12m0 : Method := { name := "<init>", desc := "()V", sig := { parameters := [], returnType := none }, accessFlags := 2, code := none }
/-- java/lang/Long$LongCache -/
def k12 : Class := { plain "java/lang/Long$LongCache" (some 0) with
  accessFlags := 48
  interfaces := #[]
  cf := some (fileOf pool12 16 #[.nestHost 7] #[{ accessFlags := 2, nameIndex := 5, descriptorIndex := 6, attributes := #[] }] 48 2 #[] #[{ accessFlags := 24, nameIndex := 38, descriptorIndex := 30, attributes := #[] }, { accessFlags := 8, nameIndex := 29, descriptorIndex := 30, attributes := #[] }, { accessFlags := 4120, nameIndex := 19, descriptorIndex := 20, attributes := #[] }])
  fields := #[{ name := "cache", type := (.array (.object "java/lang/Long")), accessFlags := 24, slot := 0, constantValue := 0 }, { name := "archivedCache", type := (.array (.object "java/lang/Long")), accessFlags := 8, slot := 1, constantValue := 0 }, { name := "$assertionsDisabled", type := .boolean, accessFlags := 4120, slot := 2, constantValue := 0 }]
  methods := #[k12m0]
  instanceTypes := #[]
  staticTypes := #[(.array (.object "java/lang/Long")), (.array (.object "java/lang/Long")), .boolean]
  resolved := Array.replicate 63 none
  statics := some 1 }

def pool13 : Array CpInfo := pool [(1, u "java/lang/Cloneable"), (0, .class_ 1), (0, u "java/lang/Object"), (0, .class_ 3)] 3

/-- java/lang/Cloneable -/
def k13 : Class := { plain "java/lang/Cloneable" (some 0) with
  accessFlags := 1537
  interfaces := #[]
  cf := some (fileOf pool13 2 #[] #[] 1537 4 #[] #[])
  fields := #[]
  methods := #[]
  instanceTypes := #[]
  staticTypes := #[]
  resolved := Array.replicate 8 none
  statics := none }

/-- the primitive byte -/
def k14 : Class := { plain "byte" none with kind := .primitive 'B', accessFlags := 0x411 }
/-- [B -/
def k15 : Class := { plain "[B" (some 0) with kind := .array 14 .byte, interfaces := #[13, 4], accessFlags := 1041 }

/-- the primitive int -/
def k16 : Class := { plain "int" none with kind := .primitive 'I', accessFlags := 0x411 }
/-- [I -/
def k17 : Class := { plain "[I" (some 0) with kind := .array 16 .int, interfaces := #[13, 4], accessFlags := 1041 }

/-- [Ljava/lang/Long; -/
def k18 : Class := { plain "[Ljava/lang/Long;" (some 0) with kind := .array 11 (.object "java/lang/Long"), interfaces := #[13, 4], accessFlags := 1041 }

def heap : Heap := #[{ cls := 6, slots := #[.ref 259, .ref 260, .null], vm := .statics 6 },
  { cls := 12, slots := #[.ref 2, .null, .int 0], vm := .statics 12 },
  { cls := 18, slots := #[.ref 3, .ref 4, .ref 5, .ref 6, .ref 7, .ref 8, .ref 9, .ref 10, .ref 11, .ref 12, .ref 13, .ref 14, .ref 15, .ref 16, .ref 17, .ref 18, .ref 19, .ref 20, .ref 21, .ref 22, .ref 23, .ref 24, .ref 25, .ref 26, .ref 27, .ref 28, .ref 29, .ref 30, .ref 31, .ref 32, .ref 33, .ref 34, .ref 35, .ref 36, .ref 37, .ref 38, .ref 39, .ref 40, .ref 41, .ref 42, .ref 43, .ref 44, .ref 45, .ref 46, .ref 47, .ref 48, .ref 49, .ref 50, .ref 51, .ref 52, .ref 53, .ref 54, .ref 55, .ref 56, .ref 57, .ref 58, .ref 59, .ref 60, .ref 61, .ref 62, .ref 63, .ref 64, .ref 65, .ref 66, .ref 67, .ref 68, .ref 69, .ref 70, .ref 71, .ref 72, .ref 73, .ref 74, .ref 75, .ref 76, .ref 77, .ref 78, .ref 79, .ref 80, .ref 81, .ref 82, .ref 83, .ref 84, .ref 85, .ref 86, .ref 87, .ref 88, .ref 89, .ref 90, .ref 91, .ref 92, .ref 93, .ref 94, .ref 95, .ref 96, .ref 97, .ref 98, .ref 99, .ref 100, .ref 101, .ref 102, .ref 103, .ref 104, .ref 105, .ref 106, .ref 107, .ref 108, .ref 109, .ref 110, .ref 111, .ref 112, .ref 113, .ref 114, .ref 115, .ref 116, .ref 117, .ref 118, .ref 119, .ref 120, .ref 121, .ref 122, .ref 123, .ref 124, .ref 125, .ref 126, .ref 127, .ref 128, .ref 129, .ref 130, .ref 131, .ref 132, .ref 133, .ref 134, .ref 135, .ref 136, .ref 137, .ref 138, .ref 139, .ref 140, .ref 141, .ref 142, .ref 143, .ref 144, .ref 145, .ref 146, .ref 147, .ref 148, .ref 149, .ref 150, .ref 151, .ref 152, .ref 153, .ref 154, .ref 155, .ref 156, .ref 157, .ref 158, .ref 159, .ref 160, .ref 161, .ref 162, .ref 163, .ref 164, .ref 165, .ref 166, .ref 167, .ref 168, .ref 169, .ref 170, .ref 171, .ref 172, .ref 173, .ref 174, .ref 175, .ref 176, .ref 177, .ref 178, .ref 179, .ref 180, .ref 181, .ref 182, .ref 183, .ref 184, .ref 185, .ref 186, .ref 187, .ref 188, .ref 189, .ref 190, .ref 191, .ref 192, .ref 193, .ref 194, .ref 195, .ref 196, .ref 197, .ref 198, .ref 199, .ref 200, .ref 201, .ref 202, .ref 203, .ref 204, .ref 205, .ref 206, .ref 207, .ref 208, .ref 209, .ref 210, .ref 211, .ref 212, .ref 213, .ref 214, .ref 215, .ref 216, .ref 217, .ref 218, .ref 219, .ref 220, .ref 221, .ref 222, .ref 223, .ref 224, .ref 225, .ref 226, .ref 227, .ref 228, .ref 229, .ref 230, .ref 231, .ref 232, .ref 233, .ref 234, .ref 235, .ref 236, .ref 237, .ref 238, .ref 239, .ref 240, .ref 241, .ref 242, .ref 243, .ref 244, .ref 245, .ref 246, .ref 247, .ref 248, .ref 249, .ref 250, .ref 251, .ref 252, .ref 253, .ref 254, .ref 255, .ref 256, .ref 257, .ref 258], vm := .none },
  { cls := 11, slots := #[.long (-128)], vm := .none },
  { cls := 11, slots := #[.long (-127)], vm := .none },
  { cls := 11, slots := #[.long (-126)], vm := .none },
  { cls := 11, slots := #[.long (-125)], vm := .none },
  { cls := 11, slots := #[.long (-124)], vm := .none },
  { cls := 11, slots := #[.long (-123)], vm := .none },
  { cls := 11, slots := #[.long (-122)], vm := .none },
  { cls := 11, slots := #[.long (-121)], vm := .none },
  { cls := 11, slots := #[.long (-120)], vm := .none },
  { cls := 11, slots := #[.long (-119)], vm := .none },
  { cls := 11, slots := #[.long (-118)], vm := .none },
  { cls := 11, slots := #[.long (-117)], vm := .none },
  { cls := 11, slots := #[.long (-116)], vm := .none },
  { cls := 11, slots := #[.long (-115)], vm := .none },
  { cls := 11, slots := #[.long (-114)], vm := .none },
  { cls := 11, slots := #[.long (-113)], vm := .none },
  { cls := 11, slots := #[.long (-112)], vm := .none },
  { cls := 11, slots := #[.long (-111)], vm := .none },
  { cls := 11, slots := #[.long (-110)], vm := .none },
  { cls := 11, slots := #[.long (-109)], vm := .none },
  { cls := 11, slots := #[.long (-108)], vm := .none },
  { cls := 11, slots := #[.long (-107)], vm := .none },
  { cls := 11, slots := #[.long (-106)], vm := .none },
  { cls := 11, slots := #[.long (-105)], vm := .none },
  { cls := 11, slots := #[.long (-104)], vm := .none },
  { cls := 11, slots := #[.long (-103)], vm := .none },
  { cls := 11, slots := #[.long (-102)], vm := .none },
  { cls := 11, slots := #[.long (-101)], vm := .none },
  { cls := 11, slots := #[.long (-100)], vm := .none },
  { cls := 11, slots := #[.long (-99)], vm := .none },
  { cls := 11, slots := #[.long (-98)], vm := .none },
  { cls := 11, slots := #[.long (-97)], vm := .none },
  { cls := 11, slots := #[.long (-96)], vm := .none },
  { cls := 11, slots := #[.long (-95)], vm := .none },
  { cls := 11, slots := #[.long (-94)], vm := .none },
  { cls := 11, slots := #[.long (-93)], vm := .none },
  { cls := 11, slots := #[.long (-92)], vm := .none },
  { cls := 11, slots := #[.long (-91)], vm := .none },
  { cls := 11, slots := #[.long (-90)], vm := .none },
  { cls := 11, slots := #[.long (-89)], vm := .none },
  { cls := 11, slots := #[.long (-88)], vm := .none },
  { cls := 11, slots := #[.long (-87)], vm := .none },
  { cls := 11, slots := #[.long (-86)], vm := .none },
  { cls := 11, slots := #[.long (-85)], vm := .none },
  { cls := 11, slots := #[.long (-84)], vm := .none },
  { cls := 11, slots := #[.long (-83)], vm := .none },
  { cls := 11, slots := #[.long (-82)], vm := .none },
  { cls := 11, slots := #[.long (-81)], vm := .none },
  { cls := 11, slots := #[.long (-80)], vm := .none },
  { cls := 11, slots := #[.long (-79)], vm := .none },
  { cls := 11, slots := #[.long (-78)], vm := .none },
  { cls := 11, slots := #[.long (-77)], vm := .none },
  { cls := 11, slots := #[.long (-76)], vm := .none },
  { cls := 11, slots := #[.long (-75)], vm := .none },
  { cls := 11, slots := #[.long (-74)], vm := .none },
  { cls := 11, slots := #[.long (-73)], vm := .none },
  { cls := 11, slots := #[.long (-72)], vm := .none },
  { cls := 11, slots := #[.long (-71)], vm := .none },
  { cls := 11, slots := #[.long (-70)], vm := .none },
  { cls := 11, slots := #[.long (-69)], vm := .none },
  { cls := 11, slots := #[.long (-68)], vm := .none },
  { cls := 11, slots := #[.long (-67)], vm := .none },
  { cls := 11, slots := #[.long (-66)], vm := .none },
  { cls := 11, slots := #[.long (-65)], vm := .none },
  { cls := 11, slots := #[.long (-64)], vm := .none },
  { cls := 11, slots := #[.long (-63)], vm := .none },
  { cls := 11, slots := #[.long (-62)], vm := .none },
  { cls := 11, slots := #[.long (-61)], vm := .none },
  { cls := 11, slots := #[.long (-60)], vm := .none },
  { cls := 11, slots := #[.long (-59)], vm := .none },
  { cls := 11, slots := #[.long (-58)], vm := .none },
  { cls := 11, slots := #[.long (-57)], vm := .none },
  { cls := 11, slots := #[.long (-56)], vm := .none },
  { cls := 11, slots := #[.long (-55)], vm := .none },
  { cls := 11, slots := #[.long (-54)], vm := .none },
  { cls := 11, slots := #[.long (-53)], vm := .none },
  { cls := 11, slots := #[.long (-52)], vm := .none },
  { cls := 11, slots := #[.long (-51)], vm := .none },
  { cls := 11, slots := #[.long (-50)], vm := .none },
  { cls := 11, slots := #[.long (-49)], vm := .none },
  { cls := 11, slots := #[.long (-48)], vm := .none },
  { cls := 11, slots := #[.long (-47)], vm := .none },
  { cls := 11, slots := #[.long (-46)], vm := .none },
  { cls := 11, slots := #[.long (-45)], vm := .none },
  { cls := 11, slots := #[.long (-44)], vm := .none },
  { cls := 11, slots := #[.long (-43)], vm := .none },
  { cls := 11, slots := #[.long (-42)], vm := .none },
  { cls := 11, slots := #[.long (-41)], vm := .none },
  { cls := 11, slots := #[.long (-40)], vm := .none },
  { cls := 11, slots := #[.long (-39)], vm := .none },
  { cls := 11, slots := #[.long (-38)], vm := .none },
  { cls := 11, slots := #[.long (-37)], vm := .none },
  { cls := 11, slots := #[.long (-36)], vm := .none },
  { cls := 11, slots := #[.long (-35)], vm := .none },
  { cls := 11, slots := #[.long (-34)], vm := .none },
  { cls := 11, slots := #[.long (-33)], vm := .none },
  { cls := 11, slots := #[.long (-32)], vm := .none },
  { cls := 11, slots := #[.long (-31)], vm := .none },
  { cls := 11, slots := #[.long (-30)], vm := .none },
  { cls := 11, slots := #[.long (-29)], vm := .none },
  { cls := 11, slots := #[.long (-28)], vm := .none },
  { cls := 11, slots := #[.long (-27)], vm := .none },
  { cls := 11, slots := #[.long (-26)], vm := .none },
  { cls := 11, slots := #[.long (-25)], vm := .none },
  { cls := 11, slots := #[.long (-24)], vm := .none },
  { cls := 11, slots := #[.long (-23)], vm := .none },
  { cls := 11, slots := #[.long (-22)], vm := .none },
  { cls := 11, slots := #[.long (-21)], vm := .none },
  { cls := 11, slots := #[.long (-20)], vm := .none },
  { cls := 11, slots := #[.long (-19)], vm := .none },
  { cls := 11, slots := #[.long (-18)], vm := .none },
  { cls := 11, slots := #[.long (-17)], vm := .none },
  { cls := 11, slots := #[.long (-16)], vm := .none },
  { cls := 11, slots := #[.long (-15)], vm := .none },
  { cls := 11, slots := #[.long (-14)], vm := .none },
  { cls := 11, slots := #[.long (-13)], vm := .none },
  { cls := 11, slots := #[.long (-12)], vm := .none },
  { cls := 11, slots := #[.long (-11)], vm := .none },
  { cls := 11, slots := #[.long (-10)], vm := .none },
  { cls := 11, slots := #[.long (-9)], vm := .none },
  { cls := 11, slots := #[.long (-8)], vm := .none },
  { cls := 11, slots := #[.long (-7)], vm := .none },
  { cls := 11, slots := #[.long (-6)], vm := .none },
  { cls := 11, slots := #[.long (-5)], vm := .none },
  { cls := 11, slots := #[.long (-4)], vm := .none },
  { cls := 11, slots := #[.long (-3)], vm := .none },
  { cls := 11, slots := #[.long (-2)], vm := .none },
  { cls := 11, slots := #[.long (-1)], vm := .none },
  { cls := 11, slots := #[.long 0], vm := .none },
  { cls := 11, slots := #[.long 1], vm := .none },
  { cls := 11, slots := #[.long 2], vm := .none },
  { cls := 11, slots := #[.long 3], vm := .none },
  { cls := 11, slots := #[.long 4], vm := .none },
  { cls := 11, slots := #[.long 5], vm := .none },
  { cls := 11, slots := #[.long 6], vm := .none },
  { cls := 11, slots := #[.long 7], vm := .none },
  { cls := 11, slots := #[.long 8], vm := .none },
  { cls := 11, slots := #[.long 9], vm := .none },
  { cls := 11, slots := #[.long 10], vm := .none },
  { cls := 11, slots := #[.long 11], vm := .none },
  { cls := 11, slots := #[.long 12], vm := .none },
  { cls := 11, slots := #[.long 13], vm := .none },
  { cls := 11, slots := #[.long 14], vm := .none },
  { cls := 11, slots := #[.long 15], vm := .none },
  { cls := 11, slots := #[.long 16], vm := .none },
  { cls := 11, slots := #[.long 17], vm := .none },
  { cls := 11, slots := #[.long 18], vm := .none },
  { cls := 11, slots := #[.long 19], vm := .none },
  { cls := 11, slots := #[.long 20], vm := .none },
  { cls := 11, slots := #[.long 21], vm := .none },
  { cls := 11, slots := #[.long 22], vm := .none },
  { cls := 11, slots := #[.long 23], vm := .none },
  { cls := 11, slots := #[.long 24], vm := .none },
  { cls := 11, slots := #[.long 25], vm := .none },
  { cls := 11, slots := #[.long 26], vm := .none },
  { cls := 11, slots := #[.long 27], vm := .none },
  { cls := 11, slots := #[.long 28], vm := .none },
  { cls := 11, slots := #[.long 29], vm := .none },
  { cls := 11, slots := #[.long 30], vm := .none },
  { cls := 11, slots := #[.long 31], vm := .none },
  { cls := 11, slots := #[.long 32], vm := .none },
  { cls := 11, slots := #[.long 33], vm := .none },
  { cls := 11, slots := #[.long 34], vm := .none },
  { cls := 11, slots := #[.long 35], vm := .none },
  { cls := 11, slots := #[.long 36], vm := .none },
  { cls := 11, slots := #[.long 37], vm := .none },
  { cls := 11, slots := #[.long 38], vm := .none },
  { cls := 11, slots := #[.long 39], vm := .none },
  { cls := 11, slots := #[.long 40], vm := .none },
  { cls := 11, slots := #[.long 41], vm := .none },
  { cls := 11, slots := #[.long 42], vm := .none },
  { cls := 11, slots := #[.long 43], vm := .none },
  { cls := 11, slots := #[.long 44], vm := .none },
  { cls := 11, slots := #[.long 45], vm := .none },
  { cls := 11, slots := #[.long 46], vm := .none },
  { cls := 11, slots := #[.long 47], vm := .none },
  { cls := 11, slots := #[.long 48], vm := .none },
  { cls := 11, slots := #[.long 49], vm := .none },
  { cls := 11, slots := #[.long 50], vm := .none },
  { cls := 11, slots := #[.long 51], vm := .none },
  { cls := 11, slots := #[.long 52], vm := .none },
  { cls := 11, slots := #[.long 53], vm := .none },
  { cls := 11, slots := #[.long 54], vm := .none },
  { cls := 11, slots := #[.long 55], vm := .none },
  { cls := 11, slots := #[.long 56], vm := .none },
  { cls := 11, slots := #[.long 57], vm := .none },
  { cls := 11, slots := #[.long 58], vm := .none },
  { cls := 11, slots := #[.long 59], vm := .none },
  { cls := 11, slots := #[.long 60], vm := .none },
  { cls := 11, slots := #[.long 61], vm := .none },
  { cls := 11, slots := #[.long 62], vm := .none },
  { cls := 11, slots := #[.long 63], vm := .none },
  { cls := 11, slots := #[.long 64], vm := .none },
  { cls := 11, slots := #[.long 65], vm := .none },
  { cls := 11, slots := #[.long 66], vm := .none },
  { cls := 11, slots := #[.long 67], vm := .none },
  { cls := 11, slots := #[.long 68], vm := .none },
  { cls := 11, slots := #[.long 69], vm := .none },
  { cls := 11, slots := #[.long 70], vm := .none },
  { cls := 11, slots := #[.long 71], vm := .none },
  { cls := 11, slots := #[.long 72], vm := .none },
  { cls := 11, slots := #[.long 73], vm := .none },
  { cls := 11, slots := #[.long 74], vm := .none },
  { cls := 11, slots := #[.long 75], vm := .none },
  { cls := 11, slots := #[.long 76], vm := .none },
  { cls := 11, slots := #[.long 77], vm := .none },
  { cls := 11, slots := #[.long 78], vm := .none },
  { cls := 11, slots := #[.long 79], vm := .none },
  { cls := 11, slots := #[.long 80], vm := .none },
  { cls := 11, slots := #[.long 81], vm := .none },
  { cls := 11, slots := #[.long 82], vm := .none },
  { cls := 11, slots := #[.long 83], vm := .none },
  { cls := 11, slots := #[.long 84], vm := .none },
  { cls := 11, slots := #[.long 85], vm := .none },
  { cls := 11, slots := #[.long 86], vm := .none },
  { cls := 11, slots := #[.long 87], vm := .none },
  { cls := 11, slots := #[.long 88], vm := .none },
  { cls := 11, slots := #[.long 89], vm := .none },
  { cls := 11, slots := #[.long 90], vm := .none },
  { cls := 11, slots := #[.long 91], vm := .none },
  { cls := 11, slots := #[.long 92], vm := .none },
  { cls := 11, slots := #[.long 93], vm := .none },
  { cls := 11, slots := #[.long 94], vm := .none },
  { cls := 11, slots := #[.long 95], vm := .none },
  { cls := 11, slots := #[.long 96], vm := .none },
  { cls := 11, slots := #[.long 97], vm := .none },
  { cls := 11, slots := #[.long 98], vm := .none },
  { cls := 11, slots := #[.long 99], vm := .none },
  { cls := 11, slots := #[.long 100], vm := .none },
  { cls := 11, slots := #[.long 101], vm := .none },
  { cls := 11, slots := #[.long 102], vm := .none },
  { cls := 11, slots := #[.long 103], vm := .none },
  { cls := 11, slots := #[.long 104], vm := .none },
  { cls := 11, slots := #[.long 105], vm := .none },
  { cls := 11, slots := #[.long 106], vm := .none },
  { cls := 11, slots := #[.long 107], vm := .none },
  { cls := 11, slots := #[.long 108], vm := .none },
  { cls := 11, slots := #[.long 109], vm := .none },
  { cls := 11, slots := #[.long 110], vm := .none },
  { cls := 11, slots := #[.long 111], vm := .none },
  { cls := 11, slots := #[.long 112], vm := .none },
  { cls := 11, slots := #[.long 113], vm := .none },
  { cls := 11, slots := #[.long 114], vm := .none },
  { cls := 11, slots := #[.long 115], vm := .none },
  { cls := 11, slots := #[.long 116], vm := .none },
  { cls := 11, slots := #[.long 117], vm := .none },
  { cls := 11, slots := #[.long 118], vm := .none },
  { cls := 11, slots := #[.long 119], vm := .none },
  { cls := 11, slots := #[.long 120], vm := .none },
  { cls := 11, slots := #[.long 121], vm := .none },
  { cls := 11, slots := #[.long 122], vm := .none },
  { cls := 11, slots := #[.long 123], vm := .none },
  { cls := 11, slots := #[.long 124], vm := .none },
  { cls := 11, slots := #[.long 125], vm := .none },
  { cls := 11, slots := #[.long 126], vm := .none },
  { cls := 11, slots := #[.long 127], vm := .none },
  { cls := 6, slots := #[.null, .int 0, .int 0, .null, .null], vm := .none },
  { cls := 6, slots := #[.null, .int 1, .int 0, .null, .null], vm := .none }]
def classes : Array Class := #[k0, k1, k2, k3, k4, k5, k6, k7, k8, k9, k10, k11, k12, k13, k14, k15, k16, k17, k18]
def interned : List (Array UInt16 × Addr) := []
def slotsUsed : Nat := 528
def theMethod : MethodId := ⟨1, 2⟩
def args0 : Array Value := #[.int 5, .long 5, .long 6, .int 1]
def aboutOver (below : List Frame) : State where
  vm := { classes := classes, interned := interned.toArray }
  heap := heap
  slotsUsed := slotsUsed
  threads := #[{ frames := .invoking theMethod args0 :: below }]
def below0 : List Frame := [.native { method := ⟨0, 0⟩, args := #[] }]
def about1 : State := aboutOver below0
def p0 : Program := .bare "" "" ""
def e0 : Env := launch0.env 0 0 0
theorem w_frames : about1.frames = Frame.invoking theMethod args0 :: below0 := rfl
set_option maxRecDepth 65536 in
theorem w_args : argsFit about1.vm theMethod args0 = true := by decide +kernel
set_option maxRecDepth 65536 in
theorem w_heap : heapFits about1 = true := by decide +kernel
set_option maxRecDepth 65536 in
theorem w_runnable : about1.curStatus? = some .runnable := by decide +kernel
set_option maxRecDepth 65536 in
theorem w_alone : about1.alone = true := by decide +kernel
set_option maxRecDepth 65536 in
theorem w_named : about1.methodNamed? x = some theMethod := by decide +kernel
set_option maxRecDepth 65536 in
theorem w_hears : about1.hears theMethod below0 = true := by decide +kernel
set_option maxRecDepth 65536 in
theorem w_ripe : about1.ripe theMethod args0 below0 = true := by decide +kernel
theorem w_running : about1.status = .running := rfl
set_option maxRecDepth 65536 in
theorem w_room : about1.hasRoom e0.platform room_1 = true :=
  launch0.hasRoom_least _ room_1 (by decide +kernel) (by decide +kernel) (by decide +kernel) (by decide +kernel) (by decide +kernel) (by decide +kernel)
theorem allAtoms_all (ts : List Jvm.Cond) (a : Array Jvm.Value) (st : Jvm.State) : (allAtoms ts).before a st = ts.all (fun c => c.before a st) := by
  induction ts with
  | nil => rfl
  | cons c t ih =>
    show (Jvm.Cond.and c (allAtoms t)).before a st = _
    rw [Jvm.Cond.before_and, ih, List.all_cons]
def words1 : List Jvm.Cond := Jvm.Cond.code x code maxLocals ret :: tables_1
/-- a 'code' word, met by the world's own term for the bytes: nothing is compared byte by byte -/
theorem code_word {y : MethodName} {bytes : ByteArray} {mx : Nat} {rt : Option FieldType} {a : Array Value} {s : State} {m : MethodId} {meth : Method} {c : Code} (h1 : s.methodNamed? y = some m) (h2 : s.vm.method? m = some meth) (h3 : meth.code = some c) (h4 : c.code = bytes)
    (h5 : (c.maxLocals == mx && c.exceptionTable.isEmpty && decide (c.maxStack ≤ mostOperands) && decide (meth.sig.returnType = rt) && !meth.locks && decide (parseMethodDescriptor y.desc = some meth.sig)) = true) : (Jvm.Cond.code y bytes mx rt).before a s = true := by
  simp only [Bool.and_eq_true, beq_iff_eq, Bool.not_eq_true', decide_eq_true_eq] at h5
  obtain ⟨⟨⟨⟨⟨g1, g2⟩, g3⟩, g4⟩, g5⟩, g6⟩ := h5
  simp [Cond.before, Cond.holds, Cond.value, h1, h2, h3, h4, g1, g2, g3, g4, g5, g6]
def isCode : Jvm.Cond → Bool
  | .code _ _ _ _ => true
  | _ => false
theorem all_split {L : List Jvm.Cond} {P : Jvm.Cond → Bool} (h1 : L.all (fun c => isCode c || P c) = true) (h2 : ∀ c ∈ L.filter isCode, P c = true) : L.all P = true := by
  refine List.all_eq_true.mpr fun c hc => ?_
  have h := List.all_eq_true.mp h1 c hc
  rcases Bool.eq_false_or_eq_true (isCode c) with hi | hi
  · exact h2 c (List.mem_filter.mpr ⟨hc, hi⟩)
  · simpa [hi] using h
set_option maxRecDepth 65536 in
theorem w_c0 : (Jvm.Cond.code x code maxLocals ret).before args0 about1 = true := code_word (m := ⟨1, 2⟩) (meth := k1m2) (c := k1c2) (by decide +kernel) rfl rfl rfl (by decide +kernel)
set_option maxRecDepth 65536 in
theorem w_c1 : (Jvm.Cond.code ({ cls := "com/example/acervo/acervo/index/DocumentValue", name := "<init>", desc := "(Lcom/example/acervo/acervo/index/DocumentValue$Kind;J)V" } : Jvm.MethodName) prog_82_method_1_code (4 : Nat) (Option.none : Option Jvm.ClassFile.FieldType)).before args0 about1 = true := code_word (m := ⟨8, 0⟩) (meth := k8m0) (c := k8c0) (by decide +kernel) rfl rfl rfl (by decide +kernel)
set_option maxRecDepth 65536 in
theorem w_c2 : (Jvm.Cond.code ({ cls := "java/lang/Record", name := "<init>", desc := "()V" } : Jvm.MethodName) jdk_30_method_1_code (1 : Nat) (Option.none : Option Jvm.ClassFile.FieldType)).before args0 about1 = true := code_word (m := ⟨7, 0⟩) (meth := k7m0) (c := k7c0) (by decide +kernel) rfl rfl rfl (by decide +kernel)
set_option maxRecDepth 65536 in
theorem w_c3 : (Jvm.Cond.code ({ cls := "java/lang/Object", name := "<init>", desc := "()V" } : Jvm.MethodName) object_method_1_code (1 : Nat) (Option.none : Option Jvm.ClassFile.FieldType)).before args0 about1 = true := code_word (m := ⟨0, 0⟩) (meth := k0m0) (c := k0c0) (by decide +kernel) rfl rfl rfl (by decide +kernel)
set_option maxRecDepth 65536 in
theorem w_c4 : (Jvm.Cond.code ({ cls := "com/example/acervo/acervo/index/DocumentValue", name := "equals", desc := "(Ljava/lang/Object;)Z" } : Jvm.MethodName) prog_82_method_7_code (3 : Nat) (Option.some Jvm.ClassFile.FieldType.boolean)).before args0 about1 = true := code_word (m := ⟨8, 2⟩) (meth := k8m2) (c := k8c2) (by decide +kernel) rfl rfl rfl (by decide +kernel)
set_option maxRecDepth 65536 in
theorem w_c5 : (Jvm.Cond.code ({ cls := "com/example/acervo/acervo/index/DocumentValueEqualsPinLaw", name := "day", desc := "(J)J" } : Jvm.MethodName) method_2_code (2 : Nat) (Option.some Jvm.ClassFile.FieldType.long)).before args0 about1 = true := code_word (m := ⟨1, 1⟩) (meth := k1m1) (c := k1c1) (by decide +kernel) rfl rfl rfl (by decide +kernel)
set_option maxRecDepth 65536 in
theorem w_c6 : (Jvm.Cond.code ({ cls := "com/example/acervo/acervo/index/DocumentValue", name := "isDay", desc := "(J)Z" } : Jvm.MethodName) prog_82_method_2_code (2 : Nat) (Option.some Jvm.ClassFile.FieldType.boolean)).before args0 about1 = true := code_word (m := ⟨8, 1⟩) (meth := k8m1) (c := k8c1) (by decide +kernel) rfl rfl rfl (by decide +kernel)
set_option maxRecDepth 65536 in
theorem w_c7 : (Jvm.Cond.code ({ cls := "java/lang/Long", name := "valueOf", desc := "(J)Ljava/lang/Long;" } : Jvm.MethodName) jdk_35_method_24_code (3 : Nat) (Option.some (Jvm.ClassFile.FieldType.object "java/lang/Long"))).before args0 about1 = true := code_word (m := ⟨11, 0⟩) (meth := k11m0) (c := k11c0) (by decide +kernel) rfl rfl rfl (by decide +kernel)
set_option maxRecDepth 65536 in
theorem w_c8 : (Jvm.Cond.code ({ cls := "java/lang/Long", name := "<init>", desc := "(J)V" } : Jvm.MethodName) jdk_35_method_26_code (3 : Nat) (Option.none : Option Jvm.ClassFile.FieldType)).before args0 about1 = true := code_word (m := ⟨11, 1⟩) (meth := k11m1) (c := k11c1) (by decide +kernel) rfl rfl rfl (by decide +kernel)
set_option maxRecDepth 65536 in
theorem w_c9 : (Jvm.Cond.code ({ cls := "java/lang/Number", name := "<init>", desc := "()V" } : Jvm.MethodName) jdk_18_method_1_code (1 : Nat) (Option.none : Option Jvm.ClassFile.FieldType)).before args0 about1 = true := code_word (m := ⟨9, 0⟩) (meth := k9m0) (c := k9c0) (by decide +kernel) rfl rfl rfl (by decide +kernel)
def codes1 : List Jvm.Cond := [Jvm.Cond.code x code maxLocals ret, Jvm.Cond.code ({ cls := "com/example/acervo/acervo/index/DocumentValue", name := "<init>", desc := "(Lcom/example/acervo/acervo/index/DocumentValue$Kind;J)V" } : Jvm.MethodName) prog_82_method_1_code (4 : Nat) (Option.none : Option Jvm.ClassFile.FieldType), Jvm.Cond.code ({ cls := "java/lang/Record", name := "<init>", desc := "()V" } : Jvm.MethodName) jdk_30_method_1_code (1 : Nat) (Option.none : Option Jvm.ClassFile.FieldType), Jvm.Cond.code ({ cls := "java/lang/Object", name := "<init>", desc := "()V" } : Jvm.MethodName) object_method_1_code (1 : Nat) (Option.none : Option Jvm.ClassFile.FieldType), Jvm.Cond.code ({ cls := "com/example/acervo/acervo/index/DocumentValue", name := "equals", desc := "(Ljava/lang/Object;)Z" } : Jvm.MethodName) prog_82_method_7_code (3 : Nat) (Option.some Jvm.ClassFile.FieldType.boolean), Jvm.Cond.code ({ cls := "com/example/acervo/acervo/index/DocumentValueEqualsPinLaw", name := "day", desc := "(J)J" } : Jvm.MethodName) method_2_code (2 : Nat) (Option.some Jvm.ClassFile.FieldType.long), Jvm.Cond.code ({ cls := "com/example/acervo/acervo/index/DocumentValue", name := "isDay", desc := "(J)Z" } : Jvm.MethodName) prog_82_method_2_code (2 : Nat) (Option.some Jvm.ClassFile.FieldType.boolean), Jvm.Cond.code ({ cls := "java/lang/Long", name := "valueOf", desc := "(J)Ljava/lang/Long;" } : Jvm.MethodName) jdk_35_method_24_code (3 : Nat) (Option.some (Jvm.ClassFile.FieldType.object "java/lang/Long")), Jvm.Cond.code ({ cls := "java/lang/Long", name := "<init>", desc := "(J)V" } : Jvm.MethodName) jdk_35_method_26_code (3 : Nat) (Option.none : Option Jvm.ClassFile.FieldType), Jvm.Cond.code ({ cls := "java/lang/Number", name := "<init>", desc := "()V" } : Jvm.MethodName) jdk_18_method_1_code (1 : Nat) (Option.none : Option Jvm.ClassFile.FieldType)]
set_option maxRecDepth 65536 in
theorem codes_eq : words1.filter isCode = codes1 := rfl
theorem w_codes : ∀ c ∈ words1.filter isCode, c.before args0 about1 = true := by
  rw [codes_eq]
  intro c hc
  simp only [codes1, List.mem_cons, List.not_mem_nil, or_false] at hc
  rcases hc with rfl | rfl | rfl | rfl | rfl | rfl | rfl | rfl | rfl | rfl
  · exact w_c0
  · exact w_c1
  · exact w_c2
  · exact w_c3
  · exact w_c4
  · exact w_c5
  · exact w_c6
  · exact w_c7
  · exact w_c8
  · exact w_c9
set_option maxRecDepth 65536 in
theorem w_t1 : (words1.take 24).all (fun c => isCode c || c.before args0 about1) = true := by decide +kernel
set_option maxRecDepth 65536 in
theorem w_t2 : ((words1.drop 24).take 24).all (fun c => isCode c || c.before args0 about1) = true := by decide +kernel
set_option maxRecDepth 65536 in
theorem w_t3 : ((words1.drop 24).drop 24).all (fun c => isCode c || c.before args0 about1) = true := by decide +kernel
theorem w_tables : (allAtoms (Jvm.Cond.code x code maxLocals ret :: tables_1)).before args0 about1 = true := by
  rw [allAtoms_all]
  show words1.all (fun c => c.before args0 about1) = true
  refine all_split ?_ w_codes
  rw [← List.take_append_drop 24 words1, List.all_append, w_t1, ← List.take_append_drop 24 (words1.drop 24), List.all_append, w_t2, w_t3]
  rfl
set_option maxRecDepth 65536 in
theorem w_rest : rest_1_c.before args0 about1 = true := by decide +kernel
set_option maxRecDepth 65536 in
theorem w_case : (Jvm.Cond.and given_1 narrow_1).before args0 about1 = true := by decide +kernel
theorem w_applies : (headSpec (Jvm.Cond.code x code maxLocals ret :: tables_1) room_1).applies x e0.platform about1 = true :=
  (Spec.applies_iff w_frames).mpr ⟨w_running, w_runnable, w_alone, w_named, w_hears, w_ripe, w_room, w_tables⟩
theorem atStart : AtStart classFile x code maxLocals ret World_1 tables_1 room_1 Calls_1 rest_1 Pre_1 launch0 p0 e0 about1 theMethod args0 below0 :=
  ⟨lists_1, trivial, launch0.admits_env _ _ _, launch0.least_env, fairChoices_fair.cas, fairChoices_fair.clock, w_frames, w_args, w_heap, w_applies, trivial, w_rest, w_case⟩
end start1
theorem witness_1 : WitnessClaimed_1 := ⟨start1.p0, start1.e0, start1.about1, start1.theMethod, start1.args0, start1.below0, start1.atStart⟩
end Jvm.Pilot.@@N@@
