import JvmDerived
import JvmDerived.Pilot.@@N@@Statement
import JvmDerived.Pilot.@@N@@Code
set_option linter.unusedVariables false
set_option linter.unusedSimpArgs false
namespace Jvm.RoadKit
open Sem ClassFile Op Lib Jvm.Stand Jvm.Free Jvm.LawKit
section New
variable {p : Program} {l : Launch} {e : Env} {R : Room} {s : State} {m : MethodId} {args : Array Value} {below : List Frame} {meth : Method} {c : Code} {T : State} {locs : List Loc} {cells slots : Nat}
theorem retI (X : Stand p l e R s m args below meth c T locs cells slots) (hx : p.tables.exec = Jvm.exec) {pc : Nat} {Ls : Array Slot} {z : Int32} {rest : List Value} (hret : meth.sig.returnType = some .int) (hd : decode c.code pc = .ok (.ireturn, 1)) {fs : List Frame}
    (hl : ∀ (f : JFrame) (acts : List Action), f.method = m → f.locked = none → f.entered = [] → (doReturn e (T.setTop f) acts (some (.int z))).1 = T.setFrames fs) : Steps p.tables e below (T.setTop (mkF m pc Ls (.int z :: rest))) (T.setFrames fs) :=
  retOut X hx hret rfl (Or.inl ⟨rfl, Or.inl rfl, _, rfl⟩) hd hl
end New
end Jvm.RoadKit
namespace Jvm.Pilot.@@N@@
open Jvm Jvm.ClassFile Sem Op Lib Jvm.Free Jvm.Stand Jvm.LawKit Jvm.RoadKit Bundle Jvm.Pilot.@@N@@.Jvm.D
theorem own_nsroot {Z : State} {b0 : Array Value} {O K : String} {k : Nat} (w : (Jvm.Cond.noSuperclass O).before b0 Z = true) (wi : (Jvm.Cond.instantiable K k).before b0 Z = true) (hne : O ≠ K) : NS Z O K := by
  obtain ⟨c, kc, c1, c2, c3, -⟩ := Cond.noSuperclass_spec w
  obtain ⟨t, kt, t1, -⟩ := Cond.instantiable_spec wi
  exact ⟨c, t, c1, t1, fun fuel => by cases fuel <;> simp [Vm.isSubclassAux, ids_ne c1 t1 hne, c2, c3]⟩
theorem own_nsno {Z : State} {b0 : Array Value} {C S K : String} {k : Nat} (w : (Jvm.Cond.superclass C S).before b0 Z = true) (wi : (Jvm.Cond.instantiable K k).before b0 Z = true) (nn : NS Z C K) (hne : C ≠ K) : ∃ c t, Z.vm.findClass C = some c ∧ Z.vm.findClass K = some t ∧ Z.vm.assignable c t = false := by
  obtain ⟨c, t, c1, t1, far⟩ := nn
  obtain ⟨_, kc, _, -, k2, -, -, k5, -, -⟩ := Cond.superclass_spec c1 w
  obtain ⟨t', kt, t1', t2, t3, t4, -⟩ := Cond.instantiable_spec wi
  obtain rfl : t = t' := Option.some.inj (t1.symm.trans t1')
  have t5 : kt.isInterface = false := (Bool.or_eq_false_iff.mp t4).1
  refine ⟨c, t, c1, t1, ?_⟩
  show Z.vm.assignableAux (255 + 1) c t = false
  simp [Vm.assignableAux, ids_ne c1 t1 hne, k2, t2, k5, t3, t5, Vm.isSubclass, far]
theorem own_len31 {s : State} {args : Array Value} {t : Term} {a : Addr} {c : Cell} {z : Int32} (ht : t.eval args s none [] s = some (.ref a)) (hA : s.arrayAt? a = some c) (h : (Term.length t).eval args s none [] s = some (.int z)) : c.slots.size < 2 ^ 31 ∧ c.slots.size.toInt32 = z := by
  simpa [Term.eval, ht, hA] using h
set_option maxHeartbeats 4000000 in
theorem own_cache {s : State} {args : Array Value} (w1 : (Jvm.Cond.initializedFor "java/lang/Long$LongCache" "cache" "[Ljava/lang/Long;").before args s = true) (w2 : (Jvm.Cond.arrayOf (Jvm.Term.static "java/lang/Long$LongCache" "cache" "[Ljava/lang/Long;") (Jvm.ClassFile.FieldType.object "java/lang/Long")).before args s = true)
    (w4 : (Jvm.Cond.eq (Jvm.Term.length (Jvm.Term.static "java/lang/Long$LongCache" "cache" "[Ljava/lang/Long;")) (Jvm.Term.int (256 : Int32))).before args s = true)
    (w5 : (Jvm.Cond.all (Jvm.Term.static "java/lang/Long$LongCache" "cache" "[Ljava/lang/Long;") (Jvm.Cond.and (Jvm.Cond.exactly (Jvm.Term.elem (Jvm.Term.static "java/lang/Long$LongCache" "cache" "[Ljava/lang/Long;") (Jvm.Term.index (0 : Nat))) "java/lang/Long") (Jvm.Cond.eq (Jvm.Term.field (Jvm.Term.elem (Jvm.Term.static "java/lang/Long$LongCache" "cache" "[Ljava/lang/Long;") (Jvm.Term.index (0 : Nat))) "java/lang/Long" "value" "J") (Jvm.Term.op1 Jvm.Unary.i2l (Jvm.Term.sub (Jvm.Term.index (0 : Nat)) (Jvm.Term.int (128 : Int32))))))).before args s = true) :
    ∃ (oc : Addr) (cc : Cell), Sta s s.heap "java/lang/Long$LongCache" "cache" "[Ljava/lang/Long;" (.ref oc) ∧ Arr s s.heap oc cc (.object "java/lang/Long") ∧ ∀ x : Int64, ¬ x < (-128 : Int64) → ¬ (127 : Int64) < x → ∃ oe : Addr, ¬ (((x.toInt32) + (128 : Int32)) < 0 ∨ cc.slots.size ≤ ((x.toInt32) + (128 : Int32)).toNatClampNeg) ∧ cc.slots[((x.toInt32) + (128 : Int32)).toNatClampNeg]? = some (.ref oe) ∧ Exa s s.heap oe "java/lang/Long" := by
  obtain ⟨oc, ec⟩ := arr_v (Cond.before_iff.mp w2)
  obtain ⟨cc, Ac⟩ := Arr.start ec (Cond.before_iff.mp w2)
  have hA := Ac.fin (Vm.Alike.refl _)
  have h4 := eqv_i (Term.int_eval 256) (Cond.before_iff.mp w4)
  have hs : cc.slots.size = 256 := by
    have q := own_len31 ec hA h4
    have e := congrArg Int32.toInt q.2
    rw [len_toInt q.1] at e
    have e' : (256 : Int32).toInt = 256 := rfl
    omega
  refine ⟨oc, cc, Sta.start ec (Or.inl w1), Ac, fun x h1 h2 => ?_⟩
  have lm : (-128 : Int64).toInt = -128 := rfl
  have lp : (127 : Int64).toInt = 127 := rfl
  have l8 : (128 : Int32).toInt = 128 := rfl
  rw [Int64.lt_iff_toInt_lt, lm] at h1
  rw [Int64.lt_iff_toInt_lt, lp] at h2
  have c1 := c_l2i x
  have r1 := rng32 x.toInt32
  have c2 := c_iadd x.toInt32 128
  have r2 := rng32 (x.toInt32 + 128)
  have v : (x.toInt32 + 128).toInt = x.toInt + 128 := by omega
  have l0 : (0 : Int32).toInt = 0 := rfl
  have nn : ¬ (x.toInt32 + 128) < 0 := by rw [Int32.lt_iff_toInt_lt, l0]; omega
  have hin : ¬ ((x.toInt32 + 128) < 0 ∨ cc.slots.size ≤ (x.toInt32 + 128).toNatClampNeg) := by
    have k := nat_of nn
    rintro (q | q)
    · exact nn q
    · omega
  obtain ⟨u1, u2⟩ := and_e (Cond.all_elim ec hA (Cond.before_iff.mp w5) (x.toInt32 + 128).toNatClampNeg (Nat.lt_of_not_le fun q => hin (Or.inr q)))
  obtain ⟨box, eb⟩ := exa_v u1
  have ec' : ∀ idx, (Jvm.Term.static "java/lang/Long$LongCache" "cache" "[Ljava/lang/Long;").eval args s none idx s = some (.ref oc) := fun _ => ec
  exact ⟨box, hin, (elem_f (ec' _) (idx_at nn) hA nn).symm.trans eb, exa_at eb u1⟩
def w2_r1 (x0 : Int64) (x1 : Int64) (x2 : Int64) (y0 : Int64) (y1 : Int64) (y2 : Int64) : Int32 := (if x0 = y0 then (if x1 = y1 then (if x2 = y2 then (1 : Int32) else (0 : Int32)) else (0 : Int32)) else (0 : Int32))
def w0_1 (q2 : Int64) (q5 : Int64) : Int64 := (q2 + (q5 >>> ((2 : Int32) &&& 0x3f).toInt64))
def w0_m2 (q3 : Int64) (q4 : Int64) (q5 : Int64) : Int32 := (if q3 = (0 : Int64) then (if q4 = (0 : Int64) then (if (q5 >>> ((2 : Int32) &&& 0x3f).toInt64) = (0 : Int64) then (1 : Int32) else (0 : Int32)) else (0 : Int32)) else (0 : Int32))
def w0_3 (q0 : Int64) (q1 : Int64) (q2 : Int64) (q3 : Int64) (q4 : Int64) (q5 : Int64) : Int32 := (w2_r1 q0 q1 q2 (q0 + q3) (q1 + q4) (w0_1 q2 q5))
def w0_4 (q0 : Int64) (q1 : Int64) (q2 : Int64) (q3 : Int64) (q4 : Int64) (q5 : Int64) : Int32 := (w2_r1 (q0 + q3) (q1 + q4) (w0_1 q2 q5) q0 q1 q2)
def w0_r5 (q0 : Int64) (q1 : Int64) (q2 : Int64) (q3 : Int64) (q4 : Int64) (q5 : Int64) : Int32 := (if ((q5 &&& (3 : Int64)).toInt32) = (0 : Int32) then (if (w0_3 q0 q1 q2 q3 q4 q5) = (w0_m2 q3 q4 q5) then (if (w0_4 q0 q1 q2 q3 q4 q5) = (w0_m2 q3 q4 q5) then (1 : Int32) else (0 : Int32)) else (0 : Int32)) else (if ((q5 &&& (3 : Int64)).toInt32) = (1 : Int32) then (1 : Int32) else (if ((q5 &&& (3 : Int64)).toInt32) = (2 : Int32) then (nar .boolean (w2_r1 q0 q1 q2 q0 q1 q2)) else (1 : Int32))))
theorem own_add (a b : Int64) : (a = a + b) ↔ b = 0 := by
  have l0 : (0 : Int64).toInt = 0 := rfl
  have h := c_ladd a b
  have r1 := rng64 a
  have r2 := rng64 b
  have r3 := rng64 (a + b)
  rw [← Int64.toInt_inj, ← Int64.toInt_inj, l0]
  omega
theorem own_add' (a b : Int64) : (a + b = a) ↔ b = 0 := by rw [← own_add a b]; exact eq_comm
theorem own_same (a b c : Int64) : w2_r1 a b c a b c = 1 := by unfold w2_r1; rw [if_pos rfl, if_pos rfl, if_pos rfl]
theorem plain_law (q0 q1 q2 q3 q4 q5 : Int64) : w0_r5 q0 q1 q2 q3 q4 q5 = 1 := by
  have a1 : w0_3 q0 q1 q2 q3 q4 q5 = w0_m2 q3 q4 q5 := by unfold w0_3 w0_m2 w2_r1 w0_1; simp only [own_add]
  have a2 : w0_4 q0 q1 q2 q3 q4 q5 = w0_m2 q3 q4 q5 := by unfold w0_4 w0_m2 w2_r1 w0_1; simp only [own_add']
  unfold w0_r5
  rw [if_pos a1, if_pos a2, own_same]
  repeat' split
  all_goals first | rfl | decide

theorem d1_0 : decode prog_7_method_1_code 0 = .ok (.aload_n 0, 1) := by decide +kernel
theorem d1_1 : decode prog_7_method_1_code 1 = .ok (.invokespecial 1, 3) := by decide +kernel
theorem d1_4 : decode prog_7_method_1_code 4 = .ok (.aload_n 0, 1) := by decide +kernel
theorem d1_5 : decode prog_7_method_1_code 5 = .ok (.lload_n 1, 1) := by decide +kernel
theorem d1_6 : decode prog_7_method_1_code 6 = .ok (.putfield 7, 3) := by decide +kernel
theorem d1_9 : decode prog_7_method_1_code 9 = .ok (.aload_n 0, 1) := by decide +kernel
theorem d1_10 : decode prog_7_method_1_code 10 = .ok (.lload_n 3, 1) := by decide +kernel
theorem d1_11 : decode prog_7_method_1_code 11 = .ok (.putfield 13, 3) := by decide +kernel
theorem d1_14 : decode prog_7_method_1_code 14 = .ok (.aload_n 0, 1) := by decide +kernel
theorem d1_15 : decode prog_7_method_1_code 15 = .ok (.lload 5, 2) := by decide +kernel
theorem d1_17 : decode prog_7_method_1_code 17 = .ok (.putfield 16, 3) := by decide +kernel
theorem d1_20 : decode prog_7_method_1_code 20 = .ok (.return_, 1) := by decide +kernel
theorem pn1 : plainName "com/example/rota/rota/agent/TokenUsage" = true := by first | (simp [plainName, overriddenIn]; done) | decide +kernel
theorem ef1 (m : MethodId) (o0 : Addr) (q1 : Int64) (q2 : Int64) (q3 : Int64) : entryFrame m #[(.ref o0), (.long q1), (.long q2), (.long q3)] 7 = mkF m 0 #[.val (.ref o0), .val (.long q1), .second, .val (.long q2), .second, .val (.long q3), .second] [] := by first | (simp [entryFrame, mkF, argsToLocals, Value.category]; done) | rfl
def Q1 (Z : State) (o0 : Addr) (q1 : Int64) (q2 : Int64) (q3 : Int64) (h0 : Heap) (n0 : Nat) (v : Option Value) (h : Heap) (L : List Loc) : Prop := v = none ∧ Fr n0 L ∧ Keep h0 h [o0] ∧ Exa Z h o0 "com/example/rota/rota/agent/TokenUsage" ∧ Fld Z h o0 "com/example/rota/rota/agent/TokenUsage" "input" "J" (.long q1) ∧ Fld Z h o0 "com/example/rota/rota/agent/TokenUsage" "output" "J" (.long q2) ∧ Fld Z h o0 "com/example/rota/rota/agent/TokenUsage" "total" "J" (.long q3)
set_option maxRecDepth 65536 in
set_option maxHeartbeats 40000000 in
theorem rm1 (l : Launch) (Z : State) (a0 : Array Value) (hw : ∀ d ∈ tables_1, d.before a0 Z = true) (ws : List Jvm.Cond) (o0 : Addr) (q1 : Int64) (q2 : Int64) (q3 : Int64) (h0 : Heap) (n0 : Nat) (Z0 : n0 ≤ h0.size) (E_o0 : Exa Z h0 o0 "com/example/rota/rota/agent/TokenUsage") (F_o0_input : Fld Z h0 o0 "com/example/rota/rota/agent/TokenUsage" "input" "J" (.long (0 : Int64))) (F_o0_output : Fld Z h0 o0 "com/example/rota/rota/agent/TokenUsage" "output" "J" (.long (0 : Int64))) (F_o0_total : Fld Z h0 o0 "com/example/rota/rota/agent/TokenUsage" "total" "J" (.long (0 : Int64))) (g_o0 : n0 ≤ o0) :
    MetFree l (⟨"com/example/rota/rota/agent/TokenUsage", "<init>", "(JJJ)V"⟩ : MethodName) (head1 (Jvm.Cond.code (⟨"com/example/rota/rota/agent/TokenUsage", "<init>", "(JJJ)V"⟩ : MethodName) prog_7_method_1_code 7 none :: ws) ({ frames := 1, cells := 0, slots := 0, locals := 12 } : Room)) (fun a U => a = #[(.ref o0), (.long q1), (.long q2), (.long q3)] ∧ Z.Warmed39 U.vm ∧ U.heap = h0) (fun _ _ _ _ _ => True) (fun _ U o U' => ∃ v L, o = .returned v ∧ Q1 Z o0 q1 q2 q3 h0 n0 v U'.heap L ∧ FrameEnd U o U' L ({ frames := 1, cells := 0, slots := 0, locals := 12 } : Room).cells ({ frames := 1, cells := 0, slots := 0, locals := 12 } : Room).slots) := by
  refine MetFree.of_bodySF (plainFor_of_name pn1) hisR ?_
  intro p e s m args below meth c s₁ Bd hml0 hP hK
  obtain ⟨rfl, hZ, hh⟩ := hP
  have hlk : meth.locks = false := BodyLoose.notSynchronized Bd
  have hx := Bd.exec
  have hby := Bd.bytes
  have hml : c.maxLocals = 7 := hml0
  have hown : s.vm.findClass "com/example/rota/rota/agent/TokenUsage" = some m.cls := findClass_of_methodNamed Bd.named
  have hnm := (name_of_methodNamed Bd.named Bd.method).1
  have X0 : Stand p l e ({ frames := 1, cells := 0, slots := 0, locals := 12 } : Room) s m #[(.ref o0), (.long q1), (.long q2), (.long q3)] below meth c s₁ [] 0 0 := Stand.of_body Bd
  have e0 : s₁.heap = h0 := by rw [← hh, Bd.state]; rfl
  have N0 := Fr.nil n0
  obtain ⟨S0, hS0⟩ : ∃ S0, S0 = s₁.setTop (entryFrame m #[(.ref o0), (.long q1), (.long q2), (.long q3)] 7) := ⟨_, rfl⟩
  have pre0 : ∀ t, Steps p.tables e below (s₁.setTop (mkF m 0 #[.val (.ref o0), .val (.long q1), .second, .val (.long q2), .second, .val (.long q3), .second] [])) t → Steps p.tables e below S0 t := fun t k => by rw [hS0]; exact castTop (ef1 m o0 q1 q2 q3) k
  have K1 : ∀ t, Steps p.tables e below (s₁.setTop (mkF m 1 #[.val (.ref o0), .val (.long q1), .second, .val (.long q2), .second, .val (.long q3), .second] [(.ref o0)])) t → Steps p.tables e below S0 t := fun t k => pre0 t (by
    refine XS.aloadN X0.here hx rfl (hb hby d1_0) rfl rfl ?_
    show Steps p.tables e below (s₁.setTop (mkF m 1 #[.val (.ref o0), .val (.long q1), .second, .val (.long q2), .second, .val (.long q3), .second] [(.ref o0)])) _
    exact k)
  have K_2 : ∀ t, Steps p.tables e below (s₁.setTop (mkF m 1 #[.val (.ref o0), .val (.long q1), .second, .val (.long q2), .second, .val (.long q3), .second] [(.ref o0)])) t → Steps p.tables e below S0 t := K1
  obtain ⟨T3, X3, e3, st3⟩ := initO X0 hx hZ hown (hw _ (List.mem_of_getElem? (i := 7) rfl)) (hw _ (List.mem_of_getElem? (i := 8) rfl)) (hw _ (List.mem_of_getElem? (i := 9) rfl)) e0 (g := (mkF m 1 #[.val (.ref o0), .val (.long q1), .second, .val (.long q2), .second, .val (.long q3), .second] [(.ref o0)])) rfl (by rw [hml]; rfl) rfl (hb hby d1_1) (by decide) (W := 0) (by show 2 * 0 + _ ≤ _; exact Nat.le_of_eq rfl) (by decide)
  have K3 : ∀ t, Steps p.tables e below (T3.setTop (mkF m 4 #[.val (.ref o0), .val (.long q1), .second, .val (.long q2), .second, .val (.long q3), .second] [])) t → Steps p.tables e below S0 t := fun t k => K_2 t (st3 t k)
  have K4 : ∀ t, Steps p.tables e below (T3.setTop (mkF m 6 #[.val (.ref o0), .val (.long q1), .second, .val (.long q2), .second, .val (.long q3), .second] [(.long q1), (.ref o0)])) t → Steps p.tables e below S0 t := fun t k => K3 t (by
    refine XS.aloadN X3.here hx rfl (hb hby d1_4) rfl rfl ?_
    show Steps p.tables e below (T3.setTop (mkF m 5 #[.val (.ref o0), .val (.long q1), .second, .val (.long q2), .second, .val (.long q3), .second] [(.ref o0)])) _
    refine XS.lloadN X3.here hx rfl (hb hby d1_5) rfl ?_
    show Steps p.tables e below (T3.setTop (mkF m 6 #[.val (.ref o0), .val (.long q1), .second, .val (.long q2), .second, .val (.long q3), .second] [(.long q1), (.ref o0)])) _
    exact k)
  obtain ⟨T5, h5, X5, e5, W5, st5⟩ := putF X3 hx hZ hown (host := "") (Or.inl (hw _ (List.mem_of_getElem? (i := 10) rfl))) Via.refl e3 F_o0_input E_o0 (Or.inr ⟨(hw _ (List.mem_of_getElem? (i := 11) rfl)), rfl, hnm⟩) (hw _ (List.mem_of_getElem? (i := 2) rfl)) (ty := .long) (by decide) rfl rfl (g := (mkF m 6 #[.val (.ref o0), .val (.long q1), .second, .val (.long q2), .second, .val (.long q3), .second] [(.long q1), (.ref o0)])) rfl rfl (hb hby d1_6)
  have F_o0_input__5 := F_o0_input.same W5
  have E_o0__5 := E_o0.wr W5
  have F_o0_output__5 := F_o0_output.other W5 (Or.inr (slot_ne (Or.inr (hw _ (List.mem_of_getElem? (i := 13) rfl))) (Or.inr (hw _ (List.mem_of_getElem? (i := 11) rfl))) (by decide) (t := .long) (t' := .long) (by decide) (by decide)))
  have F_o0_total__5 := F_o0_total.other W5 (Or.inr (slot_ne (Or.inr (hw _ (List.mem_of_getElem? (i := 15) rfl))) (Or.inr (hw _ (List.mem_of_getElem? (i := 11) rfl))) (by decide) (t := .long) (t' := .long) (by decide) (by decide)))
  have N5 := Fr.snoc X5 N0 g_o0
  have Zs5 : n0 ≤ h5.size := Nat.le_trans Z0 (Nat.le_of_eq W5.size.symm)
  have Kc5 : Keep h0 h5 [o0] := (Keep.refl h0 [o0]).wr W5 (Or.inl (List.mem_of_getElem? (i := 0) rfl))
  have K5 : ∀ t, Steps p.tables e below (T5.setTop (mkF m 9 #[.val (.ref o0), .val (.long q1), .second, .val (.long q2), .second, .val (.long q3), .second] [])) t → Steps p.tables e below S0 t := fun t k => K4 t (st5 t k)
  have K6 : ∀ t, Steps p.tables e below (T5.setTop (mkF m 11 #[.val (.ref o0), .val (.long q1), .second, .val (.long q2), .second, .val (.long q3), .second] [(.long q2), (.ref o0)])) t → Steps p.tables e below S0 t := fun t k => K5 t (by
    refine XS.aloadN X5.here hx rfl (hb hby d1_9) rfl rfl ?_
    show Steps p.tables e below (T5.setTop (mkF m 10 #[.val (.ref o0), .val (.long q1), .second, .val (.long q2), .second, .val (.long q3), .second] [(.ref o0)])) _
    refine XS.lloadN X5.here hx rfl (hb hby d1_10) rfl ?_
    show Steps p.tables e below (T5.setTop (mkF m 11 #[.val (.ref o0), .val (.long q1), .second, .val (.long q2), .second, .val (.long q3), .second] [(.long q2), (.ref o0)])) _
    exact k)
  obtain ⟨T7, h7, X7, e7, W7, st7⟩ := putF X5 hx hZ hown (host := "") (Or.inl (hw _ (List.mem_of_getElem? (i := 12) rfl))) Via.refl e5 F_o0_output__5 E_o0__5 (Or.inr ⟨(hw _ (List.mem_of_getElem? (i := 13) rfl)), rfl, hnm⟩) (hw _ (List.mem_of_getElem? (i := 2) rfl)) (ty := .long) (by decide) rfl rfl (g := (mkF m 11 #[.val (.ref o0), .val (.long q1), .second, .val (.long q2), .second, .val (.long q3), .second] [(.long q2), (.ref o0)])) rfl rfl (hb hby d1_11)
  have F_o0_output__7 := F_o0_output__5.same W7
  have E_o0__7 := E_o0__5.wr W7
  have F_o0_input__7 := F_o0_input__5.other W7 (Or.inr (slot_ne (Or.inr (hw _ (List.mem_of_getElem? (i := 11) rfl))) (Or.inr (hw _ (List.mem_of_getElem? (i := 13) rfl))) (by decide) (t := .long) (t' := .long) (by decide) (by decide)))
  have F_o0_total__7 := F_o0_total__5.other W7 (Or.inr (slot_ne (Or.inr (hw _ (List.mem_of_getElem? (i := 15) rfl))) (Or.inr (hw _ (List.mem_of_getElem? (i := 13) rfl))) (by decide) (t := .long) (t' := .long) (by decide) (by decide)))
  have N7 := Fr.snoc X7 N5 g_o0
  have Zs7 : n0 ≤ h7.size := Nat.le_trans Zs5 (Nat.le_of_eq W7.size.symm)
  have Kc7 : Keep h0 h7 [o0] := Kc5.wr W7 (Or.inl (List.mem_of_getElem? (i := 0) rfl))
  have K7 : ∀ t, Steps p.tables e below (T7.setTop (mkF m 14 #[.val (.ref o0), .val (.long q1), .second, .val (.long q2), .second, .val (.long q3), .second] [])) t → Steps p.tables e below S0 t := fun t k => K6 t (st7 t k)
  have K8 : ∀ t, Steps p.tables e below (T7.setTop (mkF m 17 #[.val (.ref o0), .val (.long q1), .second, .val (.long q2), .second, .val (.long q3), .second] [(.long q3), (.ref o0)])) t → Steps p.tables e below S0 t := fun t k => K7 t (by
    refine XS.aloadN X7.here hx rfl (hb hby d1_14) rfl rfl ?_
    show Steps p.tables e below (T7.setTop (mkF m 15 #[.val (.ref o0), .val (.long q1), .second, .val (.long q2), .second, .val (.long q3), .second] [(.ref o0)])) _
    refine XS.lload X7.here hx rfl (hb hby d1_15) rfl ?_
    show Steps p.tables e below (T7.setTop (mkF m 17 #[.val (.ref o0), .val (.long q1), .second, .val (.long q2), .second, .val (.long q3), .second] [(.long q3), (.ref o0)])) _
    exact k)
  obtain ⟨T9, h9, X9, e9, W9, st9⟩ := putF X7 hx hZ hown (host := "") (Or.inl (hw _ (List.mem_of_getElem? (i := 14) rfl))) Via.refl e7 F_o0_total__7 E_o0__7 (Or.inr ⟨(hw _ (List.mem_of_getElem? (i := 15) rfl)), rfl, hnm⟩) (hw _ (List.mem_of_getElem? (i := 2) rfl)) (ty := .long) (by decide) rfl rfl (g := (mkF m 17 #[.val (.ref o0), .val (.long q1), .second, .val (.long q2), .second, .val (.long q3), .second] [(.long q3), (.ref o0)])) rfl rfl (hb hby d1_17)
  have F_o0_total__9 := F_o0_total__7.same W9
  have E_o0__9 := E_o0__7.wr W9
  have F_o0_input__9 := F_o0_input__7.other W9 (Or.inr (slot_ne (Or.inr (hw _ (List.mem_of_getElem? (i := 11) rfl))) (Or.inr (hw _ (List.mem_of_getElem? (i := 15) rfl))) (by decide) (t := .long) (t' := .long) (by decide) (by decide)))
  have F_o0_output__9 := F_o0_output__7.other W9 (Or.inr (slot_ne (Or.inr (hw _ (List.mem_of_getElem? (i := 13) rfl))) (Or.inr (hw _ (List.mem_of_getElem? (i := 15) rfl))) (by decide) (t := .long) (t' := .long) (by decide) (by decide)))
  have N9 := Fr.snoc X9 N7 g_o0
  have Zs9 : n0 ≤ h9.size := Nat.le_trans Zs7 (Nat.le_of_eq W9.size.symm)
  have Kc9 : Keep h0 h9 [o0] := Kc7.wr W9 (Or.inl (List.mem_of_getElem? (i := 0) rfl))
  have K9 : ∀ t, Steps p.tables e below (T9.setTop (mkF m 20 #[.val (.ref o0), .val (.long q1), .second, .val (.long q2), .second, .val (.long q3), .second] [])) t → Steps p.tables e below S0 t := fun t k => K8 t (st9 t k)
  obtain ⟨fs, hr, hrun, hended, hW, hsame⟩ := X9.leave (v := none) (fun _ => rfl) hlk
  refine ⟨_, _, ?_, hrun, hended, _, _, rfl, ?_, ⟨_, rfl⟩, hW, hsame.mono (by decide) (by decide)⟩
  · rw [← hS0]; exact K9 _ (X9.returnOut hx Bd.returns (hb hby d1_20) hr)
  · show Q1 Z o0 q1 q2 q3 h0 n0 _ T9.heap _
    rw [e9]
    exact ⟨rfl, N9, Kc9, E_o0__9, F_o0_input__9, F_o0_output__9, F_o0_total__9⟩
theorem d2_0 : decode prog_7_method_7_code 0 = .ok (.aload_n 1, 1) := by decide +kernel
theorem d2_1 : decode prog_7_method_7_code 1 = .ok (.instanceof 8, 3) := by decide +kernel
theorem d2_4 : decode prog_7_method_7_code 4 = .ok (.ifCond .eq 52, 3) := by decide +kernel
theorem d2_7 : decode prog_7_method_7_code 7 = .ok (.aload_n 0, 1) := by decide +kernel
theorem d2_8 : decode prog_7_method_7_code 8 = .ok (.getfield 7, 3) := by decide +kernel
theorem d2_11 : decode prog_7_method_7_code 11 = .ok (.aload_n 1, 1) := by decide +kernel
theorem d2_12 : decode prog_7_method_7_code 12 = .ok (.checkcast 8, 3) := by decide +kernel
theorem d2_15 : decode prog_7_method_7_code 15 = .ok (.getfield 7, 3) := by decide +kernel
theorem d2_18 : decode prog_7_method_7_code 18 = .ok (.lcmp, 1) := by decide +kernel
theorem d2_19 : decode prog_7_method_7_code 19 = .ok (.ifCond .ne 37, 3) := by decide +kernel
theorem d2_22 : decode prog_7_method_7_code 22 = .ok (.aload_n 0, 1) := by decide +kernel
theorem d2_23 : decode prog_7_method_7_code 23 = .ok (.getfield 13, 3) := by decide +kernel
theorem d2_26 : decode prog_7_method_7_code 26 = .ok (.aload_n 1, 1) := by decide +kernel
theorem d2_27 : decode prog_7_method_7_code 27 = .ok (.checkcast 8, 3) := by decide +kernel
theorem d2_30 : decode prog_7_method_7_code 30 = .ok (.getfield 13, 3) := by decide +kernel
theorem d2_33 : decode prog_7_method_7_code 33 = .ok (.lcmp, 1) := by decide +kernel
theorem d2_34 : decode prog_7_method_7_code 34 = .ok (.ifCond .ne 22, 3) := by decide +kernel
theorem d2_37 : decode prog_7_method_7_code 37 = .ok (.aload_n 0, 1) := by decide +kernel
theorem d2_38 : decode prog_7_method_7_code 38 = .ok (.getfield 16, 3) := by decide +kernel
theorem d2_41 : decode prog_7_method_7_code 41 = .ok (.aload_n 1, 1) := by decide +kernel
theorem d2_42 : decode prog_7_method_7_code 42 = .ok (.checkcast 8, 3) := by decide +kernel
theorem d2_45 : decode prog_7_method_7_code 45 = .ok (.getfield 16, 3) := by decide +kernel
theorem d2_48 : decode prog_7_method_7_code 48 = .ok (.lcmp, 1) := by decide +kernel
theorem d2_49 : decode prog_7_method_7_code 49 = .ok (.ifCond .ne 7, 3) := by decide +kernel
theorem d2_52 : decode prog_7_method_7_code 52 = .ok (.iconst 1, 1) := by decide +kernel
theorem d2_53 : decode prog_7_method_7_code 53 = .ok (.goto 4, 3) := by decide +kernel
theorem d2_56 : decode prog_7_method_7_code 56 = .ok (.iconst 0, 1) := by decide +kernel
theorem d2_57 : decode prog_7_method_7_code 57 = .ok (.ireturn, 1) := by decide +kernel
theorem pn2 : plainName "com/example/rota/rota/agent/TokenUsage" = true := by first | (simp [plainName, overriddenIn]; done) | decide +kernel
theorem ef2 (m : MethodId) (o0 : Addr) (o1 : Addr) : entryFrame m #[(.ref o0), (.ref o1)] 2 = mkF m 0 #[.val (.ref o0), .val (.ref o1)] [] := by first | (simp [entryFrame, mkF, argsToLocals, Value.category]; done) | rfl
def Q2 (Z : State) (o0 : Addr) (o1 : Addr) (x0 : Int64) (x1 : Int64) (x2 : Int64) (y0 : Int64) (y1 : Int64) (y2 : Int64) (h0 : Heap) (n0 : Nat) (v : Option Value) (h : Heap) (L : List Loc) : Prop := v = some (.int (w2_r1 x0 x1 x2 y0 y1 y2)) ∧ Fr n0 L ∧ h = h0
set_option maxRecDepth 65536 in
set_option maxHeartbeats 40000000 in
theorem rm2 (l : Launch) (Z : State) (a0 : Array Value) (hw : ∀ d ∈ tables_1, d.before a0 Z = true) (ws : List Jvm.Cond) (o0 : Addr) (o1 : Addr) (x0 : Int64) (x1 : Int64) (x2 : Int64) (y0 : Int64) (y1 : Int64) (y2 : Int64) (h0 : Heap) (n0 : Nat) (Z0 : n0 ≤ h0.size) (E_o1 : Exa Z h0 o1 "com/example/rota/rota/agent/TokenUsage") (F_o0_input : Fld Z h0 o0 "com/example/rota/rota/agent/TokenUsage" "input" "J" (.long x0)) (F_o0_output : Fld Z h0 o0 "com/example/rota/rota/agent/TokenUsage" "output" "J" (.long x1)) (F_o0_total : Fld Z h0 o0 "com/example/rota/rota/agent/TokenUsage" "total" "J" (.long x2)) (F_o1_input : Fld Z h0 o1 "com/example/rota/rota/agent/TokenUsage" "input" "J" (.long y0)) (F_o1_output : Fld Z h0 o1 "com/example/rota/rota/agent/TokenUsage" "output" "J" (.long y1)) (F_o1_total : Fld Z h0 o1 "com/example/rota/rota/agent/TokenUsage" "total" "J" (.long y2)) :
    MetFree l (⟨"com/example/rota/rota/agent/TokenUsage", "equals", "(Ljava/lang/Object;)Z"⟩ : MethodName) (head1 (Jvm.Cond.code (⟨"com/example/rota/rota/agent/TokenUsage", "equals", "(Ljava/lang/Object;)Z"⟩ : MethodName) prog_7_method_7_code 2 (some .boolean) :: ws) ({ frames := 0, cells := 0, slots := 0, locals := 0 } : Room)) (fun a U => a = #[(.ref o0), (.ref o1)] ∧ Z.Warmed39 U.vm ∧ U.heap = h0) (fun _ _ _ _ _ => True) (fun _ U o U' => ∃ v L, o = .returned v ∧ Q2 Z o0 o1 x0 x1 x2 y0 y1 y2 h0 n0 v U'.heap L ∧ FrameEnd U o U' L ({ frames := 0, cells := 0, slots := 0, locals := 0 } : Room).cells ({ frames := 0, cells := 0, slots := 0, locals := 0 } : Room).slots) := by
  refine MetFree.of_bodySF (plainFor_of_name pn2) hisR ?_
  intro p e s m args below meth c s₁ Bd hml0 hP hK
  obtain ⟨rfl, hZ, hh⟩ := hP
  have hlk : meth.locks = false := BodyLoose.notSynchronized Bd
  have hx := Bd.exec
  have hby := Bd.bytes
  have hml : c.maxLocals = 2 := hml0
  have hown : s.vm.findClass "com/example/rota/rota/agent/TokenUsage" = some m.cls := findClass_of_methodNamed Bd.named
  have hnm := (name_of_methodNamed Bd.named Bd.method).1
  have X0 : Stand p l e ({ frames := 0, cells := 0, slots := 0, locals := 0 } : Room) s m #[(.ref o0), (.ref o1)] below meth c s₁ [] 0 0 := Stand.of_body Bd
  have e0 : s₁.heap = h0 := by rw [← hh, Bd.state]; rfl
  have N0 := Fr.nil n0
  obtain ⟨S0, hS0⟩ : ∃ S0, S0 = s₁.setTop (entryFrame m #[(.ref o0), (.ref o1)] 2) := ⟨_, rfl⟩
  have pre0 : ∀ t, Steps p.tables e below (s₁.setTop (mkF m 0 #[.val (.ref o0), .val (.ref o1)] [])) t → Steps p.tables e below S0 t := fun t k => by rw [hS0]; exact castTop (ef2 m o0 o1) k
  have K1 : ∀ t, Steps p.tables e below (s₁.setTop (mkF m 1 #[.val (.ref o0), .val (.ref o1)] [(.ref o1)])) t → Steps p.tables e below S0 t := fun t k => pre0 t (by
    refine XS.aloadN X0.here hx rfl (hb hby d2_0) rfl rfl ?_
    show Steps p.tables e below (s₁.setTop (mkF m 1 #[.val (.ref o0), .val (.ref o1)] [(.ref o1)])) _
    exact k)
  obtain ⟨T2, X2, e2, st2⟩ := instY X0 hx hZ hown (hw _ (List.mem_of_getElem? (i := 21) rfl)) e0 (Ins.self E_o1) (g := (mkF m 1 #[.val (.ref o0), .val (.ref o1)] [(.ref o1)])) rfl rfl (hb hby d2_1)
  have K2 : ∀ t, Steps p.tables e below (T2.setTop (mkF m 4 #[.val (.ref o0), .val (.ref o1)] [(.int (1 : Int32))])) t → Steps p.tables e below S0 t := fun t k => K1 t (st2 t k)
  have K3 : ∀ t, Steps p.tables e below (T2.setTop (mkF m 8 #[.val (.ref o0), .val (.ref o1)] [(.ref o0)])) t → Steps p.tables e below S0 t := fun t k => K2 t (by
    refine XS.ifNo X2.here hx rfl (hb hby d2_4) rfl (XT.i0_eq_f (by decide)) ?_
    show Steps p.tables e below (T2.setTop (mkF m 7 #[.val (.ref o0), .val (.ref o1)] [])) _
    refine XS.aloadN X2.here hx rfl (hb hby d2_7) rfl rfl ?_
    show Steps p.tables e below (T2.setTop (mkF m 8 #[.val (.ref o0), .val (.ref o1)] [(.ref o0)])) _
    exact k)
  obtain ⟨T4, X4, e4, st4⟩ := getF X2 hx hZ hown (host := "") (Or.inl (hw _ (List.mem_of_getElem? (i := 10) rfl))) Via.refl e2 F_o0_input (g := (mkF m 8 #[.val (.ref o0), .val (.ref o1)] [(.ref o0)])) rfl rfl (hb hby d2_8)
  have K4 : ∀ t, Steps p.tables e below (T4.setTop (mkF m 11 #[.val (.ref o0), .val (.ref o1)] [(.long x0)])) t → Steps p.tables e below S0 t := fun t k => K3 t (st4 t k)
  have K5 : ∀ t, Steps p.tables e below (T4.setTop (mkF m 12 #[.val (.ref o0), .val (.ref o1)] [(.ref o1), (.long x0)])) t → Steps p.tables e below S0 t := fun t k => K4 t (by
    refine XS.aloadN X4.here hx rfl (hb hby d2_11) rfl rfl ?_
    show Steps p.tables e below (T4.setTop (mkF m 12 #[.val (.ref o0), .val (.ref o1)] [(.ref o1), (.long x0)])) _
    exact k)
  obtain ⟨T6, X6, e6, st6⟩ := castY X4 hx hZ hown (hw _ (List.mem_of_getElem? (i := 21) rfl)) e4 (Ins.self E_o1) (g := (mkF m 12 #[.val (.ref o0), .val (.ref o1)] [(.ref o1), (.long x0)])) rfl rfl (hb hby d2_12)
  have K6 : ∀ t, Steps p.tables e below (T6.setTop (mkF m 15 #[.val (.ref o0), .val (.ref o1)] [(.ref o1), (.long x0)])) t → Steps p.tables e below S0 t := fun t k => K5 t (st6 t k)
  obtain ⟨T7, X7, e7, st7⟩ := getF X6 hx hZ hown (host := "") (Or.inl (hw _ (List.mem_of_getElem? (i := 10) rfl))) Via.refl e6 F_o1_input (g := (mkF m 15 #[.val (.ref o0), .val (.ref o1)] [(.ref o1), (.long x0)])) rfl rfl (hb hby d2_15)
  have K7 : ∀ t, Steps p.tables e below (T7.setTop (mkF m 18 #[.val (.ref o0), .val (.ref o1)] [(.long y0), (.long x0)])) t → Steps p.tables e below S0 t := fun t k => K6 t (st7 t k)
  have K8 : ∀ t, Steps p.tables e below (T7.setTop (mkF m 19 #[.val (.ref o0), .val (.ref o1)] [(.int (lcmpW x0 y0))])) t → Steps p.tables e below S0 t := fun t k => K7 t (by
    refine XS.lcmp X7.here hx rfl (hb hby d2_18) rfl ?_
    show Steps p.tables e below (T7.setTop (mkF m 19 #[.val (.ref o0), .val (.ref o1)] [(.int (lcmpW x0 y0))])) _
    exact k)
  by_cases hc19_0 : x0 = y0
  · -- yes
    have K9 : ∀ t, Steps p.tables e below (T7.setTop (mkF m 23 #[.val (.ref o0), .val (.ref o1)] [(.ref o0)])) t → Steps p.tables e below S0 t := fun t k => K8 t (by
      refine XS.ifNo X7.here hx rfl (hb hby d2_19) rfl (XT.ll_ne_f hc19_0) ?_
      show Steps p.tables e below (T7.setTop (mkF m 22 #[.val (.ref o0), .val (.ref o1)] [])) _
      refine XS.aloadN X7.here hx rfl (hb hby d2_22) rfl rfl ?_
      show Steps p.tables e below (T7.setTop (mkF m 23 #[.val (.ref o0), .val (.ref o1)] [(.ref o0)])) _
      exact k)
    obtain ⟨T10, X10, e10, st10⟩ := getF X7 hx hZ hown (host := "") (Or.inl (hw _ (List.mem_of_getElem? (i := 12) rfl))) Via.refl e7 F_o0_output (g := (mkF m 23 #[.val (.ref o0), .val (.ref o1)] [(.ref o0)])) rfl rfl (hb hby d2_23)
    have K10 : ∀ t, Steps p.tables e below (T10.setTop (mkF m 26 #[.val (.ref o0), .val (.ref o1)] [(.long x1)])) t → Steps p.tables e below S0 t := fun t k => K9 t (st10 t k)
    have K11 : ∀ t, Steps p.tables e below (T10.setTop (mkF m 27 #[.val (.ref o0), .val (.ref o1)] [(.ref o1), (.long x1)])) t → Steps p.tables e below S0 t := fun t k => K10 t (by
      refine XS.aloadN X10.here hx rfl (hb hby d2_26) rfl rfl ?_
      show Steps p.tables e below (T10.setTop (mkF m 27 #[.val (.ref o0), .val (.ref o1)] [(.ref o1), (.long x1)])) _
      exact k)
    obtain ⟨T12, X12, e12, st12⟩ := castY X10 hx hZ hown (hw _ (List.mem_of_getElem? (i := 21) rfl)) e10 (Ins.self E_o1) (g := (mkF m 27 #[.val (.ref o0), .val (.ref o1)] [(.ref o1), (.long x1)])) rfl rfl (hb hby d2_27)
    have K12 : ∀ t, Steps p.tables e below (T12.setTop (mkF m 30 #[.val (.ref o0), .val (.ref o1)] [(.ref o1), (.long x1)])) t → Steps p.tables e below S0 t := fun t k => K11 t (st12 t k)
    obtain ⟨T13, X13, e13, st13⟩ := getF X12 hx hZ hown (host := "") (Or.inl (hw _ (List.mem_of_getElem? (i := 12) rfl))) Via.refl e12 F_o1_output (g := (mkF m 30 #[.val (.ref o0), .val (.ref o1)] [(.ref o1), (.long x1)])) rfl rfl (hb hby d2_30)
    have K13 : ∀ t, Steps p.tables e below (T13.setTop (mkF m 33 #[.val (.ref o0), .val (.ref o1)] [(.long y1), (.long x1)])) t → Steps p.tables e below S0 t := fun t k => K12 t (st13 t k)
    have K14 : ∀ t, Steps p.tables e below (T13.setTop (mkF m 34 #[.val (.ref o0), .val (.ref o1)] [(.int (lcmpW x1 y1))])) t → Steps p.tables e below S0 t := fun t k => K13 t (by
      refine XS.lcmp X13.here hx rfl (hb hby d2_33) rfl ?_
      show Steps p.tables e below (T13.setTop (mkF m 34 #[.val (.ref o0), .val (.ref o1)] [(.int (lcmpW x1 y1))])) _
      exact k)
    by_cases hc34_1 : x1 = y1
    · -- yes
      have K15 : ∀ t, Steps p.tables e below (T13.setTop (mkF m 38 #[.val (.ref o0), .val (.ref o1)] [(.ref o0)])) t → Steps p.tables e below S0 t := fun t k => K14 t (by
        refine XS.ifNo X13.here hx rfl (hb hby d2_34) rfl (XT.ll_ne_f hc34_1) ?_
        show Steps p.tables e below (T13.setTop (mkF m 37 #[.val (.ref o0), .val (.ref o1)] [])) _
        refine XS.aloadN X13.here hx rfl (hb hby d2_37) rfl rfl ?_
        show Steps p.tables e below (T13.setTop (mkF m 38 #[.val (.ref o0), .val (.ref o1)] [(.ref o0)])) _
        exact k)
      obtain ⟨T16, X16, e16, st16⟩ := getF X13 hx hZ hown (host := "") (Or.inl (hw _ (List.mem_of_getElem? (i := 14) rfl))) Via.refl e13 F_o0_total (g := (mkF m 38 #[.val (.ref o0), .val (.ref o1)] [(.ref o0)])) rfl rfl (hb hby d2_38)
      have K16 : ∀ t, Steps p.tables e below (T16.setTop (mkF m 41 #[.val (.ref o0), .val (.ref o1)] [(.long x2)])) t → Steps p.tables e below S0 t := fun t k => K15 t (st16 t k)
      have K17 : ∀ t, Steps p.tables e below (T16.setTop (mkF m 42 #[.val (.ref o0), .val (.ref o1)] [(.ref o1), (.long x2)])) t → Steps p.tables e below S0 t := fun t k => K16 t (by
        refine XS.aloadN X16.here hx rfl (hb hby d2_41) rfl rfl ?_
        show Steps p.tables e below (T16.setTop (mkF m 42 #[.val (.ref o0), .val (.ref o1)] [(.ref o1), (.long x2)])) _
        exact k)
      obtain ⟨T18, X18, e18, st18⟩ := castY X16 hx hZ hown (hw _ (List.mem_of_getElem? (i := 21) rfl)) e16 (Ins.self E_o1) (g := (mkF m 42 #[.val (.ref o0), .val (.ref o1)] [(.ref o1), (.long x2)])) rfl rfl (hb hby d2_42)
      have K18 : ∀ t, Steps p.tables e below (T18.setTop (mkF m 45 #[.val (.ref o0), .val (.ref o1)] [(.ref o1), (.long x2)])) t → Steps p.tables e below S0 t := fun t k => K17 t (st18 t k)
      obtain ⟨T19, X19, e19, st19⟩ := getF X18 hx hZ hown (host := "") (Or.inl (hw _ (List.mem_of_getElem? (i := 14) rfl))) Via.refl e18 F_o1_total (g := (mkF m 45 #[.val (.ref o0), .val (.ref o1)] [(.ref o1), (.long x2)])) rfl rfl (hb hby d2_45)
      have K19 : ∀ t, Steps p.tables e below (T19.setTop (mkF m 48 #[.val (.ref o0), .val (.ref o1)] [(.long y2), (.long x2)])) t → Steps p.tables e below S0 t := fun t k => K18 t (st19 t k)
      have K20 : ∀ t, Steps p.tables e below (T19.setTop (mkF m 49 #[.val (.ref o0), .val (.ref o1)] [(.int (lcmpW x2 y2))])) t → Steps p.tables e below S0 t := fun t k => K19 t (by
        refine XS.lcmp X19.here hx rfl (hb hby d2_48) rfl ?_
        show Steps p.tables e below (T19.setTop (mkF m 49 #[.val (.ref o0), .val (.ref o1)] [(.int (lcmpW x2 y2))])) _
        exact k)
      by_cases hc49_2 : x2 = y2
      · -- yes
        have K21 : ∀ t, Steps p.tables e below (T19.setTop (mkF m 57 #[.val (.ref o0), .val (.ref o1)] [(.int (1 : Int32))])) t → Steps p.tables e below S0 t := fun t k => K20 t (by
          refine XS.ifNo X19.here hx rfl (hb hby d2_49) rfl (XT.ll_ne_f hc49_2) ?_
          show Steps p.tables e below (T19.setTop (mkF m 52 #[.val (.ref o0), .val (.ref o1)] [])) _
          refine XS.iconst X19.here hx rfl (hb hby d2_52) ?_
          show Steps p.tables e below (T19.setTop (mkF m 53 #[.val (.ref o0), .val (.ref o1)] [(.int (1 : Int32))])) _
          refine XS.goto X19.here hx rfl (pc0 := 53) (pc' := 57) rfl (hb hby d2_53) (by decide) (by decide) ?_
          show Steps p.tables e below (T19.setTop (mkF m 57 #[.val (.ref o0), .val (.ref o1)] [(.int (1 : Int32))])) _
          exact k)
        obtain ⟨fs, hr, hrun, hended, hW, hsame⟩ := X19.leave (v := some (.int (1 : Int32))) (fun h => by rw [Bd.returns] at h; cases h) hlk
        refine ⟨_, _, ?_, hrun, hended, _, _, rfl, ?_, ⟨_, rfl⟩, hW, hsame.mono (by decide) (by decide)⟩
        · rw [← hS0]; exact K21 _ (retN X19 hx (t := .boolean) Bd.returns (by simp) (hb hby d2_57) hr)
        · show Q2 Z o0 o1 x0 x1 x2 y0 y1 y2 h0 n0 _ T19.heap _
          rw [e19]
          have qr : (1 : Int32) = (w2_r1 x0 x1 x2 y0 y1 y2) := by unfold w2_r1; rw [if_pos hc19_0, if_pos hc34_1, if_pos hc49_2]
          exact ⟨congrArg (fun z => some (Value.int z)) qr, N0, rfl⟩
      · -- no
        have K22 : ∀ t, Steps p.tables e below (T19.setTop (mkF m 57 #[.val (.ref o0), .val (.ref o1)] [(.int (0 : Int32))])) t → Steps p.tables e below S0 t := fun t k => K20 t (by
          refine XS.ifYes X19.here hx rfl (pc0 := 49) (pc' := 56) rfl (hb hby d2_49) rfl (XT.ll_ne_t hc49_2) (by decide) (by decide) ?_
          show Steps p.tables e below (T19.setTop (mkF m 56 #[.val (.ref o0), .val (.ref o1)] [])) _
          refine XS.iconst X19.here hx rfl (hb hby d2_56) ?_
          show Steps p.tables e below (T19.setTop (mkF m 57 #[.val (.ref o0), .val (.ref o1)] [(.int (0 : Int32))])) _
          exact k)
        obtain ⟨fs, hr, hrun, hended, hW, hsame⟩ := X19.leave (v := some (.int (0 : Int32))) (fun h => by rw [Bd.returns] at h; cases h) hlk
        refine ⟨_, _, ?_, hrun, hended, _, _, rfl, ?_, ⟨_, rfl⟩, hW, hsame.mono (by decide) (by decide)⟩
        · rw [← hS0]; exact K22 _ (retN X19 hx (t := .boolean) Bd.returns (by simp) (hb hby d2_57) hr)
        · show Q2 Z o0 o1 x0 x1 x2 y0 y1 y2 h0 n0 _ T19.heap _
          rw [e19]
          have qr : (0 : Int32) = (w2_r1 x0 x1 x2 y0 y1 y2) := by unfold w2_r1; rw [if_pos hc19_0, if_pos hc34_1, if_neg hc49_2]
          exact ⟨congrArg (fun z => some (Value.int z)) qr, N0, rfl⟩
    · -- no
      have K23 : ∀ t, Steps p.tables e below (T13.setTop (mkF m 57 #[.val (.ref o0), .val (.ref o1)] [(.int (0 : Int32))])) t → Steps p.tables e below S0 t := fun t k => K14 t (by
        refine XS.ifYes X13.here hx rfl (pc0 := 34) (pc' := 56) rfl (hb hby d2_34) rfl (XT.ll_ne_t hc34_1) (by decide) (by decide) ?_
        show Steps p.tables e below (T13.setTop (mkF m 56 #[.val (.ref o0), .val (.ref o1)] [])) _
        refine XS.iconst X13.here hx rfl (hb hby d2_56) ?_
        show Steps p.tables e below (T13.setTop (mkF m 57 #[.val (.ref o0), .val (.ref o1)] [(.int (0 : Int32))])) _
        exact k)
      obtain ⟨fs, hr, hrun, hended, hW, hsame⟩ := X13.leave (v := some (.int (0 : Int32))) (fun h => by rw [Bd.returns] at h; cases h) hlk
      refine ⟨_, _, ?_, hrun, hended, _, _, rfl, ?_, ⟨_, rfl⟩, hW, hsame.mono (by decide) (by decide)⟩
      · rw [← hS0]; exact K23 _ (retN X13 hx (t := .boolean) Bd.returns (by simp) (hb hby d2_57) hr)
      · show Q2 Z o0 o1 x0 x1 x2 y0 y1 y2 h0 n0 _ T13.heap _
        rw [e13]
        have qr : (0 : Int32) = (w2_r1 x0 x1 x2 y0 y1 y2) := by unfold w2_r1; rw [if_pos hc19_0, if_neg hc34_1]
        exact ⟨congrArg (fun z => some (Value.int z)) qr, N0, rfl⟩
  · -- no
    have K24 : ∀ t, Steps p.tables e below (T7.setTop (mkF m 57 #[.val (.ref o0), .val (.ref o1)] [(.int (0 : Int32))])) t → Steps p.tables e below S0 t := fun t k => K8 t (by
      refine XS.ifYes X7.here hx rfl (pc0 := 19) (pc' := 56) rfl (hb hby d2_19) rfl (XT.ll_ne_t hc19_0) (by decide) (by decide) ?_
      show Steps p.tables e below (T7.setTop (mkF m 56 #[.val (.ref o0), .val (.ref o1)] [])) _
      refine XS.iconst X7.here hx rfl (hb hby d2_56) ?_
      show Steps p.tables e below (T7.setTop (mkF m 57 #[.val (.ref o0), .val (.ref o1)] [(.int (0 : Int32))])) _
      exact k)
    obtain ⟨fs, hr, hrun, hended, hW, hsame⟩ := X7.leave (v := some (.int (0 : Int32))) (fun h => by rw [Bd.returns] at h; cases h) hlk
    refine ⟨_, _, ?_, hrun, hended, _, _, rfl, ?_, ⟨_, rfl⟩, hW, hsame.mono (by decide) (by decide)⟩
    · rw [← hS0]; exact K24 _ (retN X7 hx (t := .boolean) Bd.returns (by simp) (hb hby d2_57) hr)
    · show Q2 Z o0 o1 x0 x1 x2 y0 y1 y2 h0 n0 _ T7.heap _
      rw [e7]
      have qr : (0 : Int32) = (w2_r1 x0 x1 x2 y0 y1 y2) := by unfold w2_r1; rw [if_neg hc19_0]
      exact ⟨congrArg (fun z => some (Value.int z)) qr, N0, rfl⟩
theorem d3_0 : decode prog_7_method_7_code 0 = .ok (.aload_n 1, 1) := by decide +kernel
theorem d3_1 : decode prog_7_method_7_code 1 = .ok (.instanceof 8, 3) := by decide +kernel
theorem d3_4 : decode prog_7_method_7_code 4 = .ok (.ifCond .eq 52, 3) := by decide +kernel
theorem d3_56 : decode prog_7_method_7_code 56 = .ok (.iconst 0, 1) := by decide +kernel
theorem d3_57 : decode prog_7_method_7_code 57 = .ok (.ireturn, 1) := by decide +kernel
theorem pn3 : plainName "com/example/rota/rota/agent/TokenUsage" = true := by first | (simp [plainName, overriddenIn]; done) | decide +kernel
theorem ef3 (m : MethodId) (o0 : Addr) : entryFrame m #[(.ref o0), .null] 2 = mkF m 0 #[.val (.ref o0), .val .null] [] := by first | (simp [entryFrame, mkF, argsToLocals, Value.category]; done) | rfl
def Q3 (Z : State) (o0 : Addr) (h0 : Heap) (n0 : Nat) (v : Option Value) (h : Heap) (L : List Loc) : Prop := v = some (.int (0 : Int32)) ∧ Fr n0 L ∧ h = h0
set_option maxRecDepth 65536 in
set_option maxHeartbeats 40000000 in
theorem rm3 (l : Launch) (Z : State) (a0 : Array Value) (hw : ∀ d ∈ tables_1, d.before a0 Z = true) (ws : List Jvm.Cond) (o0 : Addr) (h0 : Heap) (n0 : Nat) (Z0 : n0 ≤ h0.size) :
    MetFree l (⟨"com/example/rota/rota/agent/TokenUsage", "equals", "(Ljava/lang/Object;)Z"⟩ : MethodName) (head1 (Jvm.Cond.code (⟨"com/example/rota/rota/agent/TokenUsage", "equals", "(Ljava/lang/Object;)Z"⟩ : MethodName) prog_7_method_7_code 2 (some .boolean) :: ws) ({ frames := 0, cells := 0, slots := 0, locals := 0 } : Room)) (fun a U => a = #[(.ref o0), .null] ∧ Z.Warmed39 U.vm ∧ U.heap = h0) (fun _ _ _ _ _ => True) (fun _ U o U' => ∃ v L, o = .returned v ∧ Q3 Z o0 h0 n0 v U'.heap L ∧ FrameEnd U o U' L ({ frames := 0, cells := 0, slots := 0, locals := 0 } : Room).cells ({ frames := 0, cells := 0, slots := 0, locals := 0 } : Room).slots) := by
  refine MetFree.of_bodySF (plainFor_of_name pn3) hisR ?_
  intro p e s m args below meth c s₁ Bd hml0 hP hK
  obtain ⟨rfl, hZ, hh⟩ := hP
  have hlk : meth.locks = false := BodyLoose.notSynchronized Bd
  have hx := Bd.exec
  have hby := Bd.bytes
  have hml : c.maxLocals = 2 := hml0
  have hown : s.vm.findClass "com/example/rota/rota/agent/TokenUsage" = some m.cls := findClass_of_methodNamed Bd.named
  have hnm := (name_of_methodNamed Bd.named Bd.method).1
  have X0 : Stand p l e ({ frames := 0, cells := 0, slots := 0, locals := 0 } : Room) s m #[(.ref o0), .null] below meth c s₁ [] 0 0 := Stand.of_body Bd
  have e0 : s₁.heap = h0 := by rw [← hh, Bd.state]; rfl
  have N0 := Fr.nil n0
  obtain ⟨S0, hS0⟩ : ∃ S0, S0 = s₁.setTop (entryFrame m #[(.ref o0), .null] 2) := ⟨_, rfl⟩
  have pre0 : ∀ t, Steps p.tables e below (s₁.setTop (mkF m 0 #[.val (.ref o0), .val .null] [])) t → Steps p.tables e below S0 t := fun t k => by rw [hS0]; exact castTop (ef3 m o0) k
  have K1 : ∀ t, Steps p.tables e below (s₁.setTop (mkF m 1 #[.val (.ref o0), .val .null] [.null])) t → Steps p.tables e below S0 t := fun t k => pre0 t (by
    refine XS.aloadN X0.here hx rfl (hb hby d3_0) rfl rfl ?_
    show Steps p.tables e below (s₁.setTop (mkF m 1 #[.val (.ref o0), .val .null] [.null])) _
    exact k)
  have K2 : ∀ t, Steps p.tables e below (s₁.setTop (mkF m 4 #[.val (.ref o0), .val .null] [(.int (0 : Int32))])) t → Steps p.tables e below S0 t := fun t k => K1 t (by
    refine X0.instanceofNull hx (g := (mkF m 1 #[.val (.ref o0), .val .null] [.null])) rfl rfl (hb hby d3_1) _ ?_
    show Steps p.tables e below (s₁.setTop (mkF m 4 #[.val (.ref o0), .val .null] [(.int (0 : Int32))])) _
    exact k)
  have K3 : ∀ t, Steps p.tables e below (s₁.setTop (mkF m 57 #[.val (.ref o0), .val .null] [(.int (0 : Int32))])) t → Steps p.tables e below S0 t := fun t k => K2 t (by
    refine XS.ifYes X0.here hx rfl (pc0 := 4) (pc' := 56) rfl (hb hby d3_4) rfl (XT.i0_eq_t (by decide)) (by decide) (by decide) ?_
    show Steps p.tables e below (s₁.setTop (mkF m 56 #[.val (.ref o0), .val .null] [])) _
    refine XS.iconst X0.here hx rfl (hb hby d3_56) ?_
    show Steps p.tables e below (s₁.setTop (mkF m 57 #[.val (.ref o0), .val .null] [(.int (0 : Int32))])) _
    exact k)
  obtain ⟨fs, hr, hrun, hended, hW, hsame⟩ := X0.leave (v := some (.int (0 : Int32))) (fun h => by rw [Bd.returns] at h; cases h) hlk
  refine ⟨_, _, ?_, hrun, hended, _, _, rfl, ?_, ⟨_, rfl⟩, hW, hsame.mono (by decide) (by decide)⟩
  · rw [← hS0]; exact K3 _ (retN X0 hx (t := .boolean) Bd.returns (by simp) (hb hby d3_57) hr)
  · show Q3 Z o0 h0 n0 _ s₁.heap _
    rw [e0]
    exact ⟨rfl, N0, rfl⟩
theorem d4_0 : decode prog_7_method_7_code 0 = .ok (.aload_n 1, 1) := by decide +kernel
theorem d4_1 : decode prog_7_method_7_code 1 = .ok (.instanceof 8, 3) := by decide +kernel
theorem d4_4 : decode prog_7_method_7_code 4 = .ok (.ifCond .eq 52, 3) := by decide +kernel
theorem d4_56 : decode prog_7_method_7_code 56 = .ok (.iconst 0, 1) := by decide +kernel
theorem d4_57 : decode prog_7_method_7_code 57 = .ok (.ireturn, 1) := by decide +kernel
theorem pn4 : plainName "com/example/rota/rota/agent/TokenUsage" = true := by first | (simp [plainName, overriddenIn]; done) | decide +kernel
theorem ef4 (m : MethodId) (o0 : Addr) (o1 : Addr) : entryFrame m #[(.ref o0), (.ref o1)] 2 = mkF m 0 #[.val (.ref o0), .val (.ref o1)] [] := by first | (simp [entryFrame, mkF, argsToLocals, Value.category]; done) | rfl
def Q4 (Z : State) (o0 : Addr) (o1 : Addr) (h0 : Heap) (n0 : Nat) (v : Option Value) (h : Heap) (L : List Loc) : Prop := v = some (.int (0 : Int32)) ∧ Fr n0 L ∧ h = h0
set_option maxRecDepth 65536 in
set_option maxHeartbeats 40000000 in
theorem rm4 (l : Launch) (Z : State) (a0 : Array Value) (hw : ∀ d ∈ tables_1, d.before a0 Z = true) (ws : List Jvm.Cond) (o0 : Addr) (o1 : Addr) (h0 : Heap) (n0 : Nat) (Z0 : n0 ≤ h0.size) (E_o1 : Exa Z h0 o1 "java/lang/Long") :
    MetFree l (⟨"com/example/rota/rota/agent/TokenUsage", "equals", "(Ljava/lang/Object;)Z"⟩ : MethodName) (head1 (Jvm.Cond.code (⟨"com/example/rota/rota/agent/TokenUsage", "equals", "(Ljava/lang/Object;)Z"⟩ : MethodName) prog_7_method_7_code 2 (some .boolean) :: ws) ({ frames := 0, cells := 0, slots := 0, locals := 0 } : Room)) (fun a U => a = #[(.ref o0), (.ref o1)] ∧ Z.Warmed39 U.vm ∧ U.heap = h0) (fun _ _ _ _ _ => True) (fun _ U o U' => ∃ v L, o = .returned v ∧ Q4 Z o0 o1 h0 n0 v U'.heap L ∧ FrameEnd U o U' L ({ frames := 0, cells := 0, slots := 0, locals := 0 } : Room).cells ({ frames := 0, cells := 0, slots := 0, locals := 0 } : Room).slots) := by
  refine MetFree.of_bodySF (plainFor_of_name pn4) hisR ?_
  intro p e s m args below meth c s₁ Bd hml0 hP hK
  obtain ⟨rfl, hZ, hh⟩ := hP
  have hlk : meth.locks = false := BodyLoose.notSynchronized Bd
  have hx := Bd.exec
  have hby := Bd.bytes
  have hml : c.maxLocals = 2 := hml0
  have hown : s.vm.findClass "com/example/rota/rota/agent/TokenUsage" = some m.cls := findClass_of_methodNamed Bd.named
  have hnm := (name_of_methodNamed Bd.named Bd.method).1
  have X0 : Stand p l e ({ frames := 0, cells := 0, slots := 0, locals := 0 } : Room) s m #[(.ref o0), (.ref o1)] below meth c s₁ [] 0 0 := Stand.of_body Bd
  have e0 : s₁.heap = h0 := by rw [← hh, Bd.state]; rfl
  have N0 := Fr.nil n0
  obtain ⟨S0, hS0⟩ : ∃ S0, S0 = s₁.setTop (entryFrame m #[(.ref o0), (.ref o1)] 2) := ⟨_, rfl⟩
  have pre0 : ∀ t, Steps p.tables e below (s₁.setTop (mkF m 0 #[.val (.ref o0), .val (.ref o1)] [])) t → Steps p.tables e below S0 t := fun t k => by rw [hS0]; exact castTop (ef4 m o0 o1) k
  have K1 : ∀ t, Steps p.tables e below (s₁.setTop (mkF m 1 #[.val (.ref o0), .val (.ref o1)] [(.ref o1)])) t → Steps p.tables e below S0 t := fun t k => pre0 t (by
    refine XS.aloadN X0.here hx rfl (hb hby d4_0) rfl rfl ?_
    show Steps p.tables e below (s₁.setTop (mkF m 1 #[.val (.ref o0), .val (.ref o1)] [(.ref o1)])) _
    exact k)
  obtain ⟨T2, X2, e2, st2⟩ := instNo X0 hx hZ hown (hw _ (List.mem_of_getElem? (i := 21) rfl)) e0 E_o1 (own_nsno (hw _ (List.mem_of_getElem? (i := 44) rfl)) (hw _ (List.mem_of_getElem? (i := 2) rfl)) (NS.step (hw _ (List.mem_of_getElem? (i := 44) rfl)) (NS.step (hw _ (List.mem_of_getElem? (i := 45) rfl)) (own_nsroot (hw _ (List.mem_of_getElem? (i := 46) rfl)) (hw _ (List.mem_of_getElem? (i := 2) rfl)) (by decide)) (by decide)) (by decide)) (by decide)) (g := (mkF m 1 #[.val (.ref o0), .val (.ref o1)] [(.ref o1)])) rfl rfl (hb hby d4_1)
  have K2 : ∀ t, Steps p.tables e below (T2.setTop (mkF m 4 #[.val (.ref o0), .val (.ref o1)] [(.int (0 : Int32))])) t → Steps p.tables e below S0 t := fun t k => K1 t (st2 t k)
  have K3 : ∀ t, Steps p.tables e below (T2.setTop (mkF m 57 #[.val (.ref o0), .val (.ref o1)] [(.int (0 : Int32))])) t → Steps p.tables e below S0 t := fun t k => K2 t (by
    refine XS.ifYes X2.here hx rfl (pc0 := 4) (pc' := 56) rfl (hb hby d4_4) rfl (XT.i0_eq_t (by decide)) (by decide) (by decide) ?_
    show Steps p.tables e below (T2.setTop (mkF m 56 #[.val (.ref o0), .val (.ref o1)] [])) _
    refine XS.iconst X2.here hx rfl (hb hby d4_56) ?_
    show Steps p.tables e below (T2.setTop (mkF m 57 #[.val (.ref o0), .val (.ref o1)] [(.int (0 : Int32))])) _
    exact k)
  obtain ⟨fs, hr, hrun, hended, hW, hsame⟩ := X2.leave (v := some (.int (0 : Int32))) (fun h => by rw [Bd.returns] at h; cases h) hlk
  refine ⟨_, _, ?_, hrun, hended, _, _, rfl, ?_, ⟨_, rfl⟩, hW, hsame.mono (by decide) (by decide)⟩
  · rw [← hS0]; exact K3 _ (retN X2 hx (t := .boolean) Bd.returns (by simp) (hb hby d4_57) hr)
  · show Q4 Z o0 o1 h0 n0 _ T2.heap _
    rw [e2]
    exact ⟨rfl, N0, rfl⟩
theorem dLn_0 : decode jdk_18_method_1_code 0 = .ok (.aload_n 0, 1) := by decide +kernel
theorem dLn_1 : decode jdk_18_method_1_code 1 = .ok (.invokespecial 1, 3) := by decide +kernel
theorem dLn_4 : decode jdk_18_method_1_code 4 = .ok (.return_, 1) := by decide +kernel
theorem pnLn : plainName "java/lang/Number" = true := by first | (simp [plainName, overriddenIn]; done) | decide +kernel
theorem efLn (m : MethodId) (o0 : Addr) : entryFrame m #[(.ref o0)] 1 = mkF m 0 #[.val (.ref o0)] [] := by first | (simp [entryFrame, mkF, argsToLocals, Value.category]; done) | rfl
def QLn (Z : State) (o0 : Addr) (h0 : Heap) (n0 : Nat) (v : Option Value) (h : Heap) (L : List Loc) : Prop := v = none ∧ Fr n0 L ∧ h = h0
set_option maxRecDepth 65536 in
set_option maxHeartbeats 40000000 in
theorem rmLn (l : Launch) (Z : State) (a0 : Array Value) (hw : ∀ d ∈ tables_1, d.before a0 Z = true) (ws : List Jvm.Cond) (o0 : Addr) (h0 : Heap) (n0 : Nat) (Z0 : n0 ≤ h0.size) :
    MetFree l (⟨"java/lang/Number", "<init>", "()V"⟩ : MethodName) (head1 (Jvm.Cond.code (⟨"java/lang/Number", "<init>", "()V"⟩ : MethodName) jdk_18_method_1_code 1 none :: ws) ({ frames := 1, cells := 0, slots := 0, locals := 12 } : Room)) (fun a U => a = #[(.ref o0)] ∧ Z.Warmed39 U.vm ∧ U.heap = h0) (fun _ _ _ _ _ => True) (fun _ U o U' => ∃ v L, o = .returned v ∧ QLn Z o0 h0 n0 v U'.heap L ∧ FrameEnd U o U' L ({ frames := 1, cells := 0, slots := 0, locals := 12 } : Room).cells ({ frames := 1, cells := 0, slots := 0, locals := 12 } : Room).slots) := by
  refine MetFree.of_bodySF (plainFor_of_name pnLn) hisR ?_
  intro p e s m args below meth c s₁ Bd hml0 hP hK
  obtain ⟨rfl, hZ, hh⟩ := hP
  have hlk : meth.locks = false := BodyLoose.notSynchronized Bd
  have hx := Bd.exec
  have hby := Bd.bytes
  have hml : c.maxLocals = 1 := hml0
  have hown : s.vm.findClass "java/lang/Number" = some m.cls := findClass_of_methodNamed Bd.named
  have hnm := (name_of_methodNamed Bd.named Bd.method).1
  have X0 : Stand p l e ({ frames := 1, cells := 0, slots := 0, locals := 12 } : Room) s m #[(.ref o0)] below meth c s₁ [] 0 0 := Stand.of_body Bd
  have e0 : s₁.heap = h0 := by rw [← hh, Bd.state]; rfl
  have N0 := Fr.nil n0
  obtain ⟨S0, hS0⟩ : ∃ S0, S0 = s₁.setTop (entryFrame m #[(.ref o0)] 1) := ⟨_, rfl⟩
  have pre0 : ∀ t, Steps p.tables e below (s₁.setTop (mkF m 0 #[.val (.ref o0)] [])) t → Steps p.tables e below S0 t := fun t k => by rw [hS0]; exact castTop (efLn m o0) k
  have K1 : ∀ t, Steps p.tables e below (s₁.setTop (mkF m 1 #[.val (.ref o0)] [(.ref o0)])) t → Steps p.tables e below S0 t := fun t k => pre0 t (by
    refine XS.aloadN X0.here hx rfl (hb hby dLn_0) rfl rfl ?_
    show Steps p.tables e below (s₁.setTop (mkF m 1 #[.val (.ref o0)] [(.ref o0)])) _
    exact k)
  have K_2 : ∀ t, Steps p.tables e below (s₁.setTop (mkF m 1 #[.val (.ref o0)] [(.ref o0)])) t → Steps p.tables e below S0 t := K1
  obtain ⟨T3, X3, e3, st3⟩ := initO X0 hx hZ hown (hw _ (List.mem_of_getElem? (i := 41) rfl)) (hw _ (List.mem_of_getElem? (i := 8) rfl)) (hw _ (List.mem_of_getElem? (i := 9) rfl)) e0 (g := (mkF m 1 #[.val (.ref o0)] [(.ref o0)])) rfl (by rw [hml]; rfl) rfl (hb hby dLn_1) (by decide) (W := 0) (by show 2 * 0 + _ ≤ _; exact Nat.le_of_eq rfl) (by decide)
  have K3 : ∀ t, Steps p.tables e below (T3.setTop (mkF m 4 #[.val (.ref o0)] [])) t → Steps p.tables e below S0 t := fun t k => K_2 t (st3 t k)
  obtain ⟨fs, hr, hrun, hended, hW, hsame⟩ := X3.leave (v := none) (fun _ => rfl) hlk
  refine ⟨_, _, ?_, hrun, hended, _, _, rfl, ?_, ⟨_, rfl⟩, hW, hsame.mono (by decide) (by decide)⟩
  · rw [← hS0]; exact K3 _ (X3.returnOut hx Bd.returns (hb hby dLn_4) hr)
  · show QLn Z o0 h0 n0 _ T3.heap _
    rw [e3]
    exact ⟨rfl, N0, rfl⟩
theorem dLi_0 : decode jdk_35_method_26_code 0 = .ok (.aload_n 0, 1) := by decide +kernel
theorem dLi_1 : decode jdk_35_method_26_code 1 = .ok (.invokespecial 270, 3) := by decide +kernel
theorem dLi_4 : decode jdk_35_method_26_code 4 = .ok (.aload_n 0, 1) := by decide +kernel
theorem dLi_5 : decode jdk_35_method_26_code 5 = .ok (.lload_n 1, 1) := by decide +kernel
theorem dLi_6 : decode jdk_35_method_26_code 6 = .ok (.putfield 273, 3) := by decide +kernel
theorem dLi_9 : decode jdk_35_method_26_code 9 = .ok (.return_, 1) := by decide +kernel
theorem pnLi : plainName "java/lang/Long" = true := by first | (simp [plainName, overriddenIn]; done) | decide +kernel
theorem pdLi_0 : parseMethodDescriptor "()V" = some ⟨[], none⟩ := by decide +kernel
theorem efLi (m : MethodId) (o0 : Addr) (q1 : Int64) : entryFrame m #[(.ref o0), (.long q1)] 3 = mkF m 0 #[.val (.ref o0), .val (.long q1), .second] [] := by first | (simp [entryFrame, mkF, argsToLocals, Value.category]; done) | rfl
def QLi (Z : State) (o0 : Addr) (q1 : Int64) (h0 : Heap) (n0 : Nat) (v : Option Value) (h : Heap) (L : List Loc) : Prop := v = none ∧ Fr n0 L ∧ Keep h0 h [o0] ∧ Exa Z h o0 "java/lang/Long" ∧ Fld Z h o0 "java/lang/Long" "value" "J" (.long q1)
set_option maxRecDepth 65536 in
set_option maxHeartbeats 40000000 in
theorem rmLi (l : Launch) (Z : State) (a0 : Array Value) (hw : ∀ d ∈ tables_1, d.before a0 Z = true) (ws : List Jvm.Cond) (o0 : Addr) (q1 : Int64) (h0 : Heap) (n0 : Nat) (Z0 : n0 ≤ h0.size) (E_o0 : Exa Z h0 o0 "java/lang/Long") (F_o0_value : Fld Z h0 o0 "java/lang/Long" "value" "J" (.long (0 : Int64))) (g_o0 : n0 ≤ o0) :
    MetFree l (⟨"java/lang/Long", "<init>", "(J)V"⟩ : MethodName) (head1 (Jvm.Cond.code (⟨"java/lang/Long", "<init>", "(J)V"⟩ : MethodName) jdk_35_method_26_code 3 none :: ws) ({ frames := 2, cells := 0, slots := 0, locals := 24 } : Room)) (fun a U => a = #[(.ref o0), (.long q1)] ∧ Z.Warmed39 U.vm ∧ U.heap = h0) (fun _ _ _ _ _ => True) (fun _ U o U' => ∃ v L, o = .returned v ∧ QLi Z o0 q1 h0 n0 v U'.heap L ∧ FrameEnd U o U' L ({ frames := 2, cells := 0, slots := 0, locals := 24 } : Room).cells ({ frames := 2, cells := 0, slots := 0, locals := 24 } : Room).slots) := by
  refine MetFree.of_bodySF (plainFor_of_name pnLi) hisR ?_
  intro p e s m args below meth c s₁ Bd hml0 hP hK
  obtain ⟨rfl, hZ, hh⟩ := hP
  have hlk : meth.locks = false := BodyLoose.notSynchronized Bd
  have hx := Bd.exec
  have hby := Bd.bytes
  have hml : c.maxLocals = 3 := hml0
  have hown : s.vm.findClass "java/lang/Long" = some m.cls := findClass_of_methodNamed Bd.named
  have hnm := (name_of_methodNamed Bd.named Bd.method).1
  have X0 : Stand p l e ({ frames := 2, cells := 0, slots := 0, locals := 24 } : Room) s m #[(.ref o0), (.long q1)] below meth c s₁ [] 0 0 := Stand.of_body Bd
  have e0 : s₁.heap = h0 := by rw [← hh, Bd.state]; rfl
  have N0 := Fr.nil n0
  obtain ⟨S0, hS0⟩ : ∃ S0, S0 = s₁.setTop (entryFrame m #[(.ref o0), (.long q1)] 3) := ⟨_, rfl⟩
  have pre0 : ∀ t, Steps p.tables e below (s₁.setTop (mkF m 0 #[.val (.ref o0), .val (.long q1), .second] [])) t → Steps p.tables e below S0 t := fun t k => by rw [hS0]; exact castTop (efLi m o0 q1) k
  have K1 : ∀ t, Steps p.tables e below (s₁.setTop (mkF m 1 #[.val (.ref o0), .val (.long q1), .second] [(.ref o0)])) t → Steps p.tables e below S0 t := fun t k => pre0 t (by
    refine XS.aloadN X0.here hx rfl (hb hby dLi_0) rfl rfl ?_
    show Steps p.tables e below (s₁.setTop (mkF m 1 #[.val (.ref o0), .val (.long q1), .second] [(.ref o0)])) _
    exact k)
  have K_2 : ∀ t, Steps p.tables e below (s₁.setTop (mkF m 1 #[.val (.ref o0), .val (.long q1), .second] [(.ref o0)])) t → Steps p.tables e below S0 t := K1
  obtain ⟨_, _, ⟨T3, L3, k3, n3⟩, -, X3, ⟨Lc3, hQ3, l3, y3, z3⟩, st3⟩ := X0.specialBack hx (y := (⟨"java/lang/Number", "<init>", "()V"⟩ : MethodName)) rfl hown (mvT hZ (hw _ (List.mem_of_getElem? (i := 35) rfl))) (mvT hZ (hw _ (List.mem_of_getElem? (i := 36) rfl))) (mvT hZ (hw _ (List.mem_of_getElem? (i := 40) rfl))) (by decide) (backOf (W := 0) (rmLn l Z a0 hw [] o0 h0 n0 Z0 ) hZ (hw _ (List.mem_of_getElem? (i := 40) rfl)) (hw _ (List.mem_of_getElem? (i := 39) rfl)) (by decide) (by decide)) (g := (mkF m 1 #[.val (.ref o0), .val (.long q1), .second] [(.ref o0)])) rfl (by rw [hml]; rfl) (Steps.refl _) (a := o0) (argsL := []) (rest := []) (lenOf pdLi_0 rfl) rfl (by show 2 * 0 + _ ≤ _; exact Nat.le_of_eq rfl) (hb hby dLi_1) (fun _ _ => ⟨rfl, e0, (by decide : 0 + 0 ≤ 0), (by decide : 0 + 0 ≤ 0)⟩)
  dsimp only [Pt.U, Pt.locs, Pt.cells, Pt.slots] at X3 l3 y3 z3 st3 hQ3
  subst l3 y3 z3
  obtain ⟨rfl, N3q, e3⟩ := hQ3
  have N3 := Fr.app N0 N3q
  have K3 : ∀ t, Steps p.tables e below (T3.setTop (mkF m 4 #[.val (.ref o0), .val (.long q1), .second] [])) t → Steps p.tables e below S0 t := fun t k => K_2 t (st3.trans k)
  have K4 : ∀ t, Steps p.tables e below (T3.setTop (mkF m 6 #[.val (.ref o0), .val (.long q1), .second] [(.long q1), (.ref o0)])) t → Steps p.tables e below S0 t := fun t k => K3 t (by
    refine XS.aloadN X3.here hx rfl (hb hby dLi_4) rfl rfl ?_
    show Steps p.tables e below (T3.setTop (mkF m 5 #[.val (.ref o0), .val (.long q1), .second] [(.ref o0)])) _
    refine XS.lloadN X3.here hx rfl (hb hby dLi_5) rfl ?_
    show Steps p.tables e below (T3.setTop (mkF m 6 #[.val (.ref o0), .val (.long q1), .second] [(.long q1), (.ref o0)])) _
    exact k)
  obtain ⟨T5, h5, X5, e5, W5, st5⟩ := putF X3 hx hZ hown (host := "") (Or.inl (hw _ (List.mem_of_getElem? (i := 42) rfl))) Via.refl e3 F_o0_value E_o0 (Or.inr ⟨(hw _ (List.mem_of_getElem? (i := 43) rfl)), rfl, hnm⟩) (hw _ (List.mem_of_getElem? (i := 30) rfl)) (ty := .long) (by decide) rfl rfl (g := (mkF m 6 #[.val (.ref o0), .val (.long q1), .second] [(.long q1), (.ref o0)])) rfl rfl (hb hby dLi_6)
  have F_o0_value__5 := F_o0_value.same W5
  have E_o0__5 := E_o0.wr W5
  have N5 := Fr.snoc X5 N3 g_o0
  have Zs5 : n0 ≤ h5.size := Nat.le_trans Z0 (Nat.le_of_eq W5.size.symm)
  have Kc5 : Keep h0 h5 [o0] := (Keep.refl h0 [o0]).wr W5 (Or.inl (List.mem_of_getElem? (i := 0) rfl))
  have K5 : ∀ t, Steps p.tables e below (T5.setTop (mkF m 9 #[.val (.ref o0), .val (.long q1), .second] [])) t → Steps p.tables e below S0 t := fun t k => K4 t (st5 t k)
  obtain ⟨fs, hr, hrun, hended, hW, hsame⟩ := X5.leave (v := none) (fun _ => rfl) hlk
  refine ⟨_, _, ?_, hrun, hended, _, _, rfl, ?_, ⟨_, rfl⟩, hW, hsame.mono (by decide) (by decide)⟩
  · rw [← hS0]; exact K5 _ (X5.returnOut hx Bd.returns (hb hby dLi_9) hr)
  · show QLi Z o0 q1 h0 n0 _ T5.heap _
    rw [e5]
    exact ⟨rfl, N5, Kc5, E_o0__5, F_o0_value__5⟩
theorem dLlo_0 : decode jdk_35_method_24_code 0 = .ok (.sipush 128, 3) := by decide +kernel
theorem dLlo_3 : decode jdk_35_method_24_code 3 = .ok (.istore_n 2, 1) := by decide +kernel
theorem dLlo_4 : decode jdk_35_method_24_code 4 = .ok (.lload_n 0, 1) := by decide +kernel
theorem dLlo_5 : decode jdk_35_method_24_code 5 = .ok (.ldc2_w 230, 3) := by decide +kernel
theorem dLlo_8 : decode jdk_35_method_24_code 8 = .ok (.lcmp, 1) := by decide +kernel
theorem dLlo_9 : decode jdk_35_method_24_code 9 = .ok (.ifCond .lt 22, 3) := by decide +kernel
theorem dLlo_31 : decode jdk_35_method_24_code 31 = .ok (.new 1, 3) := by decide +kernel
theorem dLlo_34 : decode jdk_35_method_24_code 34 = .ok (.dup, 1) := by decide +kernel
theorem dLlo_35 : decode jdk_35_method_24_code 35 = .ok (.lload_n 0, 1) := by decide +kernel
theorem dLlo_36 : decode jdk_35_method_24_code 36 = .ok (.invokespecial 240, 3) := by decide +kernel
theorem dLlo_39 : decode jdk_35_method_24_code 39 = .ok (.areturn, 1) := by decide +kernel
theorem pnLlo : plainName "java/lang/Long" = true := by first | (simp [plainName, overriddenIn]; done) | decide +kernel
theorem pdLlo_0 : parseMethodDescriptor "(J)V" = some ⟨[.long], none⟩ := by decide +kernel
theorem efLlo (m : MethodId) (q0 : Int64) : entryFrame m #[(.long q0)] 3 = mkF m 0 #[.val (.long q0), .second, .unset] [] := by first | (simp [entryFrame, mkF, argsToLocals, Value.category]; done) | rfl
def QLlo (Z : State) (q0 : Int64) (h0 : Heap) (n0 : Nat) (v : Option Value) (h : Heap) (L : List Loc) : Prop := ∃ (b4 : Addr), v = some (.ref b4) ∧ Fr n0 L ∧ Keep h0 h [] ∧ h0.size ≤ b4 ∧ Exa Z h b4 "java/lang/Long" ∧ Fld Z h b4 "java/lang/Long" "value" "J" (.long q0)
set_option maxRecDepth 65536 in
set_option maxHeartbeats 40000000 in
theorem rmLlo (l : Launch) (Z : State) (a0 : Array Value) (hw : ∀ d ∈ tables_1, d.before a0 Z = true) (ws : List Jvm.Cond) (q0 : Int64) (h0 : Heap) (n0 : Nat) (Z0 : n0 ≤ h0.size) (hlo : q0 < (-128 : Int64)) :
    MetFree l (⟨"java/lang/Long", "valueOf", "(J)Ljava/lang/Long;"⟩ : MethodName) (head1 (Jvm.Cond.code (⟨"java/lang/Long", "valueOf", "(J)Ljava/lang/Long;"⟩ : MethodName) jdk_35_method_24_code 3 (some (.object "java/lang/Long")) :: ws) ({ frames := 3, cells := 1, slots := 1, locals := 39 } : Room)) (fun a U => a = #[(.long q0)] ∧ Z.Warmed39 U.vm ∧ U.heap = h0) (fun _ _ _ _ _ => True) (fun _ U o U' => ∃ v L, o = .returned v ∧ QLlo Z q0 h0 n0 v U'.heap L ∧ FrameEnd U o U' L ({ frames := 3, cells := 1, slots := 1, locals := 39 } : Room).cells ({ frames := 3, cells := 1, slots := 1, locals := 39 } : Room).slots) := by
  refine MetFree.of_bodySF (plainFor_of_name pnLlo) hisR ?_
  intro p e s m args below meth c s₁ Bd hml0 hP hK
  obtain ⟨rfl, hZ, hh⟩ := hP
  have hlk : meth.locks = false := BodyLoose.notSynchronized Bd
  have hx := Bd.exec
  have hby := Bd.bytes
  have hml : c.maxLocals = 3 := hml0
  have hown : s.vm.findClass "java/lang/Long" = some m.cls := findClass_of_methodNamed Bd.named
  have hnm := (name_of_methodNamed Bd.named Bd.method).1
  have X0 : Stand p l e ({ frames := 3, cells := 1, slots := 1, locals := 39 } : Room) s m #[(.long q0)] below meth c s₁ [] 0 0 := Stand.of_body Bd
  have e0 : s₁.heap = h0 := by rw [← hh, Bd.state]; rfl
  have N0 := Fr.nil n0
  obtain ⟨S0, hS0⟩ : ∃ S0, S0 = s₁.setTop (entryFrame m #[(.long q0)] 3) := ⟨_, rfl⟩
  have pre0 : ∀ t, Steps p.tables e below (s₁.setTop (mkF m 0 #[.val (.long q0), .second, .unset] [])) t → Steps p.tables e below S0 t := fun t k => by rw [hS0]; exact castTop (efLlo m q0) k
  have K1 : ∀ t, Steps p.tables e below (s₁.setTop (mkF m 9 #[.val (.long q0), .second, .val (.int (128 : Int32))] [(.int (lcmpW q0 (-128 : Int64)))])) t → Steps p.tables e below S0 t := fun t k => pre0 t (by
    refine XS.sipush X0.here hx rfl (hb hby dLlo_0) ?_
    show Steps p.tables e below (s₁.setTop (mkF m 3 #[.val (.long q0), .second, .unset] [(.int (128 : Int32))])) _
    refine XS.istoreN X0.here hx rfl (hb hby dLlo_3) rfl (l' := #[.val (.long q0), .second, .val (.int (128 : Int32))]) rfl ?_
    show Steps p.tables e below (s₁.setTop (mkF m 4 #[.val (.long q0), .second, .val (.int (128 : Int32))] [])) _
    refine XS.lloadN X0.here hx rfl (hb hby dLlo_4) rfl ?_
    show Steps p.tables e below (s₁.setTop (mkF m 5 #[.val (.long q0), .second, .val (.int (128 : Int32))] [(.long q0)])) _
    refine X0.ldc2Long hx hown (mvT hZ (hw _ (List.mem_of_getElem? (i := 27) rfl))) (g := (mkF m 5 #[.val (.long q0), .second, .val (.int (128 : Int32))] [(.long q0)])) rfl (hb hby dLlo_5) _ ?_
    show Steps p.tables e below (s₁.setTop (mkF m 8 #[.val (.long q0), .second, .val (.int (128 : Int32))] [(.long (-128 : Int64)), (.long q0)])) _
    refine XS.lcmp X0.here hx rfl (hb hby dLlo_8) rfl ?_
    show Steps p.tables e below (s₁.setTop (mkF m 9 #[.val (.long q0), .second, .val (.int (128 : Int32))] [(.int (lcmpW q0 (-128 : Int64)))])) _
    exact k)
  have hf2 : q0 < (-128 : Int64) := hlo
  have K3 : ∀ t, Steps p.tables e below (s₁.setTop (mkF m 31 #[.val (.long q0), .second, .val (.int (128 : Int32))] [])) t → Steps p.tables e below S0 t := fun t k => K1 t (by
    refine XS.ifYes X0.here hx rfl (pc0 := 9) (pc' := 31) rfl (hb hby dLlo_9) rfl (XT.ll_lt_t hf2) (by decide) (by decide) ?_
    show Steps p.tables e below (s₁.setTop (mkF m 31 #[.val (.long q0), .second, .val (.int (128 : Int32))] [])) _
    exact k)
  obtain ⟨T4, h4, X4, e4, E4, A4, D4, -, st4⟩ := newO X0 hx hZ hown (hw _ (List.mem_of_getElem? (i := 29) rfl)) (hw _ (List.mem_of_getElem? (i := 30) rfl)) (hw _ (List.mem_of_getElem? (i := 25) rfl)) e0 (g := (mkF m 31 #[.val (.long q0), .second, .val (.int (128 : Int32))] [])) rfl (hb hby dLlo_31) (by decide) (by decide)
  obtain ⟨b4, g4⟩ : ∃ z, z = h0.size := ⟨_, rfl⟩
  rw [← g4] at A4 D4 st4
  have g_b4 : n0 ≤ b4 := Nat.le_trans Z0 (Nat.le_of_eq g4.symm)
  have Zs4 : n0 ≤ h4.size := Nat.le_trans Z0 E4.1
  have sz_b4 : h0.size ≤ b4 := Nat.le_trans (Keep.refl h0 []).1 (Nat.le_of_eq g4.symm)
  have Kc4 : Keep h0 h4 [] := (Keep.refl h0 []).ext E4
  have F_b4_value : Fld Z h4 b4 "java/lang/Long" "value" "J" (.long (0 : Int64)) := D4 (Or.inr (hw _ (List.mem_of_getElem? (i := 43) rfl))) (ty := .long) (by decide)
  have K4 : ∀ t, Steps p.tables e below (T4.setTop (mkF m 34 #[.val (.long q0), .second, .val (.int (128 : Int32))] [(.ref b4)])) t → Steps p.tables e below S0 t := fun t k => K3 t (st4 t k)
  have K5 : ∀ t, Steps p.tables e below (T4.setTop (mkF m 36 #[.val (.long q0), .second, .val (.int (128 : Int32))] [(.long q0), (.ref b4), (.ref b4)])) t → Steps p.tables e below S0 t := fun t k => K4 t (by
    refine XS.dup X4.here hx rfl (hb hby dLlo_34) rfl rfl ?_
    show Steps p.tables e below (T4.setTop (mkF m 35 #[.val (.long q0), .second, .val (.int (128 : Int32))] [(.ref b4), (.ref b4)])) _
    refine XS.lloadN X4.here hx rfl (hb hby dLlo_35) rfl ?_
    show Steps p.tables e below (T4.setTop (mkF m 36 #[.val (.long q0), .second, .val (.int (128 : Int32))] [(.long q0), (.ref b4), (.ref b4)])) _
    exact k)
  have K_6 : ∀ t, Steps p.tables e below (T4.setTop (mkF m 36 #[.val (.long q0), .second, .val (.int (128 : Int32))] [(.long q0), (.ref b4), (.ref b4)])) t → Steps p.tables e below S0 t := K5
  obtain ⟨_, _, ⟨T7, L7, k7, n7⟩, -, X7, ⟨Lc7, hQ7, l7, y7, z7⟩, st7⟩ := X4.specialBack hx (y := (⟨"java/lang/Long", "<init>", "(J)V"⟩ : MethodName)) rfl hown (mvT hZ (hw _ (List.mem_of_getElem? (i := 31) rfl))) (mvT hZ (hw _ (List.mem_of_getElem? (i := 32) rfl))) (mvT hZ (hw _ (List.mem_of_getElem? (i := 34) rfl))) (by decide) (backOf (W := 1) (rmLi l Z a0 hw [] b4 q0 h4 n0 Zs4 A4 F_b4_value g_b4) hZ (hw _ (List.mem_of_getElem? (i := 34) rfl)) (hw _ (List.mem_of_getElem? (i := 25) rfl)) (by decide) (by decide)) (g := (mkF m 36 #[.val (.long q0), .second, .val (.int (128 : Int32))] [(.long q0), (.ref b4), (.ref b4)])) rfl (by rw [hml]; rfl) (Steps.refl _) (a := b4) (argsL := [(.long q0)]) (rest := [(.ref b4)]) (lenOf pdLlo_0 rfl) rfl (by show 2 * 0 + _ ≤ _; exact Nat.le_of_eq rfl) (hb hby dLlo_36) (fun _ _ => ⟨rfl, e4, (by decide : 1 + 0 ≤ 1), (by decide : 1 + 0 ≤ 1)⟩)
  dsimp only [Pt.U, Pt.locs, Pt.cells, Pt.slots] at X7 l7 y7 z7 st7 hQ7
  subst l7 y7 z7
  obtain ⟨rfl, N7q, Kp7, Fn7_0, Fn7_1⟩ := hQ7
  have N7 := Fr.app N0 N7q
  have Zs7 : n0 ≤ T7.heap.size := Nat.le_trans Zs4 Kp7.1
  have Kc7 : Keep h0 T7.heap [] := Kc4.trans Kp7 (allS (P := fun x => x ∈ [] ∨ h0.size ≤ x) (Or.inr sz_b4) all0)
  have K7 : ∀ t, Steps p.tables e below (T7.setTop (mkF m 39 #[.val (.long q0), .second, .val (.int (128 : Int32))] [(.ref b4)])) t → Steps p.tables e below S0 t := fun t k => K_6 t (st7.trans k)
  obtain ⟨fs, hr, hrun, hended, hW, hsame⟩ := X7.leave (v := some (.ref b4)) (fun h => by rw [Bd.returns] at h; cases h) hlk
  refine ⟨_, _, ?_, hrun, hended, _, _, rfl, ?_, ⟨_, rfl⟩, hW, hsame.mono (by decide) (by decide)⟩
  · rw [← hS0]; exact K7 _ (retOut X7 hx Bd.returns rfl (Or.inr (Or.inr (Or.inr (Or.inr ⟨rfl, rfl, rfl⟩)))) (hb hby dLlo_39) hr)
  · show QLlo Z q0 h0 n0 _ T7.heap _
    exact ⟨b4, rfl, N7, Kc7, sz_b4, Fn7_0, Fn7_1⟩
theorem dLhi_0 : decode jdk_35_method_24_code 0 = .ok (.sipush 128, 3) := by decide +kernel
theorem dLhi_3 : decode jdk_35_method_24_code 3 = .ok (.istore_n 2, 1) := by decide +kernel
theorem dLhi_4 : decode jdk_35_method_24_code 4 = .ok (.lload_n 0, 1) := by decide +kernel
theorem dLhi_5 : decode jdk_35_method_24_code 5 = .ok (.ldc2_w 230, 3) := by decide +kernel
theorem dLhi_8 : decode jdk_35_method_24_code 8 = .ok (.lcmp, 1) := by decide +kernel
theorem dLhi_9 : decode jdk_35_method_24_code 9 = .ok (.ifCond .lt 22, 3) := by decide +kernel
theorem dLhi_12 : decode jdk_35_method_24_code 12 = .ok (.lload_n 0, 1) := by decide +kernel
theorem dLhi_13 : decode jdk_35_method_24_code 13 = .ok (.ldc2_w 232, 3) := by decide +kernel
theorem dLhi_16 : decode jdk_35_method_24_code 16 = .ok (.lcmp, 1) := by decide +kernel
theorem dLhi_17 : decode jdk_35_method_24_code 17 = .ok (.ifCond .gt 14, 3) := by decide +kernel
theorem dLhi_31 : decode jdk_35_method_24_code 31 = .ok (.new 1, 3) := by decide +kernel
theorem dLhi_34 : decode jdk_35_method_24_code 34 = .ok (.dup, 1) := by decide +kernel
theorem dLhi_35 : decode jdk_35_method_24_code 35 = .ok (.lload_n 0, 1) := by decide +kernel
theorem dLhi_36 : decode jdk_35_method_24_code 36 = .ok (.invokespecial 240, 3) := by decide +kernel
theorem dLhi_39 : decode jdk_35_method_24_code 39 = .ok (.areturn, 1) := by decide +kernel
theorem pnLhi : plainName "java/lang/Long" = true := by first | (simp [plainName, overriddenIn]; done) | decide +kernel
theorem pdLhi_0 : parseMethodDescriptor "(J)V" = some ⟨[.long], none⟩ := by decide +kernel
theorem efLhi (m : MethodId) (q0 : Int64) : entryFrame m #[(.long q0)] 3 = mkF m 0 #[.val (.long q0), .second, .unset] [] := by first | (simp [entryFrame, mkF, argsToLocals, Value.category]; done) | rfl
def QLhi (Z : State) (q0 : Int64) (h0 : Heap) (n0 : Nat) (v : Option Value) (h : Heap) (L : List Loc) : Prop := ∃ (b6 : Addr), v = some (.ref b6) ∧ Fr n0 L ∧ Keep h0 h [] ∧ h0.size ≤ b6 ∧ Exa Z h b6 "java/lang/Long" ∧ Fld Z h b6 "java/lang/Long" "value" "J" (.long q0)
set_option maxRecDepth 65536 in
set_option maxHeartbeats 40000000 in
theorem rmLhi (l : Launch) (Z : State) (a0 : Array Value) (hw : ∀ d ∈ tables_1, d.before a0 Z = true) (ws : List Jvm.Cond) (q0 : Int64) (h0 : Heap) (n0 : Nat) (Z0 : n0 ≤ h0.size) (hlo : ¬ q0 < (-128 : Int64)) (hhi : (127 : Int64) < q0) :
    MetFree l (⟨"java/lang/Long", "valueOf", "(J)Ljava/lang/Long;"⟩ : MethodName) (head1 (Jvm.Cond.code (⟨"java/lang/Long", "valueOf", "(J)Ljava/lang/Long;"⟩ : MethodName) jdk_35_method_24_code 3 (some (.object "java/lang/Long")) :: ws) ({ frames := 3, cells := 1, slots := 1, locals := 39 } : Room)) (fun a U => a = #[(.long q0)] ∧ Z.Warmed39 U.vm ∧ U.heap = h0) (fun _ _ _ _ _ => True) (fun _ U o U' => ∃ v L, o = .returned v ∧ QLhi Z q0 h0 n0 v U'.heap L ∧ FrameEnd U o U' L ({ frames := 3, cells := 1, slots := 1, locals := 39 } : Room).cells ({ frames := 3, cells := 1, slots := 1, locals := 39 } : Room).slots) := by
  refine MetFree.of_bodySF (plainFor_of_name pnLhi) hisR ?_
  intro p e s m args below meth c s₁ Bd hml0 hP hK
  obtain ⟨rfl, hZ, hh⟩ := hP
  have hlk : meth.locks = false := BodyLoose.notSynchronized Bd
  have hx := Bd.exec
  have hby := Bd.bytes
  have hml : c.maxLocals = 3 := hml0
  have hown : s.vm.findClass "java/lang/Long" = some m.cls := findClass_of_methodNamed Bd.named
  have hnm := (name_of_methodNamed Bd.named Bd.method).1
  have X0 : Stand p l e ({ frames := 3, cells := 1, slots := 1, locals := 39 } : Room) s m #[(.long q0)] below meth c s₁ [] 0 0 := Stand.of_body Bd
  have e0 : s₁.heap = h0 := by rw [← hh, Bd.state]; rfl
  have N0 := Fr.nil n0
  obtain ⟨S0, hS0⟩ : ∃ S0, S0 = s₁.setTop (entryFrame m #[(.long q0)] 3) := ⟨_, rfl⟩
  have pre0 : ∀ t, Steps p.tables e below (s₁.setTop (mkF m 0 #[.val (.long q0), .second, .unset] [])) t → Steps p.tables e below S0 t := fun t k => by rw [hS0]; exact castTop (efLhi m q0) k
  have K1 : ∀ t, Steps p.tables e below (s₁.setTop (mkF m 9 #[.val (.long q0), .second, .val (.int (128 : Int32))] [(.int (lcmpW q0 (-128 : Int64)))])) t → Steps p.tables e below S0 t := fun t k => pre0 t (by
    refine XS.sipush X0.here hx rfl (hb hby dLhi_0) ?_
    show Steps p.tables e below (s₁.setTop (mkF m 3 #[.val (.long q0), .second, .unset] [(.int (128 : Int32))])) _
    refine XS.istoreN X0.here hx rfl (hb hby dLhi_3) rfl (l' := #[.val (.long q0), .second, .val (.int (128 : Int32))]) rfl ?_
    show Steps p.tables e below (s₁.setTop (mkF m 4 #[.val (.long q0), .second, .val (.int (128 : Int32))] [])) _
    refine XS.lloadN X0.here hx rfl (hb hby dLhi_4) rfl ?_
    show Steps p.tables e below (s₁.setTop (mkF m 5 #[.val (.long q0), .second, .val (.int (128 : Int32))] [(.long q0)])) _
    refine X0.ldc2Long hx hown (mvT hZ (hw _ (List.mem_of_getElem? (i := 27) rfl))) (g := (mkF m 5 #[.val (.long q0), .second, .val (.int (128 : Int32))] [(.long q0)])) rfl (hb hby dLhi_5) _ ?_
    show Steps p.tables e below (s₁.setTop (mkF m 8 #[.val (.long q0), .second, .val (.int (128 : Int32))] [(.long (-128 : Int64)), (.long q0)])) _
    refine XS.lcmp X0.here hx rfl (hb hby dLhi_8) rfl ?_
    show Steps p.tables e below (s₁.setTop (mkF m 9 #[.val (.long q0), .second, .val (.int (128 : Int32))] [(.int (lcmpW q0 (-128 : Int64)))])) _
    exact k)
  have hf2 : ¬ (q0 < (-128 : Int64)) := hlo
  have K3 : ∀ t, Steps p.tables e below (s₁.setTop (mkF m 17 #[.val (.long q0), .second, .val (.int (128 : Int32))] [(.int (lcmpW q0 (127 : Int64)))])) t → Steps p.tables e below S0 t := fun t k => K1 t (by
    refine XS.ifNo X0.here hx rfl (hb hby dLhi_9) rfl (XT.ll_lt_f hf2) ?_
    show Steps p.tables e below (s₁.setTop (mkF m 12 #[.val (.long q0), .second, .val (.int (128 : Int32))] [])) _
    refine XS.lloadN X0.here hx rfl (hb hby dLhi_12) rfl ?_
    show Steps p.tables e below (s₁.setTop (mkF m 13 #[.val (.long q0), .second, .val (.int (128 : Int32))] [(.long q0)])) _
    refine X0.ldc2Long hx hown (mvT hZ (hw _ (List.mem_of_getElem? (i := 28) rfl))) (g := (mkF m 13 #[.val (.long q0), .second, .val (.int (128 : Int32))] [(.long q0)])) rfl (hb hby dLhi_13) _ ?_
    show Steps p.tables e below (s₁.setTop (mkF m 16 #[.val (.long q0), .second, .val (.int (128 : Int32))] [(.long (127 : Int64)), (.long q0)])) _
    refine XS.lcmp X0.here hx rfl (hb hby dLhi_16) rfl ?_
    show Steps p.tables e below (s₁.setTop (mkF m 17 #[.val (.long q0), .second, .val (.int (128 : Int32))] [(.int (lcmpW q0 (127 : Int64)))])) _
    exact k)
  have hf4 : (127 : Int64) < q0 := hhi
  have K5 : ∀ t, Steps p.tables e below (s₁.setTop (mkF m 31 #[.val (.long q0), .second, .val (.int (128 : Int32))] [])) t → Steps p.tables e below S0 t := fun t k => K3 t (by
    refine XS.ifYes X0.here hx rfl (pc0 := 17) (pc' := 31) rfl (hb hby dLhi_17) rfl (XT.ll_gt_t hf4) (by decide) (by decide) ?_
    show Steps p.tables e below (s₁.setTop (mkF m 31 #[.val (.long q0), .second, .val (.int (128 : Int32))] [])) _
    exact k)
  obtain ⟨T6, h6, X6, e6, E6, A6, D6, -, st6⟩ := newO X0 hx hZ hown (hw _ (List.mem_of_getElem? (i := 29) rfl)) (hw _ (List.mem_of_getElem? (i := 30) rfl)) (hw _ (List.mem_of_getElem? (i := 25) rfl)) e0 (g := (mkF m 31 #[.val (.long q0), .second, .val (.int (128 : Int32))] [])) rfl (hb hby dLhi_31) (by decide) (by decide)
  obtain ⟨b6, g6⟩ : ∃ z, z = h0.size := ⟨_, rfl⟩
  rw [← g6] at A6 D6 st6
  have g_b6 : n0 ≤ b6 := Nat.le_trans Z0 (Nat.le_of_eq g6.symm)
  have Zs6 : n0 ≤ h6.size := Nat.le_trans Z0 E6.1
  have sz_b6 : h0.size ≤ b6 := Nat.le_trans (Keep.refl h0 []).1 (Nat.le_of_eq g6.symm)
  have Kc6 : Keep h0 h6 [] := (Keep.refl h0 []).ext E6
  have F_b6_value : Fld Z h6 b6 "java/lang/Long" "value" "J" (.long (0 : Int64)) := D6 (Or.inr (hw _ (List.mem_of_getElem? (i := 43) rfl))) (ty := .long) (by decide)
  have K6 : ∀ t, Steps p.tables e below (T6.setTop (mkF m 34 #[.val (.long q0), .second, .val (.int (128 : Int32))] [(.ref b6)])) t → Steps p.tables e below S0 t := fun t k => K5 t (st6 t k)
  have K7 : ∀ t, Steps p.tables e below (T6.setTop (mkF m 36 #[.val (.long q0), .second, .val (.int (128 : Int32))] [(.long q0), (.ref b6), (.ref b6)])) t → Steps p.tables e below S0 t := fun t k => K6 t (by
    refine XS.dup X6.here hx rfl (hb hby dLhi_34) rfl rfl ?_
    show Steps p.tables e below (T6.setTop (mkF m 35 #[.val (.long q0), .second, .val (.int (128 : Int32))] [(.ref b6), (.ref b6)])) _
    refine XS.lloadN X6.here hx rfl (hb hby dLhi_35) rfl ?_
    show Steps p.tables e below (T6.setTop (mkF m 36 #[.val (.long q0), .second, .val (.int (128 : Int32))] [(.long q0), (.ref b6), (.ref b6)])) _
    exact k)
  have K_8 : ∀ t, Steps p.tables e below (T6.setTop (mkF m 36 #[.val (.long q0), .second, .val (.int (128 : Int32))] [(.long q0), (.ref b6), (.ref b6)])) t → Steps p.tables e below S0 t := K7
  obtain ⟨_, _, ⟨T9, L9, k9, n9⟩, -, X9, ⟨Lc9, hQ9, l9, y9, z9⟩, st9⟩ := X6.specialBack hx (y := (⟨"java/lang/Long", "<init>", "(J)V"⟩ : MethodName)) rfl hown (mvT hZ (hw _ (List.mem_of_getElem? (i := 31) rfl))) (mvT hZ (hw _ (List.mem_of_getElem? (i := 32) rfl))) (mvT hZ (hw _ (List.mem_of_getElem? (i := 34) rfl))) (by decide) (backOf (W := 1) (rmLi l Z a0 hw [] b6 q0 h6 n0 Zs6 A6 F_b6_value g_b6) hZ (hw _ (List.mem_of_getElem? (i := 34) rfl)) (hw _ (List.mem_of_getElem? (i := 25) rfl)) (by decide) (by decide)) (g := (mkF m 36 #[.val (.long q0), .second, .val (.int (128 : Int32))] [(.long q0), (.ref b6), (.ref b6)])) rfl (by rw [hml]; rfl) (Steps.refl _) (a := b6) (argsL := [(.long q0)]) (rest := [(.ref b6)]) (lenOf pdLhi_0 rfl) rfl (by show 2 * 0 + _ ≤ _; exact Nat.le_of_eq rfl) (hb hby dLhi_36) (fun _ _ => ⟨rfl, e6, (by decide : 1 + 0 ≤ 1), (by decide : 1 + 0 ≤ 1)⟩)
  dsimp only [Pt.U, Pt.locs, Pt.cells, Pt.slots] at X9 l9 y9 z9 st9 hQ9
  subst l9 y9 z9
  obtain ⟨rfl, N9q, Kp9, Fn9_0, Fn9_1⟩ := hQ9
  have N9 := Fr.app N0 N9q
  have Zs9 : n0 ≤ T9.heap.size := Nat.le_trans Zs6 Kp9.1
  have Kc9 : Keep h0 T9.heap [] := Kc6.trans Kp9 (allS (P := fun x => x ∈ [] ∨ h0.size ≤ x) (Or.inr sz_b6) all0)
  have K9 : ∀ t, Steps p.tables e below (T9.setTop (mkF m 39 #[.val (.long q0), .second, .val (.int (128 : Int32))] [(.ref b6)])) t → Steps p.tables e below S0 t := fun t k => K_8 t (st9.trans k)
  obtain ⟨fs, hr, hrun, hended, hW, hsame⟩ := X9.leave (v := some (.ref b6)) (fun h => by rw [Bd.returns] at h; cases h) hlk
  refine ⟨_, _, ?_, hrun, hended, _, _, rfl, ?_, ⟨_, rfl⟩, hW, hsame.mono (by decide) (by decide)⟩
  · rw [← hS0]; exact K9 _ (retOut X9 hx Bd.returns rfl (Or.inr (Or.inr (Or.inr (Or.inr ⟨rfl, rfl, rfl⟩)))) (hb hby dLhi_39) hr)
  · show QLhi Z q0 h0 n0 _ T9.heap _
    exact ⟨b6, rfl, N9, Kc9, sz_b6, Fn9_0, Fn9_1⟩
theorem dLca_0 : decode jdk_35_method_24_code 0 = .ok (.sipush 128, 3) := by decide +kernel
theorem dLca_3 : decode jdk_35_method_24_code 3 = .ok (.istore_n 2, 1) := by decide +kernel
theorem dLca_4 : decode jdk_35_method_24_code 4 = .ok (.lload_n 0, 1) := by decide +kernel
theorem dLca_5 : decode jdk_35_method_24_code 5 = .ok (.ldc2_w 230, 3) := by decide +kernel
theorem dLca_8 : decode jdk_35_method_24_code 8 = .ok (.lcmp, 1) := by decide +kernel
theorem dLca_9 : decode jdk_35_method_24_code 9 = .ok (.ifCond .lt 22, 3) := by decide +kernel
theorem dLca_12 : decode jdk_35_method_24_code 12 = .ok (.lload_n 0, 1) := by decide +kernel
theorem dLca_13 : decode jdk_35_method_24_code 13 = .ok (.ldc2_w 232, 3) := by decide +kernel
theorem dLca_16 : decode jdk_35_method_24_code 16 = .ok (.lcmp, 1) := by decide +kernel
theorem dLca_17 : decode jdk_35_method_24_code 17 = .ok (.ifCond .gt 14, 3) := by decide +kernel
theorem dLca_20 : decode jdk_35_method_24_code 20 = .ok (.getstatic 234, 3) := by decide +kernel
theorem dLca_23 : decode jdk_35_method_24_code 23 = .ok (.lload_n 0, 1) := by decide +kernel
theorem dLca_24 : decode jdk_35_method_24_code 24 = .ok (.l2i, 1) := by decide +kernel
theorem dLca_25 : decode jdk_35_method_24_code 25 = .ok (.sipush 128, 3) := by decide +kernel
theorem dLca_28 : decode jdk_35_method_24_code 28 = .ok (.iadd, 1) := by decide +kernel
theorem dLca_29 : decode jdk_35_method_24_code 29 = .ok (.aaload, 1) := by decide +kernel
theorem dLca_30 : decode jdk_35_method_24_code 30 = .ok (.areturn, 1) := by decide +kernel
theorem pnLca : plainName "java/lang/Long" = true := by first | (simp [plainName, overriddenIn]; done) | decide +kernel
theorem efLca (m : MethodId) (q0 : Int64) : entryFrame m #[(.long q0)] 3 = mkF m 0 #[.val (.long q0), .second, .unset] [] := by first | (simp [entryFrame, mkF, argsToLocals, Value.category]; done) | rfl
def QLca (Z : State) (q0 : Int64) (oc : Addr) (cl : Cell) (oe : Addr) (h0 : Heap) (n0 : Nat) (v : Option Value) (h : Heap) (L : List Loc) : Prop := v = some (.ref oe) ∧ Fr n0 L ∧ h = h0
set_option maxRecDepth 65536 in
set_option maxHeartbeats 40000000 in
theorem rmLca (l : Launch) (Z : State) (a0 : Array Value) (hw : ∀ d ∈ tables_1, d.before a0 Z = true) (ws : List Jvm.Cond) (q0 : Int64) (oc : Addr) (cl : Cell) (oe : Addr) (h0 : Heap) (n0 : Nat) (Z0 : n0 ≤ h0.size) (S_Long_LongCache_cache : Sta Z h0 "java/lang/Long$LongCache" "cache" "[Ljava/lang/Long;" (.ref oc)) (Ar_oc : Arr Z h0 oc cl (.object "java/lang/Long")) (hlo : ¬ q0 < (-128 : Int64)) (hhi : ¬ (127 : Int64) < q0) (hin : ¬ (((q0.toInt32) + (128 : Int32)) < 0 ∨ cl.slots.size ≤ ((q0.toInt32) + (128 : Int32)).toNatClampNeg)) (hat : cl.slots[((q0.toInt32) + (128 : Int32)).toNatClampNeg]? = some (.ref oe)) :
    MetFree l (⟨"java/lang/Long", "valueOf", "(J)Ljava/lang/Long;"⟩ : MethodName) (head1 (Jvm.Cond.code (⟨"java/lang/Long", "valueOf", "(J)Ljava/lang/Long;"⟩ : MethodName) jdk_35_method_24_code 3 (some (.object "java/lang/Long")) :: ws) ({ frames := 0, cells := 0, slots := 0, locals := 0 } : Room)) (fun a U => a = #[(.long q0)] ∧ Z.Warmed39 U.vm ∧ U.heap = h0) (fun _ _ _ _ _ => True) (fun _ U o U' => ∃ v L, o = .returned v ∧ QLca Z q0 oc cl oe h0 n0 v U'.heap L ∧ FrameEnd U o U' L ({ frames := 0, cells := 0, slots := 0, locals := 0 } : Room).cells ({ frames := 0, cells := 0, slots := 0, locals := 0 } : Room).slots) := by
  refine MetFree.of_bodySF (plainFor_of_name pnLca) hisR ?_
  intro p e s m args below meth c s₁ Bd hml0 hP hK
  obtain ⟨rfl, hZ, hh⟩ := hP
  have hlk : meth.locks = false := BodyLoose.notSynchronized Bd
  have hx := Bd.exec
  have hby := Bd.bytes
  have hml : c.maxLocals = 3 := hml0
  have hown : s.vm.findClass "java/lang/Long" = some m.cls := findClass_of_methodNamed Bd.named
  have hnm := (name_of_methodNamed Bd.named Bd.method).1
  have X0 : Stand p l e ({ frames := 0, cells := 0, slots := 0, locals := 0 } : Room) s m #[(.long q0)] below meth c s₁ [] 0 0 := Stand.of_body Bd
  have e0 : s₁.heap = h0 := by rw [← hh, Bd.state]; rfl
  have N0 := Fr.nil n0
  obtain ⟨S0, hS0⟩ : ∃ S0, S0 = s₁.setTop (entryFrame m #[(.long q0)] 3) := ⟨_, rfl⟩
  have pre0 : ∀ t, Steps p.tables e below (s₁.setTop (mkF m 0 #[.val (.long q0), .second, .unset] [])) t → Steps p.tables e below S0 t := fun t k => by rw [hS0]; exact castTop (efLca m q0) k
  have K1 : ∀ t, Steps p.tables e below (s₁.setTop (mkF m 9 #[.val (.long q0), .second, .val (.int (128 : Int32))] [(.int (lcmpW q0 (-128 : Int64)))])) t → Steps p.tables e below S0 t := fun t k => pre0 t (by
    refine XS.sipush X0.here hx rfl (hb hby dLca_0) ?_
    show Steps p.tables e below (s₁.setTop (mkF m 3 #[.val (.long q0), .second, .unset] [(.int (128 : Int32))])) _
    refine XS.istoreN X0.here hx rfl (hb hby dLca_3) rfl (l' := #[.val (.long q0), .second, .val (.int (128 : Int32))]) rfl ?_
    show Steps p.tables e below (s₁.setTop (mkF m 4 #[.val (.long q0), .second, .val (.int (128 : Int32))] [])) _
    refine XS.lloadN X0.here hx rfl (hb hby dLca_4) rfl ?_
    show Steps p.tables e below (s₁.setTop (mkF m 5 #[.val (.long q0), .second, .val (.int (128 : Int32))] [(.long q0)])) _
    refine X0.ldc2Long hx hown (mvT hZ (hw _ (List.mem_of_getElem? (i := 27) rfl))) (g := (mkF m 5 #[.val (.long q0), .second, .val (.int (128 : Int32))] [(.long q0)])) rfl (hb hby dLca_5) _ ?_
    show Steps p.tables e below (s₁.setTop (mkF m 8 #[.val (.long q0), .second, .val (.int (128 : Int32))] [(.long (-128 : Int64)), (.long q0)])) _
    refine XS.lcmp X0.here hx rfl (hb hby dLca_8) rfl ?_
    show Steps p.tables e below (s₁.setTop (mkF m 9 #[.val (.long q0), .second, .val (.int (128 : Int32))] [(.int (lcmpW q0 (-128 : Int64)))])) _
    exact k)
  have hf2 : ¬ (q0 < (-128 : Int64)) := hlo
  have K3 : ∀ t, Steps p.tables e below (s₁.setTop (mkF m 17 #[.val (.long q0), .second, .val (.int (128 : Int32))] [(.int (lcmpW q0 (127 : Int64)))])) t → Steps p.tables e below S0 t := fun t k => K1 t (by
    refine XS.ifNo X0.here hx rfl (hb hby dLca_9) rfl (XT.ll_lt_f hf2) ?_
    show Steps p.tables e below (s₁.setTop (mkF m 12 #[.val (.long q0), .second, .val (.int (128 : Int32))] [])) _
    refine XS.lloadN X0.here hx rfl (hb hby dLca_12) rfl ?_
    show Steps p.tables e below (s₁.setTop (mkF m 13 #[.val (.long q0), .second, .val (.int (128 : Int32))] [(.long q0)])) _
    refine X0.ldc2Long hx hown (mvT hZ (hw _ (List.mem_of_getElem? (i := 28) rfl))) (g := (mkF m 13 #[.val (.long q0), .second, .val (.int (128 : Int32))] [(.long q0)])) rfl (hb hby dLca_13) _ ?_
    show Steps p.tables e below (s₁.setTop (mkF m 16 #[.val (.long q0), .second, .val (.int (128 : Int32))] [(.long (127 : Int64)), (.long q0)])) _
    refine XS.lcmp X0.here hx rfl (hb hby dLca_16) rfl ?_
    show Steps p.tables e below (s₁.setTop (mkF m 17 #[.val (.long q0), .second, .val (.int (128 : Int32))] [(.int (lcmpW q0 (127 : Int64)))])) _
    exact k)
  have hf4 : ¬ ((127 : Int64) < q0) := hhi
  have K5 : ∀ t, Steps p.tables e below (s₁.setTop (mkF m 20 #[.val (.long q0), .second, .val (.int (128 : Int32))] [])) t → Steps p.tables e below S0 t := fun t k => K3 t (by
    refine XS.ifNo X0.here hx rfl (hb hby dLca_17) rfl (XT.ll_gt_f hf4) ?_
    show Steps p.tables e below (s₁.setTop (mkF m 20 #[.val (.long q0), .second, .val (.int (128 : Int32))] [])) _
    exact k)
  obtain ⟨T6, X6, e6, st6⟩ := getS2 X0 hx hZ hown (host := "") (Or.inl (hw _ (List.mem_of_getElem? (i := 47) rfl))) Via.refl e0 S_Long_LongCache_cache (g := (mkF m 20 #[.val (.long q0), .second, .val (.int (128 : Int32))] [])) rfl (hb hby dLca_20)
  have K6 : ∀ t, Steps p.tables e below (T6.setTop (mkF m 23 #[.val (.long q0), .second, .val (.int (128 : Int32))] [(.ref oc)])) t → Steps p.tables e below S0 t := fun t k => K5 t (st6 t k)
  have K7 : ∀ t, Steps p.tables e below (T6.setTop (mkF m 29 #[.val (.long q0), .second, .val (.int (128 : Int32))] [(.int ((q0.toInt32) + (128 : Int32))), (.ref oc)])) t → Steps p.tables e below S0 t := fun t k => K6 t (by
    refine XS.lloadN X6.here hx rfl (hb hby dLca_23) rfl ?_
    show Steps p.tables e below (T6.setTop (mkF m 24 #[.val (.long q0), .second, .val (.int (128 : Int32))] [(.long q0), (.ref oc)])) _
    refine XS.l2i X6.here hx rfl (hb hby dLca_24) rfl ?_
    show Steps p.tables e below (T6.setTop (mkF m 25 #[.val (.long q0), .second, .val (.int (128 : Int32))] [(.int (q0.toInt32)), (.ref oc)])) _
    refine XS.sipush X6.here hx rfl (hb hby dLca_25) ?_
    show Steps p.tables e below (T6.setTop (mkF m 28 #[.val (.long q0), .second, .val (.int (128 : Int32))] [(.int (128 : Int32)), (.int (q0.toInt32)), (.ref oc)])) _
    refine XS.iadd X6.here hx rfl (hb hby dLca_28) rfl ?_
    show Steps p.tables e below (T6.setTop (mkF m 29 #[.val (.long q0), .second, .val (.int (128 : Int32))] [(.int ((q0.toInt32) + (128 : Int32))), (.ref oc)])) _
    exact k)
  have K_8 : ∀ t, Steps p.tables e below (T6.setTop (mkF m 29 #[.val (.long q0), .second, .val (.int (128 : Int32))] [(.int ((q0.toInt32) + (128 : Int32))), (.ref oc)])) t → Steps p.tables e below S0 t := K7
  have K9 : ∀ t, Steps p.tables e below (T6.setTop (mkF m 30 #[.val (.long q0), .second, .val (.int (128 : Int32))] [(.ref oe)])) t → Steps p.tables e below S0 t := fun t k => K_8 t (X6.aaload hx (j := ((q0.toInt32) + (128 : Int32))) (v := (.ref oe)) (by rw [e6]; exact Ar_oc.1) (State.isArrayOf_alike hZ.alike Ar_oc.2.1) rfl Ar_oc.2.2 hin hat (g := (mkF m 29 #[.val (.long q0), .second, .val (.int (128 : Int32))] [(.int ((q0.toInt32) + (128 : Int32))), (.ref oc)])) rfl rfl (hb hby dLca_29) _ k)
  obtain ⟨fs, hr, hrun, hended, hW, hsame⟩ := X6.leave (v := some (.ref oe)) (fun h => by rw [Bd.returns] at h; cases h) hlk
  refine ⟨_, _, ?_, hrun, hended, _, _, rfl, ?_, ⟨_, rfl⟩, hW, hsame.mono (by decide) (by decide)⟩
  · rw [← hS0]; exact K9 _ (retOut X6 hx Bd.returns rfl (Or.inr (Or.inr (Or.inr (Or.inr ⟨rfl, rfl, rfl⟩)))) (hb hby dLca_30) hr)
  · show QLca Z q0 oc cl oe h0 n0 _ T6.heap _
    rw [e6]
    exact ⟨rfl, N0, rfl⟩
theorem pn0 : plainName "com/example/rota/rota/agent/TokenUsageEqualsPinLaw" = true := by first | (simp [plainName, overriddenIn]; done) | decide +kernel
theorem pd0_0 : parseMethodDescriptor "(JJJ)V" = some ⟨[.long, .long, .long], none⟩ := by decide +kernel
theorem pd0_1 : parseMethodDescriptor "(Ljava/lang/Object;)Z" = some ⟨[(.object "java/lang/Object")], some .boolean⟩ := by decide +kernel
theorem pd0_2 : parseMethodDescriptor "(J)Ljava/lang/Long;" = some ⟨[.long], some (.object "java/lang/Long")⟩ := by decide +kernel
theorem ef0 (m : MethodId) (q0 : Int64) (q1 : Int64) (q2 : Int64) (q3 : Int64) (q4 : Int64) (q5 : Int64) : entryFrame m #[(.long q0), (.long q1), (.long q2), (.long q3), (.long q4), (.long q5)] maxLocals = mkF m 0 #[.val (.long q0), .second, .val (.long q1), .second, .val (.long q2), .second, .val (.long q3), .second, .val (.long q4), .second, .val (.long q5), .second, .unset, .unset, .unset, .unset, .unset, .unset] [] := by first | (simp [entryFrame, mkF, argsToLocals, Value.category, maxLocals]; done) | rfl
def Q0 (Z : State) (q0 : Int64) (q1 : Int64) (q2 : Int64) (q3 : Int64) (q4 : Int64) (q5 : Int64) (oc : Addr) (cc : Cell) (h0 : Heap) (n0 : Nat) (v : Option Value) (h : Heap) (L : List Loc) : Prop := v = some (.int (w0_r5 q0 q1 q2 q3 q4 q5)) ∧ Fr n0 L
set_option maxRecDepth 65536 in
set_option maxHeartbeats 40000000 in
theorem rm0 (l : Launch) (Z : State) (a0 : Array Value) (hw : ∀ d ∈ tables_1, d.before a0 Z = true) (ws : List Jvm.Cond) (q0 : Int64) (q1 : Int64) (q2 : Int64) (q3 : Int64) (q4 : Int64) (q5 : Int64) (oc : Addr) (cc : Cell) (h0 : Heap) (n0 : Nat) (Z0 : n0 ≤ h0.size) (S_Long_LongCache_cache : Sta Z Z.heap "java/lang/Long$LongCache" "cache" "[Ljava/lang/Long;" (.ref oc)) (Ar_oc : Arr Z Z.heap oc cc (.object "java/lang/Long")) (hcache : ∀ x : Int64, ¬ x < (-128 : Int64) → ¬ (127 : Int64) < x → ∃ oe : Addr, ¬ (((x.toInt32) + (128 : Int32)) < 0 ∨ cc.slots.size ≤ ((x.toInt32) + (128 : Int32)).toNatClampNeg) ∧ cc.slots[((x.toInt32) + (128 : Int32)).toNatClampNeg]? = some (.ref oe) ∧ Exa Z Z.heap oe "java/lang/Long") (OL0 : Old Z n0 h0) :
    MetFree l x (head1 (Jvm.Cond.code x code maxLocals ret :: ws) room_1) (fun a U => a = #[(.long q0), (.long q1), (.long q2), (.long q3), (.long q4), (.long q5)] ∧ Z.Warmed39 U.vm ∧ U.heap = h0) (fun _ _ _ _ _ => True) (fun _ U o U' => ∃ v L, o = .returned v ∧ Q0 Z q0 q1 q2 q3 q4 q5 oc cc h0 n0 v U'.heap L ∧ FrameEnd U o U' L 3 7) := by
  refine MetFree.of_bodySF (plainFor_of_name pn0) hisR ?_
  intro p e s m args below meth c s₁ Bd hml0 hP hK
  obtain ⟨rfl, hZ, hh⟩ := hP
  have hlk : meth.locks = false := BodyLoose.notSynchronized Bd
  have hx := Bd.exec
  have hby := Bd.bytes
  have hml : c.maxLocals = 18 := hml0
  have hown : s.vm.findClass "com/example/rota/rota/agent/TokenUsageEqualsPinLaw" = some m.cls := findClass_of_methodNamed Bd.named
  have hnm := (name_of_methodNamed Bd.named Bd.method).1
  have X0 : Stand p l e room_1 s m #[(.long q0), (.long q1), (.long q2), (.long q3), (.long q4), (.long q5)] below meth c s₁ [] 0 0 := Stand.of_body Bd
  have e0 : s₁.heap = h0 := by rw [← hh, Bd.state]; rfl
  have N0 := Fr.nil n0
  obtain ⟨S0, hS0⟩ : ∃ S0, S0 = s₁.setTop (entryFrame m #[(.long q0), (.long q1), (.long q2), (.long q3), (.long q4), (.long q5)] maxLocals) := ⟨_, rfl⟩
  have pre0 : ∀ t, Steps p.tables e below (s₁.setTop (mkF m 0 #[.val (.long q0), .second, .val (.long q1), .second, .val (.long q2), .second, .val (.long q3), .second, .val (.long q4), .second, .val (.long q5), .second, .unset, .unset, .unset, .unset, .unset, .unset] [])) t → Steps p.tables e below S0 t := fun t k => by rw [hS0]; exact castTop (ef0 m q0 q1 q2 q3 q4 q5) k
  have S_Long_LongCache_cache__0 := S_Long_LongCache_cache.ext OL0.2
  have Ar_oc__0 := Ar_oc.ext OL0.2
  have K1 : ∀ t, Steps p.tables e below (s₁.setTop (mkF m 15 #[.val (.long q0), .second, .val (.long q1), .second, .val (.long q2), .second, .val (.long q3), .second, .val (.long q4), .second, .val (.long q5), .second, .val (.long (q5 >>> ((2 : Int32) &&& 0x3f).toInt64)), .second, .val (.int ((q5 &&& (3 : Int64)).toInt32)), .unset, .unset, .unset] [])) t → Steps p.tables e below S0 t := fun t k => pre0 t (by
    refine XS.lload X0.here hx rfl (hb hby at_0) rfl ?_
    show Steps p.tables e below (s₁.setTop (mkF m 2 #[.val (.long q0), .second, .val (.long q1), .second, .val (.long q2), .second, .val (.long q3), .second, .val (.long q4), .second, .val (.long q5), .second, .unset, .unset, .unset, .unset, .unset, .unset] [(.long q5)])) _
    refine XS.iconst X0.here hx rfl (hb hby at_2) ?_
    show Steps p.tables e below (s₁.setTop (mkF m 3 #[.val (.long q0), .second, .val (.long q1), .second, .val (.long q2), .second, .val (.long q3), .second, .val (.long q4), .second, .val (.long q5), .second, .unset, .unset, .unset, .unset, .unset, .unset] [(.int (2 : Int32)), (.long q5)])) _
    refine XS.lshr X0.here hx rfl (hb hby at_3) rfl ?_
    show Steps p.tables e below (s₁.setTop (mkF m 4 #[.val (.long q0), .second, .val (.long q1), .second, .val (.long q2), .second, .val (.long q3), .second, .val (.long q4), .second, .val (.long q5), .second, .unset, .unset, .unset, .unset, .unset, .unset] [(.long (q5 >>> ((2 : Int32) &&& 0x3f).toInt64))])) _
    refine XS.lstore X0.here hx rfl (hb hby at_4) rfl (l' := #[.val (.long q0), .second, .val (.long q1), .second, .val (.long q2), .second, .val (.long q3), .second, .val (.long q4), .second, .val (.long q5), .second, .val (.long (q5 >>> ((2 : Int32) &&& 0x3f).toInt64)), .second, .unset, .unset, .unset, .unset]) rfl ?_
    show Steps p.tables e below (s₁.setTop (mkF m 6 #[.val (.long q0), .second, .val (.long q1), .second, .val (.long q2), .second, .val (.long q3), .second, .val (.long q4), .second, .val (.long q5), .second, .val (.long (q5 >>> ((2 : Int32) &&& 0x3f).toInt64)), .second, .unset, .unset, .unset, .unset] [])) _
    refine XS.lload X0.here hx rfl (hb hby at_6) rfl ?_
    show Steps p.tables e below (s₁.setTop (mkF m 8 #[.val (.long q0), .second, .val (.long q1), .second, .val (.long q2), .second, .val (.long q3), .second, .val (.long q4), .second, .val (.long q5), .second, .val (.long (q5 >>> ((2 : Int32) &&& 0x3f).toInt64)), .second, .unset, .unset, .unset, .unset] [(.long q5)])) _
    refine X0.ldc2Long hx hown (mvT hZ (hw _ (List.mem_of_getElem? (i := 0) rfl))) (g := (mkF m 8 #[.val (.long q0), .second, .val (.long q1), .second, .val (.long q2), .second, .val (.long q3), .second, .val (.long q4), .second, .val (.long q5), .second, .val (.long (q5 >>> ((2 : Int32) &&& 0x3f).toInt64)), .second, .unset, .unset, .unset, .unset] [(.long q5)])) rfl (hb hby at_8) _ ?_
    show Steps p.tables e below (s₁.setTop (mkF m 11 #[.val (.long q0), .second, .val (.long q1), .second, .val (.long q2), .second, .val (.long q3), .second, .val (.long q4), .second, .val (.long q5), .second, .val (.long (q5 >>> ((2 : Int32) &&& 0x3f).toInt64)), .second, .unset, .unset, .unset, .unset] [(.long (3 : Int64)), (.long q5)])) _
    refine XS.land X0.here hx rfl (hb hby at_11) rfl ?_
    show Steps p.tables e below (s₁.setTop (mkF m 12 #[.val (.long q0), .second, .val (.long q1), .second, .val (.long q2), .second, .val (.long q3), .second, .val (.long q4), .second, .val (.long q5), .second, .val (.long (q5 >>> ((2 : Int32) &&& 0x3f).toInt64)), .second, .unset, .unset, .unset, .unset] [(.long (q5 &&& (3 : Int64)))])) _
    refine XS.l2i X0.here hx rfl (hb hby at_12) rfl ?_
    show Steps p.tables e below (s₁.setTop (mkF m 13 #[.val (.long q0), .second, .val (.long q1), .second, .val (.long q2), .second, .val (.long q3), .second, .val (.long q4), .second, .val (.long q5), .second, .val (.long (q5 >>> ((2 : Int32) &&& 0x3f).toInt64)), .second, .unset, .unset, .unset, .unset] [(.int ((q5 &&& (3 : Int64)).toInt32))])) _
    refine XS.istore X0.here hx rfl (hb hby at_13) rfl (l' := #[.val (.long q0), .second, .val (.long q1), .second, .val (.long q2), .second, .val (.long q3), .second, .val (.long q4), .second, .val (.long q5), .second, .val (.long (q5 >>> ((2 : Int32) &&& 0x3f).toInt64)), .second, .val (.int ((q5 &&& (3 : Int64)).toInt32)), .unset, .unset, .unset]) rfl ?_
    show Steps p.tables e below (s₁.setTop (mkF m 15 #[.val (.long q0), .second, .val (.long q1), .second, .val (.long q2), .second, .val (.long q3), .second, .val (.long q4), .second, .val (.long q5), .second, .val (.long (q5 >>> ((2 : Int32) &&& 0x3f).toInt64)), .second, .val (.int ((q5 &&& (3 : Int64)).toInt32)), .unset, .unset, .unset] [])) _
    exact k)
  obtain ⟨T2, h2, X2, e2, E2, A2, D2, -, st2⟩ := newO X0 hx hZ hown (hw _ (List.mem_of_getElem? (i := 1) rfl)) (hw _ (List.mem_of_getElem? (i := 2) rfl)) (hw _ (List.mem_of_getElem? (i := 3) rfl)) e0 (g := (mkF m 15 #[.val (.long q0), .second, .val (.long q1), .second, .val (.long q2), .second, .val (.long q3), .second, .val (.long q4), .second, .val (.long q5), .second, .val (.long (q5 >>> ((2 : Int32) &&& 0x3f).toInt64)), .second, .val (.int ((q5 &&& (3 : Int64)).toInt32)), .unset, .unset, .unset] [])) rfl (hb hby at_15) (by decide) (by decide)
  obtain ⟨b2, g2⟩ : ∃ z, z = h0.size := ⟨_, rfl⟩
  rw [← g2] at A2 D2 st2
  have ne_oc_b2 : oc ≠ b2 := Nat.ne_of_lt (Nat.lt_of_lt_of_le Ar_oc__0.lt (Nat.le_of_eq g2.symm))
  have OL2 := OL0.ext E2
  have S_Long_LongCache_cache__2 := S_Long_LongCache_cache.ext OL2.2
  have Ar_oc__2 := Ar_oc.ext OL2.2
  have g_b2 : n0 ≤ b2 := Nat.le_trans Z0 (Nat.le_of_eq g2.symm)
  have Zs2 : n0 ≤ h2.size := Nat.le_trans Z0 E2.1
  have F_b2_input : Fld Z h2 b2 "com/example/rota/rota/agent/TokenUsage" "input" "J" (.long (0 : Int64)) := D2 (Or.inr (hw _ (List.mem_of_getElem? (i := 11) rfl))) (ty := .long) (by decide)
  have F_b2_output : Fld Z h2 b2 "com/example/rota/rota/agent/TokenUsage" "output" "J" (.long (0 : Int64)) := D2 (Or.inr (hw _ (List.mem_of_getElem? (i := 13) rfl))) (ty := .long) (by decide)
  have F_b2_total : Fld Z h2 b2 "com/example/rota/rota/agent/TokenUsage" "total" "J" (.long (0 : Int64)) := D2 (Or.inr (hw _ (List.mem_of_getElem? (i := 15) rfl))) (ty := .long) (by decide)
  have K2 : ∀ t, Steps p.tables e below (T2.setTop (mkF m 18 #[.val (.long q0), .second, .val (.long q1), .second, .val (.long q2), .second, .val (.long q3), .second, .val (.long q4), .second, .val (.long q5), .second, .val (.long (q5 >>> ((2 : Int32) &&& 0x3f).toInt64)), .second, .val (.int ((q5 &&& (3 : Int64)).toInt32)), .unset, .unset, .unset] [(.ref b2)])) t → Steps p.tables e below S0 t := fun t k => K1 t (st2 t k)
  have K3 : ∀ t, Steps p.tables e below (T2.setTop (mkF m 23 #[.val (.long q0), .second, .val (.long q1), .second, .val (.long q2), .second, .val (.long q3), .second, .val (.long q4), .second, .val (.long q5), .second, .val (.long (q5 >>> ((2 : Int32) &&& 0x3f).toInt64)), .second, .val (.int ((q5 &&& (3 : Int64)).toInt32)), .unset, .unset, .unset] [(.long q2), (.long q1), (.long q0), (.ref b2), (.ref b2)])) t → Steps p.tables e below S0 t := fun t k => K2 t (by
    refine XS.dup X2.here hx rfl (hb hby at_18) rfl rfl ?_
    show Steps p.tables e below (T2.setTop (mkF m 19 #[.val (.long q0), .second, .val (.long q1), .second, .val (.long q2), .second, .val (.long q3), .second, .val (.long q4), .second, .val (.long q5), .second, .val (.long (q5 >>> ((2 : Int32) &&& 0x3f).toInt64)), .second, .val (.int ((q5 &&& (3 : Int64)).toInt32)), .unset, .unset, .unset] [(.ref b2), (.ref b2)])) _
    refine XS.lloadN X2.here hx rfl (hb hby at_19) rfl ?_
    show Steps p.tables e below (T2.setTop (mkF m 20 #[.val (.long q0), .second, .val (.long q1), .second, .val (.long q2), .second, .val (.long q3), .second, .val (.long q4), .second, .val (.long q5), .second, .val (.long (q5 >>> ((2 : Int32) &&& 0x3f).toInt64)), .second, .val (.int ((q5 &&& (3 : Int64)).toInt32)), .unset, .unset, .unset] [(.long q0), (.ref b2), (.ref b2)])) _
    refine XS.lloadN X2.here hx rfl (hb hby at_20) rfl ?_
    show Steps p.tables e below (T2.setTop (mkF m 21 #[.val (.long q0), .second, .val (.long q1), .second, .val (.long q2), .second, .val (.long q3), .second, .val (.long q4), .second, .val (.long q5), .second, .val (.long (q5 >>> ((2 : Int32) &&& 0x3f).toInt64)), .second, .val (.int ((q5 &&& (3 : Int64)).toInt32)), .unset, .unset, .unset] [(.long q1), (.long q0), (.ref b2), (.ref b2)])) _
    refine XS.lload X2.here hx rfl (hb hby at_21) rfl ?_
    show Steps p.tables e below (T2.setTop (mkF m 23 #[.val (.long q0), .second, .val (.long q1), .second, .val (.long q2), .second, .val (.long q3), .second, .val (.long q4), .second, .val (.long q5), .second, .val (.long (q5 >>> ((2 : Int32) &&& 0x3f).toInt64)), .second, .val (.int ((q5 &&& (3 : Int64)).toInt32)), .unset, .unset, .unset] [(.long q2), (.long q1), (.long q0), (.ref b2), (.ref b2)])) _
    exact k)
  have K_4 : ∀ t, Steps p.tables e below (T2.setTop (mkF m 23 #[.val (.long q0), .second, .val (.long q1), .second, .val (.long q2), .second, .val (.long q3), .second, .val (.long q4), .second, .val (.long q5), .second, .val (.long (q5 >>> ((2 : Int32) &&& 0x3f).toInt64)), .second, .val (.int ((q5 &&& (3 : Int64)).toInt32)), .unset, .unset, .unset] [(.long q2), (.long q1), (.long q0), (.ref b2), (.ref b2)])) t → Steps p.tables e below S0 t := K3
  obtain ⟨_, _, ⟨T5, L5, k5, n5⟩, -, X5, ⟨Lc5, hQ5, l5, y5, z5⟩, st5⟩ := X2.specialBack hx (y := (⟨"com/example/rota/rota/agent/TokenUsage", "<init>", "(JJJ)V"⟩ : MethodName)) rfl hown (mvT hZ (hw _ (List.mem_of_getElem? (i := 4) rfl))) (mvT hZ (hw _ (List.mem_of_getElem? (i := 5) rfl))) (mvT hZ (hw _ (List.mem_of_getElem? (i := 6) rfl))) (by decide) (backOf (W := 1) (rm1 l Z a0 hw [] b2 q0 q1 q2 h2 n0 Zs2 A2 F_b2_input F_b2_output F_b2_total g_b2) hZ (hw _ (List.mem_of_getElem? (i := 6) rfl)) (hw _ (List.mem_of_getElem? (i := 3) rfl)) (by decide) (by decide)) (g := (mkF m 23 #[.val (.long q0), .second, .val (.long q1), .second, .val (.long q2), .second, .val (.long q3), .second, .val (.long q4), .second, .val (.long q5), .second, .val (.long (q5 >>> ((2 : Int32) &&& 0x3f).toInt64)), .second, .val (.int ((q5 &&& (3 : Int64)).toInt32)), .unset, .unset, .unset] [(.long q2), (.long q1), (.long q0), (.ref b2), (.ref b2)])) rfl (by rw [hml]; rfl) (Steps.refl _) (a := b2) (argsL := [(.long q0), (.long q1), (.long q2)]) (rest := [(.ref b2)]) (lenOf pd0_0 rfl) rfl (by show 2 * 0 + _ ≤ _; exact Nat.le_of_eq rfl) (hb hby at_23) (fun _ _ => ⟨rfl, e2, (by decide : 1 + 0 ≤ 16), (by decide : 3 + 0 ≤ 128)⟩)
  dsimp only [Pt.U, Pt.locs, Pt.cells, Pt.slots] at X5 l5 y5 z5 st5 hQ5
  subst l5 y5 z5
  obtain ⟨rfl, N5q, Kp5, Fn5_0, Fn5_1, Fn5_2, Fn5_3⟩ := hQ5
  have N5 := Fr.app N0 N5q
  have OL5 := OL2.keep Kp5 (allS (P := fun x => n0 ≤ x) g_b2 all0)
  have S_Long_LongCache_cache__5 := S_Long_LongCache_cache.ext OL5.2
  have Ar_oc__5 := Ar_oc.ext OL5.2
  have Zs5 : n0 ≤ T5.heap.size := Nat.le_trans Zs2 Kp5.1
  have K5 : ∀ t, Steps p.tables e below (T5.setTop (mkF m 26 #[.val (.long q0), .second, .val (.long q1), .second, .val (.long q2), .second, .val (.long q3), .second, .val (.long q4), .second, .val (.long q5), .second, .val (.long (q5 >>> ((2 : Int32) &&& 0x3f).toInt64)), .second, .val (.int ((q5 &&& (3 : Int64)).toInt32)), .unset, .unset, .unset] [(.ref b2)])) t → Steps p.tables e below S0 t := fun t k => K_4 t (st5.trans k)
  have K6 : ∀ t, Steps p.tables e below (T5.setTop (mkF m 28 #[.val (.long q0), .second, .val (.long q1), .second, .val (.long q2), .second, .val (.long q3), .second, .val (.long q4), .second, .val (.long q5), .second, .val (.long (q5 >>> ((2 : Int32) &&& 0x3f).toInt64)), .second, .val (.int ((q5 &&& (3 : Int64)).toInt32)), .val (.ref b2), .unset, .unset] [])) t → Steps p.tables e below S0 t := fun t k => K5 t (by
    refine XS.astore X5.here hx rfl (hb hby at_26) rfl rfl (l' := #[.val (.long q0), .second, .val (.long q1), .second, .val (.long q2), .second, .val (.long q3), .second, .val (.long q4), .second, .val (.long q5), .second, .val (.long (q5 >>> ((2 : Int32) &&& 0x3f).toInt64)), .second, .val (.int ((q5 &&& (3 : Int64)).toInt32)), .val (.ref b2), .unset, .unset]) rfl ?_
    show Steps p.tables e below (T5.setTop (mkF m 28 #[.val (.long q0), .second, .val (.long q1), .second, .val (.long q2), .second, .val (.long q3), .second, .val (.long q4), .second, .val (.long q5), .second, .val (.long (q5 >>> ((2 : Int32) &&& 0x3f).toInt64)), .second, .val (.int ((q5 &&& (3 : Int64)).toInt32)), .val (.ref b2), .unset, .unset] [])) _
    exact k)
  obtain ⟨T7, h7, X7, e7, E7, A7, D7, -, st7⟩ := newO X5 hx hZ hown (hw _ (List.mem_of_getElem? (i := 1) rfl)) (hw _ (List.mem_of_getElem? (i := 2) rfl)) (hw _ (List.mem_of_getElem? (i := 3) rfl)) rfl (g := (mkF m 28 #[.val (.long q0), .second, .val (.long q1), .second, .val (.long q2), .second, .val (.long q3), .second, .val (.long q4), .second, .val (.long q5), .second, .val (.long (q5 >>> ((2 : Int32) &&& 0x3f).toInt64)), .second, .val (.int ((q5 &&& (3 : Int64)).toInt32)), .val (.ref b2), .unset, .unset] [])) rfl (hb hby at_28) (by decide) (by decide)
  obtain ⟨b7, g7⟩ : ∃ z, z = T5.heap.size := ⟨_, rfl⟩
  rw [← g7] at A7 D7 st7
  have ne_oc_b7 : oc ≠ b7 := Nat.ne_of_lt (Nat.lt_of_lt_of_le Ar_oc__5.lt (Nat.le_of_eq g7.symm))
  have ne_b2_b7 : b2 ≠ b7 := Nat.ne_of_lt (Nat.lt_of_lt_of_le Fn5_0.lt (Nat.le_of_eq g7.symm))
  have OL7 := OL5.ext E7
  have S_Long_LongCache_cache__7 := S_Long_LongCache_cache.ext OL7.2
  have Ar_oc__7 := Ar_oc.ext OL7.2
  have Fn5_0__7 := Fn5_0.ext E7
  have Fn5_1__7 := Fn5_1.ext E7
  have Fn5_2__7 := Fn5_2.ext E7
  have Fn5_3__7 := Fn5_3.ext E7
  have g_b7 : n0 ≤ b7 := Nat.le_trans Zs5 (Nat.le_of_eq g7.symm)
  have Zs7 : n0 ≤ h7.size := Nat.le_trans Zs5 E7.1
  have F_b7_input : Fld Z h7 b7 "com/example/rota/rota/agent/TokenUsage" "input" "J" (.long (0 : Int64)) := D7 (Or.inr (hw _ (List.mem_of_getElem? (i := 11) rfl))) (ty := .long) (by decide)
  have F_b7_output : Fld Z h7 b7 "com/example/rota/rota/agent/TokenUsage" "output" "J" (.long (0 : Int64)) := D7 (Or.inr (hw _ (List.mem_of_getElem? (i := 13) rfl))) (ty := .long) (by decide)
  have F_b7_total : Fld Z h7 b7 "com/example/rota/rota/agent/TokenUsage" "total" "J" (.long (0 : Int64)) := D7 (Or.inr (hw _ (List.mem_of_getElem? (i := 15) rfl))) (ty := .long) (by decide)
  have K7 : ∀ t, Steps p.tables e below (T7.setTop (mkF m 31 #[.val (.long q0), .second, .val (.long q1), .second, .val (.long q2), .second, .val (.long q3), .second, .val (.long q4), .second, .val (.long q5), .second, .val (.long (q5 >>> ((2 : Int32) &&& 0x3f).toInt64)), .second, .val (.int ((q5 &&& (3 : Int64)).toInt32)), .val (.ref b2), .unset, .unset] [(.ref b7)])) t → Steps p.tables e below S0 t := fun t k => K6 t (st7 t k)
  have K8 : ∀ t, Steps p.tables e below (T7.setTop (mkF m 45 #[.val (.long q0), .second, .val (.long q1), .second, .val (.long q2), .second, .val (.long q3), .second, .val (.long q4), .second, .val (.long q5), .second, .val (.long (q5 >>> ((2 : Int32) &&& 0x3f).toInt64)), .second, .val (.int ((q5 &&& (3 : Int64)).toInt32)), .val (.ref b2), .unset, .unset] [(.long (w0_1 q2 q5)), (.long (q1 + q4)), (.long (q0 + q3)), (.ref b7), (.ref b7)])) t → Steps p.tables e below S0 t := fun t k => K7 t (by
    refine XS.dup X7.here hx rfl (hb hby at_31) rfl rfl ?_
    show Steps p.tables e below (T7.setTop (mkF m 32 #[.val (.long q0), .second, .val (.long q1), .second, .val (.long q2), .second, .val (.long q3), .second, .val (.long q4), .second, .val (.long q5), .second, .val (.long (q5 >>> ((2 : Int32) &&& 0x3f).toInt64)), .second, .val (.int ((q5 &&& (3 : Int64)).toInt32)), .val (.ref b2), .unset, .unset] [(.ref b7), (.ref b7)])) _
    refine XS.lloadN X7.here hx rfl (hb hby at_32) rfl ?_
    show Steps p.tables e below (T7.setTop (mkF m 33 #[.val (.long q0), .second, .val (.long q1), .second, .val (.long q2), .second, .val (.long q3), .second, .val (.long q4), .second, .val (.long q5), .second, .val (.long (q5 >>> ((2 : Int32) &&& 0x3f).toInt64)), .second, .val (.int ((q5 &&& (3 : Int64)).toInt32)), .val (.ref b2), .unset, .unset] [(.long q0), (.ref b7), (.ref b7)])) _
    refine XS.lload X7.here hx rfl (hb hby at_33) rfl ?_
    show Steps p.tables e below (T7.setTop (mkF m 35 #[.val (.long q0), .second, .val (.long q1), .second, .val (.long q2), .second, .val (.long q3), .second, .val (.long q4), .second, .val (.long q5), .second, .val (.long (q5 >>> ((2 : Int32) &&& 0x3f).toInt64)), .second, .val (.int ((q5 &&& (3 : Int64)).toInt32)), .val (.ref b2), .unset, .unset] [(.long q3), (.long q0), (.ref b7), (.ref b7)])) _
    refine XS.ladd X7.here hx rfl (hb hby at_35) rfl ?_
    show Steps p.tables e below (T7.setTop (mkF m 36 #[.val (.long q0), .second, .val (.long q1), .second, .val (.long q2), .second, .val (.long q3), .second, .val (.long q4), .second, .val (.long q5), .second, .val (.long (q5 >>> ((2 : Int32) &&& 0x3f).toInt64)), .second, .val (.int ((q5 &&& (3 : Int64)).toInt32)), .val (.ref b2), .unset, .unset] [(.long (q0 + q3)), (.ref b7), (.ref b7)])) _
    refine XS.lloadN X7.here hx rfl (hb hby at_36) rfl ?_
    show Steps p.tables e below (T7.setTop (mkF m 37 #[.val (.long q0), .second, .val (.long q1), .second, .val (.long q2), .second, .val (.long q3), .second, .val (.long q4), .second, .val (.long q5), .second, .val (.long (q5 >>> ((2 : Int32) &&& 0x3f).toInt64)), .second, .val (.int ((q5 &&& (3 : Int64)).toInt32)), .val (.ref b2), .unset, .unset] [(.long q1), (.long (q0 + q3)), (.ref b7), (.ref b7)])) _
    refine XS.lload X7.here hx rfl (hb hby at_37) rfl ?_
    show Steps p.tables e below (T7.setTop (mkF m 39 #[.val (.long q0), .second, .val (.long q1), .second, .val (.long q2), .second, .val (.long q3), .second, .val (.long q4), .second, .val (.long q5), .second, .val (.long (q5 >>> ((2 : Int32) &&& 0x3f).toInt64)), .second, .val (.int ((q5 &&& (3 : Int64)).toInt32)), .val (.ref b2), .unset, .unset] [(.long q4), (.long q1), (.long (q0 + q3)), (.ref b7), (.ref b7)])) _
    refine XS.ladd X7.here hx rfl (hb hby at_39) rfl ?_
    show Steps p.tables e below (T7.setTop (mkF m 40 #[.val (.long q0), .second, .val (.long q1), .second, .val (.long q2), .second, .val (.long q3), .second, .val (.long q4), .second, .val (.long q5), .second, .val (.long (q5 >>> ((2 : Int32) &&& 0x3f).toInt64)), .second, .val (.int ((q5 &&& (3 : Int64)).toInt32)), .val (.ref b2), .unset, .unset] [(.long (q1 + q4)), (.long (q0 + q3)), (.ref b7), (.ref b7)])) _
    refine XS.lload X7.here hx rfl (hb hby at_40) rfl ?_
    show Steps p.tables e below (T7.setTop (mkF m 42 #[.val (.long q0), .second, .val (.long q1), .second, .val (.long q2), .second, .val (.long q3), .second, .val (.long q4), .second, .val (.long q5), .second, .val (.long (q5 >>> ((2 : Int32) &&& 0x3f).toInt64)), .second, .val (.int ((q5 &&& (3 : Int64)).toInt32)), .val (.ref b2), .unset, .unset] [(.long q2), (.long (q1 + q4)), (.long (q0 + q3)), (.ref b7), (.ref b7)])) _
    refine XS.lload X7.here hx rfl (hb hby at_42) rfl ?_
    show Steps p.tables e below (T7.setTop (mkF m 44 #[.val (.long q0), .second, .val (.long q1), .second, .val (.long q2), .second, .val (.long q3), .second, .val (.long q4), .second, .val (.long q5), .second, .val (.long (q5 >>> ((2 : Int32) &&& 0x3f).toInt64)), .second, .val (.int ((q5 &&& (3 : Int64)).toInt32)), .val (.ref b2), .unset, .unset] [(.long (q5 >>> ((2 : Int32) &&& 0x3f).toInt64)), (.long q2), (.long (q1 + q4)), (.long (q0 + q3)), (.ref b7), (.ref b7)])) _
    refine XS.ladd X7.here hx rfl (hb hby at_44) rfl ?_
    show Steps p.tables e below (T7.setTop (mkF m 45 #[.val (.long q0), .second, .val (.long q1), .second, .val (.long q2), .second, .val (.long q3), .second, .val (.long q4), .second, .val (.long q5), .second, .val (.long (q5 >>> ((2 : Int32) &&& 0x3f).toInt64)), .second, .val (.int ((q5 &&& (3 : Int64)).toInt32)), .val (.ref b2), .unset, .unset] [(.long (q2 + (q5 >>> ((2 : Int32) &&& 0x3f).toInt64))), (.long (q1 + q4)), (.long (q0 + q3)), (.ref b7), (.ref b7)])) _
    exact k)
  have K_9 : ∀ t, Steps p.tables e below (T7.setTop (mkF m 45 #[.val (.long q0), .second, .val (.long q1), .second, .val (.long q2), .second, .val (.long q3), .second, .val (.long q4), .second, .val (.long q5), .second, .val (.long (q5 >>> ((2 : Int32) &&& 0x3f).toInt64)), .second, .val (.int ((q5 &&& (3 : Int64)).toInt32)), .val (.ref b2), .unset, .unset] [(.long (w0_1 q2 q5)), (.long (q1 + q4)), (.long (q0 + q3)), (.ref b7), (.ref b7)])) t → Steps p.tables e below S0 t := K8
  obtain ⟨_, _, ⟨T10, L10, k10, n10⟩, -, X10, ⟨Lc10, hQ10, l10, y10, z10⟩, st10⟩ := X7.specialBack hx (y := (⟨"com/example/rota/rota/agent/TokenUsage", "<init>", "(JJJ)V"⟩ : MethodName)) rfl hown (mvT hZ (hw _ (List.mem_of_getElem? (i := 4) rfl))) (mvT hZ (hw _ (List.mem_of_getElem? (i := 5) rfl))) (mvT hZ (hw _ (List.mem_of_getElem? (i := 6) rfl))) (by decide) (backOf (W := 1) (rm1 l Z a0 hw [] b7 (q0 + q3) (q1 + q4) (w0_1 q2 q5) h7 n0 Zs7 A7 F_b7_input F_b7_output F_b7_total g_b7) hZ (hw _ (List.mem_of_getElem? (i := 6) rfl)) (hw _ (List.mem_of_getElem? (i := 3) rfl)) (by decide) (by decide)) (g := (mkF m 45 #[.val (.long q0), .second, .val (.long q1), .second, .val (.long q2), .second, .val (.long q3), .second, .val (.long q4), .second, .val (.long q5), .second, .val (.long (q5 >>> ((2 : Int32) &&& 0x3f).toInt64)), .second, .val (.int ((q5 &&& (3 : Int64)).toInt32)), .val (.ref b2), .unset, .unset] [(.long (w0_1 q2 q5)), (.long (q1 + q4)), (.long (q0 + q3)), (.ref b7), (.ref b7)])) rfl (by rw [hml]; rfl) (Steps.refl _) (a := b7) (argsL := [(.long (q0 + q3)), (.long (q1 + q4)), (.long (w0_1 q2 q5))]) (rest := [(.ref b7)]) (lenOf pd0_0 rfl) rfl (by show 2 * 0 + _ ≤ _; exact Nat.le_of_eq rfl) (hb hby at_45) (fun _ _ => ⟨rfl, e7, (by decide : 2 + 0 ≤ 16), (by decide : 6 + 0 ≤ 128)⟩)
  dsimp only [Pt.U, Pt.locs, Pt.cells, Pt.slots] at X10 l10 y10 z10 st10 hQ10
  subst l10 y10 z10
  obtain ⟨rfl, N10q, Kp10, Fn10_0, Fn10_1, Fn10_2, Fn10_3⟩ := hQ10
  have N10 := Fr.app N5 N10q
  have OL10 := OL7.keep Kp10 (allS (P := fun x => n0 ≤ x) g_b7 all0)
  have S_Long_LongCache_cache__10 := S_Long_LongCache_cache.ext OL10.2
  have Ar_oc__10 := Ar_oc.ext OL10.2
  have Fn5_0__10 := Fn5_0__7.keep Kp10
  have Fn5_1__10 := Fn5_1__7.keep Kp10 (ninS ne_b2_b7 nin0)
  have Fn5_2__10 := Fn5_2__7.keep Kp10 (ninS ne_b2_b7 nin0)
  have Fn5_3__10 := Fn5_3__7.keep Kp10 (ninS ne_b2_b7 nin0)
  have Zs10 : n0 ≤ T10.heap.size := Nat.le_trans Zs7 Kp10.1
  have K10 : ∀ t, Steps p.tables e below (T10.setTop (mkF m 48 #[.val (.long q0), .second, .val (.long q1), .second, .val (.long q2), .second, .val (.long q3), .second, .val (.long q4), .second, .val (.long q5), .second, .val (.long (q5 >>> ((2 : Int32) &&& 0x3f).toInt64)), .second, .val (.int ((q5 &&& (3 : Int64)).toInt32)), .val (.ref b2), .unset, .unset] [(.ref b7)])) t → Steps p.tables e below S0 t := fun t k => K_9 t (st10.trans k)
  have K11 : ∀ t, Steps p.tables e below (T10.setTop (mkF m 52 #[.val (.long q0), .second, .val (.long q1), .second, .val (.long q2), .second, .val (.long q3), .second, .val (.long q4), .second, .val (.long q5), .second, .val (.long (q5 >>> ((2 : Int32) &&& 0x3f).toInt64)), .second, .val (.int ((q5 &&& (3 : Int64)).toInt32)), .val (.ref b2), .val (.ref b7), .unset] [(.int ((q5 &&& (3 : Int64)).toInt32))])) t → Steps p.tables e below S0 t := fun t k => K10 t (by
    refine XS.astore X10.here hx rfl (hb hby at_48) rfl rfl (l' := #[.val (.long q0), .second, .val (.long q1), .second, .val (.long q2), .second, .val (.long q3), .second, .val (.long q4), .second, .val (.long q5), .second, .val (.long (q5 >>> ((2 : Int32) &&& 0x3f).toInt64)), .second, .val (.int ((q5 &&& (3 : Int64)).toInt32)), .val (.ref b2), .val (.ref b7), .unset]) rfl ?_
    show Steps p.tables e below (T10.setTop (mkF m 50 #[.val (.long q0), .second, .val (.long q1), .second, .val (.long q2), .second, .val (.long q3), .second, .val (.long q4), .second, .val (.long q5), .second, .val (.long (q5 >>> ((2 : Int32) &&& 0x3f).toInt64)), .second, .val (.int ((q5 &&& (3 : Int64)).toInt32)), .val (.ref b2), .val (.ref b7), .unset] [])) _
    refine XS.iload X10.here hx rfl (hb hby at_50) rfl ?_
    show Steps p.tables e below (T10.setTop (mkF m 52 #[.val (.long q0), .second, .val (.long q1), .second, .val (.long q2), .second, .val (.long q3), .second, .val (.long q4), .second, .val (.long q5), .second, .val (.long (q5 >>> ((2 : Int32) &&& 0x3f).toInt64)), .second, .val (.int ((q5 &&& (3 : Int64)).toInt32)), .val (.ref b2), .val (.ref b7), .unset] [(.int ((q5 &&& (3 : Int64)).toInt32))])) _
    exact k)
  by_cases hc52_0 : ((q5 &&& (3 : Int64)).toInt32) = (0 : Int32)
  · -- yes
    have K12 : ∀ t, Steps p.tables e below (T10.setTop (mkF m 59 #[.val (.long q0), .second, .val (.long q1), .second, .val (.long q2), .second, .val (.long q3), .second, .val (.long q4), .second, .val (.long q5), .second, .val (.long (q5 >>> ((2 : Int32) &&& 0x3f).toInt64)), .second, .val (.int ((q5 &&& (3 : Int64)).toInt32)), .val (.ref b2), .val (.ref b7), .unset] [(.int (lcmpW q3 (0 : Int64)))])) t → Steps p.tables e below S0 t := fun t k => K11 t (by
      refine XS.ifNo X10.here hx rfl (hb hby at_52) rfl (XT.i0_ne_f hc52_0) ?_
      show Steps p.tables e below (T10.setTop (mkF m 55 #[.val (.long q0), .second, .val (.long q1), .second, .val (.long q2), .second, .val (.long q3), .second, .val (.long q4), .second, .val (.long q5), .second, .val (.long (q5 >>> ((2 : Int32) &&& 0x3f).toInt64)), .second, .val (.int ((q5 &&& (3 : Int64)).toInt32)), .val (.ref b2), .val (.ref b7), .unset] [])) _
      refine XS.lload X10.here hx rfl (hb hby at_55) rfl ?_
      show Steps p.tables e below (T10.setTop (mkF m 57 #[.val (.long q0), .second, .val (.long q1), .second, .val (.long q2), .second, .val (.long q3), .second, .val (.long q4), .second, .val (.long q5), .second, .val (.long (q5 >>> ((2 : Int32) &&& 0x3f).toInt64)), .second, .val (.int ((q5 &&& (3 : Int64)).toInt32)), .val (.ref b2), .val (.ref b7), .unset] [(.long q3)])) _
      refine XS.lconst X10.here hx rfl (hb hby at_57) ?_
      show Steps p.tables e below (T10.setTop (mkF m 58 #[.val (.long q0), .second, .val (.long q1), .second, .val (.long q2), .second, .val (.long q3), .second, .val (.long q4), .second, .val (.long q5), .second, .val (.long (q5 >>> ((2 : Int32) &&& 0x3f).toInt64)), .second, .val (.int ((q5 &&& (3 : Int64)).toInt32)), .val (.ref b2), .val (.ref b7), .unset] [(.long (0 : Int64)), (.long q3)])) _
      refine XS.lcmp X10.here hx rfl (hb hby at_58) rfl ?_
      show Steps p.tables e below (T10.setTop (mkF m 59 #[.val (.long q0), .second, .val (.long q1), .second, .val (.long q2), .second, .val (.long q3), .second, .val (.long q4), .second, .val (.long q5), .second, .val (.long (q5 >>> ((2 : Int32) &&& 0x3f).toInt64)), .second, .val (.int ((q5 &&& (3 : Int64)).toInt32)), .val (.ref b2), .val (.ref b7), .unset] [(.int (lcmpW q3 (0 : Int64)))])) _
      exact k)
    obtain ⟨T13, lo13, X13, N13, e13, K13⟩ : ∃ (T' : State) (locs' : List Loc), Stand p l e room_1 s m #[(.long q0), (.long q1), (.long q2), (.long q3), (.long q4), (.long q5)] below meth c T' locs' 2 6 ∧ Fr n0 locs' ∧ T'.heap = T10.heap ∧ ∀ t, Steps p.tables e below (T'.setTop (mkF m 81 #[.val (.long q0), .second, .val (.long q1), .second, .val (.long q2), .second, .val (.long q3), .second, .val (.long q4), .second, .val (.long q5), .second, .val (.long (q5 >>> ((2 : Int32) &&& 0x3f).toInt64)), .second, .val (.int ((q5 &&& (3 : Int64)).toInt32)), .val (.ref b2), .val (.ref b7), .unset] [(.int (w0_m2 q3 q4 q5))])) t → Steps p.tables e below S0 t := by
      by_cases hc59_1 : q3 = (0 : Int64)
      · -- yes
        have K14 : ∀ t, Steps p.tables e below (T10.setTop (mkF m 66 #[.val (.long q0), .second, .val (.long q1), .second, .val (.long q2), .second, .val (.long q3), .second, .val (.long q4), .second, .val (.long q5), .second, .val (.long (q5 >>> ((2 : Int32) &&& 0x3f).toInt64)), .second, .val (.int ((q5 &&& (3 : Int64)).toInt32)), .val (.ref b2), .val (.ref b7), .unset] [(.int (lcmpW q4 (0 : Int64)))])) t → Steps p.tables e below S0 t := fun t k => K12 t (by
          refine XS.ifNo X10.here hx rfl (hb hby at_59) rfl (XT.ll_ne_f hc59_1) ?_
          show Steps p.tables e below (T10.setTop (mkF m 62 #[.val (.long q0), .second, .val (.long q1), .second, .val (.long q2), .second, .val (.long q3), .second, .val (.long q4), .second, .val (.long q5), .second, .val (.long (q5 >>> ((2 : Int32) &&& 0x3f).toInt64)), .second, .val (.int ((q5 &&& (3 : Int64)).toInt32)), .val (.ref b2), .val (.ref b7), .unset] [])) _
          refine XS.lload X10.here hx rfl (hb hby at_62) rfl ?_
          show Steps p.tables e below (T10.setTop (mkF m 64 #[.val (.long q0), .second, .val (.long q1), .second, .val (.long q2), .second, .val (.long q3), .second, .val (.long q4), .second, .val (.long q5), .second, .val (.long (q5 >>> ((2 : Int32) &&& 0x3f).toInt64)), .second, .val (.int ((q5 &&& (3 : Int64)).toInt32)), .val (.ref b2), .val (.ref b7), .unset] [(.long q4)])) _
          refine XS.lconst X10.here hx rfl (hb hby at_64) ?_
          show Steps p.tables e below (T10.setTop (mkF m 65 #[.val (.long q0), .second, .val (.long q1), .second, .val (.long q2), .second, .val (.long q3), .second, .val (.long q4), .second, .val (.long q5), .second, .val (.long (q5 >>> ((2 : Int32) &&& 0x3f).toInt64)), .second, .val (.int ((q5 &&& (3 : Int64)).toInt32)), .val (.ref b2), .val (.ref b7), .unset] [(.long (0 : Int64)), (.long q4)])) _
          refine XS.lcmp X10.here hx rfl (hb hby at_65) rfl ?_
          show Steps p.tables e below (T10.setTop (mkF m 66 #[.val (.long q0), .second, .val (.long q1), .second, .val (.long q2), .second, .val (.long q3), .second, .val (.long q4), .second, .val (.long q5), .second, .val (.long (q5 >>> ((2 : Int32) &&& 0x3f).toInt64)), .second, .val (.int ((q5 &&& (3 : Int64)).toInt32)), .val (.ref b2), .val (.ref b7), .unset] [(.int (lcmpW q4 (0 : Int64)))])) _
          exact k)
        by_cases hc66_2 : q4 = (0 : Int64)
        · -- yes
          have K15 : ∀ t, Steps p.tables e below (T10.setTop (mkF m 73 #[.val (.long q0), .second, .val (.long q1), .second, .val (.long q2), .second, .val (.long q3), .second, .val (.long q4), .second, .val (.long q5), .second, .val (.long (q5 >>> ((2 : Int32) &&& 0x3f).toInt64)), .second, .val (.int ((q5 &&& (3 : Int64)).toInt32)), .val (.ref b2), .val (.ref b7), .unset] [(.int (lcmpW (q5 >>> ((2 : Int32) &&& 0x3f).toInt64) (0 : Int64)))])) t → Steps p.tables e below S0 t := fun t k => K14 t (by
            refine XS.ifNo X10.here hx rfl (hb hby at_66) rfl (XT.ll_ne_f hc66_2) ?_
            show Steps p.tables e below (T10.setTop (mkF m 69 #[.val (.long q0), .second, .val (.long q1), .second, .val (.long q2), .second, .val (.long q3), .second, .val (.long q4), .second, .val (.long q5), .second, .val (.long (q5 >>> ((2 : Int32) &&& 0x3f).toInt64)), .second, .val (.int ((q5 &&& (3 : Int64)).toInt32)), .val (.ref b2), .val (.ref b7), .unset] [])) _
            refine XS.lload X10.here hx rfl (hb hby at_69) rfl ?_
            show Steps p.tables e below (T10.setTop (mkF m 71 #[.val (.long q0), .second, .val (.long q1), .second, .val (.long q2), .second, .val (.long q3), .second, .val (.long q4), .second, .val (.long q5), .second, .val (.long (q5 >>> ((2 : Int32) &&& 0x3f).toInt64)), .second, .val (.int ((q5 &&& (3 : Int64)).toInt32)), .val (.ref b2), .val (.ref b7), .unset] [(.long (q5 >>> ((2 : Int32) &&& 0x3f).toInt64))])) _
            refine XS.lconst X10.here hx rfl (hb hby at_71) ?_
            show Steps p.tables e below (T10.setTop (mkF m 72 #[.val (.long q0), .second, .val (.long q1), .second, .val (.long q2), .second, .val (.long q3), .second, .val (.long q4), .second, .val (.long q5), .second, .val (.long (q5 >>> ((2 : Int32) &&& 0x3f).toInt64)), .second, .val (.int ((q5 &&& (3 : Int64)).toInt32)), .val (.ref b2), .val (.ref b7), .unset] [(.long (0 : Int64)), (.long (q5 >>> ((2 : Int32) &&& 0x3f).toInt64))])) _
            refine XS.lcmp X10.here hx rfl (hb hby at_72) rfl ?_
            show Steps p.tables e below (T10.setTop (mkF m 73 #[.val (.long q0), .second, .val (.long q1), .second, .val (.long q2), .second, .val (.long q3), .second, .val (.long q4), .second, .val (.long q5), .second, .val (.long (q5 >>> ((2 : Int32) &&& 0x3f).toInt64)), .second, .val (.int ((q5 &&& (3 : Int64)).toInt32)), .val (.ref b2), .val (.ref b7), .unset] [(.int (lcmpW (q5 >>> ((2 : Int32) &&& 0x3f).toInt64) (0 : Int64)))])) _
            exact k)
          by_cases hc73_3 : (q5 >>> ((2 : Int32) &&& 0x3f).toInt64) = (0 : Int64)
          · -- yes
            have K16 : ∀ t, Steps p.tables e below (T10.setTop (mkF m 81 #[.val (.long q0), .second, .val (.long q1), .second, .val (.long q2), .second, .val (.long q3), .second, .val (.long q4), .second, .val (.long q5), .second, .val (.long (q5 >>> ((2 : Int32) &&& 0x3f).toInt64)), .second, .val (.int ((q5 &&& (3 : Int64)).toInt32)), .val (.ref b2), .val (.ref b7), .unset] [(.int (1 : Int32))])) t → Steps p.tables e below S0 t := fun t k => K15 t (by
              refine XS.ifNo X10.here hx rfl (hb hby at_73) rfl (XT.ll_ne_f hc73_3) ?_
              show Steps p.tables e below (T10.setTop (mkF m 76 #[.val (.long q0), .second, .val (.long q1), .second, .val (.long q2), .second, .val (.long q3), .second, .val (.long q4), .second, .val (.long q5), .second, .val (.long (q5 >>> ((2 : Int32) &&& 0x3f).toInt64)), .second, .val (.int ((q5 &&& (3 : Int64)).toInt32)), .val (.ref b2), .val (.ref b7), .unset] [])) _
              refine XS.iconst X10.here hx rfl (hb hby at_76) ?_
              show Steps p.tables e below (T10.setTop (mkF m 77 #[.val (.long q0), .second, .val (.long q1), .second, .val (.long q2), .second, .val (.long q3), .second, .val (.long q4), .second, .val (.long q5), .second, .val (.long (q5 >>> ((2 : Int32) &&& 0x3f).toInt64)), .second, .val (.int ((q5 &&& (3 : Int64)).toInt32)), .val (.ref b2), .val (.ref b7), .unset] [(.int (1 : Int32))])) _
              refine XS.goto X10.here hx rfl (pc0 := 77) (pc' := 81) rfl (hb hby at_77) (by decide) (by decide) ?_
              show Steps p.tables e below (T10.setTop (mkF m 81 #[.val (.long q0), .second, .val (.long q1), .second, .val (.long q2), .second, .val (.long q3), .second, .val (.long q4), .second, .val (.long q5), .second, .val (.long (q5 >>> ((2 : Int32) &&& 0x3f).toInt64)), .second, .val (.int ((q5 &&& (3 : Int64)).toInt32)), .val (.ref b2), .val (.ref b7), .unset] [(.int (1 : Int32))])) _
              exact k)
            have q17 : (w0_m2 q3 q4 q5) = (1 : Int32) := by unfold w0_m2; rw [if_pos hc59_1, if_pos hc66_2, if_pos hc73_3]
            exact ⟨T10, _, X10, N10, rfl, fun t k => K16 t (by rw [q17] at k; exact k)⟩
          · -- no
            have K18 : ∀ t, Steps p.tables e below (T10.setTop (mkF m 81 #[.val (.long q0), .second, .val (.long q1), .second, .val (.long q2), .second, .val (.long q3), .second, .val (.long q4), .second, .val (.long q5), .second, .val (.long (q5 >>> ((2 : Int32) &&& 0x3f).toInt64)), .second, .val (.int ((q5 &&& (3 : Int64)).toInt32)), .val (.ref b2), .val (.ref b7), .unset] [(.int (0 : Int32))])) t → Steps p.tables e below S0 t := fun t k => K15 t (by
              refine XS.ifYes X10.here hx rfl (pc0 := 73) (pc' := 80) rfl (hb hby at_73) rfl (XT.ll_ne_t hc73_3) (by decide) (by decide) ?_
              show Steps p.tables e below (T10.setTop (mkF m 80 #[.val (.long q0), .second, .val (.long q1), .second, .val (.long q2), .second, .val (.long q3), .second, .val (.long q4), .second, .val (.long q5), .second, .val (.long (q5 >>> ((2 : Int32) &&& 0x3f).toInt64)), .second, .val (.int ((q5 &&& (3 : Int64)).toInt32)), .val (.ref b2), .val (.ref b7), .unset] [])) _
              refine XS.iconst X10.here hx rfl (hb hby at_80) ?_
              show Steps p.tables e below (T10.setTop (mkF m 81 #[.val (.long q0), .second, .val (.long q1), .second, .val (.long q2), .second, .val (.long q3), .second, .val (.long q4), .second, .val (.long q5), .second, .val (.long (q5 >>> ((2 : Int32) &&& 0x3f).toInt64)), .second, .val (.int ((q5 &&& (3 : Int64)).toInt32)), .val (.ref b2), .val (.ref b7), .unset] [(.int (0 : Int32))])) _
              exact k)
            have q19 : (w0_m2 q3 q4 q5) = (0 : Int32) := by unfold w0_m2; rw [if_pos hc59_1, if_pos hc66_2, if_neg hc73_3]
            exact ⟨T10, _, X10, N10, rfl, fun t k => K18 t (by rw [q19] at k; exact k)⟩
        · -- no
          have K20 : ∀ t, Steps p.tables e below (T10.setTop (mkF m 81 #[.val (.long q0), .second, .val (.long q1), .second, .val (.long q2), .second, .val (.long q3), .second, .val (.long q4), .second, .val (.long q5), .second, .val (.long (q5 >>> ((2 : Int32) &&& 0x3f).toInt64)), .second, .val (.int ((q5 &&& (3 : Int64)).toInt32)), .val (.ref b2), .val (.ref b7), .unset] [(.int (0 : Int32))])) t → Steps p.tables e below S0 t := fun t k => K14 t (by
            refine XS.ifYes X10.here hx rfl (pc0 := 66) (pc' := 80) rfl (hb hby at_66) rfl (XT.ll_ne_t hc66_2) (by decide) (by decide) ?_
            show Steps p.tables e below (T10.setTop (mkF m 80 #[.val (.long q0), .second, .val (.long q1), .second, .val (.long q2), .second, .val (.long q3), .second, .val (.long q4), .second, .val (.long q5), .second, .val (.long (q5 >>> ((2 : Int32) &&& 0x3f).toInt64)), .second, .val (.int ((q5 &&& (3 : Int64)).toInt32)), .val (.ref b2), .val (.ref b7), .unset] [])) _
            refine XS.iconst X10.here hx rfl (hb hby at_80) ?_
            show Steps p.tables e below (T10.setTop (mkF m 81 #[.val (.long q0), .second, .val (.long q1), .second, .val (.long q2), .second, .val (.long q3), .second, .val (.long q4), .second, .val (.long q5), .second, .val (.long (q5 >>> ((2 : Int32) &&& 0x3f).toInt64)), .second, .val (.int ((q5 &&& (3 : Int64)).toInt32)), .val (.ref b2), .val (.ref b7), .unset] [(.int (0 : Int32))])) _
            exact k)
          have q21 : (w0_m2 q3 q4 q5) = (0 : Int32) := by unfold w0_m2; rw [if_pos hc59_1, if_neg hc66_2]
          exact ⟨T10, _, X10, N10, rfl, fun t k => K20 t (by rw [q21] at k; exact k)⟩
      · -- no
        have K22 : ∀ t, Steps p.tables e below (T10.setTop (mkF m 81 #[.val (.long q0), .second, .val (.long q1), .second, .val (.long q2), .second, .val (.long q3), .second, .val (.long q4), .second, .val (.long q5), .second, .val (.long (q5 >>> ((2 : Int32) &&& 0x3f).toInt64)), .second, .val (.int ((q5 &&& (3 : Int64)).toInt32)), .val (.ref b2), .val (.ref b7), .unset] [(.int (0 : Int32))])) t → Steps p.tables e below S0 t := fun t k => K12 t (by
          refine XS.ifYes X10.here hx rfl (pc0 := 59) (pc' := 80) rfl (hb hby at_59) rfl (XT.ll_ne_t hc59_1) (by decide) (by decide) ?_
          show Steps p.tables e below (T10.setTop (mkF m 80 #[.val (.long q0), .second, .val (.long q1), .second, .val (.long q2), .second, .val (.long q3), .second, .val (.long q4), .second, .val (.long q5), .second, .val (.long (q5 >>> ((2 : Int32) &&& 0x3f).toInt64)), .second, .val (.int ((q5 &&& (3 : Int64)).toInt32)), .val (.ref b2), .val (.ref b7), .unset] [])) _
          refine XS.iconst X10.here hx rfl (hb hby at_80) ?_
          show Steps p.tables e below (T10.setTop (mkF m 81 #[.val (.long q0), .second, .val (.long q1), .second, .val (.long q2), .second, .val (.long q3), .second, .val (.long q4), .second, .val (.long q5), .second, .val (.long (q5 >>> ((2 : Int32) &&& 0x3f).toInt64)), .second, .val (.int ((q5 &&& (3 : Int64)).toInt32)), .val (.ref b2), .val (.ref b7), .unset] [(.int (0 : Int32))])) _
          exact k)
        have q23 : (w0_m2 q3 q4 q5) = (0 : Int32) := by unfold w0_m2; rw [if_neg hc59_1]
        exact ⟨T10, _, X10, N10, rfl, fun t k => K22 t (by rw [q23] at k; exact k)⟩
    have K24 : ∀ t, Steps p.tables e below (T13.setTop (mkF m 87 #[.val (.long q0), .second, .val (.long q1), .second, .val (.long q2), .second, .val (.long q3), .second, .val (.long q4), .second, .val (.long q5), .second, .val (.long (q5 >>> ((2 : Int32) &&& 0x3f).toInt64)), .second, .val (.int ((q5 &&& (3 : Int64)).toInt32)), .val (.ref b2), .val (.ref b7), .val (.int (w0_m2 q3 q4 q5))] [(.ref b7), (.ref b2)])) t → Steps p.tables e below S0 t := fun t k => K13 t (by
      refine XS.istore X13.here hx rfl (hb hby at_81) rfl (l' := #[.val (.long q0), .second, .val (.long q1), .second, .val (.long q2), .second, .val (.long q3), .second, .val (.long q4), .second, .val (.long q5), .second, .val (.long (q5 >>> ((2 : Int32) &&& 0x3f).toInt64)), .second, .val (.int ((q5 &&& (3 : Int64)).toInt32)), .val (.ref b2), .val (.ref b7), .val (.int (w0_m2 q3 q4 q5))]) rfl ?_
      show Steps p.tables e below (T13.setTop (mkF m 83 #[.val (.long q0), .second, .val (.long q1), .second, .val (.long q2), .second, .val (.long q3), .second, .val (.long q4), .second, .val (.long q5), .second, .val (.long (q5 >>> ((2 : Int32) &&& 0x3f).toInt64)), .second, .val (.int ((q5 &&& (3 : Int64)).toInt32)), .val (.ref b2), .val (.ref b7), .val (.int (w0_m2 q3 q4 q5))] [])) _
      refine XS.aload X13.here hx rfl (hb hby at_83) rfl rfl ?_
      show Steps p.tables e below (T13.setTop (mkF m 85 #[.val (.long q0), .second, .val (.long q1), .second, .val (.long q2), .second, .val (.long q3), .second, .val (.long q4), .second, .val (.long q5), .second, .val (.long (q5 >>> ((2 : Int32) &&& 0x3f).toInt64)), .second, .val (.int ((q5 &&& (3 : Int64)).toInt32)), .val (.ref b2), .val (.ref b7), .val (.int (w0_m2 q3 q4 q5))] [(.ref b2)])) _
      refine XS.aload X13.here hx rfl (hb hby at_85) rfl rfl ?_
      show Steps p.tables e below (T13.setTop (mkF m 87 #[.val (.long q0), .second, .val (.long q1), .second, .val (.long q2), .second, .val (.long q3), .second, .val (.long q4), .second, .val (.long q5), .second, .val (.long (q5 >>> ((2 : Int32) &&& 0x3f).toInt64)), .second, .val (.int ((q5 &&& (3 : Int64)).toInt32)), .val (.ref b2), .val (.ref b7), .val (.int (w0_m2 q3 q4 q5))] [(.ref b7), (.ref b2)])) _
      exact k)
    have K_25 : ∀ t, Steps p.tables e below (T13.setTop (mkF m 87 #[.val (.long q0), .second, .val (.long q1), .second, .val (.long q2), .second, .val (.long q3), .second, .val (.long q4), .second, .val (.long q5), .second, .val (.long (q5 >>> ((2 : Int32) &&& 0x3f).toInt64)), .second, .val (.int ((q5 &&& (3 : Int64)).toInt32)), .val (.ref b2), .val (.ref b7), .val (.int (w0_m2 q3 q4 q5))] [(.ref b7), (.ref b2)])) t → Steps p.tables e below S0 t := K24
    obtain ⟨cq26, kq26, q26a, q26b, q26c⟩ := isOf hZ e13 Fn5_0__10
    obtain ⟨_, _, ⟨T26, L26, k26, n26⟩, -, X26, ⟨Lc26, hQ26, l26, y26, z26⟩, st26⟩ := X13.virtualBack hx (y := (⟨"com/example/rota/rota/agent/TokenUsage", "equals", "(Ljava/lang/Object;)Z"⟩ : MethodName)) (z := (⟨"com/example/rota/rota/agent/TokenUsage", "equals", "(Ljava/lang/Object;)Z"⟩ : MethodName)) hown (mvT hZ (hw _ (List.mem_of_getElem? (i := 16) rfl))) (mvT hZ (hw _ (List.mem_of_getElem? (i := 17) rfl))) (notFace_of_selects (args := #[]) (mvT hZ (hw _ (List.mem_of_getElem? (i := 19) rfl)))) (mvT hZ (hw _ (List.mem_of_getElem? (i := 19) rfl))) (mvT hZ (hw _ (List.mem_of_getElem? (i := 18) rfl))) (by decide) (backOf (W := 0) (rm2 l Z a0 hw [] b2 b7 q0 q1 q2 (q0 + q3) (q1 + q4) (w0_1 q2 q5) T10.heap n0 Zs10 Fn10_0 Fn5_1__10 Fn5_2__10 Fn5_3__10 Fn10_1 Fn10_2 Fn10_3) hZ (hw _ (List.mem_of_getElem? (i := 20) rfl)) (hw _ (List.mem_of_getElem? (i := 3) rfl)) (by decide) (by decide)) q26a q26c (g := (mkF m 87 #[.val (.long q0), .second, .val (.long q1), .second, .val (.long q2), .second, .val (.long q3), .second, .val (.long q4), .second, .val (.long q5), .second, .val (.long (q5 >>> ((2 : Int32) &&& 0x3f).toInt64)), .second, .val (.int ((q5 &&& (3 : Int64)).toInt32)), .val (.ref b2), .val (.ref b7), .val (.int (w0_m2 q3 q4 q5))] [(.ref b7), (.ref b2)])) rfl (by rw [hml]; rfl) (Steps.refl _) (argsL := [(.ref b7)]) (rest := []) (lenOf pd0_1 rfl) rfl (by show 2 * 0 + _ ≤ _; exact Nat.le_of_eq rfl) (hb hby at_87) (fun _ _ => ⟨rfl, e13, (by decide : 2 + 0 ≤ 16), (by decide : 6 + 0 ≤ 128)⟩)
    dsimp only [Pt.U, Pt.locs, Pt.cells, Pt.slots] at X26 l26 y26 z26 st26 hQ26
    subst l26 y26 z26
    obtain ⟨rfl, N26q, e26⟩ := hQ26
    have N26 := Fr.app N13 N26q
    have K26 : ∀ t, Steps p.tables e below (T26.setTop (mkF m 90 #[.val (.long q0), .second, .val (.long q1), .second, .val (.long q2), .second, .val (.long q3), .second, .val (.long q4), .second, .val (.long q5), .second, .val (.long (q5 >>> ((2 : Int32) &&& 0x3f).toInt64)), .second, .val (.int ((q5 &&& (3 : Int64)).toInt32)), .val (.ref b2), .val (.ref b7), .val (.int (w0_m2 q3 q4 q5))] [(.int (w0_3 q0 q1 q2 q3 q4 q5))])) t → Steps p.tables e below S0 t := fun t k => K_25 t (st26.trans k)
    have K27 : ∀ t, Steps p.tables e below (T26.setTop (mkF m 92 #[.val (.long q0), .second, .val (.long q1), .second, .val (.long q2), .second, .val (.long q3), .second, .val (.long q4), .second, .val (.long q5), .second, .val (.long (q5 >>> ((2 : Int32) &&& 0x3f).toInt64)), .second, .val (.int ((q5 &&& (3 : Int64)).toInt32)), .val (.ref b2), .val (.ref b7), .val (.int (w0_m2 q3 q4 q5))] [(.int (w0_m2 q3 q4 q5)), (.int (w0_3 q0 q1 q2 q3 q4 q5))])) t → Steps p.tables e below S0 t := fun t k => K26 t (by
      refine XS.iload X26.here hx rfl (hb hby at_90) rfl ?_
      show Steps p.tables e below (T26.setTop (mkF m 92 #[.val (.long q0), .second, .val (.long q1), .second, .val (.long q2), .second, .val (.long q3), .second, .val (.long q4), .second, .val (.long q5), .second, .val (.long (q5 >>> ((2 : Int32) &&& 0x3f).toInt64)), .second, .val (.int ((q5 &&& (3 : Int64)).toInt32)), .val (.ref b2), .val (.ref b7), .val (.int (w0_m2 q3 q4 q5))] [(.int (w0_m2 q3 q4 q5)), (.int (w0_3 q0 q1 q2 q3 q4 q5))])) _
      exact k)
    by_cases hc92_1 : (w0_3 q0 q1 q2 q3 q4 q5) = (w0_m2 q3 q4 q5)
    · -- yes
      have K28 : ∀ t, Steps p.tables e below (T26.setTop (mkF m 99 #[.val (.long q0), .second, .val (.long q1), .second, .val (.long q2), .second, .val (.long q3), .second, .val (.long q4), .second, .val (.long q5), .second, .val (.long (q5 >>> ((2 : Int32) &&& 0x3f).toInt64)), .second, .val (.int ((q5 &&& (3 : Int64)).toInt32)), .val (.ref b2), .val (.ref b7), .val (.int (w0_m2 q3 q4 q5))] [(.ref b2), (.ref b7)])) t → Steps p.tables e below S0 t := fun t k => K27 t (by
        refine XS.icmpNo X26.here hx rfl (hb hby at_92) rfl (XT.ii_ne_f hc92_1) ?_
        show Steps p.tables e below (T26.setTop (mkF m 95 #[.val (.long q0), .second, .val (.long q1), .second, .val (.long q2), .second, .val (.long q3), .second, .val (.long q4), .second, .val (.long q5), .second, .val (.long (q5 >>> ((2 : Int32) &&& 0x3f).toInt64)), .second, .val (.int ((q5 &&& (3 : Int64)).toInt32)), .val (.ref b2), .val (.ref b7), .val (.int (w0_m2 q3 q4 q5))] [])) _
        refine XS.aload X26.here hx rfl (hb hby at_95) rfl rfl ?_
        show Steps p.tables e below (T26.setTop (mkF m 97 #[.val (.long q0), .second, .val (.long q1), .second, .val (.long q2), .second, .val (.long q3), .second, .val (.long q4), .second, .val (.long q5), .second, .val (.long (q5 >>> ((2 : Int32) &&& 0x3f).toInt64)), .second, .val (.int ((q5 &&& (3 : Int64)).toInt32)), .val (.ref b2), .val (.ref b7), .val (.int (w0_m2 q3 q4 q5))] [(.ref b7)])) _
        refine XS.aload X26.here hx rfl (hb hby at_97) rfl rfl ?_
        show Steps p.tables e below (T26.setTop (mkF m 99 #[.val (.long q0), .second, .val (.long q1), .second, .val (.long q2), .second, .val (.long q3), .second, .val (.long q4), .second, .val (.long q5), .second, .val (.long (q5 >>> ((2 : Int32) &&& 0x3f).toInt64)), .second, .val (.int ((q5 &&& (3 : Int64)).toInt32)), .val (.ref b2), .val (.ref b7), .val (.int (w0_m2 q3 q4 q5))] [(.ref b2), (.ref b7)])) _
        exact k)
      have K_29 : ∀ t, Steps p.tables e below (T26.setTop (mkF m 99 #[.val (.long q0), .second, .val (.long q1), .second, .val (.long q2), .second, .val (.long q3), .second, .val (.long q4), .second, .val (.long q5), .second, .val (.long (q5 >>> ((2 : Int32) &&& 0x3f).toInt64)), .second, .val (.int ((q5 &&& (3 : Int64)).toInt32)), .val (.ref b2), .val (.ref b7), .val (.int (w0_m2 q3 q4 q5))] [(.ref b2), (.ref b7)])) t → Steps p.tables e below S0 t := K28
      obtain ⟨cq30, kq30, q30a, q30b, q30c⟩ := isOf hZ e26 Fn10_0
      obtain ⟨_, _, ⟨T30, L30, k30, n30⟩, -, X30, ⟨Lc30, hQ30, l30, y30, z30⟩, st30⟩ := X26.virtualBack hx (y := (⟨"com/example/rota/rota/agent/TokenUsage", "equals", "(Ljava/lang/Object;)Z"⟩ : MethodName)) (z := (⟨"com/example/rota/rota/agent/TokenUsage", "equals", "(Ljava/lang/Object;)Z"⟩ : MethodName)) hown (mvT hZ (hw _ (List.mem_of_getElem? (i := 16) rfl))) (mvT hZ (hw _ (List.mem_of_getElem? (i := 17) rfl))) (notFace_of_selects (args := #[]) (mvT hZ (hw _ (List.mem_of_getElem? (i := 19) rfl)))) (mvT hZ (hw _ (List.mem_of_getElem? (i := 19) rfl))) (mvT hZ (hw _ (List.mem_of_getElem? (i := 18) rfl))) (by decide) (backOf (W := 0) (rm2 l Z a0 hw [] b7 b2 (q0 + q3) (q1 + q4) (w0_1 q2 q5) q0 q1 q2 T10.heap n0 Zs10 Fn5_0__10 Fn10_1 Fn10_2 Fn10_3 Fn5_1__10 Fn5_2__10 Fn5_3__10) hZ (hw _ (List.mem_of_getElem? (i := 20) rfl)) (hw _ (List.mem_of_getElem? (i := 3) rfl)) (by decide) (by decide)) q30a q30c (g := (mkF m 99 #[.val (.long q0), .second, .val (.long q1), .second, .val (.long q2), .second, .val (.long q3), .second, .val (.long q4), .second, .val (.long q5), .second, .val (.long (q5 >>> ((2 : Int32) &&& 0x3f).toInt64)), .second, .val (.int ((q5 &&& (3 : Int64)).toInt32)), .val (.ref b2), .val (.ref b7), .val (.int (w0_m2 q3 q4 q5))] [(.ref b2), (.ref b7)])) rfl (by rw [hml]; rfl) (Steps.refl _) (argsL := [(.ref b2)]) (rest := []) (lenOf pd0_1 rfl) rfl (by show 2 * 0 + _ ≤ _; exact Nat.le_of_eq rfl) (hb hby at_99) (fun _ _ => ⟨rfl, e26, (by decide : 2 + 0 ≤ 16), (by decide : 6 + 0 ≤ 128)⟩)
      dsimp only [Pt.U, Pt.locs, Pt.cells, Pt.slots] at X30 l30 y30 z30 st30 hQ30
      subst l30 y30 z30
      obtain ⟨rfl, N30q, e30⟩ := hQ30
      have N30 := Fr.app N26 N30q
      have K30 : ∀ t, Steps p.tables e below (T30.setTop (mkF m 102 #[.val (.long q0), .second, .val (.long q1), .second, .val (.long q2), .second, .val (.long q3), .second, .val (.long q4), .second, .val (.long q5), .second, .val (.long (q5 >>> ((2 : Int32) &&& 0x3f).toInt64)), .second, .val (.int ((q5 &&& (3 : Int64)).toInt32)), .val (.ref b2), .val (.ref b7), .val (.int (w0_m2 q3 q4 q5))] [(.int (w0_4 q0 q1 q2 q3 q4 q5))])) t → Steps p.tables e below S0 t := fun t k => K_29 t (st30.trans k)
      have K31 : ∀ t, Steps p.tables e below (T30.setTop (mkF m 104 #[.val (.long q0), .second, .val (.long q1), .second, .val (.long q2), .second, .val (.long q3), .second, .val (.long q4), .second, .val (.long q5), .second, .val (.long (q5 >>> ((2 : Int32) &&& 0x3f).toInt64)), .second, .val (.int ((q5 &&& (3 : Int64)).toInt32)), .val (.ref b2), .val (.ref b7), .val (.int (w0_m2 q3 q4 q5))] [(.int (w0_m2 q3 q4 q5)), (.int (w0_4 q0 q1 q2 q3 q4 q5))])) t → Steps p.tables e below S0 t := fun t k => K30 t (by
        refine XS.iload X30.here hx rfl (hb hby at_102) rfl ?_
        show Steps p.tables e below (T30.setTop (mkF m 104 #[.val (.long q0), .second, .val (.long q1), .second, .val (.long q2), .second, .val (.long q3), .second, .val (.long q4), .second, .val (.long q5), .second, .val (.long (q5 >>> ((2 : Int32) &&& 0x3f).toInt64)), .second, .val (.int ((q5 &&& (3 : Int64)).toInt32)), .val (.ref b2), .val (.ref b7), .val (.int (w0_m2 q3 q4 q5))] [(.int (w0_m2 q3 q4 q5)), (.int (w0_4 q0 q1 q2 q3 q4 q5))])) _
        exact k)
      by_cases hc104_2 : (w0_4 q0 q1 q2 q3 q4 q5) = (w0_m2 q3 q4 q5)
      · -- yes
        have K32 : ∀ t, Steps p.tables e below (T30.setTop (mkF m 112 #[.val (.long q0), .second, .val (.long q1), .second, .val (.long q2), .second, .val (.long q3), .second, .val (.long q4), .second, .val (.long q5), .second, .val (.long (q5 >>> ((2 : Int32) &&& 0x3f).toInt64)), .second, .val (.int ((q5 &&& (3 : Int64)).toInt32)), .val (.ref b2), .val (.ref b7), .val (.int (w0_m2 q3 q4 q5))] [(.int (1 : Int32))])) t → Steps p.tables e below S0 t := fun t k => K31 t (by
          refine XS.icmpNo X30.here hx rfl (hb hby at_104) rfl (XT.ii_ne_f hc104_2) ?_
          show Steps p.tables e below (T30.setTop (mkF m 107 #[.val (.long q0), .second, .val (.long q1), .second, .val (.long q2), .second, .val (.long q3), .second, .val (.long q4), .second, .val (.long q5), .second, .val (.long (q5 >>> ((2 : Int32) &&& 0x3f).toInt64)), .second, .val (.int ((q5 &&& (3 : Int64)).toInt32)), .val (.ref b2), .val (.ref b7), .val (.int (w0_m2 q3 q4 q5))] [])) _
          refine XS.iconst X30.here hx rfl (hb hby at_107) ?_
          show Steps p.tables e below (T30.setTop (mkF m 108 #[.val (.long q0), .second, .val (.long q1), .second, .val (.long q2), .second, .val (.long q3), .second, .val (.long q4), .second, .val (.long q5), .second, .val (.long (q5 >>> ((2 : Int32) &&& 0x3f).toInt64)), .second, .val (.int ((q5 &&& (3 : Int64)).toInt32)), .val (.ref b2), .val (.ref b7), .val (.int (w0_m2 q3 q4 q5))] [(.int (1 : Int32))])) _
          refine XS.goto X30.here hx rfl (pc0 := 108) (pc' := 112) rfl (hb hby at_108) (by decide) (by decide) ?_
          show Steps p.tables e below (T30.setTop (mkF m 112 #[.val (.long q0), .second, .val (.long q1), .second, .val (.long q2), .second, .val (.long q3), .second, .val (.long q4), .second, .val (.long q5), .second, .val (.long (q5 >>> ((2 : Int32) &&& 0x3f).toInt64)), .second, .val (.int ((q5 &&& (3 : Int64)).toInt32)), .val (.ref b2), .val (.ref b7), .val (.int (w0_m2 q3 q4 q5))] [(.int (1 : Int32))])) _
          exact k)
        obtain ⟨fs, hr, hrun, hended, hW, hsame⟩ := X30.leave (v := some (.int (1 : Int32))) (fun h => by rw [Bd.returns] at h; cases h) hlk
        refine ⟨_, _, ?_, hrun, hended, _, _, rfl, ?_, ⟨_, rfl⟩, hW, hsame.mono (by decide) (by decide)⟩
        · rw [← hS0]; exact K32 _ (retN X30 hx (t := .boolean) Bd.returns (by simp) (hb hby at_112) hr)
        · show Q0 Z q0 q1 q2 q3 q4 q5 oc cc h0 n0 _ T30.heap _
          rw [e30]
          have qr : (1 : Int32) = (w0_r5 q0 q1 q2 q3 q4 q5) := by unfold w0_r5; rw [if_pos hc52_0, if_pos hc92_1, if_pos hc104_2]
          exact ⟨congrArg (fun z => some (Value.int z)) qr, N30⟩
      · -- no
        have K33 : ∀ t, Steps p.tables e below (T30.setTop (mkF m 112 #[.val (.long q0), .second, .val (.long q1), .second, .val (.long q2), .second, .val (.long q3), .second, .val (.long q4), .second, .val (.long q5), .second, .val (.long (q5 >>> ((2 : Int32) &&& 0x3f).toInt64)), .second, .val (.int ((q5 &&& (3 : Int64)).toInt32)), .val (.ref b2), .val (.ref b7), .val (.int (w0_m2 q3 q4 q5))] [(.int (0 : Int32))])) t → Steps p.tables e below S0 t := fun t k => K31 t (by
          refine XS.icmpYes X30.here hx rfl (pc0 := 104) (pc' := 111) rfl (hb hby at_104) rfl (XT.ii_ne_t hc104_2) (by decide) (by decide) ?_
          show Steps p.tables e below (T30.setTop (mkF m 111 #[.val (.long q0), .second, .val (.long q1), .second, .val (.long q2), .second, .val (.long q3), .second, .val (.long q4), .second, .val (.long q5), .second, .val (.long (q5 >>> ((2 : Int32) &&& 0x3f).toInt64)), .second, .val (.int ((q5 &&& (3 : Int64)).toInt32)), .val (.ref b2), .val (.ref b7), .val (.int (w0_m2 q3 q4 q5))] [])) _
          refine XS.iconst X30.here hx rfl (hb hby at_111) ?_
          show Steps p.tables e below (T30.setTop (mkF m 112 #[.val (.long q0), .second, .val (.long q1), .second, .val (.long q2), .second, .val (.long q3), .second, .val (.long q4), .second, .val (.long q5), .second, .val (.long (q5 >>> ((2 : Int32) &&& 0x3f).toInt64)), .second, .val (.int ((q5 &&& (3 : Int64)).toInt32)), .val (.ref b2), .val (.ref b7), .val (.int (w0_m2 q3 q4 q5))] [(.int (0 : Int32))])) _
          exact k)
        obtain ⟨fs, hr, hrun, hended, hW, hsame⟩ := X30.leave (v := some (.int (0 : Int32))) (fun h => by rw [Bd.returns] at h; cases h) hlk
        refine ⟨_, _, ?_, hrun, hended, _, _, rfl, ?_, ⟨_, rfl⟩, hW, hsame.mono (by decide) (by decide)⟩
        · rw [← hS0]; exact K33 _ (retN X30 hx (t := .boolean) Bd.returns (by simp) (hb hby at_112) hr)
        · show Q0 Z q0 q1 q2 q3 q4 q5 oc cc h0 n0 _ T30.heap _
          rw [e30]
          have qr : (0 : Int32) = (w0_r5 q0 q1 q2 q3 q4 q5) := by unfold w0_r5; rw [if_pos hc52_0, if_pos hc92_1, if_neg hc104_2]
          exact ⟨congrArg (fun z => some (Value.int z)) qr, N30⟩
    · -- no
      have K34 : ∀ t, Steps p.tables e below (T26.setTop (mkF m 112 #[.val (.long q0), .second, .val (.long q1), .second, .val (.long q2), .second, .val (.long q3), .second, .val (.long q4), .second, .val (.long q5), .second, .val (.long (q5 >>> ((2 : Int32) &&& 0x3f).toInt64)), .second, .val (.int ((q5 &&& (3 : Int64)).toInt32)), .val (.ref b2), .val (.ref b7), .val (.int (w0_m2 q3 q4 q5))] [(.int (0 : Int32))])) t → Steps p.tables e below S0 t := fun t k => K27 t (by
        refine XS.icmpYes X26.here hx rfl (pc0 := 92) (pc' := 111) rfl (hb hby at_92) rfl (XT.ii_ne_t hc92_1) (by decide) (by decide) ?_
        show Steps p.tables e below (T26.setTop (mkF m 111 #[.val (.long q0), .second, .val (.long q1), .second, .val (.long q2), .second, .val (.long q3), .second, .val (.long q4), .second, .val (.long q5), .second, .val (.long (q5 >>> ((2 : Int32) &&& 0x3f).toInt64)), .second, .val (.int ((q5 &&& (3 : Int64)).toInt32)), .val (.ref b2), .val (.ref b7), .val (.int (w0_m2 q3 q4 q5))] [])) _
        refine XS.iconst X26.here hx rfl (hb hby at_111) ?_
        show Steps p.tables e below (T26.setTop (mkF m 112 #[.val (.long q0), .second, .val (.long q1), .second, .val (.long q2), .second, .val (.long q3), .second, .val (.long q4), .second, .val (.long q5), .second, .val (.long (q5 >>> ((2 : Int32) &&& 0x3f).toInt64)), .second, .val (.int ((q5 &&& (3 : Int64)).toInt32)), .val (.ref b2), .val (.ref b7), .val (.int (w0_m2 q3 q4 q5))] [(.int (0 : Int32))])) _
        exact k)
      obtain ⟨fs, hr, hrun, hended, hW, hsame⟩ := X26.leave (v := some (.int (0 : Int32))) (fun h => by rw [Bd.returns] at h; cases h) hlk
      refine ⟨_, _, ?_, hrun, hended, _, _, rfl, ?_, ⟨_, rfl⟩, hW, hsame.mono (by decide) (by decide)⟩
      · rw [← hS0]; exact K34 _ (retN X26 hx (t := .boolean) Bd.returns (by simp) (hb hby at_112) hr)
      · show Q0 Z q0 q1 q2 q3 q4 q5 oc cc h0 n0 _ T26.heap _
        rw [e26]
        have qr : (0 : Int32) = (w0_r5 q0 q1 q2 q3 q4 q5) := by unfold w0_r5; rw [if_pos hc52_0, if_neg hc92_1]
        exact ⟨congrArg (fun z => some (Value.int z)) qr, N26⟩
  · -- no
    have K35 : ∀ t, Steps p.tables e below (T10.setTop (mkF m 116 #[.val (.long q0), .second, .val (.long q1), .second, .val (.long q2), .second, .val (.long q3), .second, .val (.long q4), .second, .val (.long q5), .second, .val (.long (q5 >>> ((2 : Int32) &&& 0x3f).toInt64)), .second, .val (.int ((q5 &&& (3 : Int64)).toInt32)), .val (.ref b2), .val (.ref b7), .unset] [(.int (1 : Int32)), (.int ((q5 &&& (3 : Int64)).toInt32))])) t → Steps p.tables e below S0 t := fun t k => K11 t (by
      refine XS.ifYes X10.here hx rfl (pc0 := 52) (pc' := 113) rfl (hb hby at_52) rfl (XT.i0_ne_t hc52_0) (by decide) (by decide) ?_
      show Steps p.tables e below (T10.setTop (mkF m 113 #[.val (.long q0), .second, .val (.long q1), .second, .val (.long q2), .second, .val (.long q3), .second, .val (.long q4), .second, .val (.long q5), .second, .val (.long (q5 >>> ((2 : Int32) &&& 0x3f).toInt64)), .second, .val (.int ((q5 &&& (3 : Int64)).toInt32)), .val (.ref b2), .val (.ref b7), .unset] [])) _
      refine XS.iload X10.here hx rfl (hb hby at_113) rfl ?_
      show Steps p.tables e below (T10.setTop (mkF m 115 #[.val (.long q0), .second, .val (.long q1), .second, .val (.long q2), .second, .val (.long q3), .second, .val (.long q4), .second, .val (.long q5), .second, .val (.long (q5 >>> ((2 : Int32) &&& 0x3f).toInt64)), .second, .val (.int ((q5 &&& (3 : Int64)).toInt32)), .val (.ref b2), .val (.ref b7), .unset] [(.int ((q5 &&& (3 : Int64)).toInt32))])) _
      refine XS.iconst X10.here hx rfl (hb hby at_115) ?_
      show Steps p.tables e below (T10.setTop (mkF m 116 #[.val (.long q0), .second, .val (.long q1), .second, .val (.long q2), .second, .val (.long q3), .second, .val (.long q4), .second, .val (.long q5), .second, .val (.long (q5 >>> ((2 : Int32) &&& 0x3f).toInt64)), .second, .val (.int ((q5 &&& (3 : Int64)).toInt32)), .val (.ref b2), .val (.ref b7), .unset] [(.int (1 : Int32)), (.int ((q5 &&& (3 : Int64)).toInt32))])) _
      exact k)
    by_cases hc116_1 : ((q5 &&& (3 : Int64)).toInt32) = (1 : Int32)
    · -- yes
      have K36 : ∀ t, Steps p.tables e below (T10.setTop (mkF m 122 #[.val (.long q0), .second, .val (.long q1), .second, .val (.long q2), .second, .val (.long q3), .second, .val (.long q4), .second, .val (.long q5), .second, .val (.long (q5 >>> ((2 : Int32) &&& 0x3f).toInt64)), .second, .val (.int ((q5 &&& (3 : Int64)).toInt32)), .val (.ref b2), .val (.ref b7), .unset] [.null, (.ref b2)])) t → Steps p.tables e below S0 t := fun t k => K35 t (by
        refine XS.icmpNo X10.here hx rfl (hb hby at_116) rfl (XT.ii_ne_f hc116_1) ?_
        show Steps p.tables e below (T10.setTop (mkF m 119 #[.val (.long q0), .second, .val (.long q1), .second, .val (.long q2), .second, .val (.long q3), .second, .val (.long q4), .second, .val (.long q5), .second, .val (.long (q5 >>> ((2 : Int32) &&& 0x3f).toInt64)), .second, .val (.int ((q5 &&& (3 : Int64)).toInt32)), .val (.ref b2), .val (.ref b7), .unset] [])) _
        refine XS.aload X10.here hx rfl (hb hby at_119) rfl rfl ?_
        show Steps p.tables e below (T10.setTop (mkF m 121 #[.val (.long q0), .second, .val (.long q1), .second, .val (.long q2), .second, .val (.long q3), .second, .val (.long q4), .second, .val (.long q5), .second, .val (.long (q5 >>> ((2 : Int32) &&& 0x3f).toInt64)), .second, .val (.int ((q5 &&& (3 : Int64)).toInt32)), .val (.ref b2), .val (.ref b7), .unset] [(.ref b2)])) _
        refine XS.aconstNull X10.here hx rfl (hb hby at_121) ?_
        show Steps p.tables e below (T10.setTop (mkF m 122 #[.val (.long q0), .second, .val (.long q1), .second, .val (.long q2), .second, .val (.long q3), .second, .val (.long q4), .second, .val (.long q5), .second, .val (.long (q5 >>> ((2 : Int32) &&& 0x3f).toInt64)), .second, .val (.int ((q5 &&& (3 : Int64)).toInt32)), .val (.ref b2), .val (.ref b7), .unset] [.null, (.ref b2)])) _
        exact k)
      have K_37 : ∀ t, Steps p.tables e below (T10.setTop (mkF m 122 #[.val (.long q0), .second, .val (.long q1), .second, .val (.long q2), .second, .val (.long q3), .second, .val (.long q4), .second, .val (.long q5), .second, .val (.long (q5 >>> ((2 : Int32) &&& 0x3f).toInt64)), .second, .val (.int ((q5 &&& (3 : Int64)).toInt32)), .val (.ref b2), .val (.ref b7), .unset] [.null, (.ref b2)])) t → Steps p.tables e below S0 t := K36
      obtain ⟨cq38, kq38, q38a, q38b, q38c⟩ := isOf hZ rfl Fn5_0__10
      obtain ⟨_, _, ⟨T38, L38, k38, n38⟩, -, X38, ⟨Lc38, hQ38, l38, y38, z38⟩, st38⟩ := X10.virtualBack hx (y := (⟨"com/example/rota/rota/agent/TokenUsage", "equals", "(Ljava/lang/Object;)Z"⟩ : MethodName)) (z := (⟨"com/example/rota/rota/agent/TokenUsage", "equals", "(Ljava/lang/Object;)Z"⟩ : MethodName)) hown (mvT hZ (hw _ (List.mem_of_getElem? (i := 16) rfl))) (mvT hZ (hw _ (List.mem_of_getElem? (i := 17) rfl))) (notFace_of_selects (args := #[]) (mvT hZ (hw _ (List.mem_of_getElem? (i := 19) rfl)))) (mvT hZ (hw _ (List.mem_of_getElem? (i := 19) rfl))) (mvT hZ (hw _ (List.mem_of_getElem? (i := 18) rfl))) (by decide) (backOf (W := 0) (rm3 l Z a0 hw [] b2 T10.heap n0 Zs10 ) hZ (hw _ (List.mem_of_getElem? (i := 20) rfl)) (hw _ (List.mem_of_getElem? (i := 3) rfl)) (by decide) (by decide)) q38a q38c (g := (mkF m 122 #[.val (.long q0), .second, .val (.long q1), .second, .val (.long q2), .second, .val (.long q3), .second, .val (.long q4), .second, .val (.long q5), .second, .val (.long (q5 >>> ((2 : Int32) &&& 0x3f).toInt64)), .second, .val (.int ((q5 &&& (3 : Int64)).toInt32)), .val (.ref b2), .val (.ref b7), .unset] [.null, (.ref b2)])) rfl (by rw [hml]; rfl) (Steps.refl _) (argsL := [.null]) (rest := []) (lenOf pd0_1 rfl) rfl (by show 2 * 0 + _ ≤ _; exact Nat.le_of_eq rfl) (hb hby at_122) (fun _ _ => ⟨rfl, rfl, (by decide : 2 + 0 ≤ 16), (by decide : 6 + 0 ≤ 128)⟩)
      dsimp only [Pt.U, Pt.locs, Pt.cells, Pt.slots] at X38 l38 y38 z38 st38 hQ38
      subst l38 y38 z38
      obtain ⟨rfl, N38q, e38⟩ := hQ38
      have N38 := Fr.app N10 N38q
      have K38 : ∀ t, Steps p.tables e below (T38.setTop (mkF m 125 #[.val (.long q0), .second, .val (.long q1), .second, .val (.long q2), .second, .val (.long q3), .second, .val (.long q4), .second, .val (.long q5), .second, .val (.long (q5 >>> ((2 : Int32) &&& 0x3f).toInt64)), .second, .val (.int ((q5 &&& (3 : Int64)).toInt32)), .val (.ref b2), .val (.ref b7), .unset] [(.int (0 : Int32))])) t → Steps p.tables e below S0 t := fun t k => K_37 t (st38.trans k)
      have K39 : ∀ t, Steps p.tables e below (T38.setTop (mkF m 133 #[.val (.long q0), .second, .val (.long q1), .second, .val (.long q2), .second, .val (.long q3), .second, .val (.long q4), .second, .val (.long q5), .second, .val (.long (q5 >>> ((2 : Int32) &&& 0x3f).toInt64)), .second, .val (.int ((q5 &&& (3 : Int64)).toInt32)), .val (.ref b2), .val (.ref b7), .unset] [(.int (1 : Int32))])) t → Steps p.tables e below S0 t := fun t k => K38 t (by
        refine XS.ifNo X38.here hx rfl (hb hby at_125) rfl (XT.i0_ne_f (by decide)) ?_
        show Steps p.tables e below (T38.setTop (mkF m 128 #[.val (.long q0), .second, .val (.long q1), .second, .val (.long q2), .second, .val (.long q3), .second, .val (.long q4), .second, .val (.long q5), .second, .val (.long (q5 >>> ((2 : Int32) &&& 0x3f).toInt64)), .second, .val (.int ((q5 &&& (3 : Int64)).toInt32)), .val (.ref b2), .val (.ref b7), .unset] [])) _
        refine XS.iconst X38.here hx rfl (hb hby at_128) ?_
        show Steps p.tables e below (T38.setTop (mkF m 129 #[.val (.long q0), .second, .val (.long q1), .second, .val (.long q2), .second, .val (.long q3), .second, .val (.long q4), .second, .val (.long q5), .second, .val (.long (q5 >>> ((2 : Int32) &&& 0x3f).toInt64)), .second, .val (.int ((q5 &&& (3 : Int64)).toInt32)), .val (.ref b2), .val (.ref b7), .unset] [(.int (1 : Int32))])) _
        refine XS.goto X38.here hx rfl (pc0 := 129) (pc' := 133) rfl (hb hby at_129) (by decide) (by decide) ?_
        show Steps p.tables e below (T38.setTop (mkF m 133 #[.val (.long q0), .second, .val (.long q1), .second, .val (.long q2), .second, .val (.long q3), .second, .val (.long q4), .second, .val (.long q5), .second, .val (.long (q5 >>> ((2 : Int32) &&& 0x3f).toInt64)), .second, .val (.int ((q5 &&& (3 : Int64)).toInt32)), .val (.ref b2), .val (.ref b7), .unset] [(.int (1 : Int32))])) _
        exact k)
      obtain ⟨fs, hr, hrun, hended, hW, hsame⟩ := X38.leave (v := some (.int (1 : Int32))) (fun h => by rw [Bd.returns] at h; cases h) hlk
      refine ⟨_, _, ?_, hrun, hended, _, _, rfl, ?_, ⟨_, rfl⟩, hW, hsame.mono (by decide) (by decide)⟩
      · rw [← hS0]; exact K39 _ (retN X38 hx (t := .boolean) Bd.returns (by simp) (hb hby at_133) hr)
      · show Q0 Z q0 q1 q2 q3 q4 q5 oc cc h0 n0 _ T38.heap _
        rw [e38]
        have qr : (1 : Int32) = (w0_r5 q0 q1 q2 q3 q4 q5) := by unfold w0_r5; rw [if_neg hc52_0, if_pos hc116_1]
        exact ⟨congrArg (fun z => some (Value.int z)) qr, N38⟩
    · -- no
      have K40 : ∀ t, Steps p.tables e below (T10.setTop (mkF m 137 #[.val (.long q0), .second, .val (.long q1), .second, .val (.long q2), .second, .val (.long q3), .second, .val (.long q4), .second, .val (.long q5), .second, .val (.long (q5 >>> ((2 : Int32) &&& 0x3f).toInt64)), .second, .val (.int ((q5 &&& (3 : Int64)).toInt32)), .val (.ref b2), .val (.ref b7), .unset] [(.int (2 : Int32)), (.int ((q5 &&& (3 : Int64)).toInt32))])) t → Steps p.tables e below S0 t := fun t k => K35 t (by
        refine XS.icmpYes X10.here hx rfl (pc0 := 116) (pc' := 134) rfl (hb hby at_116) rfl (XT.ii_ne_t hc116_1) (by decide) (by decide) ?_
        show Steps p.tables e below (T10.setTop (mkF m 134 #[.val (.long q0), .second, .val (.long q1), .second, .val (.long q2), .second, .val (.long q3), .second, .val (.long q4), .second, .val (.long q5), .second, .val (.long (q5 >>> ((2 : Int32) &&& 0x3f).toInt64)), .second, .val (.int ((q5 &&& (3 : Int64)).toInt32)), .val (.ref b2), .val (.ref b7), .unset] [])) _
        refine XS.iload X10.here hx rfl (hb hby at_134) rfl ?_
        show Steps p.tables e below (T10.setTop (mkF m 136 #[.val (.long q0), .second, .val (.long q1), .second, .val (.long q2), .second, .val (.long q3), .second, .val (.long q4), .second, .val (.long q5), .second, .val (.long (q5 >>> ((2 : Int32) &&& 0x3f).toInt64)), .second, .val (.int ((q5 &&& (3 : Int64)).toInt32)), .val (.ref b2), .val (.ref b7), .unset] [(.int ((q5 &&& (3 : Int64)).toInt32))])) _
        refine XS.iconst X10.here hx rfl (hb hby at_136) ?_
        show Steps p.tables e below (T10.setTop (mkF m 137 #[.val (.long q0), .second, .val (.long q1), .second, .val (.long q2), .second, .val (.long q3), .second, .val (.long q4), .second, .val (.long q5), .second, .val (.long (q5 >>> ((2 : Int32) &&& 0x3f).toInt64)), .second, .val (.int ((q5 &&& (3 : Int64)).toInt32)), .val (.ref b2), .val (.ref b7), .unset] [(.int (2 : Int32)), (.int ((q5 &&& (3 : Int64)).toInt32))])) _
        exact k)
      by_cases hc137_2 : ((q5 &&& (3 : Int64)).toInt32) = (2 : Int32)
      · -- yes
        have K41 : ∀ t, Steps p.tables e below (T10.setTop (mkF m 144 #[.val (.long q0), .second, .val (.long q1), .second, .val (.long q2), .second, .val (.long q3), .second, .val (.long q4), .second, .val (.long q5), .second, .val (.long (q5 >>> ((2 : Int32) &&& 0x3f).toInt64)), .second, .val (.int ((q5 &&& (3 : Int64)).toInt32)), .val (.ref b2), .val (.ref b7), .unset] [(.ref b2), (.ref b2)])) t → Steps p.tables e below S0 t := fun t k => K40 t (by
          refine XS.icmpNo X10.here hx rfl (hb hby at_137) rfl (XT.ii_ne_f hc137_2) ?_
          show Steps p.tables e below (T10.setTop (mkF m 140 #[.val (.long q0), .second, .val (.long q1), .second, .val (.long q2), .second, .val (.long q3), .second, .val (.long q4), .second, .val (.long q5), .second, .val (.long (q5 >>> ((2 : Int32) &&& 0x3f).toInt64)), .second, .val (.int ((q5 &&& (3 : Int64)).toInt32)), .val (.ref b2), .val (.ref b7), .unset] [])) _
          refine XS.aload X10.here hx rfl (hb hby at_140) rfl rfl ?_
          show Steps p.tables e below (T10.setTop (mkF m 142 #[.val (.long q0), .second, .val (.long q1), .second, .val (.long q2), .second, .val (.long q3), .second, .val (.long q4), .second, .val (.long q5), .second, .val (.long (q5 >>> ((2 : Int32) &&& 0x3f).toInt64)), .second, .val (.int ((q5 &&& (3 : Int64)).toInt32)), .val (.ref b2), .val (.ref b7), .unset] [(.ref b2)])) _
          refine XS.aload X10.here hx rfl (hb hby at_142) rfl rfl ?_
          show Steps p.tables e below (T10.setTop (mkF m 144 #[.val (.long q0), .second, .val (.long q1), .second, .val (.long q2), .second, .val (.long q3), .second, .val (.long q4), .second, .val (.long q5), .second, .val (.long (q5 >>> ((2 : Int32) &&& 0x3f).toInt64)), .second, .val (.int ((q5 &&& (3 : Int64)).toInt32)), .val (.ref b2), .val (.ref b7), .unset] [(.ref b2), (.ref b2)])) _
          exact k)
        have K_42 : ∀ t, Steps p.tables e below (T10.setTop (mkF m 144 #[.val (.long q0), .second, .val (.long q1), .second, .val (.long q2), .second, .val (.long q3), .second, .val (.long q4), .second, .val (.long q5), .second, .val (.long (q5 >>> ((2 : Int32) &&& 0x3f).toInt64)), .second, .val (.int ((q5 &&& (3 : Int64)).toInt32)), .val (.ref b2), .val (.ref b7), .unset] [(.ref b2), (.ref b2)])) t → Steps p.tables e below S0 t := K41
        obtain ⟨cq43, kq43, q43a, q43b, q43c⟩ := isOf hZ rfl Fn5_0__10
        obtain ⟨_, _, ⟨T43, L43, k43, n43⟩, -, X43, ⟨Lc43, hQ43, l43, y43, z43⟩, st43⟩ := X10.virtualBack hx (y := (⟨"com/example/rota/rota/agent/TokenUsage", "equals", "(Ljava/lang/Object;)Z"⟩ : MethodName)) (z := (⟨"com/example/rota/rota/agent/TokenUsage", "equals", "(Ljava/lang/Object;)Z"⟩ : MethodName)) hown (mvT hZ (hw _ (List.mem_of_getElem? (i := 16) rfl))) (mvT hZ (hw _ (List.mem_of_getElem? (i := 17) rfl))) (notFace_of_selects (args := #[]) (mvT hZ (hw _ (List.mem_of_getElem? (i := 19) rfl)))) (mvT hZ (hw _ (List.mem_of_getElem? (i := 19) rfl))) (mvT hZ (hw _ (List.mem_of_getElem? (i := 18) rfl))) (by decide) (backOf (W := 0) (rm2 l Z a0 hw [] b2 b2 q0 q1 q2 q0 q1 q2 T10.heap n0 Zs10 Fn5_0__10 Fn5_1__10 Fn5_2__10 Fn5_3__10 Fn5_1__10 Fn5_2__10 Fn5_3__10) hZ (hw _ (List.mem_of_getElem? (i := 20) rfl)) (hw _ (List.mem_of_getElem? (i := 3) rfl)) (by decide) (by decide)) q43a q43c (g := (mkF m 144 #[.val (.long q0), .second, .val (.long q1), .second, .val (.long q2), .second, .val (.long q3), .second, .val (.long q4), .second, .val (.long q5), .second, .val (.long (q5 >>> ((2 : Int32) &&& 0x3f).toInt64)), .second, .val (.int ((q5 &&& (3 : Int64)).toInt32)), .val (.ref b2), .val (.ref b7), .unset] [(.ref b2), (.ref b2)])) rfl (by rw [hml]; rfl) (Steps.refl _) (argsL := [(.ref b2)]) (rest := []) (lenOf pd0_1 rfl) rfl (by show 2 * 0 + _ ≤ _; exact Nat.le_of_eq rfl) (hb hby at_144) (fun _ _ => ⟨rfl, rfl, (by decide : 2 + 0 ≤ 16), (by decide : 6 + 0 ≤ 128)⟩)
        dsimp only [Pt.U, Pt.locs, Pt.cells, Pt.slots] at X43 l43 y43 z43 st43 hQ43
        subst l43 y43 z43
        obtain ⟨rfl, N43q, e43⟩ := hQ43
        have N43 := Fr.app N10 N43q
        have K43 : ∀ t, Steps p.tables e below (T43.setTop (mkF m 147 #[.val (.long q0), .second, .val (.long q1), .second, .val (.long q2), .second, .val (.long q3), .second, .val (.long q4), .second, .val (.long q5), .second, .val (.long (q5 >>> ((2 : Int32) &&& 0x3f).toInt64)), .second, .val (.int ((q5 &&& (3 : Int64)).toInt32)), .val (.ref b2), .val (.ref b7), .unset] [(.int (w2_r1 q0 q1 q2 q0 q1 q2))])) t → Steps p.tables e below S0 t := fun t k => K_42 t (st43.trans k)
        obtain ⟨fs, hr, hrun, hended, hW, hsame⟩ := X43.leave (v := some (.int (nar .boolean (w2_r1 q0 q1 q2 q0 q1 q2)))) (fun h => by rw [Bd.returns] at h; cases h) hlk
        refine ⟨_, _, ?_, hrun, hended, _, _, rfl, ?_, ⟨_, rfl⟩, hW, hsame.mono (by decide) (by decide)⟩
        · rw [← hS0]; exact K43 _ (retN X43 hx (t := .boolean) Bd.returns (by simp) (hb hby at_147) hr)
        · show Q0 Z q0 q1 q2 q3 q4 q5 oc cc h0 n0 _ T43.heap _
          rw [e43]
          have qr : (nar .boolean (w2_r1 q0 q1 q2 q0 q1 q2)) = (w0_r5 q0 q1 q2 q3 q4 q5) := by unfold w0_r5; rw [if_neg hc52_0, if_neg hc116_1, if_pos hc137_2]
          exact ⟨congrArg (fun z => some (Value.int z)) qr, N43⟩
      · -- no
        have K44 : ∀ t, Steps p.tables e below (T10.setTop (mkF m 151 #[.val (.long q0), .second, .val (.long q1), .second, .val (.long q2), .second, .val (.long q3), .second, .val (.long q4), .second, .val (.long q5), .second, .val (.long (q5 >>> ((2 : Int32) &&& 0x3f).toInt64)), .second, .val (.int ((q5 &&& (3 : Int64)).toInt32)), .val (.ref b2), .val (.ref b7), .unset] [(.long q0), (.ref b2)])) t → Steps p.tables e below S0 t := fun t k => K40 t (by
          refine XS.icmpYes X10.here hx rfl (pc0 := 137) (pc' := 148) rfl (hb hby at_137) rfl (XT.ii_ne_t hc137_2) (by decide) (by decide) ?_
          show Steps p.tables e below (T10.setTop (mkF m 148 #[.val (.long q0), .second, .val (.long q1), .second, .val (.long q2), .second, .val (.long q3), .second, .val (.long q4), .second, .val (.long q5), .second, .val (.long (q5 >>> ((2 : Int32) &&& 0x3f).toInt64)), .second, .val (.int ((q5 &&& (3 : Int64)).toInt32)), .val (.ref b2), .val (.ref b7), .unset] [])) _
          refine XS.aload X10.here hx rfl (hb hby at_148) rfl rfl ?_
          show Steps p.tables e below (T10.setTop (mkF m 150 #[.val (.long q0), .second, .val (.long q1), .second, .val (.long q2), .second, .val (.long q3), .second, .val (.long q4), .second, .val (.long q5), .second, .val (.long (q5 >>> ((2 : Int32) &&& 0x3f).toInt64)), .second, .val (.int ((q5 &&& (3 : Int64)).toInt32)), .val (.ref b2), .val (.ref b7), .unset] [(.ref b2)])) _
          refine XS.lloadN X10.here hx rfl (hb hby at_150) rfl ?_
          show Steps p.tables e below (T10.setTop (mkF m 151 #[.val (.long q0), .second, .val (.long q1), .second, .val (.long q2), .second, .val (.long q3), .second, .val (.long q4), .second, .val (.long q5), .second, .val (.long (q5 >>> ((2 : Int32) &&& 0x3f).toInt64)), .second, .val (.int ((q5 &&& (3 : Int64)).toInt32)), .val (.ref b2), .val (.ref b7), .unset] [(.long q0), (.ref b2)])) _
          exact k)
        by_cases hc151_3 : q0 < (-128 : Int64)
        · -- yes
          have K_45 : ∀ t, Steps p.tables e below (T10.setTop (mkF m 151 #[.val (.long q0), .second, .val (.long q1), .second, .val (.long q2), .second, .val (.long q3), .second, .val (.long q4), .second, .val (.long q5), .second, .val (.long (q5 >>> ((2 : Int32) &&& 0x3f).toInt64)), .second, .val (.int ((q5 &&& (3 : Int64)).toInt32)), .val (.ref b2), .val (.ref b7), .unset] [(.long q0), (.ref b2)])) t → Steps p.tables e below S0 t := K44
          obtain ⟨_, _, ⟨T46, L46, k46, n46⟩, -, X46, ⟨Lc46, hQ46, l46, y46, z46⟩, st46⟩ := Jvm.LawKit.callS X10 hx (y := (⟨"java/lang/Long", "valueOf", "(J)Ljava/lang/Long;"⟩ : MethodName)) hown (mvT hZ (hw _ (List.mem_of_getElem? (i := 23) rfl))) (mvT hZ (hw _ (List.mem_of_getElem? (i := 24) rfl))) (mvT hZ (hw _ (List.mem_of_getElem? (i := 25) rfl))) (mvT hZ (hw _ (List.mem_of_getElem? (i := 26) rfl))) (by decide) (backOf (W := 1) (rmLlo l Z a0 hw [] q0 T10.heap n0 Zs10 hc151_3) hZ (hw _ (List.mem_of_getElem? (i := 26) rfl)) (hw _ (List.mem_of_getElem? (i := 25) rfl)) (by decide) (by decide)) (g := (mkF m 151 #[.val (.long q0), .second, .val (.long q1), .second, .val (.long q2), .second, .val (.long q3), .second, .val (.long q4), .second, .val (.long q5), .second, .val (.long (q5 >>> ((2 : Int32) &&& 0x3f).toInt64)), .second, .val (.int ((q5 &&& (3 : Int64)).toInt32)), .val (.ref b2), .val (.ref b7), .unset] [(.long q0), (.ref b2)])) rfl (by rw [hml]; rfl) (argsL := [(.long q0)]) (rest := [(.ref b2)]) (lenOf pd0_2 rfl) rfl (by show 2 * 0 + _ ≤ _; exact Nat.le_of_eq rfl) (hb hby at_151) (fun _ _ => ⟨rfl, rfl, (by decide : 2 + 1 ≤ 16), (by decide : 6 + 1 ≤ 128)⟩)
          dsimp only [Pt.U, Pt.locs, Pt.cells, Pt.slots] at X46 l46 y46 z46 st46 hQ46
          subst l46 y46 z46
          obtain ⟨b46_4, rfl, N46q, Kp46, lb_b46_4, Fn46_0, Fn46_1⟩ := hQ46
          have N46 := Fr.app N10 N46q
          have g_b46_4 : n0 ≤ b46_4 := Nat.le_trans Zs10 lb_b46_4
          have ne_oc_b46_4 : oc ≠ b46_4 := Nat.ne_of_lt (Nat.lt_of_lt_of_le Ar_oc__10.lt lb_b46_4)
          have ne_b2_b46_4 : b2 ≠ b46_4 := Nat.ne_of_lt (Nat.lt_of_lt_of_le Fn5_0__10.lt lb_b46_4)
          have ne_b7_b46_4 : b7 ≠ b46_4 := Nat.ne_of_lt (Nat.lt_of_lt_of_le Fn10_0.lt lb_b46_4)
          have OL46 := OL10.keep Kp46 all0
          have S_Long_LongCache_cache__46 := S_Long_LongCache_cache.ext OL46.2
          have Ar_oc__46 := Ar_oc.ext OL46.2
          have Fn5_0__46 := Fn5_0__10.keep Kp46
          have Fn5_1__46 := Fn5_1__10.keep Kp46 nin0
          have Fn5_2__46 := Fn5_2__10.keep Kp46 nin0
          have Fn5_3__46 := Fn5_3__10.keep Kp46 nin0
          have Fn10_0__46 := Fn10_0.keep Kp46
          have Fn10_1__46 := Fn10_1.keep Kp46 nin0
          have Fn10_2__46 := Fn10_2.keep Kp46 nin0
          have Fn10_3__46 := Fn10_3.keep Kp46 nin0
          have Zs46 : n0 ≤ T46.heap.size := Nat.le_trans Zs10 Kp46.1
          have K46 : ∀ t, Steps p.tables e below (T46.setTop (mkF m 154 #[.val (.long q0), .second, .val (.long q1), .second, .val (.long q2), .second, .val (.long q3), .second, .val (.long q4), .second, .val (.long q5), .second, .val (.long (q5 >>> ((2 : Int32) &&& 0x3f).toInt64)), .second, .val (.int ((q5 &&& (3 : Int64)).toInt32)), .val (.ref b2), .val (.ref b7), .unset] [(.ref b46_4), (.ref b2)])) t → Steps p.tables e below S0 t := fun t k => K_45 t (st46 t k)
          have K_47 : ∀ t, Steps p.tables e below (T46.setTop (mkF m 154 #[.val (.long q0), .second, .val (.long q1), .second, .val (.long q2), .second, .val (.long q3), .second, .val (.long q4), .second, .val (.long q5), .second, .val (.long (q5 >>> ((2 : Int32) &&& 0x3f).toInt64)), .second, .val (.int ((q5 &&& (3 : Int64)).toInt32)), .val (.ref b2), .val (.ref b7), .unset] [(.ref b46_4), (.ref b2)])) t → Steps p.tables e below S0 t := K46
          obtain ⟨cq48, kq48, q48a, q48b, q48c⟩ := isOf hZ rfl Fn5_0__46
          obtain ⟨_, _, ⟨T48, L48, k48, n48⟩, -, X48, ⟨Lc48, hQ48, l48, y48, z48⟩, st48⟩ := X46.virtualBack hx (y := (⟨"com/example/rota/rota/agent/TokenUsage", "equals", "(Ljava/lang/Object;)Z"⟩ : MethodName)) (z := (⟨"com/example/rota/rota/agent/TokenUsage", "equals", "(Ljava/lang/Object;)Z"⟩ : MethodName)) hown (mvT hZ (hw _ (List.mem_of_getElem? (i := 16) rfl))) (mvT hZ (hw _ (List.mem_of_getElem? (i := 17) rfl))) (notFace_of_selects (args := #[]) (mvT hZ (hw _ (List.mem_of_getElem? (i := 19) rfl)))) (mvT hZ (hw _ (List.mem_of_getElem? (i := 19) rfl))) (mvT hZ (hw _ (List.mem_of_getElem? (i := 18) rfl))) (by decide) (backOf (W := 0) (rm4 l Z a0 hw [] b2 b46_4 T46.heap n0 Zs46 Fn46_0) hZ (hw _ (List.mem_of_getElem? (i := 20) rfl)) (hw _ (List.mem_of_getElem? (i := 3) rfl)) (by decide) (by decide)) q48a q48c (g := (mkF m 154 #[.val (.long q0), .second, .val (.long q1), .second, .val (.long q2), .second, .val (.long q3), .second, .val (.long q4), .second, .val (.long q5), .second, .val (.long (q5 >>> ((2 : Int32) &&& 0x3f).toInt64)), .second, .val (.int ((q5 &&& (3 : Int64)).toInt32)), .val (.ref b2), .val (.ref b7), .unset] [(.ref b46_4), (.ref b2)])) rfl (by rw [hml]; rfl) (Steps.refl _) (argsL := [(.ref b46_4)]) (rest := []) (lenOf pd0_1 rfl) rfl (by show 2 * 0 + _ ≤ _; exact Nat.le_of_eq rfl) (hb hby at_154) (fun _ _ => ⟨rfl, rfl, (by decide : 3 + 0 ≤ 16), (by decide : 7 + 0 ≤ 128)⟩)
          dsimp only [Pt.U, Pt.locs, Pt.cells, Pt.slots] at X48 l48 y48 z48 st48 hQ48
          subst l48 y48 z48
          obtain ⟨rfl, N48q, e48⟩ := hQ48
          have N48 := Fr.app N46 N48q
          have K48 : ∀ t, Steps p.tables e below (T48.setTop (mkF m 157 #[.val (.long q0), .second, .val (.long q1), .second, .val (.long q2), .second, .val (.long q3), .second, .val (.long q4), .second, .val (.long q5), .second, .val (.long (q5 >>> ((2 : Int32) &&& 0x3f).toInt64)), .second, .val (.int ((q5 &&& (3 : Int64)).toInt32)), .val (.ref b2), .val (.ref b7), .unset] [(.int (0 : Int32))])) t → Steps p.tables e below S0 t := fun t k => K_47 t (st48.trans k)
          have K49 : ∀ t, Steps p.tables e below (T48.setTop (mkF m 165 #[.val (.long q0), .second, .val (.long q1), .second, .val (.long q2), .second, .val (.long q3), .second, .val (.long q4), .second, .val (.long q5), .second, .val (.long (q5 >>> ((2 : Int32) &&& 0x3f).toInt64)), .second, .val (.int ((q5 &&& (3 : Int64)).toInt32)), .val (.ref b2), .val (.ref b7), .unset] [(.int (1 : Int32))])) t → Steps p.tables e below S0 t := fun t k => K48 t (by
            refine XS.ifNo X48.here hx rfl (hb hby at_157) rfl (XT.i0_ne_f (by decide)) ?_
            show Steps p.tables e below (T48.setTop (mkF m 160 #[.val (.long q0), .second, .val (.long q1), .second, .val (.long q2), .second, .val (.long q3), .second, .val (.long q4), .second, .val (.long q5), .second, .val (.long (q5 >>> ((2 : Int32) &&& 0x3f).toInt64)), .second, .val (.int ((q5 &&& (3 : Int64)).toInt32)), .val (.ref b2), .val (.ref b7), .unset] [])) _
            refine XS.iconst X48.here hx rfl (hb hby at_160) ?_
            show Steps p.tables e below (T48.setTop (mkF m 161 #[.val (.long q0), .second, .val (.long q1), .second, .val (.long q2), .second, .val (.long q3), .second, .val (.long q4), .second, .val (.long q5), .second, .val (.long (q5 >>> ((2 : Int32) &&& 0x3f).toInt64)), .second, .val (.int ((q5 &&& (3 : Int64)).toInt32)), .val (.ref b2), .val (.ref b7), .unset] [(.int (1 : Int32))])) _
            refine XS.goto X48.here hx rfl (pc0 := 161) (pc' := 165) rfl (hb hby at_161) (by decide) (by decide) ?_
            show Steps p.tables e below (T48.setTop (mkF m 165 #[.val (.long q0), .second, .val (.long q1), .second, .val (.long q2), .second, .val (.long q3), .second, .val (.long q4), .second, .val (.long q5), .second, .val (.long (q5 >>> ((2 : Int32) &&& 0x3f).toInt64)), .second, .val (.int ((q5 &&& (3 : Int64)).toInt32)), .val (.ref b2), .val (.ref b7), .unset] [(.int (1 : Int32))])) _
            exact k)
          obtain ⟨fs, hr, hrun, hended, hW, hsame⟩ := X48.leave (v := some (.int (1 : Int32))) (fun h => by rw [Bd.returns] at h; cases h) hlk
          refine ⟨_, _, ?_, hrun, hended, _, _, rfl, ?_, ⟨_, rfl⟩, hW, hsame.mono (by decide) (by decide)⟩
          · rw [← hS0]; exact K49 _ (retN X48 hx (t := .boolean) Bd.returns (by simp) (hb hby at_165) hr)
          · show Q0 Z q0 q1 q2 q3 q4 q5 oc cc h0 n0 _ T48.heap _
            rw [e48]
            have qr : (1 : Int32) = (w0_r5 q0 q1 q2 q3 q4 q5) := by unfold w0_r5; rw [if_neg hc52_0, if_neg hc116_1, if_neg hc137_2]
            exact ⟨congrArg (fun z => some (Value.int z)) qr, N48⟩
        · -- no
          by_cases hc151_4 : (127 : Int64) < q0
          · -- yes
            have K_50 : ∀ t, Steps p.tables e below (T10.setTop (mkF m 151 #[.val (.long q0), .second, .val (.long q1), .second, .val (.long q2), .second, .val (.long q3), .second, .val (.long q4), .second, .val (.long q5), .second, .val (.long (q5 >>> ((2 : Int32) &&& 0x3f).toInt64)), .second, .val (.int ((q5 &&& (3 : Int64)).toInt32)), .val (.ref b2), .val (.ref b7), .unset] [(.long q0), (.ref b2)])) t → Steps p.tables e below S0 t := K44
            obtain ⟨_, _, ⟨T51, L51, k51, n51⟩, -, X51, ⟨Lc51, hQ51, l51, y51, z51⟩, st51⟩ := Jvm.LawKit.callS X10 hx (y := (⟨"java/lang/Long", "valueOf", "(J)Ljava/lang/Long;"⟩ : MethodName)) hown (mvT hZ (hw _ (List.mem_of_getElem? (i := 23) rfl))) (mvT hZ (hw _ (List.mem_of_getElem? (i := 24) rfl))) (mvT hZ (hw _ (List.mem_of_getElem? (i := 25) rfl))) (mvT hZ (hw _ (List.mem_of_getElem? (i := 26) rfl))) (by decide) (backOf (W := 1) (rmLhi l Z a0 hw [] q0 T10.heap n0 Zs10 hc151_3 hc151_4) hZ (hw _ (List.mem_of_getElem? (i := 26) rfl)) (hw _ (List.mem_of_getElem? (i := 25) rfl)) (by decide) (by decide)) (g := (mkF m 151 #[.val (.long q0), .second, .val (.long q1), .second, .val (.long q2), .second, .val (.long q3), .second, .val (.long q4), .second, .val (.long q5), .second, .val (.long (q5 >>> ((2 : Int32) &&& 0x3f).toInt64)), .second, .val (.int ((q5 &&& (3 : Int64)).toInt32)), .val (.ref b2), .val (.ref b7), .unset] [(.long q0), (.ref b2)])) rfl (by rw [hml]; rfl) (argsL := [(.long q0)]) (rest := [(.ref b2)]) (lenOf pd0_2 rfl) rfl (by show 2 * 0 + _ ≤ _; exact Nat.le_of_eq rfl) (hb hby at_151) (fun _ _ => ⟨rfl, rfl, (by decide : 2 + 1 ≤ 16), (by decide : 6 + 1 ≤ 128)⟩)
            dsimp only [Pt.U, Pt.locs, Pt.cells, Pt.slots] at X51 l51 y51 z51 st51 hQ51
            subst l51 y51 z51
            obtain ⟨b51_6, rfl, N51q, Kp51, lb_b51_6, Fn51_0, Fn51_1⟩ := hQ51
            have N51 := Fr.app N10 N51q
            have g_b51_6 : n0 ≤ b51_6 := Nat.le_trans Zs10 lb_b51_6
            have ne_oc_b51_6 : oc ≠ b51_6 := Nat.ne_of_lt (Nat.lt_of_lt_of_le Ar_oc__10.lt lb_b51_6)
            have ne_b2_b51_6 : b2 ≠ b51_6 := Nat.ne_of_lt (Nat.lt_of_lt_of_le Fn5_0__10.lt lb_b51_6)
            have ne_b7_b51_6 : b7 ≠ b51_6 := Nat.ne_of_lt (Nat.lt_of_lt_of_le Fn10_0.lt lb_b51_6)
            have OL51 := OL10.keep Kp51 all0
            have S_Long_LongCache_cache__51 := S_Long_LongCache_cache.ext OL51.2
            have Ar_oc__51 := Ar_oc.ext OL51.2
            have Fn5_0__51 := Fn5_0__10.keep Kp51
            have Fn5_1__51 := Fn5_1__10.keep Kp51 nin0
            have Fn5_2__51 := Fn5_2__10.keep Kp51 nin0
            have Fn5_3__51 := Fn5_3__10.keep Kp51 nin0
            have Fn10_0__51 := Fn10_0.keep Kp51
            have Fn10_1__51 := Fn10_1.keep Kp51 nin0
            have Fn10_2__51 := Fn10_2.keep Kp51 nin0
            have Fn10_3__51 := Fn10_3.keep Kp51 nin0
            have Zs51 : n0 ≤ T51.heap.size := Nat.le_trans Zs10 Kp51.1
            have K51 : ∀ t, Steps p.tables e below (T51.setTop (mkF m 154 #[.val (.long q0), .second, .val (.long q1), .second, .val (.long q2), .second, .val (.long q3), .second, .val (.long q4), .second, .val (.long q5), .second, .val (.long (q5 >>> ((2 : Int32) &&& 0x3f).toInt64)), .second, .val (.int ((q5 &&& (3 : Int64)).toInt32)), .val (.ref b2), .val (.ref b7), .unset] [(.ref b51_6), (.ref b2)])) t → Steps p.tables e below S0 t := fun t k => K_50 t (st51 t k)
            have K_52 : ∀ t, Steps p.tables e below (T51.setTop (mkF m 154 #[.val (.long q0), .second, .val (.long q1), .second, .val (.long q2), .second, .val (.long q3), .second, .val (.long q4), .second, .val (.long q5), .second, .val (.long (q5 >>> ((2 : Int32) &&& 0x3f).toInt64)), .second, .val (.int ((q5 &&& (3 : Int64)).toInt32)), .val (.ref b2), .val (.ref b7), .unset] [(.ref b51_6), (.ref b2)])) t → Steps p.tables e below S0 t := K51
            obtain ⟨cq53, kq53, q53a, q53b, q53c⟩ := isOf hZ rfl Fn5_0__51
            obtain ⟨_, _, ⟨T53, L53, k53, n53⟩, -, X53, ⟨Lc53, hQ53, l53, y53, z53⟩, st53⟩ := X51.virtualBack hx (y := (⟨"com/example/rota/rota/agent/TokenUsage", "equals", "(Ljava/lang/Object;)Z"⟩ : MethodName)) (z := (⟨"com/example/rota/rota/agent/TokenUsage", "equals", "(Ljava/lang/Object;)Z"⟩ : MethodName)) hown (mvT hZ (hw _ (List.mem_of_getElem? (i := 16) rfl))) (mvT hZ (hw _ (List.mem_of_getElem? (i := 17) rfl))) (notFace_of_selects (args := #[]) (mvT hZ (hw _ (List.mem_of_getElem? (i := 19) rfl)))) (mvT hZ (hw _ (List.mem_of_getElem? (i := 19) rfl))) (mvT hZ (hw _ (List.mem_of_getElem? (i := 18) rfl))) (by decide) (backOf (W := 0) (rm4 l Z a0 hw [] b2 b51_6 T51.heap n0 Zs51 Fn51_0) hZ (hw _ (List.mem_of_getElem? (i := 20) rfl)) (hw _ (List.mem_of_getElem? (i := 3) rfl)) (by decide) (by decide)) q53a q53c (g := (mkF m 154 #[.val (.long q0), .second, .val (.long q1), .second, .val (.long q2), .second, .val (.long q3), .second, .val (.long q4), .second, .val (.long q5), .second, .val (.long (q5 >>> ((2 : Int32) &&& 0x3f).toInt64)), .second, .val (.int ((q5 &&& (3 : Int64)).toInt32)), .val (.ref b2), .val (.ref b7), .unset] [(.ref b51_6), (.ref b2)])) rfl (by rw [hml]; rfl) (Steps.refl _) (argsL := [(.ref b51_6)]) (rest := []) (lenOf pd0_1 rfl) rfl (by show 2 * 0 + _ ≤ _; exact Nat.le_of_eq rfl) (hb hby at_154) (fun _ _ => ⟨rfl, rfl, (by decide : 3 + 0 ≤ 16), (by decide : 7 + 0 ≤ 128)⟩)
            dsimp only [Pt.U, Pt.locs, Pt.cells, Pt.slots] at X53 l53 y53 z53 st53 hQ53
            subst l53 y53 z53
            obtain ⟨rfl, N53q, e53⟩ := hQ53
            have N53 := Fr.app N51 N53q
            have K53 : ∀ t, Steps p.tables e below (T53.setTop (mkF m 157 #[.val (.long q0), .second, .val (.long q1), .second, .val (.long q2), .second, .val (.long q3), .second, .val (.long q4), .second, .val (.long q5), .second, .val (.long (q5 >>> ((2 : Int32) &&& 0x3f).toInt64)), .second, .val (.int ((q5 &&& (3 : Int64)).toInt32)), .val (.ref b2), .val (.ref b7), .unset] [(.int (0 : Int32))])) t → Steps p.tables e below S0 t := fun t k => K_52 t (st53.trans k)
            have K54 : ∀ t, Steps p.tables e below (T53.setTop (mkF m 165 #[.val (.long q0), .second, .val (.long q1), .second, .val (.long q2), .second, .val (.long q3), .second, .val (.long q4), .second, .val (.long q5), .second, .val (.long (q5 >>> ((2 : Int32) &&& 0x3f).toInt64)), .second, .val (.int ((q5 &&& (3 : Int64)).toInt32)), .val (.ref b2), .val (.ref b7), .unset] [(.int (1 : Int32))])) t → Steps p.tables e below S0 t := fun t k => K53 t (by
              refine XS.ifNo X53.here hx rfl (hb hby at_157) rfl (XT.i0_ne_f (by decide)) ?_
              show Steps p.tables e below (T53.setTop (mkF m 160 #[.val (.long q0), .second, .val (.long q1), .second, .val (.long q2), .second, .val (.long q3), .second, .val (.long q4), .second, .val (.long q5), .second, .val (.long (q5 >>> ((2 : Int32) &&& 0x3f).toInt64)), .second, .val (.int ((q5 &&& (3 : Int64)).toInt32)), .val (.ref b2), .val (.ref b7), .unset] [])) _
              refine XS.iconst X53.here hx rfl (hb hby at_160) ?_
              show Steps p.tables e below (T53.setTop (mkF m 161 #[.val (.long q0), .second, .val (.long q1), .second, .val (.long q2), .second, .val (.long q3), .second, .val (.long q4), .second, .val (.long q5), .second, .val (.long (q5 >>> ((2 : Int32) &&& 0x3f).toInt64)), .second, .val (.int ((q5 &&& (3 : Int64)).toInt32)), .val (.ref b2), .val (.ref b7), .unset] [(.int (1 : Int32))])) _
              refine XS.goto X53.here hx rfl (pc0 := 161) (pc' := 165) rfl (hb hby at_161) (by decide) (by decide) ?_
              show Steps p.tables e below (T53.setTop (mkF m 165 #[.val (.long q0), .second, .val (.long q1), .second, .val (.long q2), .second, .val (.long q3), .second, .val (.long q4), .second, .val (.long q5), .second, .val (.long (q5 >>> ((2 : Int32) &&& 0x3f).toInt64)), .second, .val (.int ((q5 &&& (3 : Int64)).toInt32)), .val (.ref b2), .val (.ref b7), .unset] [(.int (1 : Int32))])) _
              exact k)
            obtain ⟨fs, hr, hrun, hended, hW, hsame⟩ := X53.leave (v := some (.int (1 : Int32))) (fun h => by rw [Bd.returns] at h; cases h) hlk
            refine ⟨_, _, ?_, hrun, hended, _, _, rfl, ?_, ⟨_, rfl⟩, hW, hsame.mono (by decide) (by decide)⟩
            · rw [← hS0]; exact K54 _ (retN X53 hx (t := .boolean) Bd.returns (by simp) (hb hby at_165) hr)
            · show Q0 Z q0 q1 q2 q3 q4 q5 oc cc h0 n0 _ T53.heap _
              rw [e53]
              have qr : (1 : Int32) = (w0_r5 q0 q1 q2 q3 q4 q5) := by unfold w0_r5; rw [if_neg hc52_0, if_neg hc116_1, if_neg hc137_2]
              exact ⟨congrArg (fun z => some (Value.int z)) qr, N53⟩
          · -- no
            obtain ⟨oe, hin55, hat55, Eo55⟩ := hcache q0 hc151_3 hc151_4
            have Ee55 := Eo55.ext OL10.2
            have K_56 : ∀ t, Steps p.tables e below (T10.setTop (mkF m 151 #[.val (.long q0), .second, .val (.long q1), .second, .val (.long q2), .second, .val (.long q3), .second, .val (.long q4), .second, .val (.long q5), .second, .val (.long (q5 >>> ((2 : Int32) &&& 0x3f).toInt64)), .second, .val (.int ((q5 &&& (3 : Int64)).toInt32)), .val (.ref b2), .val (.ref b7), .unset] [(.long q0), (.ref b2)])) t → Steps p.tables e below S0 t := K44
            obtain ⟨_, _, ⟨T57, L57, k57, n57⟩, -, X57, ⟨Lc57, hQ57, l57, y57, z57⟩, st57⟩ := Jvm.LawKit.callS X10 hx (y := (⟨"java/lang/Long", "valueOf", "(J)Ljava/lang/Long;"⟩ : MethodName)) hown (mvT hZ (hw _ (List.mem_of_getElem? (i := 23) rfl))) (mvT hZ (hw _ (List.mem_of_getElem? (i := 24) rfl))) (mvT hZ (hw _ (List.mem_of_getElem? (i := 25) rfl))) (mvT hZ (hw _ (List.mem_of_getElem? (i := 26) rfl))) (by decide) (backOf (W := 1) (rmLca l Z a0 hw [] q0 oc cc oe T10.heap n0 Zs10 S_Long_LongCache_cache__10 Ar_oc__10 hc151_3 hc151_4 hin55 hat55) hZ (hw _ (List.mem_of_getElem? (i := 26) rfl)) (hw _ (List.mem_of_getElem? (i := 25) rfl)) (by decide) (by decide)) (g := (mkF m 151 #[.val (.long q0), .second, .val (.long q1), .second, .val (.long q2), .second, .val (.long q3), .second, .val (.long q4), .second, .val (.long q5), .second, .val (.long (q5 >>> ((2 : Int32) &&& 0x3f).toInt64)), .second, .val (.int ((q5 &&& (3 : Int64)).toInt32)), .val (.ref b2), .val (.ref b7), .unset] [(.long q0), (.ref b2)])) rfl (by rw [hml]; rfl) (argsL := [(.long q0)]) (rest := [(.ref b2)]) (lenOf pd0_2 rfl) rfl (by show 2 * 0 + _ ≤ _; exact Nat.le_of_eq rfl) (hb hby at_151) (fun _ _ => ⟨rfl, rfl, (by decide : 2 + 0 ≤ 16), (by decide : 6 + 0 ≤ 128)⟩)
            dsimp only [Pt.U, Pt.locs, Pt.cells, Pt.slots] at X57 l57 y57 z57 st57 hQ57
            subst l57 y57 z57
            obtain ⟨rfl, N57q, e57⟩ := hQ57
            have N57 := Fr.app N10 N57q
            have K57 : ∀ t, Steps p.tables e below (T57.setTop (mkF m 154 #[.val (.long q0), .second, .val (.long q1), .second, .val (.long q2), .second, .val (.long q3), .second, .val (.long q4), .second, .val (.long q5), .second, .val (.long (q5 >>> ((2 : Int32) &&& 0x3f).toInt64)), .second, .val (.int ((q5 &&& (3 : Int64)).toInt32)), .val (.ref b2), .val (.ref b7), .unset] [(.ref oe), (.ref b2)])) t → Steps p.tables e below S0 t := fun t k => K_56 t (st57 t k)
            have K_58 : ∀ t, Steps p.tables e below (T57.setTop (mkF m 154 #[.val (.long q0), .second, .val (.long q1), .second, .val (.long q2), .second, .val (.long q3), .second, .val (.long q4), .second, .val (.long q5), .second, .val (.long (q5 >>> ((2 : Int32) &&& 0x3f).toInt64)), .second, .val (.int ((q5 &&& (3 : Int64)).toInt32)), .val (.ref b2), .val (.ref b7), .unset] [(.ref oe), (.ref b2)])) t → Steps p.tables e below S0 t := K57
            obtain ⟨cq59, kq59, q59a, q59b, q59c⟩ := isOf hZ e57 Fn5_0__10
            obtain ⟨_, _, ⟨T59, L59, k59, n59⟩, -, X59, ⟨Lc59, hQ59, l59, y59, z59⟩, st59⟩ := X57.virtualBack hx (y := (⟨"com/example/rota/rota/agent/TokenUsage", "equals", "(Ljava/lang/Object;)Z"⟩ : MethodName)) (z := (⟨"com/example/rota/rota/agent/TokenUsage", "equals", "(Ljava/lang/Object;)Z"⟩ : MethodName)) hown (mvT hZ (hw _ (List.mem_of_getElem? (i := 16) rfl))) (mvT hZ (hw _ (List.mem_of_getElem? (i := 17) rfl))) (notFace_of_selects (args := #[]) (mvT hZ (hw _ (List.mem_of_getElem? (i := 19) rfl)))) (mvT hZ (hw _ (List.mem_of_getElem? (i := 19) rfl))) (mvT hZ (hw _ (List.mem_of_getElem? (i := 18) rfl))) (by decide) (backOf (W := 0) (rm4 l Z a0 hw [] b2 oe T10.heap n0 Zs10 Ee55) hZ (hw _ (List.mem_of_getElem? (i := 20) rfl)) (hw _ (List.mem_of_getElem? (i := 3) rfl)) (by decide) (by decide)) q59a q59c (g := (mkF m 154 #[.val (.long q0), .second, .val (.long q1), .second, .val (.long q2), .second, .val (.long q3), .second, .val (.long q4), .second, .val (.long q5), .second, .val (.long (q5 >>> ((2 : Int32) &&& 0x3f).toInt64)), .second, .val (.int ((q5 &&& (3 : Int64)).toInt32)), .val (.ref b2), .val (.ref b7), .unset] [(.ref oe), (.ref b2)])) rfl (by rw [hml]; rfl) (Steps.refl _) (argsL := [(.ref oe)]) (rest := []) (lenOf pd0_1 rfl) rfl (by show 2 * 0 + _ ≤ _; exact Nat.le_of_eq rfl) (hb hby at_154) (fun _ _ => ⟨rfl, e57, (by decide : 2 + 0 ≤ 16), (by decide : 6 + 0 ≤ 128)⟩)
            dsimp only [Pt.U, Pt.locs, Pt.cells, Pt.slots] at X59 l59 y59 z59 st59 hQ59
            subst l59 y59 z59
            obtain ⟨rfl, N59q, e59⟩ := hQ59
            have N59 := Fr.app N57 N59q
            have K59 : ∀ t, Steps p.tables e below (T59.setTop (mkF m 157 #[.val (.long q0), .second, .val (.long q1), .second, .val (.long q2), .second, .val (.long q3), .second, .val (.long q4), .second, .val (.long q5), .second, .val (.long (q5 >>> ((2 : Int32) &&& 0x3f).toInt64)), .second, .val (.int ((q5 &&& (3 : Int64)).toInt32)), .val (.ref b2), .val (.ref b7), .unset] [(.int (0 : Int32))])) t → Steps p.tables e below S0 t := fun t k => K_58 t (st59.trans k)
            have K60 : ∀ t, Steps p.tables e below (T59.setTop (mkF m 165 #[.val (.long q0), .second, .val (.long q1), .second, .val (.long q2), .second, .val (.long q3), .second, .val (.long q4), .second, .val (.long q5), .second, .val (.long (q5 >>> ((2 : Int32) &&& 0x3f).toInt64)), .second, .val (.int ((q5 &&& (3 : Int64)).toInt32)), .val (.ref b2), .val (.ref b7), .unset] [(.int (1 : Int32))])) t → Steps p.tables e below S0 t := fun t k => K59 t (by
              refine XS.ifNo X59.here hx rfl (hb hby at_157) rfl (XT.i0_ne_f (by decide)) ?_
              show Steps p.tables e below (T59.setTop (mkF m 160 #[.val (.long q0), .second, .val (.long q1), .second, .val (.long q2), .second, .val (.long q3), .second, .val (.long q4), .second, .val (.long q5), .second, .val (.long (q5 >>> ((2 : Int32) &&& 0x3f).toInt64)), .second, .val (.int ((q5 &&& (3 : Int64)).toInt32)), .val (.ref b2), .val (.ref b7), .unset] [])) _
              refine XS.iconst X59.here hx rfl (hb hby at_160) ?_
              show Steps p.tables e below (T59.setTop (mkF m 161 #[.val (.long q0), .second, .val (.long q1), .second, .val (.long q2), .second, .val (.long q3), .second, .val (.long q4), .second, .val (.long q5), .second, .val (.long (q5 >>> ((2 : Int32) &&& 0x3f).toInt64)), .second, .val (.int ((q5 &&& (3 : Int64)).toInt32)), .val (.ref b2), .val (.ref b7), .unset] [(.int (1 : Int32))])) _
              refine XS.goto X59.here hx rfl (pc0 := 161) (pc' := 165) rfl (hb hby at_161) (by decide) (by decide) ?_
              show Steps p.tables e below (T59.setTop (mkF m 165 #[.val (.long q0), .second, .val (.long q1), .second, .val (.long q2), .second, .val (.long q3), .second, .val (.long q4), .second, .val (.long q5), .second, .val (.long (q5 >>> ((2 : Int32) &&& 0x3f).toInt64)), .second, .val (.int ((q5 &&& (3 : Int64)).toInt32)), .val (.ref b2), .val (.ref b7), .unset] [(.int (1 : Int32))])) _
              exact k)
            obtain ⟨fs, hr, hrun, hended, hW, hsame⟩ := X59.leave (v := some (.int (1 : Int32))) (fun h => by rw [Bd.returns] at h; cases h) hlk
            refine ⟨_, _, ?_, hrun, hended, _, _, rfl, ?_, ⟨_, rfl⟩, hW, hsame.mono (by decide) (by decide)⟩
            · rw [← hS0]; exact K60 _ (retN X59 hx (t := .boolean) Bd.returns (by simp) (hb hby at_165) hr)
            · show Q0 Z q0 q1 q2 q3 q4 q5 oc cc h0 n0 _ T59.heap _
              rw [e59]
              have qr : (1 : Int32) = (w0_r5 q0 q1 q2 q3 q4 q5) := by unfold w0_r5; rw [if_neg hc52_0, if_neg hc116_1, if_neg hc137_2]
              exact ⟨congrArg (fun z => some (Value.int z)) qr, N59⟩
set_option maxRecDepth 65536 in
set_option maxHeartbeats 40000000 in
theorem comes_1 {Post : Tables → Env → Array Value → State → Outcome → State → Prop} (hpost : ∀ tb e args s v u, (limb_1_1.after args s (.returned v) u = true ∧ limb_1_2.after args s (.returned v) u = true ∧ True) → FrameEnd s (.returned v) u (Jvm.fieldLocs frame_1_writes args s ++ Jvm.arrayLocs frame_1_arrays args s ++ Jvm.staticLocs frame_1_statics s) 16 128 → Post tb e args s (.returned v) u) :
    ArmFor flags0 classFile x code maxLocals ret World_1 tables_1 room_1 Calls_1 rest_1 Pre_1 Post := by
  intro l hfl _ _ p e ha hc hk s m args below hf hA hF happ hP
  obtain ⟨hcalls, hrest, hpre⟩ := hP
  obtain ⟨-, -, -, hnamed, -, -, -, hat⟩ := (Spec.applies_iff hf).mp happ
  obtain ⟨hg, hn⟩ := and_e (Cond.before_iff.mp (show (Jvm.Cond.and given_1 narrow_1).before args s = true from hpre))
  obtain ⟨hcount, hv0⟩ := and_e hg
  obtain ⟨hi0, hv1⟩ := and_e hv0
  obtain ⟨hi1, hv2⟩ := and_e hv1
  obtain ⟨hi2, hv3⟩ := and_e hv2
  obtain ⟨hi3, hv4⟩ := and_e hv3
  obtain ⟨hi4, hv5⟩ := and_e hv4
  have hi5 := hv5
  obtain ⟨w0, w1, w2, w3, w4, w5, rfl⟩ : ∃ w0 w1 w2 w3 w4 w5 : Value, args = #[w0, w1, w2, w3, w4, w5] := by
    have hs : args.size = 6 := by simpa [Cond.value, given_1] using hcount
    obtain ⟨L⟩ := args
    match L, hs with
    | [w0, w1, w2, w3, w4, w5], _ => exact ⟨w0, w1, w2, w3, w4, w5, rfl⟩
  have hw := fun d (hd : d ∈ tables_1) => atoms_spec (ws := Jvm.Cond.code x code maxLocals ret :: tables_1) hat d (List.mem_cons_of_mem _ hd)
  have hfit : Fit s := fun {y c} hc i hi => by
    obtain ⟨ha, rfl⟩ := Array.getElem?_eq_some_iff.mp hc
    have q := List.all_eq_true.mp ((Array.all_eq_true_iff_forall_mem.mp hF) _ (Array.getElem_mem ha)) i (List.mem_range.mpr hi)
    simpa [Array.getElem?_eq_getElem hi] using q
  obtain ⟨i0, ei0⟩ := isL_v hi0
  obtain rfl : w0 = (.long i0) := Option.some.inj ei0
  obtain ⟨i1, ei1⟩ := isL_v hi1
  obtain rfl : w1 = (.long i1) := Option.some.inj ei1
  obtain ⟨i2, ei2⟩ := isL_v hi2
  obtain rfl : w2 = (.long i2) := Option.some.inj ei2
  obtain ⟨i3, ei3⟩ := isL_v hi3
  obtain rfl : w3 = (.long i3) := Option.some.inj ei3
  obtain ⟨i4, ei4⟩ := isL_v hi4
  obtain rfl : w4 = (.long i4) := Option.some.inj ei4
  obtain ⟨i5, ei5⟩ := isL_v hi5
  obtain rfl : w5 = (.long i5) := Option.some.inj ei5
  obtain ⟨hsets, hown0⟩ := atoms_of _ (rest_1_c_eq ▸ (show rest_1_c.before _ s = true from hrest))
  obtain ⟨oc, cc, Sc, Ac, Cc⟩ := own_cache (hsets _ (List.mem_of_getElem? (i := 1) rfl)) (hsets _ (List.mem_of_getElem? (i := 2) rfl)) (hsets _ (List.mem_of_getElem? (i := 4) rfl)) (hsets _ (List.mem_of_getElem? (i := 5) rfl))
  obtain ⟨n, o, h1, h2, h3, _, L, rfl, ⟨rfl, N⟩, hq⟩ := rm0 l s _ hw tables_1 i0 i1 i2 i3 i4 i5 oc cc s.heap s.heap.size (Nat.le_refl _) Sc Ac Cc (Old.start s) p e ha hc hk s m _ below hf ((Spec.applies_iff_loose hf).mp happ).1 ⟨rfl, State.Warmed39.refl s, rfl⟩ trivial
  refine ⟨n, _, h1, h2, h3, hpost _ _ _ _ _ _ ⟨Cond.after_iff.mpr rfl, Cond.after_iff.mpr (eq_i res_at (Term.int_eval (1)) (congrArg Value.int (plain_law i0 i1 i2 i3 i4 i5))), trivial⟩ ⟨hq.1, hq.2.1, (hq.2.2.sift fun y hy => Or.inr (N y hy)).mono (by decide) (by decide)⟩⟩
theorem main_1_1 : Claimed_1_1 := comes_1 fun _ _ _ _ _ _ h hF => ⟨h.1, hF⟩
theorem main_1_2 : Claimed_1_2 := comes_1 fun _ _ _ _ _ _ h hF => ⟨h.2.1, hF⟩
end Jvm.Pilot.@@N@@
namespace Jvm.Pilot.@@N@@
open Jvm Jvm.ClassFile Sem Op Lib Jvm.Free Jvm.Stand Jvm.Pilot.@@N@@.Jvm.D
/-! MADE BY PROGRAM (witnessworld.py) out of the Statement's table words and the real class files: 16 classes; the members and pool entries that the words name. The judged class is class 1, her method 1. -/
namespace start1
open Jvm.ClassFile
def u (s : String) : CpInfo := .utf8 (stringToUtf16 s)
/-- a pool by its gaps: so many unusable entries, then the entry; so many at the end -/
def gap : Nat → List CpInfo → List CpInfo
  | 0, r => r
  | n + 1, r => .unusable :: gap n r
def poolList (es : List (Nat × CpInfo)) (last : Nat) : List CpInfo := es.foldr (fun e r => gap e.1 (e.2 :: r)) (gap last [])
def pool (es : List (Nat × CpInfo)) (last : Nat) : Array CpInfo := ⟨poolList es last⟩
def fileOf (pool : Array CpInfo) (this : Nat) (attrs : Array Attribute := #[]) (ms : Array MethodInfo := #[]) (fl : Nat := 33) (sup : Nat := 0) (ifs : Array Nat := #[]) (fds : Array FieldInfo := #[]) : ClassFile where
  minorVersion := 0
  majorVersion := 65
  constantPool := pool
  accessFlags := fl
  thisClass := this
  superClass := sup
  interfaces := ifs
  fields := fds
  methods := ms
  attributes := attrs
def plain (name : String) (sup : Option ClassId) : Class where
  name := name
  kind := .ordinary
  loader := none
  accessFlags := 33
  super := sup
  interfaces := #[]
  cf := none
  fields := #[]
  methods := #[]
  instanceTypes := #[]
  staticTypes := #[]
  resolved := #[]
  callSites := []
  init := .initialized
  statics := none
  mirror := none

def pool0 : Array CpInfo := pool [(5, u "<init>"), (0, u "()V"), (1, .class_ 10), (1, u "java/lang/Object")] 113

def k0c0 : Code := { maxStack := 0, maxLocals := 1, code := object_method_1_code, exceptionTable := #[], attributes := #[] }
def k0m0 : Method := { name := "<init>", desc := "()V", sig := { parameters := [], returnType := none }, accessFlags := 1, code := some k0c0 }
/-- java/lang/Object -/
def k0 : Class := { plain "java/lang/Object" none with
  accessFlags := 33
  interfaces := #[]
  cf := some (fileOf pool0 8 #[] #[{ accessFlags := 1, nameIndex := 5, descriptorIndex := 6, attributes := #[] }] 33 0 #[] #[])
  fields := #[]
  methods := #[k0m0]
  instanceTypes := #[]
  staticTypes := #[]
  resolved := Array.replicate 124 none
  statics := none }

def pool1 : Array CpInfo := pool [(2, .class_ 4), (1, u "java/lang/Object"), (0, u "<init>"), (0, u "()V"), (0, .long 3), (1, .class_ 10), (0, u "com/example/rota/rota/agent/TokenUsage"), (0, .methodref 9 12), (0, .nameAndType 5 13), (0, u "(JJJ)V"), (0, .methodref 9 15), (0, .nameAndType 16 17), (0, u "equals"), (0, u "(Ljava/lang/Object;)Z"), (0, .methodref 19 20), (0, .class_ 21), (0, .nameAndType 22 23), (0, u "java/lang/Long"), (0, u "valueOf"), (0, u "(J)Ljava/lang/Long;"), (0, .class_ 25), (0, u "com/example/rota/rota/agent/TokenUsageEqualsPinLaw"), (2, u "law"), (0, u "(JJJJJJ)Z")] 3

def k1m0 : Method := { name := "<init>", desc := "()V", sig := { parameters := [], returnType := none }, accessFlags := 1, code := none }
def k1c1 : Code := { maxStack := 10, maxLocals := 18, code := code, exceptionTable := #[], attributes := #[] }
def k1m1 : Method := { name := "law", desc := "(JJJJJJ)Z", sig := { parameters := [.long, .long, .long, .long, .long, .long], returnType := some .boolean }, accessFlags := 9, code := some k1c1 }
/-- com/example/rota/rota/agent/TokenUsageEqualsPinLaw -/
def k1 : Class := { plain "com/example/rota/rota/agent/TokenUsageEqualsPinLaw" (some 0) with
  accessFlags := 49
  interfaces := #[]
  cf := some (fileOf pool1 24 #[] #[{ accessFlags := 1, nameIndex := 5, descriptorIndex := 6, attributes := #[] }, { accessFlags := 9, nameIndex := 28, descriptorIndex := 29, attributes := #[] }] 49 2 #[] #[])
  fields := #[]
  methods := #[k1m0, k1m1]
  instanceTypes := #[]
  staticTypes := #[]
  resolved := Array.replicate 33 none
  statics := none }

def pool2 : Array CpInfo := pool [(1, .methodref 2 3), (0, .class_ 4), (0, .nameAndType 5 6), (0, u "java/lang/Object"), (0, u "<init>"), (0, u "()V"), (0, .fieldref 8 9), (0, .class_ 10), (0, .nameAndType 11 12), (0, u "com/example/rota/rota/agent/TokenUsage"), (0, u "input"), (0, u "J"), (0, .fieldref 8 14), (0, .nameAndType 15 12), (0, u "output"), (0, .fieldref 8 17), (0, .nameAndType 18 12), (0, u "total"), (2, u "(JJJ)V"), (24, u "ZERO"), (0, u "Lcom/example/rota/rota/agent/TokenUsage;"), (8, u "equals"), (0, u "(Ljava/lang/Object;)Z")] 23

def k2c0 : Code := { maxStack := 3, maxLocals := 7, code := prog_7_method_1_code, exceptionTable := #[], attributes := #[] }
def k2m0 : Method := { name := "<init>", desc := "(JJJ)V", sig := { parameters := [.long, .long, .long], returnType := none }, accessFlags := 1, code := some k2c0 }
def k2c1 : Code := { maxStack := 4, maxLocals := 2, code := prog_7_method_7_code, exceptionTable := #[], attributes := #[] }
def k2m1 : Method := { name := "equals", desc := "(Ljava/lang/Object;)Z", sig := { parameters := [(.object "java/lang/Object")], returnType := some .boolean }, accessFlags := 1, code := some k2c1 }
/-- com/example/rota/rota/agent/TokenUsage -/
def k2 : Class := { plain "com/example/rota/rota/agent/TokenUsage" (some 0) with
  accessFlags := 49
  interfaces := #[]
  cf := some (fileOf pool2 8 #[] #[{ accessFlags := 1, nameIndex := 5, descriptorIndex := 21, attributes := #[] }, { accessFlags := 1, nameIndex := 56, descriptorIndex := 57, attributes := #[] }] 49 2 #[] #[{ accessFlags := 25, nameIndex := 46, descriptorIndex := 47, attributes := #[] }, { accessFlags := 18, nameIndex := 11, descriptorIndex := 12, attributes := #[] }, { accessFlags := 18, nameIndex := 15, descriptorIndex := 12, attributes := #[] }, { accessFlags := 18, nameIndex := 18, descriptorIndex := 12, attributes := #[] }])
  fields := #[{ name := "ZERO", type := (.object "com/example/rota/rota/agent/TokenUsage"), accessFlags := 25, slot := 0, constantValue := 0 }, { name := "input", type := .long, accessFlags := 18, slot := 0, constantValue := 0 }, { name := "output", type := .long, accessFlags := 18, slot := 1, constantValue := 0 }, { name := "total", type := .long, accessFlags := 18, slot := 2, constantValue := 0 }]
  methods := #[k2m0, k2m1]
  instanceTypes := #[.long, .long, .long]
  staticTypes := #[(.object "com/example/rota/rota/agent/TokenUsage")]
  resolved := Array.replicate 81 none
  statics := none }

def pool3 : Array CpInfo := pool [(1, .class_ 2), (0, u "java/io/Serializable"), (0, .class_ 4), (0, u "java/lang/Object")] 2

/-- java/io/Serializable -/
def k3 : Class := { plain "java/io/Serializable" (some 0) with
  accessFlags := 1537
  interfaces := #[]
  cf := some (fileOf pool3 1 #[] #[] 1537 3 #[] #[])
  fields := #[]
  methods := #[]
  instanceTypes := #[]
  staticTypes := #[]
  resolved := Array.replicate 7 none
  statics := none }

def pool4 : Array CpInfo := pool [(1, .methodref 2 3), (0, .class_ 4), (0, .nameAndType 5 6), (0, u "java/lang/Object"), (0, u "<init>"), (0, u "()V"), (1, .class_ 10), (1, u "java/lang/Number"), (2, .class_ 14), (0, u "java/io/Serializable"), (0, u "serialVersionUID"), (0, u "J")] 20

def k4c0 : Code := { maxStack := 1, maxLocals := 1, code := jdk_18_method_1_code, exceptionTable := #[], attributes := #[] }
def k4m0 : Method := { name := "<init>", desc := "()V", sig := { parameters := [], returnType := none }, accessFlags := 1, code := some k4c0 }
/-- java/lang/Number -/
def k4 : Class := { plain "java/lang/Number" (some 0) with
  accessFlags := 1057
  interfaces := #[3]
  cf := some (fileOf pool4 8 #[] #[{ accessFlags := 1, nameIndex := 5, descriptorIndex := 6, attributes := #[] }] 1057 2 #[13] #[{ accessFlags := 26, nameIndex := 15, descriptorIndex := 16, attributes := #[] }])
  fields := #[{ name := "serialVersionUID", type := .long, accessFlags := 26, slot := 0, constantValue := 0 }]
  methods := #[k4m0]
  instanceTypes := #[]
  staticTypes := #[.long]
  resolved := Array.replicate 37 none
  statics := none }

def pool5 : Array CpInfo := pool [(1, .class_ 2), (0, u "java/lang/Comparable"), (0, .class_ 4), (0, u "java/lang/Object")] 7

/-- java/lang/Comparable -/
def k5 : Class := { plain "java/lang/Comparable" (some 0) with
  accessFlags := 1537
  interfaces := #[]
  cf := some (fileOf pool5 1 #[] #[] 1537 3 #[] #[])
  fields := #[]
  methods := #[]
  instanceTypes := #[]
  staticTypes := #[]
  resolved := Array.replicate 12 none
  statics := none }

def pool6 : Array CpInfo := pool [(1, .class_ 2), (0, u "java/lang/constant/Constable"), (0, .class_ 4), (0, u "java/lang/Object")] 6

/-- java/lang/constant/Constable -/
def k6 : Class := { plain "java/lang/constant/Constable" (some 0) with
  accessFlags := 1537
  interfaces := #[]
  cf := some (fileOf pool6 1 #[] #[] 1537 3 #[] #[])
  fields := #[]
  methods := #[]
  instanceTypes := #[]
  staticTypes := #[]
  resolved := Array.replicate 11 none
  statics := none }

def pool7 : Array CpInfo := pool [(1, .class_ 2), (0, u "java/lang/constant/ConstantDesc"), (0, .class_ 4), (0, u "java/lang/Object")] 32

/-- java/lang/constant/ConstantDesc -/
def k7 : Class := { plain "java/lang/constant/ConstantDesc" (some 0) with
  accessFlags := 1537
  interfaces := #[]
  cf := some (fileOf pool7 1 #[] #[] 1537 3 #[] #[])
  fields := #[]
  methods := #[]
  instanceTypes := #[]
  staticTypes := #[]
  resolved := Array.replicate 37 none
  statics := none }

def pool8 : Array CpInfo := pool [(1, .class_ 2), (0, u "java/lang/Long"), (55, .nameAndType 59 60), (0, u "<init>"), (0, u "()V"), (24, u "valueOf"), (143, u "(J)Ljava/lang/Long;"), (0, .long 18446744073709551488), (1, .long 127), (1, .fieldref 235 236), (0, .class_ 237), (0, .nameAndType 238 239), (0, u "java/lang/Long$LongCache"), (0, u "cache"), (0, u "[Ljava/lang/Long;"), (0, .methodref 1 241), (0, .nameAndType 59 242), (0, u "(J)V"), (27, .methodref 271 58), (0, .class_ 272), (0, u "java/lang/Number"), (0, .fieldref 1 274), (0, .nameAndType 275 276), (0, u "value"), (0, u "J"), (84, u "TYPE"), (0, u "Ljava/lang/Class;"), (0, .class_ 364), (0, u "java/lang/Comparable"), (0, .class_ 366), (0, u "java/lang/constant/Constable"), (0, .class_ 368), (0, u "java/lang/constant/ConstantDesc"), (0, u "MIN_VALUE"), (1, u "MAX_VALUE"), (4, u "SIZE"), (0, u "I"), (1, u "BYTES"), (1, u "serialVersionUID")] 142

def k8c0 : Code := { maxStack := 4, maxLocals := 3, code := jdk_35_method_24_code, exceptionTable := #[], attributes := #[] }
def k8m0 : Method := { name := "valueOf", desc := "(J)Ljava/lang/Long;", sig := { parameters := [.long], returnType := some (.object "java/lang/Long") }, accessFlags := 9, code := some k8c0 }
def k8c1 : Code := { maxStack := 3, maxLocals := 3, code := jdk_35_method_26_code, exceptionTable := #[], attributes := #[] }
def k8m1 : Method := { name := "<init>", desc := "(J)V", sig := { parameters := [.long], returnType := none }, accessFlags := 1, code := some k8c1 }
/-- java/lang/Long -/
def k8 : Class := { plain "java/lang/Long" (some 4) with
  accessFlags := 49
  interfaces := #[5, 6, 7]
  cf := some (fileOf pool8 1 #[.nestMembers #[235]] #[{ accessFlags := 9, nameIndex := 85, descriptorIndex := 229, attributes := #[] }, { accessFlags := 1, nameIndex := 59, descriptorIndex := 242, attributes := #[] }] 49 271 #[363, 365, 367] #[{ accessFlags := 25, nameIndex := 369, descriptorIndex := 276, attributes := #[] }, { accessFlags := 25, nameIndex := 371, descriptorIndex := 276, attributes := #[] }, { accessFlags := 25, nameIndex := 361, descriptorIndex := 362, attributes := #[] }, { accessFlags := 18, nameIndex := 275, descriptorIndex := 276, attributes := #[] }, { accessFlags := 25, nameIndex := 376, descriptorIndex := 377, attributes := #[] }, { accessFlags := 25, nameIndex := 379, descriptorIndex := 377, attributes := #[] }, { accessFlags := 26, nameIndex := 381, descriptorIndex := 276, attributes := #[] }])
  fields := #[{ name := "MIN_VALUE", type := .long, accessFlags := 25, slot := 0, constantValue := 0 }, { name := "MAX_VALUE", type := .long, accessFlags := 25, slot := 1, constantValue := 0 }, { name := "TYPE", type := (.object "java/lang/Class"), accessFlags := 25, slot := 2, constantValue := 0 }, { name := "value", type := .long, accessFlags := 18, slot := 0, constantValue := 0 }, { name := "SIZE", type := .int, accessFlags := 25, slot := 3, constantValue := 0 }, { name := "BYTES", type := .int, accessFlags := 25, slot := 4, constantValue := 0 }, { name := "serialVersionUID", type := .long, accessFlags := 26, slot := 5, constantValue := 0 }]
  methods := #[k8m0, k8m1]
  instanceTypes := #[.long]
  staticTypes := #[.long, .long, (.object "java/lang/Class"), .int, .int, .long]
  resolved := Array.replicate 524 none
  statics := none }

def pool9 : Array CpInfo := pool [(2, .class_ 4), (1, u "java/lang/Object"), (0, u "<init>"), (0, u "()V"), (0, .class_ 8), (0, u "java/lang/Long"), (7, .class_ 18), (1, u "java/lang/Long$LongCache"), (0, u "$assertionsDisabled"), (0, u "Z"), (8, u "archivedCache"), (0, u "[Ljava/lang/Long;"), (7, u "cache")] 24

def k9m0 : Method := { name := "<init>", desc := "()V", sig := { parameters := [], returnType := none }, accessFlags := 2, code := none }
/-- java/lang/Long$LongCache -/
def k9 : Class := { plain "java/lang/Long$LongCache" (some 0) with
  accessFlags := 48
  interfaces := #[]
  cf := some (fileOf pool9 16 #[.nestHost 7] #[{ accessFlags := 2, nameIndex := 5, descriptorIndex := 6, attributes := #[] }] 48 2 #[] #[{ accessFlags := 24, nameIndex := 38, descriptorIndex := 30, attributes := #[] }, { accessFlags := 8, nameIndex := 29, descriptorIndex := 30, attributes := #[] }, { accessFlags := 4120, nameIndex := 19, descriptorIndex := 20, attributes := #[] }])
  fields := #[{ name := "cache", type := (.array (.object "java/lang/Long")), accessFlags := 24, slot := 0, constantValue := 0 }, { name := "archivedCache", type := (.array (.object "java/lang/Long")), accessFlags := 8, slot := 1, constantValue := 0 }, { name := "$assertionsDisabled", type := .boolean, accessFlags := 4120, slot := 2, constantValue := 0 }]
  methods := #[k9m0]
  instanceTypes := #[]
  staticTypes := #[(.array (.object "java/lang/Long")), (.array (.object "java/lang/Long")), .boolean]
  resolved := Array.replicate 63 none
  statics := some 0 }

def pool10 : Array CpInfo := pool [(1, u "java/lang/Cloneable"), (0, .class_ 1), (0, u "java/lang/Object"), (0, .class_ 3)] 3

/-- java/lang/Cloneable -/
def k10 : Class := { plain "java/lang/Cloneable" (some 0) with
  accessFlags := 1537
  interfaces := #[]
  cf := some (fileOf pool10 2 #[] #[] 1537 4 #[] #[])
  fields := #[]
  methods := #[]
  instanceTypes := #[]
  staticTypes := #[]
  resolved := Array.replicate 8 none
  statics := none }

/-- the primitive byte -/
def k11 : Class := { plain "byte" none with kind := .primitive 'B', accessFlags := 0x411 }
/-- [B -/
def k12 : Class := { plain "[B" (some 0) with kind := .array 11 .byte, interfaces := #[10, 3], accessFlags := 1041 }

/-- the primitive int -/
def k13 : Class := { plain "int" none with kind := .primitive 'I', accessFlags := 0x411 }
/-- [I -/
def k14 : Class := { plain "[I" (some 0) with kind := .array 13 .int, interfaces := #[10, 3], accessFlags := 1041 }

/-- [Ljava/lang/Long; -/
def k15 : Class := { plain "[Ljava/lang/Long;" (some 0) with kind := .array 8 (.object "java/lang/Long"), interfaces := #[10, 3], accessFlags := 1041 }

def heap : Heap := #[{ cls := 9, slots := #[.ref 1, .null, .int 0], vm := .statics 9 },
  { cls := 15, slots := #[.ref 2, .ref 3, .ref 4, .ref 5, .ref 6, .ref 7, .ref 8, .ref 9, .ref 10, .ref 11, .ref 12, .ref 13, .ref 14, .ref 15, .ref 16, .ref 17, .ref 18, .ref 19, .ref 20, .ref 21, .ref 22, .ref 23, .ref 24, .ref 25, .ref 26, .ref 27, .ref 28, .ref 29, .ref 30, .ref 31, .ref 32, .ref 33, .ref 34, .ref 35, .ref 36, .ref 37, .ref 38, .ref 39, .ref 40, .ref 41, .ref 42, .ref 43, .ref 44, .ref 45, .ref 46, .ref 47, .ref 48, .ref 49, .ref 50, .ref 51, .ref 52, .ref 53, .ref 54, .ref 55, .ref 56, .ref 57, .ref 58, .ref 59, .ref 60, .ref 61, .ref 62, .ref 63, .ref 64, .ref 65, .ref 66, .ref 67, .ref 68, .ref 69, .ref 70, .ref 71, .ref 72, .ref 73, .ref 74, .ref 75, .ref 76, .ref 77, .ref 78, .ref 79, .ref 80, .ref 81, .ref 82, .ref 83, .ref 84, .ref 85, .ref 86, .ref 87, .ref 88, .ref 89, .ref 90, .ref 91, .ref 92, .ref 93, .ref 94, .ref 95, .ref 96, .ref 97, .ref 98, .ref 99, .ref 100, .ref 101, .ref 102, .ref 103, .ref 104, .ref 105, .ref 106, .ref 107, .ref 108, .ref 109, .ref 110, .ref 111, .ref 112, .ref 113, .ref 114, .ref 115, .ref 116, .ref 117, .ref 118, .ref 119, .ref 120, .ref 121, .ref 122, .ref 123, .ref 124, .ref 125, .ref 126, .ref 127, .ref 128, .ref 129, .ref 130, .ref 131, .ref 132, .ref 133, .ref 134, .ref 135, .ref 136, .ref 137, .ref 138, .ref 139, .ref 140, .ref 141, .ref 142, .ref 143, .ref 144, .ref 145, .ref 146, .ref 147, .ref 148, .ref 149, .ref 150, .ref 151, .ref 152, .ref 153, .ref 154, .ref 155, .ref 156, .ref 157, .ref 158, .ref 159, .ref 160, .ref 161, .ref 162, .ref 163, .ref 164, .ref 165, .ref 166, .ref 167, .ref 168, .ref 169, .ref 170, .ref 171, .ref 172, .ref 173, .ref 174, .ref 175, .ref 176, .ref 177, .ref 178, .ref 179, .ref 180, .ref 181, .ref 182, .ref 183, .ref 184, .ref 185, .ref 186, .ref 187, .ref 188, .ref 189, .ref 190, .ref 191, .ref 192, .ref 193, .ref 194, .ref 195, .ref 196, .ref 197, .ref 198, .ref 199, .ref 200, .ref 201, .ref 202, .ref 203, .ref 204, .ref 205, .ref 206, .ref 207, .ref 208, .ref 209, .ref 210, .ref 211, .ref 212, .ref 213, .ref 214, .ref 215, .ref 216, .ref 217, .ref 218, .ref 219, .ref 220, .ref 221, .ref 222, .ref 223, .ref 224, .ref 225, .ref 226, .ref 227, .ref 228, .ref 229, .ref 230, .ref 231, .ref 232, .ref 233, .ref 234, .ref 235, .ref 236, .ref 237, .ref 238, .ref 239, .ref 240, .ref 241, .ref 242, .ref 243, .ref 244, .ref 245, .ref 246, .ref 247, .ref 248, .ref 249, .ref 250, .ref 251, .ref 252, .ref 253, .ref 254, .ref 255, .ref 256, .ref 257], vm := .none },
  { cls := 8, slots := #[.long (-128)], vm := .none },
  { cls := 8, slots := #[.long (-127)], vm := .none },
  { cls := 8, slots := #[.long (-126)], vm := .none },
  { cls := 8, slots := #[.long (-125)], vm := .none },
  { cls := 8, slots := #[.long (-124)], vm := .none },
  { cls := 8, slots := #[.long (-123)], vm := .none },
  { cls := 8, slots := #[.long (-122)], vm := .none },
  { cls := 8, slots := #[.long (-121)], vm := .none },
  { cls := 8, slots := #[.long (-120)], vm := .none },
  { cls := 8, slots := #[.long (-119)], vm := .none },
  { cls := 8, slots := #[.long (-118)], vm := .none },
  { cls := 8, slots := #[.long (-117)], vm := .none },
  { cls := 8, slots := #[.long (-116)], vm := .none },
  { cls := 8, slots := #[.long (-115)], vm := .none },
  { cls := 8, slots := #[.long (-114)], vm := .none },
  { cls := 8, slots := #[.long (-113)], vm := .none },
  { cls := 8, slots := #[.long (-112)], vm := .none },
  { cls := 8, slots := #[.long (-111)], vm := .none },
  { cls := 8, slots := #[.long (-110)], vm := .none },
  { cls := 8, slots := #[.long (-109)], vm := .none },
  { cls := 8, slots := #[.long (-108)], vm := .none },
  { cls := 8, slots := #[.long (-107)], vm := .none },
  { cls := 8, slots := #[.long (-106)], vm := .none },
  { cls := 8, slots := #[.long (-105)], vm := .none },
  { cls := 8, slots := #[.long (-104)], vm := .none },
  { cls := 8, slots := #[.long (-103)], vm := .none },
  { cls := 8, slots := #[.long (-102)], vm := .none },
  { cls := 8, slots := #[.long (-101)], vm := .none },
  { cls := 8, slots := #[.long (-100)], vm := .none },
  { cls := 8, slots := #[.long (-99)], vm := .none },
  { cls := 8, slots := #[.long (-98)], vm := .none },
  { cls := 8, slots := #[.long (-97)], vm := .none },
  { cls := 8, slots := #[.long (-96)], vm := .none },
  { cls := 8, slots := #[.long (-95)], vm := .none },
  { cls := 8, slots := #[.long (-94)], vm := .none },
  { cls := 8, slots := #[.long (-93)], vm := .none },
  { cls := 8, slots := #[.long (-92)], vm := .none },
  { cls := 8, slots := #[.long (-91)], vm := .none },
  { cls := 8, slots := #[.long (-90)], vm := .none },
  { cls := 8, slots := #[.long (-89)], vm := .none },
  { cls := 8, slots := #[.long (-88)], vm := .none },
  { cls := 8, slots := #[.long (-87)], vm := .none },
  { cls := 8, slots := #[.long (-86)], vm := .none },
  { cls := 8, slots := #[.long (-85)], vm := .none },
  { cls := 8, slots := #[.long (-84)], vm := .none },
  { cls := 8, slots := #[.long (-83)], vm := .none },
  { cls := 8, slots := #[.long (-82)], vm := .none },
  { cls := 8, slots := #[.long (-81)], vm := .none },
  { cls := 8, slots := #[.long (-80)], vm := .none },
  { cls := 8, slots := #[.long (-79)], vm := .none },
  { cls := 8, slots := #[.long (-78)], vm := .none },
  { cls := 8, slots := #[.long (-77)], vm := .none },
  { cls := 8, slots := #[.long (-76)], vm := .none },
  { cls := 8, slots := #[.long (-75)], vm := .none },
  { cls := 8, slots := #[.long (-74)], vm := .none },
  { cls := 8, slots := #[.long (-73)], vm := .none },
  { cls := 8, slots := #[.long (-72)], vm := .none },
  { cls := 8, slots := #[.long (-71)], vm := .none },
  { cls := 8, slots := #[.long (-70)], vm := .none },
  { cls := 8, slots := #[.long (-69)], vm := .none },
  { cls := 8, slots := #[.long (-68)], vm := .none },
  { cls := 8, slots := #[.long (-67)], vm := .none },
  { cls := 8, slots := #[.long (-66)], vm := .none },
  { cls := 8, slots := #[.long (-65)], vm := .none },
  { cls := 8, slots := #[.long (-64)], vm := .none },
  { cls := 8, slots := #[.long (-63)], vm := .none },
  { cls := 8, slots := #[.long (-62)], vm := .none },
  { cls := 8, slots := #[.long (-61)], vm := .none },
  { cls := 8, slots := #[.long (-60)], vm := .none },
  { cls := 8, slots := #[.long (-59)], vm := .none },
  { cls := 8, slots := #[.long (-58)], vm := .none },
  { cls := 8, slots := #[.long (-57)], vm := .none },
  { cls := 8, slots := #[.long (-56)], vm := .none },
  { cls := 8, slots := #[.long (-55)], vm := .none },
  { cls := 8, slots := #[.long (-54)], vm := .none },
  { cls := 8, slots := #[.long (-53)], vm := .none },
  { cls := 8, slots := #[.long (-52)], vm := .none },
  { cls := 8, slots := #[.long (-51)], vm := .none },
  { cls := 8, slots := #[.long (-50)], vm := .none },
  { cls := 8, slots := #[.long (-49)], vm := .none },
  { cls := 8, slots := #[.long (-48)], vm := .none },
  { cls := 8, slots := #[.long (-47)], vm := .none },
  { cls := 8, slots := #[.long (-46)], vm := .none },
  { cls := 8, slots := #[.long (-45)], vm := .none },
  { cls := 8, slots := #[.long (-44)], vm := .none },
  { cls := 8, slots := #[.long (-43)], vm := .none },
  { cls := 8, slots := #[.long (-42)], vm := .none },
  { cls := 8, slots := #[.long (-41)], vm := .none },
  { cls := 8, slots := #[.long (-40)], vm := .none },
  { cls := 8, slots := #[.long (-39)], vm := .none },
  { cls := 8, slots := #[.long (-38)], vm := .none },
  { cls := 8, slots := #[.long (-37)], vm := .none },
  { cls := 8, slots := #[.long (-36)], vm := .none },
  { cls := 8, slots := #[.long (-35)], vm := .none },
  { cls := 8, slots := #[.long (-34)], vm := .none },
  { cls := 8, slots := #[.long (-33)], vm := .none },
  { cls := 8, slots := #[.long (-32)], vm := .none },
  { cls := 8, slots := #[.long (-31)], vm := .none },
  { cls := 8, slots := #[.long (-30)], vm := .none },
  { cls := 8, slots := #[.long (-29)], vm := .none },
  { cls := 8, slots := #[.long (-28)], vm := .none },
  { cls := 8, slots := #[.long (-27)], vm := .none },
  { cls := 8, slots := #[.long (-26)], vm := .none },
  { cls := 8, slots := #[.long (-25)], vm := .none },
  { cls := 8, slots := #[.long (-24)], vm := .none },
  { cls := 8, slots := #[.long (-23)], vm := .none },
  { cls := 8, slots := #[.long (-22)], vm := .none },
  { cls := 8, slots := #[.long (-21)], vm := .none },
  { cls := 8, slots := #[.long (-20)], vm := .none },
  { cls := 8, slots := #[.long (-19)], vm := .none },
  { cls := 8, slots := #[.long (-18)], vm := .none },
  { cls := 8, slots := #[.long (-17)], vm := .none },
  { cls := 8, slots := #[.long (-16)], vm := .none },
  { cls := 8, slots := #[.long (-15)], vm := .none },
  { cls := 8, slots := #[.long (-14)], vm := .none },
  { cls := 8, slots := #[.long (-13)], vm := .none },
  { cls := 8, slots := #[.long (-12)], vm := .none },
  { cls := 8, slots := #[.long (-11)], vm := .none },
  { cls := 8, slots := #[.long (-10)], vm := .none },
  { cls := 8, slots := #[.long (-9)], vm := .none },
  { cls := 8, slots := #[.long (-8)], vm := .none },
  { cls := 8, slots := #[.long (-7)], vm := .none },
  { cls := 8, slots := #[.long (-6)], vm := .none },
  { cls := 8, slots := #[.long (-5)], vm := .none },
  { cls := 8, slots := #[.long (-4)], vm := .none },
  { cls := 8, slots := #[.long (-3)], vm := .none },
  { cls := 8, slots := #[.long (-2)], vm := .none },
  { cls := 8, slots := #[.long (-1)], vm := .none },
  { cls := 8, slots := #[.long 0], vm := .none },
  { cls := 8, slots := #[.long 1], vm := .none },
  { cls := 8, slots := #[.long 2], vm := .none },
  { cls := 8, slots := #[.long 3], vm := .none },
  { cls := 8, slots := #[.long 4], vm := .none },
  { cls := 8, slots := #[.long 5], vm := .none },
  { cls := 8, slots := #[.long 6], vm := .none },
  { cls := 8, slots := #[.long 7], vm := .none },
  { cls := 8, slots := #[.long 8], vm := .none },
  { cls := 8, slots := #[.long 9], vm := .none },
  { cls := 8, slots := #[.long 10], vm := .none },
  { cls := 8, slots := #[.long 11], vm := .none },
  { cls := 8, slots := #[.long 12], vm := .none },
  { cls := 8, slots := #[.long 13], vm := .none },
  { cls := 8, slots := #[.long 14], vm := .none },
  { cls := 8, slots := #[.long 15], vm := .none },
  { cls := 8, slots := #[.long 16], vm := .none },
  { cls := 8, slots := #[.long 17], vm := .none },
  { cls := 8, slots := #[.long 18], vm := .none },
  { cls := 8, slots := #[.long 19], vm := .none },
  { cls := 8, slots := #[.long 20], vm := .none },
  { cls := 8, slots := #[.long 21], vm := .none },
  { cls := 8, slots := #[.long 22], vm := .none },
  { cls := 8, slots := #[.long 23], vm := .none },
  { cls := 8, slots := #[.long 24], vm := .none },
  { cls := 8, slots := #[.long 25], vm := .none },
  { cls := 8, slots := #[.long 26], vm := .none },
  { cls := 8, slots := #[.long 27], vm := .none },
  { cls := 8, slots := #[.long 28], vm := .none },
  { cls := 8, slots := #[.long 29], vm := .none },
  { cls := 8, slots := #[.long 30], vm := .none },
  { cls := 8, slots := #[.long 31], vm := .none },
  { cls := 8, slots := #[.long 32], vm := .none },
  { cls := 8, slots := #[.long 33], vm := .none },
  { cls := 8, slots := #[.long 34], vm := .none },
  { cls := 8, slots := #[.long 35], vm := .none },
  { cls := 8, slots := #[.long 36], vm := .none },
  { cls := 8, slots := #[.long 37], vm := .none },
  { cls := 8, slots := #[.long 38], vm := .none },
  { cls := 8, slots := #[.long 39], vm := .none },
  { cls := 8, slots := #[.long 40], vm := .none },
  { cls := 8, slots := #[.long 41], vm := .none },
  { cls := 8, slots := #[.long 42], vm := .none },
  { cls := 8, slots := #[.long 43], vm := .none },
  { cls := 8, slots := #[.long 44], vm := .none },
  { cls := 8, slots := #[.long 45], vm := .none },
  { cls := 8, slots := #[.long 46], vm := .none },
  { cls := 8, slots := #[.long 47], vm := .none },
  { cls := 8, slots := #[.long 48], vm := .none },
  { cls := 8, slots := #[.long 49], vm := .none },
  { cls := 8, slots := #[.long 50], vm := .none },
  { cls := 8, slots := #[.long 51], vm := .none },
  { cls := 8, slots := #[.long 52], vm := .none },
  { cls := 8, slots := #[.long 53], vm := .none },
  { cls := 8, slots := #[.long 54], vm := .none },
  { cls := 8, slots := #[.long 55], vm := .none },
  { cls := 8, slots := #[.long 56], vm := .none },
  { cls := 8, slots := #[.long 57], vm := .none },
  { cls := 8, slots := #[.long 58], vm := .none },
  { cls := 8, slots := #[.long 59], vm := .none },
  { cls := 8, slots := #[.long 60], vm := .none },
  { cls := 8, slots := #[.long 61], vm := .none },
  { cls := 8, slots := #[.long 62], vm := .none },
  { cls := 8, slots := #[.long 63], vm := .none },
  { cls := 8, slots := #[.long 64], vm := .none },
  { cls := 8, slots := #[.long 65], vm := .none },
  { cls := 8, slots := #[.long 66], vm := .none },
  { cls := 8, slots := #[.long 67], vm := .none },
  { cls := 8, slots := #[.long 68], vm := .none },
  { cls := 8, slots := #[.long 69], vm := .none },
  { cls := 8, slots := #[.long 70], vm := .none },
  { cls := 8, slots := #[.long 71], vm := .none },
  { cls := 8, slots := #[.long 72], vm := .none },
  { cls := 8, slots := #[.long 73], vm := .none },
  { cls := 8, slots := #[.long 74], vm := .none },
  { cls := 8, slots := #[.long 75], vm := .none },
  { cls := 8, slots := #[.long 76], vm := .none },
  { cls := 8, slots := #[.long 77], vm := .none },
  { cls := 8, slots := #[.long 78], vm := .none },
  { cls := 8, slots := #[.long 79], vm := .none },
  { cls := 8, slots := #[.long 80], vm := .none },
  { cls := 8, slots := #[.long 81], vm := .none },
  { cls := 8, slots := #[.long 82], vm := .none },
  { cls := 8, slots := #[.long 83], vm := .none },
  { cls := 8, slots := #[.long 84], vm := .none },
  { cls := 8, slots := #[.long 85], vm := .none },
  { cls := 8, slots := #[.long 86], vm := .none },
  { cls := 8, slots := #[.long 87], vm := .none },
  { cls := 8, slots := #[.long 88], vm := .none },
  { cls := 8, slots := #[.long 89], vm := .none },
  { cls := 8, slots := #[.long 90], vm := .none },
  { cls := 8, slots := #[.long 91], vm := .none },
  { cls := 8, slots := #[.long 92], vm := .none },
  { cls := 8, slots := #[.long 93], vm := .none },
  { cls := 8, slots := #[.long 94], vm := .none },
  { cls := 8, slots := #[.long 95], vm := .none },
  { cls := 8, slots := #[.long 96], vm := .none },
  { cls := 8, slots := #[.long 97], vm := .none },
  { cls := 8, slots := #[.long 98], vm := .none },
  { cls := 8, slots := #[.long 99], vm := .none },
  { cls := 8, slots := #[.long 100], vm := .none },
  { cls := 8, slots := #[.long 101], vm := .none },
  { cls := 8, slots := #[.long 102], vm := .none },
  { cls := 8, slots := #[.long 103], vm := .none },
  { cls := 8, slots := #[.long 104], vm := .none },
  { cls := 8, slots := #[.long 105], vm := .none },
  { cls := 8, slots := #[.long 106], vm := .none },
  { cls := 8, slots := #[.long 107], vm := .none },
  { cls := 8, slots := #[.long 108], vm := .none },
  { cls := 8, slots := #[.long 109], vm := .none },
  { cls := 8, slots := #[.long 110], vm := .none },
  { cls := 8, slots := #[.long 111], vm := .none },
  { cls := 8, slots := #[.long 112], vm := .none },
  { cls := 8, slots := #[.long 113], vm := .none },
  { cls := 8, slots := #[.long 114], vm := .none },
  { cls := 8, slots := #[.long 115], vm := .none },
  { cls := 8, slots := #[.long 116], vm := .none },
  { cls := 8, slots := #[.long 117], vm := .none },
  { cls := 8, slots := #[.long 118], vm := .none },
  { cls := 8, slots := #[.long 119], vm := .none },
  { cls := 8, slots := #[.long 120], vm := .none },
  { cls := 8, slots := #[.long 121], vm := .none },
  { cls := 8, slots := #[.long 122], vm := .none },
  { cls := 8, slots := #[.long 123], vm := .none },
  { cls := 8, slots := #[.long 124], vm := .none },
  { cls := 8, slots := #[.long 125], vm := .none },
  { cls := 8, slots := #[.long 126], vm := .none },
  { cls := 8, slots := #[.long 127], vm := .none }]
def classes : Array Class := #[k0, k1, k2, k3, k4, k5, k6, k7, k8, k9, k10, k11, k12, k13, k14, k15]
def interned : List (Array UInt16 × Addr) := []
def slotsUsed : Nat := 515
def theMethod : MethodId := ⟨1, 1⟩
def args0 : Array Value := #[.long 5, .long 5, .long 5, .long 5, .long 5, .long 5]
def aboutOver (below : List Frame) : State where
  vm := { classes := classes, interned := interned.toArray }
  heap := heap
  slotsUsed := slotsUsed
  threads := #[{ frames := .invoking theMethod args0 :: below }]
def below0 : List Frame := [.native { method := ⟨0, 0⟩, args := #[] }]
def about1 : State := aboutOver below0
def p0 : Program := .bare "" "" ""
def e0 : Env := launch0.env 0 0 0
theorem w_frames : about1.frames = Frame.invoking theMethod args0 :: below0 := rfl
set_option maxRecDepth 65536 in
theorem w_args : argsFit about1.vm theMethod args0 = true := by decide +kernel
set_option maxRecDepth 65536 in
theorem w_heap : heapFits about1 = true := by decide +kernel
set_option maxRecDepth 65536 in
theorem w_runnable : about1.curStatus? = some .runnable := by decide +kernel
set_option maxRecDepth 65536 in
theorem w_alone : about1.alone = true := by decide +kernel
set_option maxRecDepth 65536 in
theorem w_named : about1.methodNamed? x = some theMethod := by decide +kernel
set_option maxRecDepth 65536 in
theorem w_hears : about1.hears theMethod below0 = true := by decide +kernel
set_option maxRecDepth 65536 in
theorem w_ripe : about1.ripe theMethod args0 below0 = true := by decide +kernel
theorem w_running : about1.status = .running := rfl
set_option maxRecDepth 65536 in
theorem w_room : about1.hasRoom e0.platform room_1 = true :=
  launch0.hasRoom_least _ room_1 (by decide +kernel) (by decide +kernel) (by decide +kernel) (by decide +kernel) (by decide +kernel) (by decide +kernel)
theorem allAtoms_all (ts : List Jvm.Cond) (a : Array Jvm.Value) (st : Jvm.State) : (allAtoms ts).before a st = ts.all (fun c => c.before a st) := by
  induction ts with
  | nil => rfl
  | cons c t ih =>
    show (Jvm.Cond.and c (allAtoms t)).before a st = _
    rw [Jvm.Cond.before_and, ih, List.all_cons]
def words1 : List Jvm.Cond := Jvm.Cond.code x code maxLocals ret :: tables_1
/-- a 'code' word, met by the world's own term for the bytes: nothing is compared byte by byte -/
theorem code_word {y : MethodName} {bytes : ByteArray} {mx : Nat} {rt : Option FieldType} {a : Array Value} {s : State} {m : MethodId} {meth : Method} {c : Code} (h1 : s.methodNamed? y = some m) (h2 : s.vm.method? m = some meth) (h3 : meth.code = some c) (h4 : c.code = bytes)
    (h5 : (c.maxLocals == mx && c.exceptionTable.isEmpty && decide (c.maxStack ≤ mostOperands) && decide (meth.sig.returnType = rt) && !meth.locks && decide (parseMethodDescriptor y.desc = some meth.sig)) = true) : (Jvm.Cond.code y bytes mx rt).before a s = true := by
  simp only [Bool.and_eq_true, beq_iff_eq, Bool.not_eq_true', decide_eq_true_eq] at h5
  obtain ⟨⟨⟨⟨⟨g1, g2⟩, g3⟩, g4⟩, g5⟩, g6⟩ := h5
  simp [Cond.before, Cond.holds, Cond.value, h1, h2, h3, h4, g1, g2, g3, g4, g5, g6]
def isCode : Jvm.Cond → Bool
  | .code _ _ _ _ => true
  | _ => false
theorem all_split {L : List Jvm.Cond} {P : Jvm.Cond → Bool} (h1 : L.all (fun c => isCode c || P c) = true) (h2 : ∀ c ∈ L.filter isCode, P c = true) : L.all P = true := by
  refine List.all_eq_true.mpr fun c hc => ?_
  have h := List.all_eq_true.mp h1 c hc
  rcases Bool.eq_false_or_eq_true (isCode c) with hi | hi
  · exact h2 c (List.mem_filter.mpr ⟨hc, hi⟩)
  · simpa [hi] using h
set_option maxRecDepth 65536 in
theorem w_c0 : (Jvm.Cond.code x code maxLocals ret).before args0 about1 = true := code_word (m := ⟨1, 1⟩) (meth := k1m1) (c := k1c1) (by decide +kernel) rfl rfl rfl (by decide +kernel)
set_option maxRecDepth 65536 in
theorem w_c1 : (Jvm.Cond.code ({ cls := "com/example/rota/rota/agent/TokenUsage", name := "<init>", desc := "(JJJ)V" } : Jvm.MethodName) prog_7_method_1_code (7 : Nat) (Option.none : Option Jvm.ClassFile.FieldType)).before args0 about1 = true := code_word (m := ⟨2, 0⟩) (meth := k2m0) (c := k2c0) (by decide +kernel) rfl rfl rfl (by decide +kernel)
set_option maxRecDepth 65536 in
theorem w_c2 : (Jvm.Cond.code ({ cls := "java/lang/Object", name := "<init>", desc := "()V" } : Jvm.MethodName) object_method_1_code (1 : Nat) (Option.none : Option Jvm.ClassFile.FieldType)).before args0 about1 = true := code_word (m := ⟨0, 0⟩) (meth := k0m0) (c := k0c0) (by decide +kernel) rfl rfl rfl (by decide +kernel)
set_option maxRecDepth 65536 in
theorem w_c3 : (Jvm.Cond.code ({ cls := "com/example/rota/rota/agent/TokenUsage", name := "equals", desc := "(Ljava/lang/Object;)Z" } : Jvm.MethodName) prog_7_method_7_code (2 : Nat) (Option.some Jvm.ClassFile.FieldType.boolean)).before args0 about1 = true := code_word (m := ⟨2, 1⟩) (meth := k2m1) (c := k2c1) (by decide +kernel) rfl rfl rfl (by decide +kernel)
set_option maxRecDepth 65536 in
theorem w_c4 : (Jvm.Cond.code ({ cls := "java/lang/Long", name := "valueOf", desc := "(J)Ljava/lang/Long;" } : Jvm.MethodName) jdk_35_method_24_code (3 : Nat) (Option.some (Jvm.ClassFile.FieldType.object "java/lang/Long"))).before args0 about1 = true := code_word (m := ⟨8, 0⟩) (meth := k8m0) (c := k8c0) (by decide +kernel) rfl rfl rfl (by decide +kernel)
set_option maxRecDepth 65536 in
theorem w_c5 : (Jvm.Cond.code ({ cls := "java/lang/Long", name := "<init>", desc := "(J)V" } : Jvm.MethodName) jdk_35_method_26_code (3 : Nat) (Option.none : Option Jvm.ClassFile.FieldType)).before args0 about1 = true := code_word (m := ⟨8, 1⟩) (meth := k8m1) (c := k8c1) (by decide +kernel) rfl rfl rfl (by decide +kernel)
set_option maxRecDepth 65536 in
theorem w_c6 : (Jvm.Cond.code ({ cls := "java/lang/Number", name := "<init>", desc := "()V" } : Jvm.MethodName) jdk_18_method_1_code (1 : Nat) (Option.none : Option Jvm.ClassFile.FieldType)).before args0 about1 = true := code_word (m := ⟨4, 0⟩) (meth := k4m0) (c := k4c0) (by decide +kernel) rfl rfl rfl (by decide +kernel)
def codes1 : List Jvm.Cond := [Jvm.Cond.code x code maxLocals ret, Jvm.Cond.code ({ cls := "com/example/rota/rota/agent/TokenUsage", name := "<init>", desc := "(JJJ)V" } : Jvm.MethodName) prog_7_method_1_code (7 : Nat) (Option.none : Option Jvm.ClassFile.FieldType), Jvm.Cond.code ({ cls := "java/lang/Object", name := "<init>", desc := "()V" } : Jvm.MethodName) object_method_1_code (1 : Nat) (Option.none : Option Jvm.ClassFile.FieldType), Jvm.Cond.code ({ cls := "com/example/rota/rota/agent/TokenUsage", name := "equals", desc := "(Ljava/lang/Object;)Z" } : Jvm.MethodName) prog_7_method_7_code (2 : Nat) (Option.some Jvm.ClassFile.FieldType.boolean), Jvm.Cond.code ({ cls := "java/lang/Long", name := "valueOf", desc := "(J)Ljava/lang/Long;" } : Jvm.MethodName) jdk_35_method_24_code (3 : Nat) (Option.some (Jvm.ClassFile.FieldType.object "java/lang/Long")), Jvm.Cond.code ({ cls := "java/lang/Long", name := "<init>", desc := "(J)V" } : Jvm.MethodName) jdk_35_method_26_code (3 : Nat) (Option.none : Option Jvm.ClassFile.FieldType), Jvm.Cond.code ({ cls := "java/lang/Number", name := "<init>", desc := "()V" } : Jvm.MethodName) jdk_18_method_1_code (1 : Nat) (Option.none : Option Jvm.ClassFile.FieldType)]
set_option maxRecDepth 65536 in
theorem codes_eq : words1.filter isCode = codes1 := rfl
theorem w_codes : ∀ c ∈ words1.filter isCode, c.before args0 about1 = true := by
  rw [codes_eq]
  intro c hc
  simp only [codes1, List.mem_cons, List.not_mem_nil, or_false] at hc
  rcases hc with rfl | rfl | rfl | rfl | rfl | rfl | rfl
  · exact w_c0
  · exact w_c1
  · exact w_c2
  · exact w_c3
  · exact w_c4
  · exact w_c5
  · exact w_c6
set_option maxRecDepth 65536 in
theorem w_t1 : (words1.take 24).all (fun c => isCode c || c.before args0 about1) = true := by decide +kernel
set_option maxRecDepth 65536 in
theorem w_t2 : ((words1.drop 24).take 24).all (fun c => isCode c || c.before args0 about1) = true := by decide +kernel
set_option maxRecDepth 65536 in
theorem w_t3 : ((words1.drop 24).drop 24).all (fun c => isCode c || c.before args0 about1) = true := by decide +kernel
theorem w_tables : (allAtoms (Jvm.Cond.code x code maxLocals ret :: tables_1)).before args0 about1 = true := by
  rw [allAtoms_all]
  show words1.all (fun c => c.before args0 about1) = true
  refine all_split ?_ w_codes
  rw [← List.take_append_drop 24 words1, List.all_append, w_t1, ← List.take_append_drop 24 (words1.drop 24), List.all_append, w_t2, w_t3]
  rfl
set_option maxRecDepth 65536 in
theorem w_rest : rest_1_c.before args0 about1 = true := by decide +kernel
set_option maxRecDepth 65536 in
theorem w_case : (Jvm.Cond.and given_1 narrow_1).before args0 about1 = true := by decide +kernel
theorem w_applies : (headSpec (Jvm.Cond.code x code maxLocals ret :: tables_1) room_1).applies x e0.platform about1 = true :=
  (Spec.applies_iff w_frames).mpr ⟨w_running, w_runnable, w_alone, w_named, w_hears, w_ripe, w_room, w_tables⟩
theorem atStart : AtStart classFile x code maxLocals ret World_1 tables_1 room_1 Calls_1 rest_1 Pre_1 launch0 p0 e0 about1 theMethod args0 below0 :=
  ⟨lists_1, trivial, launch0.admits_env _ _ _, launch0.least_env, fairChoices_fair.cas, fairChoices_fair.clock, w_frames, w_args, w_heap, w_applies, trivial, w_rest, w_case⟩
end start1
theorem witness_1 : WitnessClaimed_1 := ⟨start1.p0, start1.e0, start1.about1, start1.theMethod, start1.args0, start1.below0, start1.atStart⟩
end Jvm.Pilot.@@N@@
