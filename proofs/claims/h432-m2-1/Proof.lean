import JvmDerived
import JvmDerived.Pilot.@@N@@Statement
import JvmDerived.Pilot.@@N@@Code
set_option linter.unusedVariables false
set_option linter.unusedSimpArgs false
namespace Jvm.RoadKit
open Sem ClassFile Op Lib Jvm.Stand Jvm.Free Jvm.LawKit
section New
variable {p : Program} {l : Launch} {e : Env} {R : Room} {s : State} {m : MethodId} {args : Array Value} {below : List Frame} {meth : Method} {c : Code} {T : State} {locs : List Loc} {cells slots : Nat}
theorem retI (X : Stand p l e R s m args below meth c T locs cells slots) (hx : p.tables.exec = Jvm.exec) {pc : Nat} {Ls : Array Slot} {z : Int32} {rest : List Value} (hret : meth.sig.returnType = some .int) (hd : decode c.code pc = .ok (.ireturn, 1)) {fs : List Frame}
    (hl : ∀ (f : JFrame) (acts : List Action), f.method = m → f.locked = none → f.entered = [] → (doReturn e (T.setTop f) acts (some (.int z))).1 = T.setFrames fs) : Steps p.tables e below (T.setTop (mkF m pc Ls (.int z :: rest))) (T.setFrames fs) :=
  retOut X hx hret rfl (Or.inl ⟨rfl, Or.inl rfl, _, rfl⟩) hd hl
end New
end Jvm.RoadKit
namespace Jvm.Pilot.@@N@@
open Jvm Jvm.ClassFile Sem Op Lib Jvm.Free Jvm.Stand Jvm.LawKit Jvm.RoadKit Bundle Jvm.Pilot.@@N@@.Jvm.D
def w1_r1 (q0 : Int64) (p1 : Int32) (p2 : Int32) : Int64 := (if p2 = (3 : Int32) then ((-9223372036854775808 : Int64) + ((((p1.toUInt32 >>> ((3 : Int32) &&& 31).toUInt32).toInt32) &&& (7 : Int32)).toInt64)) else q0)
def w2_r1 (q0 : Int64) (q1 : Int64) (p2 : Int32) (p3 : Int32) : Int64 := (if p3 = (0 : Int32) then q1 else (if p3 = (1 : Int32) then (q0 + (p2.toInt64)) else (if p3 = (2 : Int32) then ((q0 + (9223372036854775807 : Int64)) + (p2.toInt64)) else ((9223372036854775807 : Int64) - ((p2 &&& (7 : Int32)).toInt64)))))
def w3_r1 (q0 : Int64) (q1 : Int64) : Int64 := (if q1 < q0 then (0 : Int64) else (if (0 : Int64) < ((q1 - q0) + (1 : Int64)) then ((q1 - q0) + (1 : Int64)) else (9223372036854775807 : Int64)))
def w4_1 (q1 : Int64) : Int64 := (q1 - (9223372036854775807 : Int64))
def w4_r2 (q0 : Int64) (q1 : Int64) : Int64 := (if q1 < q0 then (0 : Int64) else (if q1 < (-1 : Int64) then ((q1 - q0) + (1 : Int64)) else (if (w4_1 q1) < q0 then ((q1 - q0) + (1 : Int64)) else (9223372036854775807 : Int64))))
def w0_1 (q0 : Int64) (p2 : Int32) (p3 : Int32) : Int64 := (w1_r1 q0 p2 (p3 &&& (3 : Int32)))
def w0_2 (q0 : Int64) (q1 : Int64) (p2 : Int32) (p3 : Int32) : Int64 := (w2_r1 q0 q1 p2 (p3 &&& (3 : Int32)))
def w0_3 (q0 : Int64) (q1 : Int64) (p2 : Int32) (p3 : Int32) : Int64 := (w3_r1 (w0_1 q0 p2 p3) (w0_2 q0 q1 p2 p3))
def w0_4 (q0 : Int64) (q1 : Int64) (p2 : Int32) (p3 : Int32) : Int64 := (w4_r2 (w0_1 q0 p2 p3) (w0_2 q0 q1 p2 p3))
def w0_r5 (q0 : Int64) (q1 : Int64) (p2 : Int32) (p3 : Int32) : Int32 := (if (w0_3 q0 q1 p2 p3) = (w0_4 q0 q1 p2 p3) then (1 : Int32) else (0 : Int32))
theorem own_34 (a b : Int64) : w3_r1 a b = w4_r2 a b := by
  unfold w3_r1 w4_r2 w4_1
  have l0 : (0 : Int64).toInt = 0 := rfl
  have l1 : (1 : Int64).toInt = 1 := rfl
  have lm : (-1 : Int64).toInt = -1 := rfl
  have lM : (9223372036854775807 : Int64).toInt = 9223372036854775807 := rfl
  have s := c_lsub b a
  have t := c_ladd (b - a) 1
  have u := c_lsub b 9223372036854775807
  have ra := rng64 a
  have rb := rng64 b
  have rc := rng64 (b - a)
  have rd := rng64 (b - a + 1)
  have re := rng64 (b - 9223372036854775807)
  repeat' split
  all_goals first | rfl | (exfalso; simp only [Int64.lt_iff_toInt_lt, l0, l1, lm, lM] at *; omega)
theorem plain_law (q0 q1 : Int64) (p2 p3 : Int32) : w0_r5 q0 q1 p2 p3 = 1 := by
  unfold w0_r5 w0_3 w0_4
  rw [own_34, if_pos rfl]

theorem d1_0 : decode method_3_code 0 = .ok (.iload_n 3, 1) := by decide +kernel
theorem d1_1 : decode method_3_code 1 = .ok (.iconst 3, 1) := by decide +kernel
theorem d1_2 : decode method_3_code 2 = .ok (.if_icmp .ne 15, 3) := by decide +kernel
theorem d1_5 : decode method_3_code 5 = .ok (.ldc2_w 11, 3) := by decide +kernel
theorem d1_8 : decode method_3_code 8 = .ok (.iload_n 2, 1) := by decide +kernel
theorem d1_9 : decode method_3_code 9 = .ok (.iconst 3, 1) := by decide +kernel
theorem d1_10 : decode method_3_code 10 = .ok (.iushr, 1) := by decide +kernel
theorem d1_11 : decode method_3_code 11 = .ok (.bipush 7, 2) := by decide +kernel
theorem d1_13 : decode method_3_code 13 = .ok (.iand, 1) := by decide +kernel
theorem d1_14 : decode method_3_code 14 = .ok (.i2l, 1) := by decide +kernel
theorem d1_15 : decode method_3_code 15 = .ok (.ladd, 1) := by decide +kernel
theorem d1_16 : decode method_3_code 16 = .ok (.lreturn, 1) := by decide +kernel
theorem d1_17 : decode method_3_code 17 = .ok (.lload_n 0, 1) := by decide +kernel
theorem d1_18 : decode method_3_code 18 = .ok (.lreturn, 1) := by decide +kernel
theorem pn1 : plainName "com/example/elidora/elidora/SetMembersCountIntegersPinLaw" = true := by first | (simp [plainName, overriddenIn]; done) | decide +kernel
theorem ef1 (m : MethodId) (q0 : Int64) (p1 : Int32) (p2 : Int32) : entryFrame m #[(.long q0), (.int p1), (.int p2)] 4 = mkF m 0 #[.val (.long q0), .second, .val (.int p1), .val (.int p2)] [] := by first | (simp [entryFrame, mkF, argsToLocals, Value.category]; done) | rfl
def Q1 (Z : State) (q0 : Int64) (p1 : Int32) (p2 : Int32) (h0 : Heap) (n0 : Nat) (v : Option Value) (h : Heap) (L : List Loc) : Prop := v = some (.long (w1_r1 q0 p1 p2)) ∧ Fr n0 L ∧ h = h0
set_option maxRecDepth 65536 in
set_option maxHeartbeats 40000000 in
theorem rm1 (l : Launch) (Z : State) (a0 : Array Value) (hw : ∀ d ∈ tables_1, d.before a0 Z = true) (ws : List Jvm.Cond) (q0 : Int64) (p1 : Int32) (p2 : Int32) (h0 : Heap) (n0 : Nat) (Z0 : n0 ≤ h0.size) :
    MetFree l (⟨"com/example/elidora/elidora/SetMembersCountIntegersPinLaw", "pickLow", "(JII)J"⟩ : MethodName) (head1 (Jvm.Cond.code (⟨"com/example/elidora/elidora/SetMembersCountIntegersPinLaw", "pickLow", "(JII)J"⟩ : MethodName) method_3_code 4 (some .long) :: ws) ({ frames := 0, cells := 0, slots := 0, locals := 0 } : Room)) (fun a U => a = #[(.long q0), (.int p1), (.int p2)] ∧ Z.Warmed39 U.vm ∧ U.heap = h0) (fun _ _ _ _ _ => True) (fun _ U o U' => ∃ v L, o = .returned v ∧ Q1 Z q0 p1 p2 h0 n0 v U'.heap L ∧ FrameEnd U o U' L ({ frames := 0, cells := 0, slots := 0, locals := 0 } : Room).cells ({ frames := 0, cells := 0, slots := 0, locals := 0 } : Room).slots) := by
  refine MetFree.of_bodySF (plainFor_of_name pn1) hisR ?_
  intro p e s m args below meth c s₁ Bd hml0 hP hK
  obtain ⟨rfl, hZ, hh⟩ := hP
  have hx := Bd.exec
  have hby := Bd.bytes
  have hml : c.maxLocals = 4 := hml0
  have hown : s.vm.findClass "com/example/elidora/elidora/SetMembersCountIntegersPinLaw" = some m.cls := findClass_of_methodNamed Bd.named
  have hnm := (name_of_methodNamed Bd.named Bd.method).1
  have X0 : Stand p l e ({ frames := 0, cells := 0, slots := 0, locals := 0 } : Room) s m #[(.long q0), (.int p1), (.int p2)] below meth c s₁ [] 0 0 := Stand.of_body Bd
  have e0 : s₁.heap = h0 := by rw [← hh, Bd.state]; rfl
  have N0 := Fr.nil n0
  obtain ⟨S0, hS0⟩ : ∃ S0, S0 = s₁.setTop (entryFrame m #[(.long q0), (.int p1), (.int p2)] 4) := ⟨_, rfl⟩
  have pre0 : ∀ t, Steps p.tables e below (s₁.setTop (mkF m 0 #[.val (.long q0), .second, .val (.int p1), .val (.int p2)] [])) t → Steps p.tables e below S0 t := fun t k => by rw [hS0]; exact castTop (ef1 m q0 p1 p2) k
  have K1 : ∀ t, Steps p.tables e below (s₁.setTop (mkF m 2 #[.val (.long q0), .second, .val (.int p1), .val (.int p2)] [(.int (3 : Int32)), (.int p2)])) t → Steps p.tables e below S0 t := fun t k => pre0 t (by
    refine XS.iloadN X0.here hx rfl (hb hby d1_0) rfl ?_
    show Steps p.tables e below (s₁.setTop (mkF m 1 #[.val (.long q0), .second, .val (.int p1), .val (.int p2)] [(.int p2)])) _
    refine XS.iconst X0.here hx rfl (hb hby d1_1) ?_
    show Steps p.tables e below (s₁.setTop (mkF m 2 #[.val (.long q0), .second, .val (.int p1), .val (.int p2)] [(.int (3 : Int32)), (.int p2)])) _
    exact k)
  by_cases hc2_0 : p2 = (3 : Int32)
  · -- yes
    have K2 : ∀ t, Steps p.tables e below (s₁.setTop (mkF m 16 #[.val (.long q0), .second, .val (.int p1), .val (.int p2)] [(.long ((-9223372036854775808 : Int64) + ((((p1.toUInt32 >>> ((3 : Int32) &&& 31).toUInt32).toInt32) &&& (7 : Int32)).toInt64)))])) t → Steps p.tables e below S0 t := fun t k => K1 t (by
      refine XS.icmpNo X0.here hx rfl (hb hby d1_2) rfl (XT.ii_ne_f hc2_0) ?_
      show Steps p.tables e below (s₁.setTop (mkF m 5 #[.val (.long q0), .second, .val (.int p1), .val (.int p2)] [])) _
      refine X0.ldc2Long hx hown (mvT hZ (hw _ (List.mem_of_getElem? (i := 4) rfl))) (g := (mkF m 5 #[.val (.long q0), .second, .val (.int p1), .val (.int p2)] [])) rfl (hb hby d1_5) _ ?_
      show Steps p.tables e below (s₁.setTop (mkF m 8 #[.val (.long q0), .second, .val (.int p1), .val (.int p2)] [(.long (-9223372036854775808 : Int64))])) _
      refine XS.iloadN X0.here hx rfl (hb hby d1_8) rfl ?_
      show Steps p.tables e below (s₁.setTop (mkF m 9 #[.val (.long q0), .second, .val (.int p1), .val (.int p2)] [(.int p1), (.long (-9223372036854775808 : Int64))])) _
      refine XS.iconst X0.here hx rfl (hb hby d1_9) ?_
      show Steps p.tables e below (s₁.setTop (mkF m 10 #[.val (.long q0), .second, .val (.int p1), .val (.int p2)] [(.int (3 : Int32)), (.int p1), (.long (-9223372036854775808 : Int64))])) _
      refine XS.iushr X0.here hx rfl (hb hby d1_10) rfl ?_
      show Steps p.tables e below (s₁.setTop (mkF m 11 #[.val (.long q0), .second, .val (.int p1), .val (.int p2)] [(.int ((p1.toUInt32 >>> ((3 : Int32) &&& 31).toUInt32).toInt32)), (.long (-9223372036854775808 : Int64))])) _
      refine XS.bipush X0.here hx rfl (hb hby d1_11) ?_
      show Steps p.tables e below (s₁.setTop (mkF m 13 #[.val (.long q0), .second, .val (.int p1), .val (.int p2)] [(.int (7 : Int32)), (.int ((p1.toUInt32 >>> ((3 : Int32) &&& 31).toUInt32).toInt32)), (.long (-9223372036854775808 : Int64))])) _
      refine XS.iand X0.here hx rfl (hb hby d1_13) rfl ?_
      show Steps p.tables e below (s₁.setTop (mkF m 14 #[.val (.long q0), .second, .val (.int p1), .val (.int p2)] [(.int (((p1.toUInt32 >>> ((3 : Int32) &&& 31).toUInt32).toInt32) &&& (7 : Int32))), (.long (-9223372036854775808 : Int64))])) _
      refine XS.i2l X0.here hx rfl (hb hby d1_14) rfl ?_
      show Steps p.tables e below (s₁.setTop (mkF m 15 #[.val (.long q0), .second, .val (.int p1), .val (.int p2)] [(.long ((((p1.toUInt32 >>> ((3 : Int32) &&& 31).toUInt32).toInt32) &&& (7 : Int32)).toInt64)), (.long (-9223372036854775808 : Int64))])) _
      refine XS.ladd X0.here hx rfl (hb hby d1_15) rfl ?_
      show Steps p.tables e below (s₁.setTop (mkF m 16 #[.val (.long q0), .second, .val (.int p1), .val (.int p2)] [(.long ((-9223372036854775808 : Int64) + ((((p1.toUInt32 >>> ((3 : Int32) &&& 31).toUInt32).toInt32) &&& (7 : Int32)).toInt64)))])) _
      exact k)
    obtain ⟨fs, hr, hrun, hended, hW, hsame⟩ := X0.leave (v := some (.long ((-9223372036854775808 : Int64) + ((((p1.toUInt32 >>> ((3 : Int32) &&& 31).toUInt32).toInt32) &&& (7 : Int32)).toInt64)))) (fun h => by rw [Bd.returns] at h; cases h)
    refine ⟨_, _, ?_, hrun, hended, _, _, rfl, ?_, ⟨_, rfl⟩, hW, hsame.mono (by decide) (by decide)⟩
    · rw [← hS0]; exact K2 _ (retOut X0 hx Bd.returns rfl (Or.inr (Or.inl ⟨rfl, rfl, _, rfl⟩)) (hb hby d1_16) hr)
    · show Q1 Z q0 p1 p2 h0 n0 _ s₁.heap _
      rw [e0]
      have qr : ((-9223372036854775808 : Int64) + ((((p1.toUInt32 >>> ((3 : Int32) &&& 31).toUInt32).toInt32) &&& (7 : Int32)).toInt64)) = (w1_r1 q0 p1 p2) := by unfold w1_r1; rw [if_pos hc2_0]
      exact ⟨congrArg (fun z => some (Value.long z)) qr, N0, rfl⟩
  · -- no
    have K3 : ∀ t, Steps p.tables e below (s₁.setTop (mkF m 18 #[.val (.long q0), .second, .val (.int p1), .val (.int p2)] [(.long q0)])) t → Steps p.tables e below S0 t := fun t k => K1 t (by
      refine XS.icmpYes X0.here hx rfl (pc0 := 2) (pc' := 17) rfl (hb hby d1_2) rfl (XT.ii_ne_t hc2_0) (by decide) (by decide) ?_
      show Steps p.tables e below (s₁.setTop (mkF m 17 #[.val (.long q0), .second, .val (.int p1), .val (.int p2)] [])) _
      refine XS.lloadN X0.here hx rfl (hb hby d1_17) rfl ?_
      show Steps p.tables e below (s₁.setTop (mkF m 18 #[.val (.long q0), .second, .val (.int p1), .val (.int p2)] [(.long q0)])) _
      exact k)
    obtain ⟨fs, hr, hrun, hended, hW, hsame⟩ := X0.leave (v := some (.long q0)) (fun h => by rw [Bd.returns] at h; cases h)
    refine ⟨_, _, ?_, hrun, hended, _, _, rfl, ?_, ⟨_, rfl⟩, hW, hsame.mono (by decide) (by decide)⟩
    · rw [← hS0]; exact K3 _ (retOut X0 hx Bd.returns rfl (Or.inr (Or.inl ⟨rfl, rfl, _, rfl⟩)) (hb hby d1_18) hr)
    · show Q1 Z q0 p1 p2 h0 n0 _ s₁.heap _
      rw [e0]
      have qr : q0 = (w1_r1 q0 p1 p2) := by unfold w1_r1; rw [if_neg hc2_0]
      exact ⟨congrArg (fun z => some (Value.long z)) qr, N0, rfl⟩
theorem d2_0 : decode method_2_code 0 = .ok (.iload 5, 2) := by decide +kernel
theorem d2_2 : decode method_2_code 2 = .ok (.ifCond .ne 5, 3) := by decide +kernel
theorem d2_5 : decode method_2_code 5 = .ok (.lload_n 2, 1) := by decide +kernel
theorem d2_6 : decode method_2_code 6 = .ok (.lreturn, 1) := by decide +kernel
theorem d2_7 : decode method_2_code 7 = .ok (.iload 5, 2) := by decide +kernel
theorem d2_9 : decode method_2_code 9 = .ok (.iconst 1, 1) := by decide +kernel
theorem d2_10 : decode method_2_code 10 = .ok (.if_icmp .ne 9, 3) := by decide +kernel
theorem d2_13 : decode method_2_code 13 = .ok (.lload_n 0, 1) := by decide +kernel
theorem d2_14 : decode method_2_code 14 = .ok (.iload 4, 2) := by decide +kernel
theorem d2_16 : decode method_2_code 16 = .ok (.i2l, 1) := by decide +kernel
theorem d2_17 : decode method_2_code 17 = .ok (.ladd, 1) := by decide +kernel
theorem d2_18 : decode method_2_code 18 = .ok (.lreturn, 1) := by decide +kernel
theorem d2_19 : decode method_2_code 19 = .ok (.iload 5, 2) := by decide +kernel
theorem d2_21 : decode method_2_code 21 = .ok (.iconst 2, 1) := by decide +kernel
theorem d2_22 : decode method_2_code 22 = .ok (.if_icmp .ne 13, 3) := by decide +kernel
theorem d2_25 : decode method_2_code 25 = .ok (.lload_n 0, 1) := by decide +kernel
theorem d2_26 : decode method_2_code 26 = .ok (.ldc2_w 9, 3) := by decide +kernel
theorem d2_29 : decode method_2_code 29 = .ok (.ladd, 1) := by decide +kernel
theorem d2_30 : decode method_2_code 30 = .ok (.iload 4, 2) := by decide +kernel
theorem d2_32 : decode method_2_code 32 = .ok (.i2l, 1) := by decide +kernel
theorem d2_33 : decode method_2_code 33 = .ok (.ladd, 1) := by decide +kernel
theorem d2_34 : decode method_2_code 34 = .ok (.lreturn, 1) := by decide +kernel
theorem d2_35 : decode method_2_code 35 = .ok (.ldc2_w 9, 3) := by decide +kernel
theorem d2_38 : decode method_2_code 38 = .ok (.iload 4, 2) := by decide +kernel
theorem d2_40 : decode method_2_code 40 = .ok (.bipush 7, 2) := by decide +kernel
theorem d2_42 : decode method_2_code 42 = .ok (.iand, 1) := by decide +kernel
theorem d2_43 : decode method_2_code 43 = .ok (.i2l, 1) := by decide +kernel
theorem d2_44 : decode method_2_code 44 = .ok (.lsub, 1) := by decide +kernel
theorem d2_45 : decode method_2_code 45 = .ok (.lreturn, 1) := by decide +kernel
theorem pn2 : plainName "com/example/elidora/elidora/SetMembersCountIntegersPinLaw" = true := by first | (simp [plainName, overriddenIn]; done) | decide +kernel
theorem ef2 (m : MethodId) (q0 : Int64) (q1 : Int64) (p2 : Int32) (p3 : Int32) : entryFrame m #[(.long q0), (.long q1), (.int p2), (.int p3)] 6 = mkF m 0 #[.val (.long q0), .second, .val (.long q1), .second, .val (.int p2), .val (.int p3)] [] := by first | (simp [entryFrame, mkF, argsToLocals, Value.category]; done) | rfl
def Q2 (Z : State) (q0 : Int64) (q1 : Int64) (p2 : Int32) (p3 : Int32) (h0 : Heap) (n0 : Nat) (v : Option Value) (h : Heap) (L : List Loc) : Prop := v = some (.long (w2_r1 q0 q1 p2 p3)) ∧ Fr n0 L ∧ h = h0
set_option maxRecDepth 65536 in
set_option maxHeartbeats 40000000 in
theorem rm2 (l : Launch) (Z : State) (a0 : Array Value) (hw : ∀ d ∈ tables_1, d.before a0 Z = true) (ws : List Jvm.Cond) (q0 : Int64) (q1 : Int64) (p2 : Int32) (p3 : Int32) (h0 : Heap) (n0 : Nat) (Z0 : n0 ≤ h0.size) :
    MetFree l (⟨"com/example/elidora/elidora/SetMembersCountIntegersPinLaw", "pickHigh", "(JJII)J"⟩ : MethodName) (head1 (Jvm.Cond.code (⟨"com/example/elidora/elidora/SetMembersCountIntegersPinLaw", "pickHigh", "(JJII)J"⟩ : MethodName) method_2_code 6 (some .long) :: ws) ({ frames := 0, cells := 0, slots := 0, locals := 0 } : Room)) (fun a U => a = #[(.long q0), (.long q1), (.int p2), (.int p3)] ∧ Z.Warmed39 U.vm ∧ U.heap = h0) (fun _ _ _ _ _ => True) (fun _ U o U' => ∃ v L, o = .returned v ∧ Q2 Z q0 q1 p2 p3 h0 n0 v U'.heap L ∧ FrameEnd U o U' L ({ frames := 0, cells := 0, slots := 0, locals := 0 } : Room).cells ({ frames := 0, cells := 0, slots := 0, locals := 0 } : Room).slots) := by
  refine MetFree.of_bodySF (plainFor_of_name pn2) hisR ?_
  intro p e s m args below meth c s₁ Bd hml0 hP hK
  obtain ⟨rfl, hZ, hh⟩ := hP
  have hx := Bd.exec
  have hby := Bd.bytes
  have hml : c.maxLocals = 6 := hml0
  have hown : s.vm.findClass "com/example/elidora/elidora/SetMembersCountIntegersPinLaw" = some m.cls := findClass_of_methodNamed Bd.named
  have hnm := (name_of_methodNamed Bd.named Bd.method).1
  have X0 : Stand p l e ({ frames := 0, cells := 0, slots := 0, locals := 0 } : Room) s m #[(.long q0), (.long q1), (.int p2), (.int p3)] below meth c s₁ [] 0 0 := Stand.of_body Bd
  have e0 : s₁.heap = h0 := by rw [← hh, Bd.state]; rfl
  have N0 := Fr.nil n0
  obtain ⟨S0, hS0⟩ : ∃ S0, S0 = s₁.setTop (entryFrame m #[(.long q0), (.long q1), (.int p2), (.int p3)] 6) := ⟨_, rfl⟩
  have pre0 : ∀ t, Steps p.tables e below (s₁.setTop (mkF m 0 #[.val (.long q0), .second, .val (.long q1), .second, .val (.int p2), .val (.int p3)] [])) t → Steps p.tables e below S0 t := fun t k => by rw [hS0]; exact castTop (ef2 m q0 q1 p2 p3) k
  have K1 : ∀ t, Steps p.tables e below (s₁.setTop (mkF m 2 #[.val (.long q0), .second, .val (.long q1), .second, .val (.int p2), .val (.int p3)] [(.int p3)])) t → Steps p.tables e below S0 t := fun t k => pre0 t (by
    refine XS.iload X0.here hx rfl (hb hby d2_0) rfl ?_
    show Steps p.tables e below (s₁.setTop (mkF m 2 #[.val (.long q0), .second, .val (.long q1), .second, .val (.int p2), .val (.int p3)] [(.int p3)])) _
    exact k)
  by_cases hc2_0 : p3 = (0 : Int32)
  · -- yes
    have K2 : ∀ t, Steps p.tables e below (s₁.setTop (mkF m 6 #[.val (.long q0), .second, .val (.long q1), .second, .val (.int p2), .val (.int p3)] [(.long q1)])) t → Steps p.tables e below S0 t := fun t k => K1 t (by
      refine XS.ifNo X0.here hx rfl (hb hby d2_2) rfl (XT.i0_ne_f hc2_0) ?_
      show Steps p.tables e below (s₁.setTop (mkF m 5 #[.val (.long q0), .second, .val (.long q1), .second, .val (.int p2), .val (.int p3)] [])) _
      refine XS.lloadN X0.here hx rfl (hb hby d2_5) rfl ?_
      show Steps p.tables e below (s₁.setTop (mkF m 6 #[.val (.long q0), .second, .val (.long q1), .second, .val (.int p2), .val (.int p3)] [(.long q1)])) _
      exact k)
    obtain ⟨fs, hr, hrun, hended, hW, hsame⟩ := X0.leave (v := some (.long q1)) (fun h => by rw [Bd.returns] at h; cases h)
    refine ⟨_, _, ?_, hrun, hended, _, _, rfl, ?_, ⟨_, rfl⟩, hW, hsame.mono (by decide) (by decide)⟩
    · rw [← hS0]; exact K2 _ (retOut X0 hx Bd.returns rfl (Or.inr (Or.inl ⟨rfl, rfl, _, rfl⟩)) (hb hby d2_6) hr)
    · show Q2 Z q0 q1 p2 p3 h0 n0 _ s₁.heap _
      rw [e0]
      have qr : q1 = (w2_r1 q0 q1 p2 p3) := by unfold w2_r1; rw [if_pos hc2_0]
      exact ⟨congrArg (fun z => some (Value.long z)) qr, N0, rfl⟩
  · -- no
    have K3 : ∀ t, Steps p.tables e below (s₁.setTop (mkF m 10 #[.val (.long q0), .second, .val (.long q1), .second, .val (.int p2), .val (.int p3)] [(.int (1 : Int32)), (.int p3)])) t → Steps p.tables e below S0 t := fun t k => K1 t (by
      refine XS.ifYes X0.here hx rfl (pc0 := 2) (pc' := 7) rfl (hb hby d2_2) rfl (XT.i0_ne_t hc2_0) (by decide) (by decide) ?_
      show Steps p.tables e below (s₁.setTop (mkF m 7 #[.val (.long q0), .second, .val (.long q1), .second, .val (.int p2), .val (.int p3)] [])) _
      refine XS.iload X0.here hx rfl (hb hby d2_7) rfl ?_
      show Steps p.tables e below (s₁.setTop (mkF m 9 #[.val (.long q0), .second, .val (.long q1), .second, .val (.int p2), .val (.int p3)] [(.int p3)])) _
      refine XS.iconst X0.here hx rfl (hb hby d2_9) ?_
      show Steps p.tables e below (s₁.setTop (mkF m 10 #[.val (.long q0), .second, .val (.long q1), .second, .val (.int p2), .val (.int p3)] [(.int (1 : Int32)), (.int p3)])) _
      exact k)
    by_cases hc10_1 : p3 = (1 : Int32)
    · -- yes
      have K4 : ∀ t, Steps p.tables e below (s₁.setTop (mkF m 18 #[.val (.long q0), .second, .val (.long q1), .second, .val (.int p2), .val (.int p3)] [(.long (q0 + (p2.toInt64)))])) t → Steps p.tables e below S0 t := fun t k => K3 t (by
        refine XS.icmpNo X0.here hx rfl (hb hby d2_10) rfl (XT.ii_ne_f hc10_1) ?_
        show Steps p.tables e below (s₁.setTop (mkF m 13 #[.val (.long q0), .second, .val (.long q1), .second, .val (.int p2), .val (.int p3)] [])) _
        refine XS.lloadN X0.here hx rfl (hb hby d2_13) rfl ?_
        show Steps p.tables e below (s₁.setTop (mkF m 14 #[.val (.long q0), .second, .val (.long q1), .second, .val (.int p2), .val (.int p3)] [(.long q0)])) _
        refine XS.iload X0.here hx rfl (hb hby d2_14) rfl ?_
        show Steps p.tables e below (s₁.setTop (mkF m 16 #[.val (.long q0), .second, .val (.long q1), .second, .val (.int p2), .val (.int p3)] [(.int p2), (.long q0)])) _
        refine XS.i2l X0.here hx rfl (hb hby d2_16) rfl ?_
        show Steps p.tables e below (s₁.setTop (mkF m 17 #[.val (.long q0), .second, .val (.long q1), .second, .val (.int p2), .val (.int p3)] [(.long (p2.toInt64)), (.long q0)])) _
        refine XS.ladd X0.here hx rfl (hb hby d2_17) rfl ?_
        show Steps p.tables e below (s₁.setTop (mkF m 18 #[.val (.long q0), .second, .val (.long q1), .second, .val (.int p2), .val (.int p3)] [(.long (q0 + (p2.toInt64)))])) _
        exact k)
      obtain ⟨fs, hr, hrun, hended, hW, hsame⟩ := X0.leave (v := some (.long (q0 + (p2.toInt64)))) (fun h => by rw [Bd.returns] at h; cases h)
      refine ⟨_, _, ?_, hrun, hended, _, _, rfl, ?_, ⟨_, rfl⟩, hW, hsame.mono (by decide) (by decide)⟩
      · rw [← hS0]; exact K4 _ (retOut X0 hx Bd.returns rfl (Or.inr (Or.inl ⟨rfl, rfl, _, rfl⟩)) (hb hby d2_18) hr)
      · show Q2 Z q0 q1 p2 p3 h0 n0 _ s₁.heap _
        rw [e0]
        have qr : (q0 + (p2.toInt64)) = (w2_r1 q0 q1 p2 p3) := by unfold w2_r1; rw [if_neg hc2_0, if_pos hc10_1]
        exact ⟨congrArg (fun z => some (Value.long z)) qr, N0, rfl⟩
    · -- no
      have K5 : ∀ t, Steps p.tables e below (s₁.setTop (mkF m 22 #[.val (.long q0), .second, .val (.long q1), .second, .val (.int p2), .val (.int p3)] [(.int (2 : Int32)), (.int p3)])) t → Steps p.tables e below S0 t := fun t k => K3 t (by
        refine XS.icmpYes X0.here hx rfl (pc0 := 10) (pc' := 19) rfl (hb hby d2_10) rfl (XT.ii_ne_t hc10_1) (by decide) (by decide) ?_
        show Steps p.tables e below (s₁.setTop (mkF m 19 #[.val (.long q0), .second, .val (.long q1), .second, .val (.int p2), .val (.int p3)] [])) _
        refine XS.iload X0.here hx rfl (hb hby d2_19) rfl ?_
        show Steps p.tables e below (s₁.setTop (mkF m 21 #[.val (.long q0), .second, .val (.long q1), .second, .val (.int p2), .val (.int p3)] [(.int p3)])) _
        refine XS.iconst X0.here hx rfl (hb hby d2_21) ?_
        show Steps p.tables e below (s₁.setTop (mkF m 22 #[.val (.long q0), .second, .val (.long q1), .second, .val (.int p2), .val (.int p3)] [(.int (2 : Int32)), (.int p3)])) _
        exact k)
      by_cases hc22_2 : p3 = (2 : Int32)
      · -- yes
        have K6 : ∀ t, Steps p.tables e below (s₁.setTop (mkF m 34 #[.val (.long q0), .second, .val (.long q1), .second, .val (.int p2), .val (.int p3)] [(.long ((q0 + (9223372036854775807 : Int64)) + (p2.toInt64)))])) t → Steps p.tables e below S0 t := fun t k => K5 t (by
          refine XS.icmpNo X0.here hx rfl (hb hby d2_22) rfl (XT.ii_ne_f hc22_2) ?_
          show Steps p.tables e below (s₁.setTop (mkF m 25 #[.val (.long q0), .second, .val (.long q1), .second, .val (.int p2), .val (.int p3)] [])) _
          refine XS.lloadN X0.here hx rfl (hb hby d2_25) rfl ?_
          show Steps p.tables e below (s₁.setTop (mkF m 26 #[.val (.long q0), .second, .val (.long q1), .second, .val (.int p2), .val (.int p3)] [(.long q0)])) _
          refine X0.ldc2Long hx hown (mvT hZ (hw _ (List.mem_of_getElem? (i := 8) rfl))) (g := (mkF m 26 #[.val (.long q0), .second, .val (.long q1), .second, .val (.int p2), .val (.int p3)] [(.long q0)])) rfl (hb hby d2_26) _ ?_
          show Steps p.tables e below (s₁.setTop (mkF m 29 #[.val (.long q0), .second, .val (.long q1), .second, .val (.int p2), .val (.int p3)] [(.long (9223372036854775807 : Int64)), (.long q0)])) _
          refine XS.ladd X0.here hx rfl (hb hby d2_29) rfl ?_
          show Steps p.tables e below (s₁.setTop (mkF m 30 #[.val (.long q0), .second, .val (.long q1), .second, .val (.int p2), .val (.int p3)] [(.long (q0 + (9223372036854775807 : Int64)))])) _
          refine XS.iload X0.here hx rfl (hb hby d2_30) rfl ?_
          show Steps p.tables e below (s₁.setTop (mkF m 32 #[.val (.long q0), .second, .val (.long q1), .second, .val (.int p2), .val (.int p3)] [(.int p2), (.long (q0 + (9223372036854775807 : Int64)))])) _
          refine XS.i2l X0.here hx rfl (hb hby d2_32) rfl ?_
          show Steps p.tables e below (s₁.setTop (mkF m 33 #[.val (.long q0), .second, .val (.long q1), .second, .val (.int p2), .val (.int p3)] [(.long (p2.toInt64)), (.long (q0 + (9223372036854775807 : Int64)))])) _
          refine XS.ladd X0.here hx rfl (hb hby d2_33) rfl ?_
          show Steps p.tables e below (s₁.setTop (mkF m 34 #[.val (.long q0), .second, .val (.long q1), .second, .val (.int p2), .val (.int p3)] [(.long ((q0 + (9223372036854775807 : Int64)) + (p2.toInt64)))])) _
          exact k)
        obtain ⟨fs, hr, hrun, hended, hW, hsame⟩ := X0.leave (v := some (.long ((q0 + (9223372036854775807 : Int64)) + (p2.toInt64)))) (fun h => by rw [Bd.returns] at h; cases h)
        refine ⟨_, _, ?_, hrun, hended, _, _, rfl, ?_, ⟨_, rfl⟩, hW, hsame.mono (by decide) (by decide)⟩
        · rw [← hS0]; exact K6 _ (retOut X0 hx Bd.returns rfl (Or.inr (Or.inl ⟨rfl, rfl, _, rfl⟩)) (hb hby d2_34) hr)
        · show Q2 Z q0 q1 p2 p3 h0 n0 _ s₁.heap _
          rw [e0]
          have qr : ((q0 + (9223372036854775807 : Int64)) + (p2.toInt64)) = (w2_r1 q0 q1 p2 p3) := by unfold w2_r1; rw [if_neg hc2_0, if_neg hc10_1, if_pos hc22_2]
          exact ⟨congrArg (fun z => some (Value.long z)) qr, N0, rfl⟩
      · -- no
        have K7 : ∀ t, Steps p.tables e below (s₁.setTop (mkF m 45 #[.val (.long q0), .second, .val (.long q1), .second, .val (.int p2), .val (.int p3)] [(.long ((9223372036854775807 : Int64) - ((p2 &&& (7 : Int32)).toInt64)))])) t → Steps p.tables e below S0 t := fun t k => K5 t (by
          refine XS.icmpYes X0.here hx rfl (pc0 := 22) (pc' := 35) rfl (hb hby d2_22) rfl (XT.ii_ne_t hc22_2) (by decide) (by decide) ?_
          show Steps p.tables e below (s₁.setTop (mkF m 35 #[.val (.long q0), .second, .val (.long q1), .second, .val (.int p2), .val (.int p3)] [])) _
          refine X0.ldc2Long hx hown (mvT hZ (hw _ (List.mem_of_getElem? (i := 8) rfl))) (g := (mkF m 35 #[.val (.long q0), .second, .val (.long q1), .second, .val (.int p2), .val (.int p3)] [])) rfl (hb hby d2_35) _ ?_
          show Steps p.tables e below (s₁.setTop (mkF m 38 #[.val (.long q0), .second, .val (.long q1), .second, .val (.int p2), .val (.int p3)] [(.long (9223372036854775807 : Int64))])) _
          refine XS.iload X0.here hx rfl (hb hby d2_38) rfl ?_
          show Steps p.tables e below (s₁.setTop (mkF m 40 #[.val (.long q0), .second, .val (.long q1), .second, .val (.int p2), .val (.int p3)] [(.int p2), (.long (9223372036854775807 : Int64))])) _
          refine XS.bipush X0.here hx rfl (hb hby d2_40) ?_
          show Steps p.tables e below (s₁.setTop (mkF m 42 #[.val (.long q0), .second, .val (.long q1), .second, .val (.int p2), .val (.int p3)] [(.int (7 : Int32)), (.int p2), (.long (9223372036854775807 : Int64))])) _
          refine XS.iand X0.here hx rfl (hb hby d2_42) rfl ?_
          show Steps p.tables e below (s₁.setTop (mkF m 43 #[.val (.long q0), .second, .val (.long q1), .second, .val (.int p2), .val (.int p3)] [(.int (p2 &&& (7 : Int32))), (.long (9223372036854775807 : Int64))])) _
          refine XS.i2l X0.here hx rfl (hb hby d2_43) rfl ?_
          show Steps p.tables e below (s₁.setTop (mkF m 44 #[.val (.long q0), .second, .val (.long q1), .second, .val (.int p2), .val (.int p3)] [(.long ((p2 &&& (7 : Int32)).toInt64)), (.long (9223372036854775807 : Int64))])) _
          refine XS.lsub X0.here hx rfl (hb hby d2_44) rfl ?_
          show Steps p.tables e below (s₁.setTop (mkF m 45 #[.val (.long q0), .second, .val (.long q1), .second, .val (.int p2), .val (.int p3)] [(.long ((9223372036854775807 : Int64) - ((p2 &&& (7 : Int32)).toInt64)))])) _
          exact k)
        obtain ⟨fs, hr, hrun, hended, hW, hsame⟩ := X0.leave (v := some (.long ((9223372036854775807 : Int64) - ((p2 &&& (7 : Int32)).toInt64)))) (fun h => by rw [Bd.returns] at h; cases h)
        refine ⟨_, _, ?_, hrun, hended, _, _, rfl, ?_, ⟨_, rfl⟩, hW, hsame.mono (by decide) (by decide)⟩
        · rw [← hS0]; exact K7 _ (retOut X0 hx Bd.returns rfl (Or.inr (Or.inl ⟨rfl, rfl, _, rfl⟩)) (hb hby d2_45) hr)
        · show Q2 Z q0 q1 p2 p3 h0 n0 _ s₁.heap _
          rw [e0]
          have qr : ((9223372036854775807 : Int64) - ((p2 &&& (7 : Int32)).toInt64)) = (w2_r1 q0 q1 p2 p3) := by unfold w2_r1; rw [if_neg hc2_0, if_neg hc10_1, if_neg hc22_2]
          exact ⟨congrArg (fun z => some (Value.long z)) qr, N0, rfl⟩
theorem d3_0 : decode prog_53_method_2_code 0 = .ok (.lload_n 2, 1) := by decide +kernel
theorem d3_1 : decode prog_53_method_2_code 1 = .ok (.lload_n 0, 1) := by decide +kernel
theorem d3_2 : decode prog_53_method_2_code 2 = .ok (.lcmp, 1) := by decide +kernel
theorem d3_3 : decode prog_53_method_2_code 3 = .ok (.ifCond .ge 5, 3) := by decide +kernel
theorem d3_6 : decode prog_53_method_2_code 6 = .ok (.lconst 0, 1) := by decide +kernel
theorem d3_7 : decode prog_53_method_2_code 7 = .ok (.lreturn, 1) := by decide +kernel
theorem d3_8 : decode prog_53_method_2_code 8 = .ok (.lload_n 2, 1) := by decide +kernel
theorem d3_9 : decode prog_53_method_2_code 9 = .ok (.lload_n 0, 1) := by decide +kernel
theorem d3_10 : decode prog_53_method_2_code 10 = .ok (.lsub, 1) := by decide +kernel
theorem d3_11 : decode prog_53_method_2_code 11 = .ok (.lconst 1, 1) := by decide +kernel
theorem d3_12 : decode prog_53_method_2_code 12 = .ok (.ladd, 1) := by decide +kernel
theorem d3_13 : decode prog_53_method_2_code 13 = .ok (.lstore 4, 2) := by decide +kernel
theorem d3_15 : decode prog_53_method_2_code 15 = .ok (.lload 4, 2) := by decide +kernel
theorem d3_17 : decode prog_53_method_2_code 17 = .ok (.lconst 0, 1) := by decide +kernel
theorem d3_18 : decode prog_53_method_2_code 18 = .ok (.lcmp, 1) := by decide +kernel
theorem d3_19 : decode prog_53_method_2_code 19 = .ok (.ifCond .gt 9, 3) := by decide +kernel
theorem d3_22 : decode prog_53_method_2_code 22 = .ok (.ldc2_w 11, 3) := by decide +kernel
theorem d3_25 : decode prog_53_method_2_code 25 = .ok (.goto 5, 3) := by decide +kernel
theorem d3_28 : decode prog_53_method_2_code 28 = .ok (.lload 4, 2) := by decide +kernel
theorem d3_30 : decode prog_53_method_2_code 30 = .ok (.lreturn, 1) := by decide +kernel
theorem pn3 : plainName "com/example/elidora/elidora/SetMembers" = true := by first | (simp [plainName, overriddenIn]; done) | decide +kernel
theorem ef3 (m : MethodId) (q0 : Int64) (q1 : Int64) : entryFrame m #[(.long q0), (.long q1)] 6 = mkF m 0 #[.val (.long q0), .second, .val (.long q1), .second, .unset, .unset] [] := by first | (simp [entryFrame, mkF, argsToLocals, Value.category]; done) | rfl
def Q3 (Z : State) (q0 : Int64) (q1 : Int64) (h0 : Heap) (n0 : Nat) (v : Option Value) (h : Heap) (L : List Loc) : Prop := v = some (.long (w3_r1 q0 q1)) ∧ Fr n0 L ∧ h = h0
set_option maxRecDepth 65536 in
set_option maxHeartbeats 40000000 in
theorem rm3 (l : Launch) (Z : State) (a0 : Array Value) (hw : ∀ d ∈ tables_1, d.before a0 Z = true) (ws : List Jvm.Cond) (q0 : Int64) (q1 : Int64) (h0 : Heap) (n0 : Nat) (Z0 : n0 ≤ h0.size) :
    MetFree l (⟨"com/example/elidora/elidora/SetMembers", "countIntegers", "(JJ)J"⟩ : MethodName) (head1 (Jvm.Cond.code (⟨"com/example/elidora/elidora/SetMembers", "countIntegers", "(JJ)J"⟩ : MethodName) prog_53_method_2_code 6 (some .long) :: ws) ({ frames := 0, cells := 0, slots := 0, locals := 0 } : Room)) (fun a U => a = #[(.long q0), (.long q1)] ∧ Z.Warmed39 U.vm ∧ U.heap = h0) (fun _ _ _ _ _ => True) (fun _ U o U' => ∃ v L, o = .returned v ∧ Q3 Z q0 q1 h0 n0 v U'.heap L ∧ FrameEnd U o U' L ({ frames := 0, cells := 0, slots := 0, locals := 0 } : Room).cells ({ frames := 0, cells := 0, slots := 0, locals := 0 } : Room).slots) := by
  refine MetFree.of_bodySF (plainFor_of_name pn3) hisR ?_
  intro p e s m args below meth c s₁ Bd hml0 hP hK
  obtain ⟨rfl, hZ, hh⟩ := hP
  have hx := Bd.exec
  have hby := Bd.bytes
  have hml : c.maxLocals = 6 := hml0
  have hown : s.vm.findClass "com/example/elidora/elidora/SetMembers" = some m.cls := findClass_of_methodNamed Bd.named
  have hnm := (name_of_methodNamed Bd.named Bd.method).1
  have X0 : Stand p l e ({ frames := 0, cells := 0, slots := 0, locals := 0 } : Room) s m #[(.long q0), (.long q1)] below meth c s₁ [] 0 0 := Stand.of_body Bd
  have e0 : s₁.heap = h0 := by rw [← hh, Bd.state]; rfl
  have N0 := Fr.nil n0
  obtain ⟨S0, hS0⟩ : ∃ S0, S0 = s₁.setTop (entryFrame m #[(.long q0), (.long q1)] 6) := ⟨_, rfl⟩
  have pre0 : ∀ t, Steps p.tables e below (s₁.setTop (mkF m 0 #[.val (.long q0), .second, .val (.long q1), .second, .unset, .unset] [])) t → Steps p.tables e below S0 t := fun t k => by rw [hS0]; exact castTop (ef3 m q0 q1) k
  have K1 : ∀ t, Steps p.tables e below (s₁.setTop (mkF m 3 #[.val (.long q0), .second, .val (.long q1), .second, .unset, .unset] [(.int (lcmpW q1 q0))])) t → Steps p.tables e below S0 t := fun t k => pre0 t (by
    refine XS.lloadN X0.here hx rfl (hb hby d3_0) rfl ?_
    show Steps p.tables e below (s₁.setTop (mkF m 1 #[.val (.long q0), .second, .val (.long q1), .second, .unset, .unset] [(.long q1)])) _
    refine XS.lloadN X0.here hx rfl (hb hby d3_1) rfl ?_
    show Steps p.tables e below (s₁.setTop (mkF m 2 #[.val (.long q0), .second, .val (.long q1), .second, .unset, .unset] [(.long q0), (.long q1)])) _
    refine XS.lcmp X0.here hx rfl (hb hby d3_2) rfl ?_
    show Steps p.tables e below (s₁.setTop (mkF m 3 #[.val (.long q0), .second, .val (.long q1), .second, .unset, .unset] [(.int (lcmpW q1 q0))])) _
    exact k)
  by_cases hc3_0 : q1 < q0
  · -- yes
    have K2 : ∀ t, Steps p.tables e below (s₁.setTop (mkF m 7 #[.val (.long q0), .second, .val (.long q1), .second, .unset, .unset] [(.long (0 : Int64))])) t → Steps p.tables e below S0 t := fun t k => K1 t (by
      refine XS.ifNo X0.here hx rfl (hb hby d3_3) rfl (XT.ll_ge_f hc3_0) ?_
      show Steps p.tables e below (s₁.setTop (mkF m 6 #[.val (.long q0), .second, .val (.long q1), .second, .unset, .unset] [])) _
      refine XS.lconst X0.here hx rfl (hb hby d3_6) ?_
      show Steps p.tables e below (s₁.setTop (mkF m 7 #[.val (.long q0), .second, .val (.long q1), .second, .unset, .unset] [(.long (0 : Int64))])) _
      exact k)
    obtain ⟨fs, hr, hrun, hended, hW, hsame⟩ := X0.leave (v := some (.long (0 : Int64))) (fun h => by rw [Bd.returns] at h; cases h)
    refine ⟨_, _, ?_, hrun, hended, _, _, rfl, ?_, ⟨_, rfl⟩, hW, hsame.mono (by decide) (by decide)⟩
    · rw [← hS0]; exact K2 _ (retOut X0 hx Bd.returns rfl (Or.inr (Or.inl ⟨rfl, rfl, _, rfl⟩)) (hb hby d3_7) hr)
    · show Q3 Z q0 q1 h0 n0 _ s₁.heap _
      rw [e0]
      have qr : (0 : Int64) = (w3_r1 q0 q1) := by unfold w3_r1; rw [if_pos hc3_0]
      exact ⟨congrArg (fun z => some (Value.long z)) qr, N0, rfl⟩
  · -- no
    have K3 : ∀ t, Steps p.tables e below (s₁.setTop (mkF m 19 #[.val (.long q0), .second, .val (.long q1), .second, .val (.long ((q1 - q0) + (1 : Int64))), .second] [(.int (lcmpW ((q1 - q0) + (1 : Int64)) (0 : Int64)))])) t → Steps p.tables e below S0 t := fun t k => K1 t (by
      refine XS.ifYes X0.here hx rfl (pc0 := 3) (pc' := 8) rfl (hb hby d3_3) rfl (XT.ll_ge_t hc3_0) (by decide) (by decide) ?_
      show Steps p.tables e below (s₁.setTop (mkF m 8 #[.val (.long q0), .second, .val (.long q1), .second, .unset, .unset] [])) _
      refine XS.lloadN X0.here hx rfl (hb hby d3_8) rfl ?_
      show Steps p.tables e below (s₁.setTop (mkF m 9 #[.val (.long q0), .second, .val (.long q1), .second, .unset, .unset] [(.long q1)])) _
      refine XS.lloadN X0.here hx rfl (hb hby d3_9) rfl ?_
      show Steps p.tables e below (s₁.setTop (mkF m 10 #[.val (.long q0), .second, .val (.long q1), .second, .unset, .unset] [(.long q0), (.long q1)])) _
      refine XS.lsub X0.here hx rfl (hb hby d3_10) rfl ?_
      show Steps p.tables e below (s₁.setTop (mkF m 11 #[.val (.long q0), .second, .val (.long q1), .second, .unset, .unset] [(.long (q1 - q0))])) _
      refine XS.lconst X0.here hx rfl (hb hby d3_11) ?_
      show Steps p.tables e below (s₁.setTop (mkF m 12 #[.val (.long q0), .second, .val (.long q1), .second, .unset, .unset] [(.long (1 : Int64)), (.long (q1 - q0))])) _
      refine XS.ladd X0.here hx rfl (hb hby d3_12) rfl ?_
      show Steps p.tables e below (s₁.setTop (mkF m 13 #[.val (.long q0), .second, .val (.long q1), .second, .unset, .unset] [(.long ((q1 - q0) + (1 : Int64)))])) _
      refine XS.lstore X0.here hx rfl (hb hby d3_13) rfl (l' := #[.val (.long q0), .second, .val (.long q1), .second, .val (.long ((q1 - q0) + (1 : Int64))), .second]) rfl ?_
      show Steps p.tables e below (s₁.setTop (mkF m 15 #[.val (.long q0), .second, .val (.long q1), .second, .val (.long ((q1 - q0) + (1 : Int64))), .second] [])) _
      refine XS.lload X0.here hx rfl (hb hby d3_15) rfl ?_
      show Steps p.tables e below (s₁.setTop (mkF m 17 #[.val (.long q0), .second, .val (.long q1), .second, .val (.long ((q1 - q0) + (1 : Int64))), .second] [(.long ((q1 - q0) + (1 : Int64)))])) _
      refine XS.lconst X0.here hx rfl (hb hby d3_17) ?_
      show Steps p.tables e below (s₁.setTop (mkF m 18 #[.val (.long q0), .second, .val (.long q1), .second, .val (.long ((q1 - q0) + (1 : Int64))), .second] [(.long (0 : Int64)), (.long ((q1 - q0) + (1 : Int64)))])) _
      refine XS.lcmp X0.here hx rfl (hb hby d3_18) rfl ?_
      show Steps p.tables e below (s₁.setTop (mkF m 19 #[.val (.long q0), .second, .val (.long q1), .second, .val (.long ((q1 - q0) + (1 : Int64))), .second] [(.int (lcmpW ((q1 - q0) + (1 : Int64)) (0 : Int64)))])) _
      exact k)
    by_cases hc19_1 : (0 : Int64) < ((q1 - q0) + (1 : Int64))
    · -- yes
      have K4 : ∀ t, Steps p.tables e below (s₁.setTop (mkF m 30 #[.val (.long q0), .second, .val (.long q1), .second, .val (.long ((q1 - q0) + (1 : Int64))), .second] [(.long ((q1 - q0) + (1 : Int64)))])) t → Steps p.tables e below S0 t := fun t k => K3 t (by
        refine XS.ifYes X0.here hx rfl (pc0 := 19) (pc' := 28) rfl (hb hby d3_19) rfl (XT.ll_gt_t hc19_1) (by decide) (by decide) ?_
        show Steps p.tables e below (s₁.setTop (mkF m 28 #[.val (.long q0), .second, .val (.long q1), .second, .val (.long ((q1 - q0) + (1 : Int64))), .second] [])) _
        refine XS.lload X0.here hx rfl (hb hby d3_28) rfl ?_
        show Steps p.tables e below (s₁.setTop (mkF m 30 #[.val (.long q0), .second, .val (.long q1), .second, .val (.long ((q1 - q0) + (1 : Int64))), .second] [(.long ((q1 - q0) + (1 : Int64)))])) _
        exact k)
      obtain ⟨fs, hr, hrun, hended, hW, hsame⟩ := X0.leave (v := some (.long ((q1 - q0) + (1 : Int64)))) (fun h => by rw [Bd.returns] at h; cases h)
      refine ⟨_, _, ?_, hrun, hended, _, _, rfl, ?_, ⟨_, rfl⟩, hW, hsame.mono (by decide) (by decide)⟩
      · rw [← hS0]; exact K4 _ (retOut X0 hx Bd.returns rfl (Or.inr (Or.inl ⟨rfl, rfl, _, rfl⟩)) (hb hby d3_30) hr)
      · show Q3 Z q0 q1 h0 n0 _ s₁.heap _
        rw [e0]
        have qr : ((q1 - q0) + (1 : Int64)) = (w3_r1 q0 q1) := by unfold w3_r1; rw [if_neg hc3_0, if_pos hc19_1]
        exact ⟨congrArg (fun z => some (Value.long z)) qr, N0, rfl⟩
    · -- no
      have K5 : ∀ t, Steps p.tables e below (s₁.setTop (mkF m 30 #[.val (.long q0), .second, .val (.long q1), .second, .val (.long ((q1 - q0) + (1 : Int64))), .second] [(.long (9223372036854775807 : Int64))])) t → Steps p.tables e below S0 t := fun t k => K3 t (by
        refine XS.ifNo X0.here hx rfl (hb hby d3_19) rfl (XT.ll_gt_f hc19_1) ?_
        show Steps p.tables e below (s₁.setTop (mkF m 22 #[.val (.long q0), .second, .val (.long q1), .second, .val (.long ((q1 - q0) + (1 : Int64))), .second] [])) _
        refine X0.ldc2Long hx hown (mvT hZ (hw _ (List.mem_of_getElem? (i := 13) rfl))) (g := (mkF m 22 #[.val (.long q0), .second, .val (.long q1), .second, .val (.long ((q1 - q0) + (1 : Int64))), .second] [])) rfl (hb hby d3_22) _ ?_
        show Steps p.tables e below (s₁.setTop (mkF m 25 #[.val (.long q0), .second, .val (.long q1), .second, .val (.long ((q1 - q0) + (1 : Int64))), .second] [(.long (9223372036854775807 : Int64))])) _
        refine XS.goto X0.here hx rfl (pc0 := 25) (pc' := 30) rfl (hb hby d3_25) (by decide) (by decide) ?_
        show Steps p.tables e below (s₁.setTop (mkF m 30 #[.val (.long q0), .second, .val (.long q1), .second, .val (.long ((q1 - q0) + (1 : Int64))), .second] [(.long (9223372036854775807 : Int64))])) _
        exact k)
      obtain ⟨fs, hr, hrun, hended, hW, hsame⟩ := X0.leave (v := some (.long (9223372036854775807 : Int64))) (fun h => by rw [Bd.returns] at h; cases h)
      refine ⟨_, _, ?_, hrun, hended, _, _, rfl, ?_, ⟨_, rfl⟩, hW, hsame.mono (by decide) (by decide)⟩
      · rw [← hS0]; exact K5 _ (retOut X0 hx Bd.returns rfl (Or.inr (Or.inl ⟨rfl, rfl, _, rfl⟩)) (hb hby d3_30) hr)
      · show Q3 Z q0 q1 h0 n0 _ s₁.heap _
        rw [e0]
        have qr : (9223372036854775807 : Int64) = (w3_r1 q0 q1) := by unfold w3_r1; rw [if_neg hc3_0, if_neg hc19_1]
        exact ⟨congrArg (fun z => some (Value.long z)) qr, N0, rfl⟩
theorem d4_0 : decode method_4_code 0 = .ok (.lload_n 2, 1) := by decide +kernel
theorem d4_1 : decode method_4_code 1 = .ok (.lload_n 0, 1) := by decide +kernel
theorem d4_2 : decode method_4_code 2 = .ok (.lcmp, 1) := by decide +kernel
theorem d4_3 : decode method_4_code 3 = .ok (.ifCond .ge 5, 3) := by decide +kernel
theorem d4_6 : decode method_4_code 6 = .ok (.lconst 0, 1) := by decide +kernel
theorem d4_7 : decode method_4_code 7 = .ok (.lreturn, 1) := by decide +kernel
theorem d4_8 : decode method_4_code 8 = .ok (.lload_n 2, 1) := by decide +kernel
theorem d4_9 : decode method_4_code 9 = .ok (.ldc2_w 13, 3) := by decide +kernel
theorem d4_12 : decode method_4_code 12 = .ok (.lcmp, 1) := by decide +kernel
theorem d4_13 : decode method_4_code 13 = .ok (.ifCond .lt 17, 3) := by decide +kernel
theorem d4_16 : decode method_4_code 16 = .ok (.lload_n 0, 1) := by decide +kernel
theorem d4_17 : decode method_4_code 17 = .ok (.lload_n 2, 1) := by decide +kernel
theorem d4_18 : decode method_4_code 18 = .ok (.ldc2_w 9, 3) := by decide +kernel
theorem d4_21 : decode method_4_code 21 = .ok (.lsub, 1) := by decide +kernel
theorem d4_22 : decode method_4_code 22 = .ok (.lcmp, 1) := by decide +kernel
theorem d4_23 : decode method_4_code 23 = .ok (.ifCond .gt 7, 3) := by decide +kernel
theorem d4_26 : decode method_4_code 26 = .ok (.ldc2_w 9, 3) := by decide +kernel
theorem d4_29 : decode method_4_code 29 = .ok (.lreturn, 1) := by decide +kernel
theorem d4_30 : decode method_4_code 30 = .ok (.lload_n 2, 1) := by decide +kernel
theorem d4_31 : decode method_4_code 31 = .ok (.lload_n 0, 1) := by decide +kernel
theorem d4_32 : decode method_4_code 32 = .ok (.lsub, 1) := by decide +kernel
theorem d4_33 : decode method_4_code 33 = .ok (.lconst 1, 1) := by decide +kernel
theorem d4_34 : decode method_4_code 34 = .ok (.ladd, 1) := by decide +kernel
theorem d4_35 : decode method_4_code 35 = .ok (.lreturn, 1) := by decide +kernel
theorem pn4 : plainName "com/example/elidora/elidora/SetMembersCountIntegersPinLaw" = true := by first | (simp [plainName, overriddenIn]; done) | decide +kernel
theorem ef4 (m : MethodId) (q0 : Int64) (q1 : Int64) : entryFrame m #[(.long q0), (.long q1)] 4 = mkF m 0 #[.val (.long q0), .second, .val (.long q1), .second] [] := by first | (simp [entryFrame, mkF, argsToLocals, Value.category]; done) | rfl
def Q4 (Z : State) (q0 : Int64) (q1 : Int64) (h0 : Heap) (n0 : Nat) (v : Option Value) (h : Heap) (L : List Loc) : Prop := v = some (.long (w4_r2 q0 q1)) ∧ Fr n0 L ∧ h = h0
set_option maxRecDepth 65536 in
set_option maxHeartbeats 40000000 in
theorem rm4 (l : Launch) (Z : State) (a0 : Array Value) (hw : ∀ d ∈ tables_1, d.before a0 Z = true) (ws : List Jvm.Cond) (q0 : Int64) (q1 : Int64) (h0 : Heap) (n0 : Nat) (Z0 : n0 ≤ h0.size) :
    MetFree l (⟨"com/example/elidora/elidora/SetMembersCountIntegersPinLaw", "expected", "(JJ)J"⟩ : MethodName) (head1 (Jvm.Cond.code (⟨"com/example/elidora/elidora/SetMembersCountIntegersPinLaw", "expected", "(JJ)J"⟩ : MethodName) method_4_code 4 (some .long) :: ws) ({ frames := 0, cells := 0, slots := 0, locals := 0 } : Room)) (fun a U => a = #[(.long q0), (.long q1)] ∧ Z.Warmed39 U.vm ∧ U.heap = h0) (fun _ _ _ _ _ => True) (fun _ U o U' => ∃ v L, o = .returned v ∧ Q4 Z q0 q1 h0 n0 v U'.heap L ∧ FrameEnd U o U' L ({ frames := 0, cells := 0, slots := 0, locals := 0 } : Room).cells ({ frames := 0, cells := 0, slots := 0, locals := 0 } : Room).slots) := by
  refine MetFree.of_bodySF (plainFor_of_name pn4) hisR ?_
  intro p e s m args below meth c s₁ Bd hml0 hP hK
  obtain ⟨rfl, hZ, hh⟩ := hP
  have hx := Bd.exec
  have hby := Bd.bytes
  have hml : c.maxLocals = 4 := hml0
  have hown : s.vm.findClass "com/example/elidora/elidora/SetMembersCountIntegersPinLaw" = some m.cls := findClass_of_methodNamed Bd.named
  have hnm := (name_of_methodNamed Bd.named Bd.method).1
  have X0 : Stand p l e ({ frames := 0, cells := 0, slots := 0, locals := 0 } : Room) s m #[(.long q0), (.long q1)] below meth c s₁ [] 0 0 := Stand.of_body Bd
  have e0 : s₁.heap = h0 := by rw [← hh, Bd.state]; rfl
  have N0 := Fr.nil n0
  obtain ⟨S0, hS0⟩ : ∃ S0, S0 = s₁.setTop (entryFrame m #[(.long q0), (.long q1)] 4) := ⟨_, rfl⟩
  have pre0 : ∀ t, Steps p.tables e below (s₁.setTop (mkF m 0 #[.val (.long q0), .second, .val (.long q1), .second] [])) t → Steps p.tables e below S0 t := fun t k => by rw [hS0]; exact castTop (ef4 m q0 q1) k
  have K1 : ∀ t, Steps p.tables e below (s₁.setTop (mkF m 3 #[.val (.long q0), .second, .val (.long q1), .second] [(.int (lcmpW q1 q0))])) t → Steps p.tables e below S0 t := fun t k => pre0 t (by
    refine XS.lloadN X0.here hx rfl (hb hby d4_0) rfl ?_
    show Steps p.tables e below (s₁.setTop (mkF m 1 #[.val (.long q0), .second, .val (.long q1), .second] [(.long q1)])) _
    refine XS.lloadN X0.here hx rfl (hb hby d4_1) rfl ?_
    show Steps p.tables e below (s₁.setTop (mkF m 2 #[.val (.long q0), .second, .val (.long q1), .second] [(.long q0), (.long q1)])) _
    refine XS.lcmp X0.here hx rfl (hb hby d4_2) rfl ?_
    show Steps p.tables e below (s₁.setTop (mkF m 3 #[.val (.long q0), .second, .val (.long q1), .second] [(.int (lcmpW q1 q0))])) _
    exact k)
  by_cases hc3_0 : q1 < q0
  · -- yes
    have K2 : ∀ t, Steps p.tables e below (s₁.setTop (mkF m 7 #[.val (.long q0), .second, .val (.long q1), .second] [(.long (0 : Int64))])) t → Steps p.tables e below S0 t := fun t k => K1 t (by
      refine XS.ifNo X0.here hx rfl (hb hby d4_3) rfl (XT.ll_ge_f hc3_0) ?_
      show Steps p.tables e below (s₁.setTop (mkF m 6 #[.val (.long q0), .second, .val (.long q1), .second] [])) _
      refine XS.lconst X0.here hx rfl (hb hby d4_6) ?_
      show Steps p.tables e below (s₁.setTop (mkF m 7 #[.val (.long q0), .second, .val (.long q1), .second] [(.long (0 : Int64))])) _
      exact k)
    obtain ⟨fs, hr, hrun, hended, hW, hsame⟩ := X0.leave (v := some (.long (0 : Int64))) (fun h => by rw [Bd.returns] at h; cases h)
    refine ⟨_, _, ?_, hrun, hended, _, _, rfl, ?_, ⟨_, rfl⟩, hW, hsame.mono (by decide) (by decide)⟩
    · rw [← hS0]; exact K2 _ (retOut X0 hx Bd.returns rfl (Or.inr (Or.inl ⟨rfl, rfl, _, rfl⟩)) (hb hby d4_7) hr)
    · show Q4 Z q0 q1 h0 n0 _ s₁.heap _
      rw [e0]
      have qr : (0 : Int64) = (w4_r2 q0 q1) := by unfold w4_r2; rw [if_pos hc3_0]
      exact ⟨congrArg (fun z => some (Value.long z)) qr, N0, rfl⟩
  · -- no
    have K3 : ∀ t, Steps p.tables e below (s₁.setTop (mkF m 13 #[.val (.long q0), .second, .val (.long q1), .second] [(.int (lcmpW q1 (-1 : Int64)))])) t → Steps p.tables e below S0 t := fun t k => K1 t (by
      refine XS.ifYes X0.here hx rfl (pc0 := 3) (pc' := 8) rfl (hb hby d4_3) rfl (XT.ll_ge_t hc3_0) (by decide) (by decide) ?_
      show Steps p.tables e below (s₁.setTop (mkF m 8 #[.val (.long q0), .second, .val (.long q1), .second] [])) _
      refine XS.lloadN X0.here hx rfl (hb hby d4_8) rfl ?_
      show Steps p.tables e below (s₁.setTop (mkF m 9 #[.val (.long q0), .second, .val (.long q1), .second] [(.long q1)])) _
      refine X0.ldc2Long hx hown (mvT hZ (hw _ (List.mem_of_getElem? (i := 17) rfl))) (g := (mkF m 9 #[.val (.long q0), .second, .val (.long q1), .second] [(.long q1)])) rfl (hb hby d4_9) _ ?_
      show Steps p.tables e below (s₁.setTop (mkF m 12 #[.val (.long q0), .second, .val (.long q1), .second] [(.long (-1 : Int64)), (.long q1)])) _
      refine XS.lcmp X0.here hx rfl (hb hby d4_12) rfl ?_
      show Steps p.tables e below (s₁.setTop (mkF m 13 #[.val (.long q0), .second, .val (.long q1), .second] [(.int (lcmpW q1 (-1 : Int64)))])) _
      exact k)
    by_cases hc13_1 : q1 < (-1 : Int64)
    · -- yes
      have K4 : ∀ t, Steps p.tables e below (s₁.setTop (mkF m 35 #[.val (.long q0), .second, .val (.long q1), .second] [(.long ((q1 - q0) + (1 : Int64)))])) t → Steps p.tables e below S0 t := fun t k => K3 t (by
        refine XS.ifYes X0.here hx rfl (pc0 := 13) (pc' := 30) rfl (hb hby d4_13) rfl (XT.ll_lt_t hc13_1) (by decide) (by decide) ?_
        show Steps p.tables e below (s₁.setTop (mkF m 30 #[.val (.long q0), .second, .val (.long q1), .second] [])) _
        refine XS.lloadN X0.here hx rfl (hb hby d4_30) rfl ?_
        show Steps p.tables e below (s₁.setTop (mkF m 31 #[.val (.long q0), .second, .val (.long q1), .second] [(.long q1)])) _
        refine XS.lloadN X0.here hx rfl (hb hby d4_31) rfl ?_
        show Steps p.tables e below (s₁.setTop (mkF m 32 #[.val (.long q0), .second, .val (.long q1), .second] [(.long q0), (.long q1)])) _
        refine XS.lsub X0.here hx rfl (hb hby d4_32) rfl ?_
        show Steps p.tables e below (s₁.setTop (mkF m 33 #[.val (.long q0), .second, .val (.long q1), .second] [(.long (q1 - q0))])) _
        refine XS.lconst X0.here hx rfl (hb hby d4_33) ?_
        show Steps p.tables e below (s₁.setTop (mkF m 34 #[.val (.long q0), .second, .val (.long q1), .second] [(.long (1 : Int64)), (.long (q1 - q0))])) _
        refine XS.ladd X0.here hx rfl (hb hby d4_34) rfl ?_
        show Steps p.tables e below (s₁.setTop (mkF m 35 #[.val (.long q0), .second, .val (.long q1), .second] [(.long ((q1 - q0) + (1 : Int64)))])) _
        exact k)
      obtain ⟨fs, hr, hrun, hended, hW, hsame⟩ := X0.leave (v := some (.long ((q1 - q0) + (1 : Int64)))) (fun h => by rw [Bd.returns] at h; cases h)
      refine ⟨_, _, ?_, hrun, hended, _, _, rfl, ?_, ⟨_, rfl⟩, hW, hsame.mono (by decide) (by decide)⟩
      · rw [← hS0]; exact K4 _ (retOut X0 hx Bd.returns rfl (Or.inr (Or.inl ⟨rfl, rfl, _, rfl⟩)) (hb hby d4_35) hr)
      · show Q4 Z q0 q1 h0 n0 _ s₁.heap _
        rw [e0]
        have qr : ((q1 - q0) + (1 : Int64)) = (w4_r2 q0 q1) := by unfold w4_r2; rw [if_neg hc3_0, if_pos hc13_1]
        exact ⟨congrArg (fun z => some (Value.long z)) qr, N0, rfl⟩
    · -- no
      have K5 : ∀ t, Steps p.tables e below (s₁.setTop (mkF m 23 #[.val (.long q0), .second, .val (.long q1), .second] [(.int (lcmpW q0 (w4_1 q1)))])) t → Steps p.tables e below S0 t := fun t k => K3 t (by
        refine XS.ifNo X0.here hx rfl (hb hby d4_13) rfl (XT.ll_lt_f hc13_1) ?_
        show Steps p.tables e below (s₁.setTop (mkF m 16 #[.val (.long q0), .second, .val (.long q1), .second] [])) _
        refine XS.lloadN X0.here hx rfl (hb hby d4_16) rfl ?_
        show Steps p.tables e below (s₁.setTop (mkF m 17 #[.val (.long q0), .second, .val (.long q1), .second] [(.long q0)])) _
        refine XS.lloadN X0.here hx rfl (hb hby d4_17) rfl ?_
        show Steps p.tables e below (s₁.setTop (mkF m 18 #[.val (.long q0), .second, .val (.long q1), .second] [(.long q1), (.long q0)])) _
        refine X0.ldc2Long hx hown (mvT hZ (hw _ (List.mem_of_getElem? (i := 8) rfl))) (g := (mkF m 18 #[.val (.long q0), .second, .val (.long q1), .second] [(.long q1), (.long q0)])) rfl (hb hby d4_18) _ ?_
        show Steps p.tables e below (s₁.setTop (mkF m 21 #[.val (.long q0), .second, .val (.long q1), .second] [(.long (9223372036854775807 : Int64)), (.long q1), (.long q0)])) _
        refine XS.lsub X0.here hx rfl (hb hby d4_21) rfl ?_
        show Steps p.tables e below (s₁.setTop (mkF m 22 #[.val (.long q0), .second, .val (.long q1), .second] [(.long (q1 - (9223372036854775807 : Int64))), (.long q0)])) _
        refine XS.lcmp X0.here hx rfl (hb hby d4_22) rfl ?_
        show Steps p.tables e below (s₁.setTop (mkF m 23 #[.val (.long q0), .second, .val (.long q1), .second] [(.int (lcmpW q0 (w4_1 q1)))])) _
        exact k)
      by_cases hc23_2 : (w4_1 q1) < q0
      · -- yes
        have K6 : ∀ t, Steps p.tables e below (s₁.setTop (mkF m 35 #[.val (.long q0), .second, .val (.long q1), .second] [(.long ((q1 - q0) + (1 : Int64)))])) t → Steps p.tables e below S0 t := fun t k => K5 t (by
          refine XS.ifYes X0.here hx rfl (pc0 := 23) (pc' := 30) rfl (hb hby d4_23) rfl (XT.ll_gt_t hc23_2) (by decide) (by decide) ?_
          show Steps p.tables e below (s₁.setTop (mkF m 30 #[.val (.long q0), .second, .val (.long q1), .second] [])) _
          refine XS.lloadN X0.here hx rfl (hb hby d4_30) rfl ?_
          show Steps p.tables e below (s₁.setTop (mkF m 31 #[.val (.long q0), .second, .val (.long q1), .second] [(.long q1)])) _
          refine XS.lloadN X0.here hx rfl (hb hby d4_31) rfl ?_
          show Steps p.tables e below (s₁.setTop (mkF m 32 #[.val (.long q0), .second, .val (.long q1), .second] [(.long q0), (.long q1)])) _
          refine XS.lsub X0.here hx rfl (hb hby d4_32) rfl ?_
          show Steps p.tables e below (s₁.setTop (mkF m 33 #[.val (.long q0), .second, .val (.long q1), .second] [(.long (q1 - q0))])) _
          refine XS.lconst X0.here hx rfl (hb hby d4_33) ?_
          show Steps p.tables e below (s₁.setTop (mkF m 34 #[.val (.long q0), .second, .val (.long q1), .second] [(.long (1 : Int64)), (.long (q1 - q0))])) _
          refine XS.ladd X0.here hx rfl (hb hby d4_34) rfl ?_
          show Steps p.tables e below (s₁.setTop (mkF m 35 #[.val (.long q0), .second, .val (.long q1), .second] [(.long ((q1 - q0) + (1 : Int64)))])) _
          exact k)
        obtain ⟨fs, hr, hrun, hended, hW, hsame⟩ := X0.leave (v := some (.long ((q1 - q0) + (1 : Int64)))) (fun h => by rw [Bd.returns] at h; cases h)
        refine ⟨_, _, ?_, hrun, hended, _, _, rfl, ?_, ⟨_, rfl⟩, hW, hsame.mono (by decide) (by decide)⟩
        · rw [← hS0]; exact K6 _ (retOut X0 hx Bd.returns rfl (Or.inr (Or.inl ⟨rfl, rfl, _, rfl⟩)) (hb hby d4_35) hr)
        · show Q4 Z q0 q1 h0 n0 _ s₁.heap _
          rw [e0]
          have qr : ((q1 - q0) + (1 : Int64)) = (w4_r2 q0 q1) := by unfold w4_r2; rw [if_neg hc3_0, if_neg hc13_1, if_pos hc23_2]
          exact ⟨congrArg (fun z => some (Value.long z)) qr, N0, rfl⟩
      · -- no
        have K7 : ∀ t, Steps p.tables e below (s₁.setTop (mkF m 29 #[.val (.long q0), .second, .val (.long q1), .second] [(.long (9223372036854775807 : Int64))])) t → Steps p.tables e below S0 t := fun t k => K5 t (by
          refine XS.ifNo X0.here hx rfl (hb hby d4_23) rfl (XT.ll_gt_f hc23_2) ?_
          show Steps p.tables e below (s₁.setTop (mkF m 26 #[.val (.long q0), .second, .val (.long q1), .second] [])) _
          refine X0.ldc2Long hx hown (mvT hZ (hw _ (List.mem_of_getElem? (i := 8) rfl))) (g := (mkF m 26 #[.val (.long q0), .second, .val (.long q1), .second] [])) rfl (hb hby d4_26) _ ?_
          show Steps p.tables e below (s₁.setTop (mkF m 29 #[.val (.long q0), .second, .val (.long q1), .second] [(.long (9223372036854775807 : Int64))])) _
          exact k)
        obtain ⟨fs, hr, hrun, hended, hW, hsame⟩ := X0.leave (v := some (.long (9223372036854775807 : Int64))) (fun h => by rw [Bd.returns] at h; cases h)
        refine ⟨_, _, ?_, hrun, hended, _, _, rfl, ?_, ⟨_, rfl⟩, hW, hsame.mono (by decide) (by decide)⟩
        · rw [← hS0]; exact K7 _ (retOut X0 hx Bd.returns rfl (Or.inr (Or.inl ⟨rfl, rfl, _, rfl⟩)) (hb hby d4_29) hr)
        · show Q4 Z q0 q1 h0 n0 _ s₁.heap _
          rw [e0]
          have qr : (9223372036854775807 : Int64) = (w4_r2 q0 q1) := by unfold w4_r2; rw [if_neg hc3_0, if_neg hc13_1, if_neg hc23_2]
          exact ⟨congrArg (fun z => some (Value.long z)) qr, N0, rfl⟩
theorem pn0 : plainName "com/example/elidora/elidora/SetMembersCountIntegersPinLaw" = true := by first | (simp [plainName, overriddenIn]; done) | decide +kernel
theorem pd0_0 : parseMethodDescriptor "(JII)J" = some ⟨[.long, .int, .int], some .long⟩ := by decide +kernel
theorem pd0_1 : parseMethodDescriptor "(JJII)J" = some ⟨[.long, .long, .int, .int], some .long⟩ := by decide +kernel
theorem pd0_2 : parseMethodDescriptor "(JJ)J" = some ⟨[.long, .long], some .long⟩ := by decide +kernel
theorem ef0 (m : MethodId) (q0 : Int64) (q1 : Int64) (p2 : Int32) (p3 : Int32) : entryFrame m #[(.long q0), (.long q1), (.int p2), (.int p3)] maxLocals = mkF m 0 #[.val (.long q0), .second, .val (.long q1), .second, .val (.int p2), .val (.int p3), .unset, .unset, .unset, .unset, .unset] [] := by first | (simp [entryFrame, mkF, argsToLocals, Value.category, maxLocals]; done) | rfl
def Q0 (Z : State) (q0 : Int64) (q1 : Int64) (p2 : Int32) (p3 : Int32) (h0 : Heap) (n0 : Nat) (v : Option Value) (h : Heap) (L : List Loc) : Prop := v = some (.int (w0_r5 q0 q1 p2 p3)) ∧ Fr n0 L
set_option maxRecDepth 65536 in
set_option maxHeartbeats 40000000 in
theorem rm0 (l : Launch) (Z : State) (a0 : Array Value) (hw : ∀ d ∈ tables_1, d.before a0 Z = true) (ws : List Jvm.Cond) (q0 : Int64) (q1 : Int64) (p2 : Int32) (p3 : Int32) (h0 : Heap) (n0 : Nat) (Z0 : n0 ≤ h0.size) :
    MetFree l x (head1 (Jvm.Cond.code x code maxLocals ret :: ws) room_1) (fun a U => a = #[(.long q0), (.long q1), (.int p2), (.int p3)] ∧ Z.Warmed39 U.vm ∧ U.heap = h0) (fun _ _ _ _ _ => True) (fun _ U o U' => ∃ v L, o = .returned v ∧ Q0 Z q0 q1 p2 p3 h0 n0 v U'.heap L ∧ FrameEnd U o U' L 0 0) := by
  refine MetFree.of_bodySF (plainFor_of_name pn0) hisR ?_
  intro p e s m args below meth c s₁ Bd hml0 hP hK
  obtain ⟨rfl, hZ, hh⟩ := hP
  have hx := Bd.exec
  have hby := Bd.bytes
  have hml : c.maxLocals = 11 := hml0
  have hown : s.vm.findClass "com/example/elidora/elidora/SetMembersCountIntegersPinLaw" = some m.cls := findClass_of_methodNamed Bd.named
  have hnm := (name_of_methodNamed Bd.named Bd.method).1
  have X0 : Stand p l e room_1 s m #[(.long q0), (.long q1), (.int p2), (.int p3)] below meth c s₁ [] 0 0 := Stand.of_body Bd
  have e0 : s₁.heap = h0 := by rw [← hh, Bd.state]; rfl
  have N0 := Fr.nil n0
  obtain ⟨S0, hS0⟩ : ∃ S0, S0 = s₁.setTop (entryFrame m #[(.long q0), (.long q1), (.int p2), (.int p3)] maxLocals) := ⟨_, rfl⟩
  have pre0 : ∀ t, Steps p.tables e below (s₁.setTop (mkF m 0 #[.val (.long q0), .second, .val (.long q1), .second, .val (.int p2), .val (.int p3), .unset, .unset, .unset, .unset, .unset] [])) t → Steps p.tables e below S0 t := fun t k => by rw [hS0]; exact castTop (ef0 m q0 q1 p2 p3) k
  have K1 : ∀ t, Steps p.tables e below (s₁.setTop (mkF m 11 #[.val (.long q0), .second, .val (.long q1), .second, .val (.int p2), .val (.int p3), .val (.int (p3 &&& (3 : Int32))), .unset, .unset, .unset, .unset] [(.int (p3 &&& (3 : Int32))), (.int p2), (.long q0)])) t → Steps p.tables e below S0 t := fun t k => pre0 t (by
    refine XS.iload X0.here hx rfl (hb hby at_0) rfl ?_
    show Steps p.tables e below (s₁.setTop (mkF m 2 #[.val (.long q0), .second, .val (.long q1), .second, .val (.int p2), .val (.int p3), .unset, .unset, .unset, .unset, .unset] [(.int p3)])) _
    refine XS.iconst X0.here hx rfl (hb hby at_2) ?_
    show Steps p.tables e below (s₁.setTop (mkF m 3 #[.val (.long q0), .second, .val (.long q1), .second, .val (.int p2), .val (.int p3), .unset, .unset, .unset, .unset, .unset] [(.int (3 : Int32)), (.int p3)])) _
    refine XS.iand X0.here hx rfl (hb hby at_3) rfl ?_
    show Steps p.tables e below (s₁.setTop (mkF m 4 #[.val (.long q0), .second, .val (.long q1), .second, .val (.int p2), .val (.int p3), .unset, .unset, .unset, .unset, .unset] [(.int (p3 &&& (3 : Int32)))])) _
    refine XS.istore X0.here hx rfl (hb hby at_4) rfl (l' := #[.val (.long q0), .second, .val (.long q1), .second, .val (.int p2), .val (.int p3), .val (.int (p3 &&& (3 : Int32))), .unset, .unset, .unset, .unset]) rfl ?_
    show Steps p.tables e below (s₁.setTop (mkF m 6 #[.val (.long q0), .second, .val (.long q1), .second, .val (.int p2), .val (.int p3), .val (.int (p3 &&& (3 : Int32))), .unset, .unset, .unset, .unset] [])) _
    refine XS.lloadN X0.here hx rfl (hb hby at_6) rfl ?_
    show Steps p.tables e below (s₁.setTop (mkF m 7 #[.val (.long q0), .second, .val (.long q1), .second, .val (.int p2), .val (.int p3), .val (.int (p3 &&& (3 : Int32))), .unset, .unset, .unset, .unset] [(.long q0)])) _
    refine XS.iload X0.here hx rfl (hb hby at_7) rfl ?_
    show Steps p.tables e below (s₁.setTop (mkF m 9 #[.val (.long q0), .second, .val (.long q1), .second, .val (.int p2), .val (.int p3), .val (.int (p3 &&& (3 : Int32))), .unset, .unset, .unset, .unset] [(.int p2), (.long q0)])) _
    refine XS.iload X0.here hx rfl (hb hby at_9) rfl ?_
    show Steps p.tables e below (s₁.setTop (mkF m 11 #[.val (.long q0), .second, .val (.long q1), .second, .val (.int p2), .val (.int p3), .val (.int (p3 &&& (3 : Int32))), .unset, .unset, .unset, .unset] [(.int (p3 &&& (3 : Int32))), (.int p2), (.long q0)])) _
    exact k)
  have K_2 : ∀ t, Steps p.tables e below (s₁.setTop (mkF m 11 #[.val (.long q0), .second, .val (.long q1), .second, .val (.int p2), .val (.int p3), .val (.int (p3 &&& (3 : Int32))), .unset, .unset, .unset, .unset] [(.int (p3 &&& (3 : Int32))), (.int p2), (.long q0)])) t → Steps p.tables e below S0 t := K1
  obtain ⟨_, _, ⟨T3, L3, k3, n3⟩, -, X3, ⟨Lc3, hQ3, l3, y3, z3⟩, st3⟩ := Jvm.LawKit.callS X0 hx (y := (⟨"com/example/elidora/elidora/SetMembersCountIntegersPinLaw", "pickLow", "(JII)J"⟩ : MethodName)) hown (mvT hZ (hw _ (List.mem_of_getElem? (i := 0) rfl))) (mvT hZ (hw _ (List.mem_of_getElem? (i := 1) rfl))) (mvT hZ (hw _ (List.mem_of_getElem? (i := 2) rfl))) (mvT hZ (hw _ (List.mem_of_getElem? (i := 3) rfl))) (by decide) (backOf (W := 0) (rm1 l Z a0 hw [] q0 p2 (p3 &&& (3 : Int32)) h0 n0 Z0 ) hZ (hw _ (List.mem_of_getElem? (i := 3) rfl)) (hw _ (List.mem_of_getElem? (i := 2) rfl)) (by decide) (by decide)) (g := (mkF m 11 #[.val (.long q0), .second, .val (.long q1), .second, .val (.int p2), .val (.int p3), .val (.int (p3 &&& (3 : Int32))), .unset, .unset, .unset, .unset] [(.int (p3 &&& (3 : Int32))), (.int p2), (.long q0)])) rfl (by rw [hml]; rfl) (argsL := [(.long q0), (.int p2), (.int (p3 &&& (3 : Int32)))]) (rest := []) (lenOf pd0_0 rfl) rfl (by show 2 * 0 + _ ≤ _; exact Nat.le_of_eq rfl) (hb hby at_11) (fun _ _ => ⟨rfl, e0, (by decide : 0 + 0 ≤ 0), (by decide : 0 + 0 ≤ 0)⟩)
  dsimp only [Pt.U, Pt.locs, Pt.cells, Pt.slots] at X3 l3 y3 z3 st3 hQ3
  subst l3 y3 z3
  obtain ⟨rfl, N3q, e3⟩ := hQ3
  have N3 := Fr.app N0 N3q
  have K3 : ∀ t, Steps p.tables e below (T3.setTop (mkF m 14 #[.val (.long q0), .second, .val (.long q1), .second, .val (.int p2), .val (.int p3), .val (.int (p3 &&& (3 : Int32))), .unset, .unset, .unset, .unset] [(.long (w0_1 q0 p2 p3))])) t → Steps p.tables e below S0 t := fun t k => K_2 t (st3 t k)
  have K4 : ∀ t, Steps p.tables e below (T3.setTop (mkF m 22 #[.val (.long q0), .second, .val (.long q1), .second, .val (.int p2), .val (.int p3), .val (.int (p3 &&& (3 : Int32))), .val (.long (w0_1 q0 p2 p3)), .second, .unset, .unset] [(.int (p3 &&& (3 : Int32))), (.int p2), (.long q1), (.long q0)])) t → Steps p.tables e below S0 t := fun t k => K3 t (by
    refine XS.lstore X3.here hx rfl (hb hby at_14) rfl (l' := #[.val (.long q0), .second, .val (.long q1), .second, .val (.int p2), .val (.int p3), .val (.int (p3 &&& (3 : Int32))), .val (.long (w0_1 q0 p2 p3)), .second, .unset, .unset]) rfl ?_
    show Steps p.tables e below (T3.setTop (mkF m 16 #[.val (.long q0), .second, .val (.long q1), .second, .val (.int p2), .val (.int p3), .val (.int (p3 &&& (3 : Int32))), .val (.long (w0_1 q0 p2 p3)), .second, .unset, .unset] [])) _
    refine XS.lloadN X3.here hx rfl (hb hby at_16) rfl ?_
    show Steps p.tables e below (T3.setTop (mkF m 17 #[.val (.long q0), .second, .val (.long q1), .second, .val (.int p2), .val (.int p3), .val (.int (p3 &&& (3 : Int32))), .val (.long (w0_1 q0 p2 p3)), .second, .unset, .unset] [(.long q0)])) _
    refine XS.lloadN X3.here hx rfl (hb hby at_17) rfl ?_
    show Steps p.tables e below (T3.setTop (mkF m 18 #[.val (.long q0), .second, .val (.long q1), .second, .val (.int p2), .val (.int p3), .val (.int (p3 &&& (3 : Int32))), .val (.long (w0_1 q0 p2 p3)), .second, .unset, .unset] [(.long q1), (.long q0)])) _
    refine XS.iload X3.here hx rfl (hb hby at_18) rfl ?_
    show Steps p.tables e below (T3.setTop (mkF m 20 #[.val (.long q0), .second, .val (.long q1), .second, .val (.int p2), .val (.int p3), .val (.int (p3 &&& (3 : Int32))), .val (.long (w0_1 q0 p2 p3)), .second, .unset, .unset] [(.int p2), (.long q1), (.long q0)])) _
    refine XS.iload X3.here hx rfl (hb hby at_20) rfl ?_
    show Steps p.tables e below (T3.setTop (mkF m 22 #[.val (.long q0), .second, .val (.long q1), .second, .val (.int p2), .val (.int p3), .val (.int (p3 &&& (3 : Int32))), .val (.long (w0_1 q0 p2 p3)), .second, .unset, .unset] [(.int (p3 &&& (3 : Int32))), (.int p2), (.long q1), (.long q0)])) _
    exact k)
  have K_5 : ∀ t, Steps p.tables e below (T3.setTop (mkF m 22 #[.val (.long q0), .second, .val (.long q1), .second, .val (.int p2), .val (.int p3), .val (.int (p3 &&& (3 : Int32))), .val (.long (w0_1 q0 p2 p3)), .second, .unset, .unset] [(.int (p3 &&& (3 : Int32))), (.int p2), (.long q1), (.long q0)])) t → Steps p.tables e below S0 t := K4
  obtain ⟨_, _, ⟨T6, L6, k6, n6⟩, -, X6, ⟨Lc6, hQ6, l6, y6, z6⟩, st6⟩ := Jvm.LawKit.callS X3 hx (y := (⟨"com/example/elidora/elidora/SetMembersCountIntegersPinLaw", "pickHigh", "(JJII)J"⟩ : MethodName)) hown (mvT hZ (hw _ (List.mem_of_getElem? (i := 5) rfl))) (mvT hZ (hw _ (List.mem_of_getElem? (i := 6) rfl))) (mvT hZ (hw _ (List.mem_of_getElem? (i := 2) rfl))) (mvT hZ (hw _ (List.mem_of_getElem? (i := 7) rfl))) (by decide) (backOf (W := 0) (rm2 l Z a0 hw [] q0 q1 p2 (p3 &&& (3 : Int32)) h0 n0 Z0 ) hZ (hw _ (List.mem_of_getElem? (i := 7) rfl)) (hw _ (List.mem_of_getElem? (i := 2) rfl)) (by decide) (by decide)) (g := (mkF m 22 #[.val (.long q0), .second, .val (.long q1), .second, .val (.int p2), .val (.int p3), .val (.int (p3 &&& (3 : Int32))), .val (.long (w0_1 q0 p2 p3)), .second, .unset, .unset] [(.int (p3 &&& (3 : Int32))), (.int p2), (.long q1), (.long q0)])) rfl (by rw [hml]; rfl) (argsL := [(.long q0), (.long q1), (.int p2), (.int (p3 &&& (3 : Int32)))]) (rest := []) (lenOf pd0_1 rfl) rfl (by show 2 * 0 + _ ≤ _; exact Nat.le_of_eq rfl) (hb hby at_22) (fun _ _ => ⟨rfl, e3, (by decide : 0 + 0 ≤ 0), (by decide : 0 + 0 ≤ 0)⟩)
  dsimp only [Pt.U, Pt.locs, Pt.cells, Pt.slots] at X6 l6 y6 z6 st6 hQ6
  subst l6 y6 z6
  obtain ⟨rfl, N6q, e6⟩ := hQ6
  have N6 := Fr.app N3 N6q
  have K6 : ∀ t, Steps p.tables e below (T6.setTop (mkF m 25 #[.val (.long q0), .second, .val (.long q1), .second, .val (.int p2), .val (.int p3), .val (.int (p3 &&& (3 : Int32))), .val (.long (w0_1 q0 p2 p3)), .second, .unset, .unset] [(.long (w0_2 q0 q1 p2 p3))])) t → Steps p.tables e below S0 t := fun t k => K_5 t (st6 t k)
  have K7 : ∀ t, Steps p.tables e below (T6.setTop (mkF m 31 #[.val (.long q0), .second, .val (.long q1), .second, .val (.int p2), .val (.int p3), .val (.int (p3 &&& (3 : Int32))), .val (.long (w0_1 q0 p2 p3)), .second, .val (.long (w0_2 q0 q1 p2 p3)), .second] [(.long (w0_2 q0 q1 p2 p3)), (.long (w0_1 q0 p2 p3))])) t → Steps p.tables e below S0 t := fun t k => K6 t (by
    refine XS.lstore X6.here hx rfl (hb hby at_25) rfl (l' := #[.val (.long q0), .second, .val (.long q1), .second, .val (.int p2), .val (.int p3), .val (.int (p3 &&& (3 : Int32))), .val (.long (w0_1 q0 p2 p3)), .second, .val (.long (w0_2 q0 q1 p2 p3)), .second]) rfl ?_
    show Steps p.tables e below (T6.setTop (mkF m 27 #[.val (.long q0), .second, .val (.long q1), .second, .val (.int p2), .val (.int p3), .val (.int (p3 &&& (3 : Int32))), .val (.long (w0_1 q0 p2 p3)), .second, .val (.long (w0_2 q0 q1 p2 p3)), .second] [])) _
    refine XS.lload X6.here hx rfl (hb hby at_27) rfl ?_
    show Steps p.tables e below (T6.setTop (mkF m 29 #[.val (.long q0), .second, .val (.long q1), .second, .val (.int p2), .val (.int p3), .val (.int (p3 &&& (3 : Int32))), .val (.long (w0_1 q0 p2 p3)), .second, .val (.long (w0_2 q0 q1 p2 p3)), .second] [(.long (w0_1 q0 p2 p3))])) _
    refine XS.lload X6.here hx rfl (hb hby at_29) rfl ?_
    show Steps p.tables e below (T6.setTop (mkF m 31 #[.val (.long q0), .second, .val (.long q1), .second, .val (.int p2), .val (.int p3), .val (.int (p3 &&& (3 : Int32))), .val (.long (w0_1 q0 p2 p3)), .second, .val (.long (w0_2 q0 q1 p2 p3)), .second] [(.long (w0_2 q0 q1 p2 p3)), (.long (w0_1 q0 p2 p3))])) _
    exact k)
  have K_8 : ∀ t, Steps p.tables e below (T6.setTop (mkF m 31 #[.val (.long q0), .second, .val (.long q1), .second, .val (.int p2), .val (.int p3), .val (.int (p3 &&& (3 : Int32))), .val (.long (w0_1 q0 p2 p3)), .second, .val (.long (w0_2 q0 q1 p2 p3)), .second] [(.long (w0_2 q0 q1 p2 p3)), (.long (w0_1 q0 p2 p3))])) t → Steps p.tables e below S0 t := K7
  obtain ⟨_, _, ⟨T9, L9, k9, n9⟩, -, X9, ⟨Lc9, hQ9, l9, y9, z9⟩, st9⟩ := Jvm.LawKit.callS X6 hx (y := (⟨"com/example/elidora/elidora/SetMembers", "countIntegers", "(JJ)J"⟩ : MethodName)) hown (mvT hZ (hw _ (List.mem_of_getElem? (i := 9) rfl))) (mvT hZ (hw _ (List.mem_of_getElem? (i := 10) rfl))) (mvT hZ (hw _ (List.mem_of_getElem? (i := 11) rfl))) (mvT hZ (hw _ (List.mem_of_getElem? (i := 12) rfl))) (by decide) (backOf (W := 0) (rm3 l Z a0 hw [] (w0_1 q0 p2 p3) (w0_2 q0 q1 p2 p3) h0 n0 Z0 ) hZ (hw _ (List.mem_of_getElem? (i := 12) rfl)) (hw _ (List.mem_of_getElem? (i := 11) rfl)) (by decide) (by decide)) (g := (mkF m 31 #[.val (.long q0), .second, .val (.long q1), .second, .val (.int p2), .val (.int p3), .val (.int (p3 &&& (3 : Int32))), .val (.long (w0_1 q0 p2 p3)), .second, .val (.long (w0_2 q0 q1 p2 p3)), .second] [(.long (w0_2 q0 q1 p2 p3)), (.long (w0_1 q0 p2 p3))])) rfl (by rw [hml]; rfl) (argsL := [(.long (w0_1 q0 p2 p3)), (.long (w0_2 q0 q1 p2 p3))]) (rest := []) (lenOf pd0_2 rfl) rfl (by show 2 * 0 + _ ≤ _; exact Nat.le_of_eq rfl) (hb hby at_31) (fun _ _ => ⟨rfl, e6, (by decide : 0 + 0 ≤ 0), (by decide : 0 + 0 ≤ 0)⟩)
  dsimp only [Pt.U, Pt.locs, Pt.cells, Pt.slots] at X9 l9 y9 z9 st9 hQ9
  subst l9 y9 z9
  obtain ⟨rfl, N9q, e9⟩ := hQ9
  have N9 := Fr.app N6 N9q
  have K9 : ∀ t, Steps p.tables e below (T9.setTop (mkF m 34 #[.val (.long q0), .second, .val (.long q1), .second, .val (.int p2), .val (.int p3), .val (.int (p3 &&& (3 : Int32))), .val (.long (w0_1 q0 p2 p3)), .second, .val (.long (w0_2 q0 q1 p2 p3)), .second] [(.long (w0_3 q0 q1 p2 p3))])) t → Steps p.tables e below S0 t := fun t k => K_8 t (st9 t k)
  have K10 : ∀ t, Steps p.tables e below (T9.setTop (mkF m 38 #[.val (.long q0), .second, .val (.long q1), .second, .val (.int p2), .val (.int p3), .val (.int (p3 &&& (3 : Int32))), .val (.long (w0_1 q0 p2 p3)), .second, .val (.long (w0_2 q0 q1 p2 p3)), .second] [(.long (w0_2 q0 q1 p2 p3)), (.long (w0_1 q0 p2 p3)), (.long (w0_3 q0 q1 p2 p3))])) t → Steps p.tables e below S0 t := fun t k => K9 t (by
    refine XS.lload X9.here hx rfl (hb hby at_34) rfl ?_
    show Steps p.tables e below (T9.setTop (mkF m 36 #[.val (.long q0), .second, .val (.long q1), .second, .val (.int p2), .val (.int p3), .val (.int (p3 &&& (3 : Int32))), .val (.long (w0_1 q0 p2 p3)), .second, .val (.long (w0_2 q0 q1 p2 p3)), .second] [(.long (w0_1 q0 p2 p3)), (.long (w0_3 q0 q1 p2 p3))])) _
    refine XS.lload X9.here hx rfl (hb hby at_36) rfl ?_
    show Steps p.tables e below (T9.setTop (mkF m 38 #[.val (.long q0), .second, .val (.long q1), .second, .val (.int p2), .val (.int p3), .val (.int (p3 &&& (3 : Int32))), .val (.long (w0_1 q0 p2 p3)), .second, .val (.long (w0_2 q0 q1 p2 p3)), .second] [(.long (w0_2 q0 q1 p2 p3)), (.long (w0_1 q0 p2 p3)), (.long (w0_3 q0 q1 p2 p3))])) _
    exact k)
  have K_11 : ∀ t, Steps p.tables e below (T9.setTop (mkF m 38 #[.val (.long q0), .second, .val (.long q1), .second, .val (.int p2), .val (.int p3), .val (.int (p3 &&& (3 : Int32))), .val (.long (w0_1 q0 p2 p3)), .second, .val (.long (w0_2 q0 q1 p2 p3)), .second] [(.long (w0_2 q0 q1 p2 p3)), (.long (w0_1 q0 p2 p3)), (.long (w0_3 q0 q1 p2 p3))])) t → Steps p.tables e below S0 t := K10
  obtain ⟨_, _, ⟨T12, L12, k12, n12⟩, -, X12, ⟨Lc12, hQ12, l12, y12, z12⟩, st12⟩ := Jvm.LawKit.callS X9 hx (y := (⟨"com/example/elidora/elidora/SetMembersCountIntegersPinLaw", "expected", "(JJ)J"⟩ : MethodName)) hown (mvT hZ (hw _ (List.mem_of_getElem? (i := 14) rfl))) (mvT hZ (hw _ (List.mem_of_getElem? (i := 15) rfl))) (mvT hZ (hw _ (List.mem_of_getElem? (i := 2) rfl))) (mvT hZ (hw _ (List.mem_of_getElem? (i := 16) rfl))) (by decide) (backOf (W := 2) (rm4 l Z a0 hw [] (w0_1 q0 p2 p3) (w0_2 q0 q1 p2 p3) h0 n0 Z0 ) hZ (hw _ (List.mem_of_getElem? (i := 16) rfl)) (hw _ (List.mem_of_getElem? (i := 2) rfl)) (by decide) (by decide)) (g := (mkF m 38 #[.val (.long q0), .second, .val (.long q1), .second, .val (.int p2), .val (.int p3), .val (.int (p3 &&& (3 : Int32))), .val (.long (w0_1 q0 p2 p3)), .second, .val (.long (w0_2 q0 q1 p2 p3)), .second] [(.long (w0_2 q0 q1 p2 p3)), (.long (w0_1 q0 p2 p3)), (.long (w0_3 q0 q1 p2 p3))])) rfl (by rw [hml]; rfl) (argsL := [(.long (w0_1 q0 p2 p3)), (.long (w0_2 q0 q1 p2 p3))]) (rest := [(.long (w0_3 q0 q1 p2 p3))]) (lenOf pd0_2 rfl) rfl (by show 2 * 0 + _ ≤ _; exact Nat.le_of_eq rfl) (hb hby at_38) (fun _ _ => ⟨rfl, e9, (by decide : 0 + 0 ≤ 0), (by decide : 0 + 0 ≤ 0)⟩)
  dsimp only [Pt.U, Pt.locs, Pt.cells, Pt.slots] at X12 l12 y12 z12 st12 hQ12
  subst l12 y12 z12
  obtain ⟨rfl, N12q, e12⟩ := hQ12
  have N12 := Fr.app N9 N12q
  have K12 : ∀ t, Steps p.tables e below (T12.setTop (mkF m 41 #[.val (.long q0), .second, .val (.long q1), .second, .val (.int p2), .val (.int p3), .val (.int (p3 &&& (3 : Int32))), .val (.long (w0_1 q0 p2 p3)), .second, .val (.long (w0_2 q0 q1 p2 p3)), .second] [(.long (w0_4 q0 q1 p2 p3)), (.long (w0_3 q0 q1 p2 p3))])) t → Steps p.tables e below S0 t := fun t k => K_11 t (st12 t k)
  have K13 : ∀ t, Steps p.tables e below (T12.setTop (mkF m 42 #[.val (.long q0), .second, .val (.long q1), .second, .val (.int p2), .val (.int p3), .val (.int (p3 &&& (3 : Int32))), .val (.long (w0_1 q0 p2 p3)), .second, .val (.long (w0_2 q0 q1 p2 p3)), .second] [(.int (lcmpW (w0_3 q0 q1 p2 p3) (w0_4 q0 q1 p2 p3)))])) t → Steps p.tables e below S0 t := fun t k => K12 t (by
    refine XS.lcmp X12.here hx rfl (hb hby at_41) rfl ?_
    show Steps p.tables e below (T12.setTop (mkF m 42 #[.val (.long q0), .second, .val (.long q1), .second, .val (.int p2), .val (.int p3), .val (.int (p3 &&& (3 : Int32))), .val (.long (w0_1 q0 p2 p3)), .second, .val (.long (w0_2 q0 q1 p2 p3)), .second] [(.int (lcmpW (w0_3 q0 q1 p2 p3) (w0_4 q0 q1 p2 p3)))])) _
    exact k)
  by_cases hc42_0 : (w0_3 q0 q1 p2 p3) = (w0_4 q0 q1 p2 p3)
  · -- yes
    have K14 : ∀ t, Steps p.tables e below (T12.setTop (mkF m 50 #[.val (.long q0), .second, .val (.long q1), .second, .val (.int p2), .val (.int p3), .val (.int (p3 &&& (3 : Int32))), .val (.long (w0_1 q0 p2 p3)), .second, .val (.long (w0_2 q0 q1 p2 p3)), .second] [(.int (1 : Int32))])) t → Steps p.tables e below S0 t := fun t k => K13 t (by
      refine XS.ifNo X12.here hx rfl (hb hby at_42) rfl (XT.ll_ne_f hc42_0) ?_
      show Steps p.tables e below (T12.setTop (mkF m 45 #[.val (.long q0), .second, .val (.long q1), .second, .val (.int p2), .val (.int p3), .val (.int (p3 &&& (3 : Int32))), .val (.long (w0_1 q0 p2 p3)), .second, .val (.long (w0_2 q0 q1 p2 p3)), .second] [])) _
      refine XS.iconst X12.here hx rfl (hb hby at_45) ?_
      show Steps p.tables e below (T12.setTop (mkF m 46 #[.val (.long q0), .second, .val (.long q1), .second, .val (.int p2), .val (.int p3), .val (.int (p3 &&& (3 : Int32))), .val (.long (w0_1 q0 p2 p3)), .second, .val (.long (w0_2 q0 q1 p2 p3)), .second] [(.int (1 : Int32))])) _
      refine XS.goto X12.here hx rfl (pc0 := 46) (pc' := 50) rfl (hb hby at_46) (by decide) (by decide) ?_
      show Steps p.tables e below (T12.setTop (mkF m 50 #[.val (.long q0), .second, .val (.long q1), .second, .val (.int p2), .val (.int p3), .val (.int (p3 &&& (3 : Int32))), .val (.long (w0_1 q0 p2 p3)), .second, .val (.long (w0_2 q0 q1 p2 p3)), .second] [(.int (1 : Int32))])) _
      exact k)
    obtain ⟨fs, hr, hrun, hended, hW, hsame⟩ := X12.leave (v := some (.int (1 : Int32))) (fun h => by rw [Bd.returns] at h; cases h)
    refine ⟨_, _, ?_, hrun, hended, _, _, rfl, ?_, ⟨_, rfl⟩, hW, hsame.mono (by decide) (by decide)⟩
    · rw [← hS0]; exact K14 _ (retN X12 hx (t := .boolean) Bd.returns (by simp) (hb hby at_50) hr)
    · show Q0 Z q0 q1 p2 p3 h0 n0 _ T12.heap _
      rw [e12]
      have qr : (1 : Int32) = (w0_r5 q0 q1 p2 p3) := by unfold w0_r5; rw [if_pos hc42_0]
      exact ⟨congrArg (fun z => some (Value.int z)) qr, N12⟩
  · -- no
    have K15 : ∀ t, Steps p.tables e below (T12.setTop (mkF m 50 #[.val (.long q0), .second, .val (.long q1), .second, .val (.int p2), .val (.int p3), .val (.int (p3 &&& (3 : Int32))), .val (.long (w0_1 q0 p2 p3)), .second, .val (.long (w0_2 q0 q1 p2 p3)), .second] [(.int (0 : Int32))])) t → Steps p.tables e below S0 t := fun t k => K13 t (by
      refine XS.ifYes X12.here hx rfl (pc0 := 42) (pc' := 49) rfl (hb hby at_42) rfl (XT.ll_ne_t hc42_0) (by decide) (by decide) ?_
      show Steps p.tables e below (T12.setTop (mkF m 49 #[.val (.long q0), .second, .val (.long q1), .second, .val (.int p2), .val (.int p3), .val (.int (p3 &&& (3 : Int32))), .val (.long (w0_1 q0 p2 p3)), .second, .val (.long (w0_2 q0 q1 p2 p3)), .second] [])) _
      refine XS.iconst X12.here hx rfl (hb hby at_49) ?_
      show Steps p.tables e below (T12.setTop (mkF m 50 #[.val (.long q0), .second, .val (.long q1), .second, .val (.int p2), .val (.int p3), .val (.int (p3 &&& (3 : Int32))), .val (.long (w0_1 q0 p2 p3)), .second, .val (.long (w0_2 q0 q1 p2 p3)), .second] [(.int (0 : Int32))])) _
      exact k)
    obtain ⟨fs, hr, hrun, hended, hW, hsame⟩ := X12.leave (v := some (.int (0 : Int32))) (fun h => by rw [Bd.returns] at h; cases h)
    refine ⟨_, _, ?_, hrun, hended, _, _, rfl, ?_, ⟨_, rfl⟩, hW, hsame.mono (by decide) (by decide)⟩
    · rw [← hS0]; exact K15 _ (retN X12 hx (t := .boolean) Bd.returns (by simp) (hb hby at_50) hr)
    · show Q0 Z q0 q1 p2 p3 h0 n0 _ T12.heap _
      rw [e12]
      have qr : (0 : Int32) = (w0_r5 q0 q1 p2 p3) := by unfold w0_r5; rw [if_neg hc42_0]
      exact ⟨congrArg (fun z => some (Value.int z)) qr, N12⟩
set_option maxRecDepth 65536 in
set_option maxHeartbeats 40000000 in
theorem comes_1 {Post : Tables → Env → Array Value → State → Outcome → State → Prop} (hpost : ∀ tb e args s v u, (limb_1_1.after args s (.returned v) u = true ∧ limb_1_2.after args s (.returned v) u = true ∧ True) → FrameEnd s (.returned v) u (Jvm.fieldLocs frame_1_writes args s ++ Jvm.arrayLocs frame_1_arrays args s ++ Jvm.staticLocs frame_1_statics s) 0 0 → Post tb e args s (.returned v) u) :
    ArmFor flags0 classFile x code maxLocals ret World_1 tables_1 room_1 Calls_1 rest_1 Pre_1 Post := by
  intro l hfl _ _ p e ha hc hk s m args below hf hA hF happ hP
  obtain ⟨hcalls, hrest, hpre⟩ := hP
  obtain ⟨-, -, -, hnamed, -, -, -, hat⟩ := (Spec.applies_iff hf).mp happ
  obtain ⟨hg, hn⟩ := and_e (Cond.before_iff.mp (show (Jvm.Cond.and given_1 narrow_1).before args s = true from hpre))
  obtain ⟨hcount, hv0⟩ := and_e hg
  obtain ⟨hi0, hv1⟩ := and_e hv0
  obtain ⟨hi1, hv2⟩ := and_e hv1
  obtain ⟨hi2, hv3⟩ := and_e hv2
  have hi3 := hv3
  obtain ⟨w0, w1, w2, w3, rfl⟩ : ∃ w0 w1 w2 w3 : Value, args = #[w0, w1, w2, w3] := by
    have hs : args.size = 4 := by simpa [Cond.value, given_1] using hcount
    obtain ⟨L⟩ := args
    match L, hs with
    | [w0, w1, w2, w3], _ => exact ⟨w0, w1, w2, w3, rfl⟩
  have hw := fun d (hd : d ∈ tables_1) => atoms_spec (ws := Jvm.Cond.code x code maxLocals ret :: tables_1) hat d (List.mem_cons_of_mem _ hd)
  have hfit : Fit s := fun {y c} hc i hi => by
    obtain ⟨ha, rfl⟩ := Array.getElem?_eq_some_iff.mp hc
    have q := List.all_eq_true.mp ((Array.all_eq_true_iff_forall_mem.mp hF) _ (Array.getElem_mem ha)) i (List.mem_range.mpr hi)
    simpa [Array.getElem?_eq_getElem hi] using q
  obtain ⟨i0, ei0⟩ := isL_v hi0
  obtain rfl : w0 = (.long i0) := Option.some.inj ei0
  obtain ⟨i1, ei1⟩ := isL_v hi1
  obtain rfl : w1 = (.long i1) := Option.some.inj ei1
  obtain ⟨i2, ei2⟩ := is_v hi2
  obtain rfl : w2 = (.int i2) := Option.some.inj ei2
  obtain ⟨i3, ei3⟩ := is_v hi3
  obtain rfl : w3 = (.int i3) := Option.some.inj ei3
  obtain ⟨n, o, h1, h2, h3, _, L, rfl, ⟨rfl, N⟩, hq⟩ := rm0 l s _ hw tables_1 i0 i1 i2 i3  s.heap s.heap.size (Nat.le_refl _)  p e ha hc hk s m _ below hf ((Spec.applies_iff_loose hf).mp happ).1 ⟨rfl, State.Warmed39.refl s, rfl⟩ trivial
  refine ⟨n, _, h1, h2, h3, hpost _ _ _ _ _ _ ⟨Cond.after_iff.mpr rfl, Cond.after_iff.mpr (eq_i res_at (Term.int_eval (1)) (congrArg Value.int (plain_law i0 i1 i2 i3))), trivial⟩ ⟨hq.1, hq.2.1, (hq.2.2.sift fun y hy => Or.inr (N y hy)).mono (by decide) (by decide)⟩⟩
theorem main_1_1 : Claimed_1_1 := comes_1 fun _ _ _ _ _ _ h hF => ⟨h.1, hF⟩
theorem main_1_2 : Claimed_1_2 := comes_1 fun _ _ _ _ _ _ h hF => ⟨h.2.1, hF⟩
end Jvm.Pilot.@@N@@
namespace Jvm.Pilot.@@N@@
open Jvm Jvm.ClassFile Sem Op Lib Jvm.Free Jvm.Stand Jvm.Pilot.@@N@@.Jvm.D
/-! MADE BY PROGRAM (witnessworld.py) out of the Statement's table words and the real class files: 9 classes; the members and pool entries that the words name. The judged class is class 1, her method 4. -/
namespace start1
open Jvm.ClassFile
def u (s : String) : CpInfo := .utf8 (stringToUtf16 s)
/-- a pool by its gaps: so many unusable entries, then the entry; so many at the end -/
def gap : Nat → List CpInfo → List CpInfo
  | 0, r => r
  | n + 1, r => .unusable :: gap n r
def poolList (es : List (Nat × CpInfo)) (last : Nat) : List CpInfo := es.foldr (fun e r => gap e.1 (e.2 :: r)) (gap last [])
def pool (es : List (Nat × CpInfo)) (last : Nat) : Array CpInfo := ⟨poolList es last⟩
def fileOf (pool : Array CpInfo) (this : Nat) (attrs : Array Attribute := #[]) (ms : Array MethodInfo := #[]) (fl : Nat := 33) (sup : Nat := 0) (ifs : Array Nat := #[]) (fds : Array FieldInfo := #[]) : ClassFile where
  minorVersion := 0
  majorVersion := 65
  constantPool := pool
  accessFlags := fl
  thisClass := this
  superClass := sup
  interfaces := ifs
  fields := fds
  methods := ms
  attributes := attrs
def plain (name : String) (sup : Option ClassId) : Class where
  name := name
  kind := .ordinary
  loader := none
  accessFlags := 33
  super := sup
  interfaces := #[]
  cf := none
  fields := #[]
  methods := #[]
  instanceTypes := #[]
  staticTypes := #[]
  resolved := #[]
  callSites := []
  init := .initialized
  statics := none
  mirror := none

def pool0 : Array CpInfo := pool [(5, u "<init>"), (0, u "()V"), (1, .class_ 10), (1, u "java/lang/Object")] 113

def k0m0 : Method := { name := "<init>", desc := "()V", sig := { parameters := [], returnType := none }, accessFlags := 1, code := none }
/-- java/lang/Object -/
def k0 : Class := { plain "java/lang/Object" none with
  accessFlags := 33
  interfaces := #[]
  cf := some (fileOf pool0 8 #[] #[{ accessFlags := 1, nameIndex := 5, descriptorIndex := 6, attributes := #[] }] 33 0 #[] #[])
  fields := #[]
  methods := #[k0m0]
  instanceTypes := #[]
  staticTypes := #[]
  resolved := Array.replicate 124 none
  statics := none }

def pool1 : Array CpInfo := pool [(2, .class_ 4), (1, u "java/lang/Object"), (0, u "<init>"), (0, u "()V"), (2, .long 9223372036854775807), (1, .long 9223372036854775808), (1, .long 18446744073709551615), (1, .methodref 16 17), (0, .class_ 18), (0, .nameAndType 19 20), (0, u "com/example/elidora/elidora/SetMembersCountIntegersPinLaw"), (0, u "pickLow"), (0, u "(JII)J"), (0, .methodref 16 22), (0, .nameAndType 23 24), (0, u "pickHigh"), (0, u "(JJII)J"), (0, .methodref 26 27), (0, .class_ 28), (0, .nameAndType 29 30), (0, u "com/example/elidora/elidora/SetMembers"), (0, u "countIntegers"), (0, u "(JJ)J"), (0, .methodref 16 32), (0, .nameAndType 33 30), (0, u "expected"), (3, u "law"), (0, u "(JJII)Z")] 2

def k1m0 : Method := { name := "<init>", desc := "()V", sig := { parameters := [], returnType := none }, accessFlags := 2, code := none }
def k1c1 : Code := { maxStack := 4, maxLocals := 6, code := method_2_code, exceptionTable := #[], attributes := #[] }
def k1m1 : Method := { name := "pickHigh", desc := "(JJII)J", sig := { parameters := [.long, .long, .int, .int], returnType := some .long }, accessFlags := 10, code := some k1c1 }
def k1c2 : Code := { maxStack := 4, maxLocals := 4, code := method_3_code, exceptionTable := #[], attributes := #[] }
def k1m2 : Method := { name := "pickLow", desc := "(JII)J", sig := { parameters := [.long, .int, .int], returnType := some .long }, accessFlags := 10, code := some k1c2 }
def k1c3 : Code := { maxStack := 6, maxLocals := 4, code := method_4_code, exceptionTable := #[], attributes := #[] }
def k1m3 : Method := { name := "expected", desc := "(JJ)J", sig := { parameters := [.long, .long], returnType := some .long }, accessFlags := 10, code := some k1c3 }
def k1c4 : Code := { maxStack := 6, maxLocals := 11, code := code, exceptionTable := #[], attributes := #[] }
def k1m4 : Method := { name := "law", desc := "(JJII)Z", sig := { parameters := [.long, .long, .int, .int], returnType := some .boolean }, accessFlags := 9, code := some k1c4 }
/-- com/example/elidora/elidora/SetMembersCountIntegersPinLaw -/
def k1 : Class := { plain "com/example/elidora/elidora/SetMembersCountIntegersPinLaw" (some 0) with
  accessFlags := 49
  interfaces := #[]
  cf := some (fileOf pool1 16 #[] #[{ accessFlags := 2, nameIndex := 5, descriptorIndex := 6, attributes := #[] }, { accessFlags := 10, nameIndex := 23, descriptorIndex := 24, attributes := #[] }, { accessFlags := 10, nameIndex := 19, descriptorIndex := 20, attributes := #[] }, { accessFlags := 10, nameIndex := 33, descriptorIndex := 30, attributes := #[] }, { accessFlags := 9, nameIndex := 37, descriptorIndex := 38, attributes := #[] }] 49 2 #[] #[])
  fields := #[]
  methods := #[k1m0, k1m1, k1m2, k1m3, k1m4]
  instanceTypes := #[]
  staticTypes := #[]
  resolved := Array.replicate 41 none
  statics := none }

def pool2 : Array CpInfo := pool [(4, .class_ 6), (1, u "java/lang/Object"), (0, u "<init>"), (0, u "()V"), (0, .class_ 10), (0, u "com/example/elidora/elidora/SetMembers"), (0, .long 9223372036854775807), (6, u "(JJ)J"), (17, u "countIntegers"), (38, .class_ 76), (0, u "com/example/elidora/elidora/SetMembers$4"), (3, .class_ 81), (0, u "com/example/elidora/elidora/SetMembers$Functions"), (3, .class_ 86), (0, u "com/example/elidora/elidora/SetMembers$3"), (3, .class_ 91), (0, u "com/example/elidora/elidora/SetMembers$2"), (3, .class_ 96), (0, u "com/example/elidora/elidora/SetMembers$1"), (3, u "MANY"), (0, u "J"), (44, .class_ 147), (0, u "com/example/elidora/elidora/SetMembers$Generator")] 36

def k2m0 : Method := { name := "<init>", desc := "()V", sig := { parameters := [], returnType := none }, accessFlags := 2, code := none }
def k2c1 : Code := { maxStack := 4, maxLocals := 6, code := prog_53_method_2_code, exceptionTable := #[], attributes := #[] }
def k2m1 : Method := { name := "countIntegers", desc := "(JJ)J", sig := { parameters := [.long, .long], returnType := some .long }, accessFlags := 8, code := some k2c1 }
/-- com/example/elidora/elidora/SetMembers -/
def k2 : Class := { plain "com/example/elidora/elidora/SetMembers" (some 0) with
  accessFlags := 48
  interfaces := #[]
  cf := some (fileOf pool2 9 #[.nestMembers #[80, 146, 95, 90, 85, 75]] #[{ accessFlags := 2, nameIndex := 7, descriptorIndex := 8, attributes := #[] }, { accessFlags := 8, nameIndex := 36, descriptorIndex := 18, attributes := #[] }] 48 4 #[] #[{ accessFlags := 24, nameIndex := 100, descriptorIndex := 101, attributes := #[] }])
  fields := #[{ name := "MANY", type := .long, accessFlags := 24, slot := 0, constantValue := 0 }]
  methods := #[k2m0, k2m1]
  instanceTypes := #[]
  staticTypes := #[.long]
  resolved := Array.replicate 184 none
  statics := none }

def pool3 : Array CpInfo := pool [(1, u "java/lang/Cloneable"), (0, .class_ 1), (0, u "java/lang/Object"), (0, .class_ 3)] 3

/-- java/lang/Cloneable -/
def k3 : Class := { plain "java/lang/Cloneable" (some 0) with
  accessFlags := 1537
  interfaces := #[]
  cf := some (fileOf pool3 2 #[] #[] 1537 4 #[] #[])
  fields := #[]
  methods := #[]
  instanceTypes := #[]
  staticTypes := #[]
  resolved := Array.replicate 8 none
  statics := none }

def pool4 : Array CpInfo := pool [(1, u "java/io/Serializable"), (0, .class_ 1), (0, u "java/lang/Object"), (0, .class_ 3)] 3

/-- java/io/Serializable -/
def k4 : Class := { plain "java/io/Serializable" (some 0) with
  accessFlags := 1537
  interfaces := #[]
  cf := some (fileOf pool4 2 #[] #[] 1537 4 #[] #[])
  fields := #[]
  methods := #[]
  instanceTypes := #[]
  staticTypes := #[]
  resolved := Array.replicate 8 none
  statics := none }

/-- the primitive byte -/
def k5 : Class := { plain "byte" none with kind := .primitive 'B', accessFlags := 0x411 }
/-- [B -/
def k6 : Class := { plain "[B" (some 0) with kind := .array 5 .byte, interfaces := #[3, 4], accessFlags := 1041 }

/-- the primitive int -/
def k7 : Class := { plain "int" none with kind := .primitive 'I', accessFlags := 0x411 }
/-- [I -/
def k8 : Class := { plain "[I" (some 0) with kind := .array 7 .int, interfaces := #[3, 4], accessFlags := 1041 }

def heap : Heap := #[]
def classes : Array Class := #[k0, k1, k2, k3, k4, k5, k6, k7, k8]
def interned : List (Array UInt16 × Addr) := []
def slotsUsed : Nat := 0
def theMethod : MethodId := ⟨1, 4⟩
def args0 : Array Value := #[.long 5, .long 7, .int 3, .int 1]
def aboutOver (below : List Frame) : State where
  vm := { classes := classes, interned := interned.toArray }
  heap := heap
  slotsUsed := slotsUsed
  threads := #[{ frames := .invoking theMethod args0 :: below }]
def below0 : List Frame := [.native { method := ⟨0, 0⟩, args := #[] }]
def about1 : State := aboutOver below0
def p0 : Program := .bare "" "" ""
def e0 : Env := launch0.env 0 0 0
theorem w_frames : about1.frames = Frame.invoking theMethod args0 :: below0 := rfl
set_option maxRecDepth 65536 in
theorem w_args : argsFit about1.vm theMethod args0 = true := by decide +kernel
set_option maxRecDepth 65536 in
theorem w_heap : heapFits about1 = true := by decide +kernel
set_option maxRecDepth 65536 in
theorem w_runnable : about1.curStatus? = some .runnable := by decide +kernel
set_option maxRecDepth 65536 in
theorem w_alone : about1.alone = true := by decide +kernel
set_option maxRecDepth 65536 in
theorem w_named : about1.methodNamed? x = some theMethod := by decide +kernel
set_option maxRecDepth 65536 in
theorem w_hears : about1.hears theMethod below0 = true := by decide +kernel
set_option maxRecDepth 65536 in
theorem w_ripe : about1.ripe theMethod args0 below0 = true := by decide +kernel
theorem w_running : about1.status = .running := rfl
set_option maxRecDepth 65536 in
theorem w_room : about1.hasRoom e0.platform room_1 = true :=
  launch0.hasRoom_least _ room_1 (by decide +kernel) (by decide +kernel) (by decide +kernel) (by decide +kernel) (by decide +kernel) (by decide +kernel)
theorem allAtoms_all (ts : List Jvm.Cond) (a : Array Jvm.Value) (st : Jvm.State) : (allAtoms ts).before a st = ts.all (fun c => c.before a st) := by
  induction ts with
  | nil => rfl
  | cons c t ih =>
    show (Jvm.Cond.and c (allAtoms t)).before a st = _
    rw [Jvm.Cond.before_and, ih, List.all_cons]
def words1 : List Jvm.Cond := Jvm.Cond.code x code maxLocals ret :: tables_1
/-- a 'code' word, met by the world's own term for the bytes: nothing is compared byte by byte -/
theorem code_word {y : MethodName} {bytes : ByteArray} {mx : Nat} {rt : Option FieldType} {a : Array Value} {s : State} {m : MethodId} {meth : Method} {c : Code} (h1 : s.methodNamed? y = some m) (h2 : s.vm.method? m = some meth) (h3 : meth.code = some c) (h4 : c.code = bytes)
    (h5 : (c.maxLocals == mx && c.exceptionTable.isEmpty && decide (c.maxStack ≤ mostOperands) && decide (meth.sig.returnType = rt) && !meth.locks && decide (parseMethodDescriptor y.desc = some meth.sig)) = true) : (Jvm.Cond.code y bytes mx rt).before a s = true := by
  simp only [Bool.and_eq_true, beq_iff_eq, Bool.not_eq_true', decide_eq_true_eq] at h5
  obtain ⟨⟨⟨⟨⟨g1, g2⟩, g3⟩, g4⟩, g5⟩, g6⟩ := h5
  simp [Cond.before, Cond.holds, Cond.value, h1, h2, h3, h4, g1, g2, g3, g4, g5, g6]
def isCode : Jvm.Cond → Bool
  | .code _ _ _ _ => true
  | _ => false
theorem all_split {L : List Jvm.Cond} {P : Jvm.Cond → Bool} (h1 : L.all (fun c => isCode c || P c) = true) (h2 : ∀ c ∈ L.filter isCode, P c = true) : L.all P = true := by
  refine List.all_eq_true.mpr fun c hc => ?_
  have h := List.all_eq_true.mp h1 c hc
  rcases Bool.eq_false_or_eq_true (isCode c) with hi | hi
  · exact h2 c (List.mem_filter.mpr ⟨hc, hi⟩)
  · simpa [hi] using h
set_option maxRecDepth 65536 in
theorem w_c0 : (Jvm.Cond.code x code maxLocals ret).before args0 about1 = true := code_word (m := ⟨1, 4⟩) (meth := k1m4) (c := k1c4) (by decide +kernel) rfl rfl rfl (by decide +kernel)
set_option maxRecDepth 65536 in
theorem w_c1 : (Jvm.Cond.code ({ cls := "com/example/elidora/elidora/SetMembersCountIntegersPinLaw", name := "pickLow", desc := "(JII)J" } : Jvm.MethodName) method_3_code (4 : Nat) (Option.some Jvm.ClassFile.FieldType.long)).before args0 about1 = true := code_word (m := ⟨1, 2⟩) (meth := k1m2) (c := k1c2) (by decide +kernel) rfl rfl rfl (by decide +kernel)
set_option maxRecDepth 65536 in
theorem w_c2 : (Jvm.Cond.code ({ cls := "com/example/elidora/elidora/SetMembersCountIntegersPinLaw", name := "pickHigh", desc := "(JJII)J" } : Jvm.MethodName) method_2_code (6 : Nat) (Option.some Jvm.ClassFile.FieldType.long)).before args0 about1 = true := code_word (m := ⟨1, 1⟩) (meth := k1m1) (c := k1c1) (by decide +kernel) rfl rfl rfl (by decide +kernel)
set_option maxRecDepth 65536 in
theorem w_c3 : (Jvm.Cond.code ({ cls := "com/example/elidora/elidora/SetMembers", name := "countIntegers", desc := "(JJ)J" } : Jvm.MethodName) prog_53_method_2_code (6 : Nat) (Option.some Jvm.ClassFile.FieldType.long)).before args0 about1 = true := code_word (m := ⟨2, 1⟩) (meth := k2m1) (c := k2c1) (by decide +kernel) rfl rfl rfl (by decide +kernel)
set_option maxRecDepth 65536 in
theorem w_c4 : (Jvm.Cond.code ({ cls := "com/example/elidora/elidora/SetMembersCountIntegersPinLaw", name := "expected", desc := "(JJ)J" } : Jvm.MethodName) method_4_code (4 : Nat) (Option.some Jvm.ClassFile.FieldType.long)).before args0 about1 = true := code_word (m := ⟨1, 3⟩) (meth := k1m3) (c := k1c3) (by decide +kernel) rfl rfl rfl (by decide +kernel)
def codes1 : List Jvm.Cond := [Jvm.Cond.code x code maxLocals ret, Jvm.Cond.code ({ cls := "com/example/elidora/elidora/SetMembersCountIntegersPinLaw", name := "pickLow", desc := "(JII)J" } : Jvm.MethodName) method_3_code (4 : Nat) (Option.some Jvm.ClassFile.FieldType.long), Jvm.Cond.code ({ cls := "com/example/elidora/elidora/SetMembersCountIntegersPinLaw", name := "pickHigh", desc := "(JJII)J" } : Jvm.MethodName) method_2_code (6 : Nat) (Option.some Jvm.ClassFile.FieldType.long), Jvm.Cond.code ({ cls := "com/example/elidora/elidora/SetMembers", name := "countIntegers", desc := "(JJ)J" } : Jvm.MethodName) prog_53_method_2_code (6 : Nat) (Option.some Jvm.ClassFile.FieldType.long), Jvm.Cond.code ({ cls := "com/example/elidora/elidora/SetMembersCountIntegersPinLaw", name := "expected", desc := "(JJ)J" } : Jvm.MethodName) method_4_code (4 : Nat) (Option.some Jvm.ClassFile.FieldType.long)]
set_option maxRecDepth 65536 in
theorem codes_eq : words1.filter isCode = codes1 := rfl
theorem w_codes : ∀ c ∈ words1.filter isCode, c.before args0 about1 = true := by
  rw [codes_eq]
  intro c hc
  simp only [codes1, List.mem_cons, List.not_mem_nil, or_false] at hc
  rcases hc with rfl | rfl | rfl | rfl | rfl
  · exact w_c0
  · exact w_c1
  · exact w_c2
  · exact w_c3
  · exact w_c4
set_option maxRecDepth 65536 in
theorem w_t1 : words1.all (fun c => isCode c || c.before args0 about1) = true := by decide +kernel
theorem w_tables : (allAtoms (Jvm.Cond.code x code maxLocals ret :: tables_1)).before args0 about1 = true := by
  rw [allAtoms_all]
  show words1.all (fun c => c.before args0 about1) = true
  refine all_split ?_ w_codes
  rw [w_t1]
set_option maxRecDepth 65536 in
theorem w_case : (Jvm.Cond.and given_1 narrow_1).before args0 about1 = true := by decide +kernel
theorem w_applies : (headSpec (Jvm.Cond.code x code maxLocals ret :: tables_1) room_1).applies x e0.platform about1 = true :=
  (Spec.applies_iff w_frames).mpr ⟨w_running, w_runnable, w_alone, w_named, w_hears, w_ripe, w_room, w_tables⟩
theorem atStart : AtStart classFile x code maxLocals ret World_1 tables_1 room_1 Calls_1 rest_1 Pre_1 launch0 p0 e0 about1 theMethod args0 below0 :=
  ⟨lists_1, trivial, launch0.admits_env _ _ _, launch0.least_env, fairChoices_fair.cas, fairChoices_fair.clock, w_frames, w_args, w_heap, w_applies, trivial, trivial, w_case⟩
end start1
theorem witness_1 : WitnessClaimed_1 := ⟨start1.p0, start1.e0, start1.about1, start1.theMethod, start1.args0, start1.below0, start1.atStart⟩
end Jvm.Pilot.@@N@@
